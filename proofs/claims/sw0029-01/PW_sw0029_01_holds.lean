import PyProof.Rows.All
import Wide.All
import OpenK.AllK
import Wide.FinOn
import PySem.Challenge.RW_sw0029_01
set_option Elab.async false
set_option compiler.extract_closed false
set_option rowWalk.seconds 6000
namespace Mine
section
-- H
open PySem PySem.W PyProof.Rows
set_option maxRecDepth 100000 in
set_option maxHeartbeats 0 in
noncomputable def hd.heap_39 : Params → Frag := by
  refine' (?f : ∀ {x0 : Stmt}
    {n1 : Str} {a1 : Arguments} {b1 : List Stmt} {d1 : List Expr} {r1 : Option Expr} {t1 : List TypeParam} {s1 : Scope} {u1 : Option Scope} {v1 : Str} {p1 : Pos}
    {n2 : Str} {a2 : Arguments} {b2 : List Stmt} {d2 : List Expr} {r2 : Option Expr} {t2 : List TypeParam} {s2 : Scope} {u2 : Option Scope} {v2 : Str} {p2 : Pos}
    {n3 : Str} {a3 : Arguments} {b3 : List Stmt} {d3 : List Expr} {r3 : Option Expr} {t3 : List TypeParam} {s3 : Scope} {u3 : Option Scope} {v3 : Str} {p3 : Pos}
    {n4 : Str} {a4 : Arguments} {b4 : List Stmt} {d4 : List Expr} {r4 : Option Expr} {t4 : List TypeParam} {s4 : Scope} {u4 : Option Scope} {v4 : Str} {p4 : Pos}
    {n5 : Str} {a5 : Arguments} {b5 : List Stmt} {d5 : List Expr} {r5 : Option Expr} {t5 : List TypeParam} {s5 : Scope} {u5 : Option Scope} {v5 : Str} {p5 : Pos}
    {n6 : Str} {a6 : Arguments} {b6 : List Stmt} {d6 : List Expr} {r6 : Option Expr} {t6 : List TypeParam} {s6 : Scope} {u6 : Option Scope} {v6 : Str} {p6 : Pos}
    {n7 : Str} {a7 : Arguments} {b7 : List Stmt} {d7 : List Expr} {r7 : Option Expr} {t7 : List TypeParam} {s7 : Scope} {u7 : Option Scope} {v7 : Str} {p7 : Pos}
    {n8 : Str} {a8 : Arguments} {b8 : List Stmt} {d8 : List Expr} {r8 : Option Expr} {t8 : List TypeParam} {s8 : Scope} {u8 : Option Scope} {v8 : Str} {p8 : Pos}
    {n9 : Str} {a9 : Arguments} {b9 : List Stmt} {d9 : List Expr} {r9 : Option Expr} {t9 : List TypeParam} {s9 : Scope} {u9 : Option Scope} {v9 : Str} {p9 : Pos}
    {n10 : Str} {a10 : Arguments} {b10 : List Stmt} {d10 : List Expr} {r10 : Option Expr} {t10 : List TypeParam} {s10 : Scope} {u10 : Option Scope} {v10 : Str} {p10 : Pos}
    {n11 : Str} {a11 : Arguments} {b11 : List Stmt} {d11 : List Expr} {r11 : Option Expr} {t11 : List TypeParam} {s11 : Scope} {u11 : Option Scope} {v11 : Str} {p11 : Pos}
    {x12 : Stmt}
    {n13 : Str} {a13 : Arguments} {b13 : List Stmt} {d13 : List Expr} {r13 : Option Expr} {t13 : List TypeParam} {s13 : Scope} {u13 : Option Scope} {v13 : Str} {p13 : Pos}
    {n14 : Str} {a14 : Arguments} {b14 : List Stmt} {d14 : List Expr} {r14 : Option Expr} {t14 : List TypeParam} {s14 : Scope} {u14 : Option Scope} {v14 : Str} {p14 : Pos}
    {n15 : Str} {a15 : Arguments} {b15 : List Stmt} {d15 : List Expr} {r15 : Option Expr} {t15 : List TypeParam} {s15 : Scope} {u15 : Option Scope} {v15 : Str} {p15 : Pos}
    {x16 : Stmt}
    {n17 : Str} {a17 : Arguments} {b17 : List Stmt} {d17 : List Expr} {r17 : Option Expr} {t17 : List TypeParam} {s17 : Scope} {u17 : Option Scope} {v17 : Str} {p17 : Pos}
    {n18 : Str} {a18 : Arguments} {b18 : List Stmt} {d18 : List Expr} {r18 : Option Expr} {t18 : List TypeParam} {s18 : Scope} {u18 : Option Scope} {v18 : Str} {p18 : Pos}
    {n19 : Str} {a19 : Arguments} {b19 : List Stmt} {d19 : List Expr} {r19 : Option Expr} {t19 : List TypeParam} {s19 : Scope} {u19 : Option Scope} {v19 : Str} {p19 : Pos}
    {n20 : Str} {a20 : Arguments} {b20 : List Stmt} {d20 : List Expr} {r20 : Option Expr} {t20 : List TypeParam} {s20 : Scope} {u20 : Option Scope} {v20 : Str} {p20 : Pos}
    {n21 : Str} {ba21 : List Expr} {ke21 : List Keyword} {d21 : List Expr} {t21 : List TypeParam} {s21 : Scope} {u21 : Option Scope} {v21 : Str} {st21 : List Str} {p21 : Pos}
    {x22 : Stmt}
    {n23 : Str} {a23 : Arguments} {b23 : List Stmt} {d23 : List Expr} {r23 : Option Expr} {t23 : List TypeParam} {s23 : Scope} {u23 : Option Scope} {v23 : Str} {p23 : Pos}
    {n24 : Str} {a24 : Arguments} {b24 : List Stmt} {d24 : List Expr} {r24 : Option Expr} {t24 : List TypeParam} {s24 : Scope} {u24 : Option Scope} {v24 : Str} {p24 : Pos}
    {n25 : Str} {a25 : Arguments} {b25 : List Stmt} {d25 : List Expr} {r25 : Option Expr} {t25 : List TypeParam} {s25 : Scope} {u25 : Option Scope} {v25 : Str} {p25 : Pos}
    {n26 : Str} {a26 : Arguments} {b26 : List Stmt} {d26 : List Expr} {r26 : Option Expr} {t26 : List TypeParam} {s26 : Scope} {u26 : Option Scope} {v26 : Str} {p26 : Pos}
    {n27 : Str} {a27 : Arguments} {b27 : List Stmt} {d27 : List Expr} {r27 : Option Expr} {t27 : List TypeParam} {s27 : Scope} {u27 : Option Scope} {v27 : Str} {p27 : Pos}
    {n28 : Str} {a28 : Arguments} {b28 : List Stmt} {d28 : List Expr} {r28 : Option Expr} {t28 : List TypeParam} {s28 : Scope} {u28 : Option Scope} {v28 : Str} {p28 : Pos}
    {n29 : Str} {a29 : Arguments} {b29 : List Stmt} {d29 : List Expr} {r29 : Option Expr} {t29 : List TypeParam} {s29 : Scope} {u29 : Option Scope} {v29 : Str} {p29 : Pos}
    {n30 : Str} {a30 : Arguments} {b30 : List Stmt} {d30 : List Expr} {r30 : Option Expr} {t30 : List TypeParam} {s30 : Scope} {u30 : Option Scope} {v30 : Str} {p30 : Pos}
    {n31 : Str} {a31 : Arguments} {b31 : List Stmt} {d31 : List Expr} {r31 : Option Expr} {t31 : List TypeParam} {s31 : Scope} {u31 : Option Scope} {v31 : Str} {p31 : Pos}
    {n32 : Str} {a32 : Arguments} {b32 : List Stmt} {d32 : List Expr} {r32 : Option Expr} {t32 : List TypeParam} {s32 : Scope} {u32 : Option Scope} {v32 : Str} {p32 : Pos},
    PySem.Challenge.pw_sw0029_01.main.body = [x0,
      .FunctionDef n1 a1 b1 d1 r1 t1 s1 u1 v1 p1,
      .FunctionDef n2 a2 b2 d2 r2 t2 s2 u2 v2 p2,
      .FunctionDef n3 a3 b3 d3 r3 t3 s3 u3 v3 p3,
      .FunctionDef n4 a4 b4 d4 r4 t4 s4 u4 v4 p4,
      .FunctionDef n5 a5 b5 d5 r5 t5 s5 u5 v5 p5,
      .FunctionDef n6 a6 b6 d6 r6 t6 s6 u6 v6 p6,
      .FunctionDef n7 a7 b7 d7 r7 t7 s7 u7 v7 p7,
      .FunctionDef n8 a8 b8 d8 r8 t8 s8 u8 v8 p8,
      .FunctionDef n9 a9 b9 d9 r9 t9 s9 u9 v9 p9,
      .FunctionDef n10 a10 b10 d10 r10 t10 s10 u10 v10 p10,
      .FunctionDef n11 a11 b11 d11 r11 t11 s11 u11 v11 p11,
      x12,
      .FunctionDef n13 a13 b13 d13 r13 t13 s13 u13 v13 p13,
      .FunctionDef n14 a14 b14 d14 r14 t14 s14 u14 v14 p14,
      .FunctionDef n15 a15 b15 d15 r15 t15 s15 u15 v15 p15,
      x16,
      .ClassDef n21 ba21 ke21 [.FunctionDef n17 a17 b17 d17 r17 t17 s17 u17 v17 p17, .FunctionDef n18 a18 b18 d18 r18 t18 s18 u18 v18 p18, .FunctionDef n19 a19 b19 d19 r19 t19 s19 u19 v19 p19, .FunctionDef n20 a20 b20 d20 r20 t20 s20 u20 v20 p20] d21 t21 s21 u21 v21 st21 p21,
      x22,
      .FunctionDef n23 a23 b23 d23 r23 t23 s23 u23 v23 p23,
      .FunctionDef n24 a24 b24 d24 r24 t24 s24 u24 v24 p24,
      .FunctionDef n25 a25 b25 d25 r25 t25 s25 u25 v25 p25,
      .FunctionDef n26 a26 b26 d26 r26 t26 s26 u26 v26 p26,
      .FunctionDef n27 a27 b27 d27 r27 t27 s27 u27 v27 p27,
      .FunctionDef n28 a28 b28 d28 r28 t28 s28 u28 v28 p28,
      .FunctionDef n29 a29 b29 d29 r29 t29 s29 u29 v29 p29,
      .FunctionDef n30 a30 b30 d30 r30 t30 s30 u30 v30 p30,
      .FunctionDef n31 a31 b31 d31 r31 t31 s31 u31 v31 p31,
      .FunctionDef n32 a32 b32 d32 r32 t32 s32 u32 v32 p32] → Params → Frag) rfl
  intro x0 n1 a1 b1 d1 r1 t1 s1 u1 v1 p1 n2 a2 b2 d2 r2 t2 s2 u2 v2 p2 n3 a3 b3 d3 r3 t3 s3 u3 v3 p3 n4 a4 b4 d4 r4 t4 s4 u4 v4 p4 n5 a5 b5 d5 r5 t5 s5 u5 v5 p5 n6 a6 b6 d6 r6 t6 s6 u6 v6 p6 n7 a7 b7 d7 r7 t7 s7 u7 v7 p7 n8 a8 b8 d8 r8 t8 s8 u8 v8 p8 n9 a9 b9 d9 r9 t9 s9 u9 v9 p9 n10 a10 b10 d10 r10 t10 s10 u10 v10 p10 n11 a11 b11 d11 r11 t11 s11 u11 v11 p11 x12 n13 a13 b13 d13 r13 t13 s13 u13 v13 p13 n14 a14 b14 d14 r14 t14 s14 u14 v14 p14 n15 a15 b15 d15 r15 t15 s15 u15 v15 p15 x16 n17 a17 b17 d17 r17 t17 s17 u17 v17 p17 n18 a18 b18 d18 r18 t18 s18 u18 v18 p18 n19 a19 b19 d19 r19 t19 s19 u19 v19 p19 n20 a20 b20 d20 r20 t20 s20 u20 v20 p20 n21 ba21 ke21 d21 t21 s21 u21 v21 st21 p21 x22 n23 a23 b23 d23 r23 t23 s23 u23 v23 p23 n24 a24 b24 d24 r24 t24 s24 u24 v24 p24 n25 a25 b25 d25 r25 t25 s25 u25 v25 p25 n26 a26 b26 d26 r26 t26 s26 u26 v26 p26 n27 a27 b27 d27 r27 t27 s27 u27 v27 p27 n28 a28 b28 d28 r28 t28 s28 u28 v28 p28 n29 a29 b29 d29 r29 t29 s29 u29 v29 p29 n30 a30 b30 d30 r30 t30 s30 u30 v30 p30 n31 a31 b31 d31 r31 t31 s31 u31 v31 p31 n32 a32 b32 d32 r32 t32 s32 u32 v32 p32 _
  exact fun P => (((nat_lit 2), ⟨.none, (@Option.none Nat), (.dict #[] (0:Nat)), #[]⟩) ::
    ((nat_lit 3), ⟨(.type "dict"), (@Option.none Nat), (.dict (List.toArray (⟨(PyData.keyHash P (.ofString "__name__")), (.str (.ofString "__name__") (165:Nat)), (.str (.ofString "law_sw0029_01") (393:Nat))⟩ :: ⟨(PyData.keyHash P (.ofString "__doc__")), (.str (.ofString "__doc__") (166:Nat)), .none⟩ :: ⟨(PyData.keyHash P (.ofString "__package__")), (.str (.ofString "__package__") (167:Nat)), .none⟩ :: ⟨(PyData.keyHash P (.ofString "__loader__")), (.str (.ofString "__loader__") (168:Nat)), (.builtin "__main__.__loader__#opaque")⟩ :: ⟨(PyData.keyHash P (.ofString "__spec__")), (.str (.ofString "__spec__") (169:Nat)), .none⟩ :: ⟨(PyData.keyHash P (.ofString "__annotations__")), (.str (.ofString "__annotations__") (170:Nat)), (.ref (6:Nat))⟩ :: ⟨(PyData.keyHash P (.ofString "__builtins__")), (.str (.ofString "__builtins__") (171:Nat)), (.ref (4:Nat))⟩ :: ⟨(PyData.keyHash P (.ofString "__file__")), (.str (.ofString "__file__") (173:Nat)), (.str (.ofString "/claim/cut.py") (172:Nat))⟩ :: ⟨(PyData.keyHash P (.ofString "__cached__")), (.str (.ofString "__cached__") (174:Nat)), .none⟩ :: ⟨(PyData.keyHash P (.ofString "gt")), (.str (.ofString "gt") (196:Nat)), (.ref (21:Nat))⟩ :: ⟨(PyData.keyHash P (.ofString "add")), (.str (.ofString "add") (204:Nat)), (.ref (28:Nat))⟩ :: ⟨(PyData.keyHash P (.ofString "floordiv")), (.str (.ofString "floordiv") (212:Nat)), (.ref (35:Nat))⟩ :: ⟨(PyData.keyHash P (.ofString "lshift")), (.str (.ofString "lshift") (220:Nat)), (.ref (42:Nat))⟩ :: ⟨(PyData.keyHash P (.ofString "mod")), (.str (.ofString "mod") (228:Nat)), (.ref (49:Nat))⟩ :: ⟨(PyData.keyHash P (.ofString "mul")), (.str (.ofString "mul") (236:Nat)), (.ref (56:Nat))⟩ :: ⟨(PyData.keyHash P (.ofString "or_")), (.str (.ofString "or_") (244:Nat)), (.ref (63:Nat))⟩ :: ⟨(PyData.keyHash P (.ofString "sub")), (.str (.ofString "sub") (252:Nat)), (.ref (70:Nat))⟩ :: ⟨(PyData.keyHash P (.ofString "getitem")), (.str (.ofString "getitem") (260:Nat)), (.ref (77:Nat))⟩ :: ⟨(PyData.keyHash P (.ofString "indexOf")), (.str (.ofString "indexOf") (270:Nat)), (.ref (84:Nat))⟩ :: ⟨(PyData.keyHash P (.ofString "setitem")), (.str (.ofString "setitem") (279:Nat)), (.ref (91:Nat))⟩ :: ⟨(PyData.keyHash P (.ofString "rgb_to_hls")), (.str (.ofString "rgb_to_hls") (300:Nat)), (.ref (98:Nat))⟩ :: ⟨(PyData.keyHash P (.ofString "rgb_to_hsv")), (.str (.ofString "rgb_to_hsv") (318:Nat)), (.ref (105:Nat))⟩ :: ⟨(PyData.keyHash P (.ofString "hsv_to_rgb")), (.str (.ofString "hsv_to_rgb") (332:Nat)), (.ref (112:Nat))⟩ :: ⟨(PyData.keyHash P (.ofString "_netrclex")), (.str (.ofString "_netrclex") (392:Nat)), (.ref (150:Nat))⟩ :: ⟨(PyData.keyHash P (.ofString "_law_lamp")), (.str (.ofString "_law_lamp") (402:Nat)), (.ref (161:Nat))⟩ :: ⟨(PyData.keyHash P (.ofString "_law_word")), (.str (.ofString "_law_word") (410:Nat)), (.ref (168:Nat))⟩ :: ⟨(PyData.keyHash P (.ofString "_law_spelled")), (.str (.ofString "_law_spelled") (416:Nat)), (.ref (173:Nat))⟩ :: ⟨(PyData.keyHash P (.ofString "_law_lexer")), (.str (.ofString "_law_lexer") (422:Nat)), (.ref (178:Nat))⟩ :: ⟨(PyData.keyHash P (.ofString "_law_kind")), (.str (.ofString "_law_kind") (428:Nat)), (.ref (183:Nat))⟩ :: ⟨(PyData.keyHash P (.ofString "_law_table")), (.str (.ofString "_law_table") (440:Nat)), (.ref (190:Nat))⟩ :: ⟨(PyData.keyHash P (.ofString "_law_turned")), (.str (.ofString "_law_turned") (446:Nat)), (.ref (195:Nat))⟩ :: ⟨(PyData.keyHash P (.ofString "_law_near")), (.str (.ofString "_law_near") (452:Nat)), (.ref (200:Nat))⟩ :: ⟨(PyData.keyHash P (.ofString "_law_crossed")), (.str (.ofString "_law_crossed") (458:Nat)), (.ref (205:Nat))⟩ :: ⟨(PyData.keyHash P (.ofString "law")), (.str (.ofString "law") (464:Nat)), (.ref (210:Nat))⟩ :: [])) (34:Nat)), #[]⟩) ::
    ((nat_lit 15), ⟨(.type "tuple"), (@Option.none Nat), (.seq #[] (0:Nat)), #[]⟩) ::
    ((nat_lit 17), ⟨(.type "tuple"), (@Option.none Nat), (.seq #[.str (.ofString "a") (192:Nat), .str (.ofString "b") (193:Nat)] (0:Nat)), #[]⟩) ::
    ((nat_lit 18), ⟨(.type "tuple"), (@Option.none Nat), (.seq #[] (0:Nat)), #[]⟩) ::
    ((nat_lit 20), ⟨(.type "code"), (@Option.none Nat), (.fields (List.toArray (.str (.ofString "gt") (189:Nat) :: .str (.ofString "gt") (190:Nat) :: .str (.ofString "/claim/cut.py") (191:Nat) :: .int (2:Int) (0:Nat) :: .int (2:Int) (0:Nat) :: .int (0:Int) (0:Nat) :: .int (0:Int) (0:Nat) :: .int (3:Int) (0:Nat) :: .ref (15:Nat) :: .bool .true :: .int (181:Int) (0:Nat) :: .ref (16:Nat) :: .none :: .ref (17:Nat) :: .ref (18:Nat) :: .ref (19:Nat) :: .int (194:Int) (0:Nat) :: .int (2:Int) (0:Nat) :: .str (.ofString "/claim/cut.py") (195:Nat) :: []))), #[]⟩) ::
    ((nat_lit 21), ⟨(.type "function"), (@Option.none Nat), (.func ⟨(.ofString "gt"), (.ofString "gt"), a1, (.stmts b1), s9, (3:Nat), ([] : List (PySem.Str × Nat)), .none, .none, .none, (.str (.ofString "cpy313.operator") (187:Nat)), (@Option.none Nat), (.ref (20:Nat)), .none, (0:Nat)⟩), #[]⟩) ::
    ((nat_lit 22), ⟨(.type "tuple"), (@Option.none Nat), (.seq #[] (0:Nat)), #[]⟩) ::
    ((nat_lit 24), ⟨(.type "tuple"), (@Option.none Nat), (.seq #[.str (.ofString "a") (200:Nat), .str (.ofString "b") (201:Nat)] (0:Nat)), #[]⟩) ::
    ((nat_lit 25), ⟨(.type "tuple"), (@Option.none Nat), (.seq #[] (0:Nat)), #[]⟩) ::
    ((nat_lit 27), ⟨(.type "code"), (@Option.none Nat), (.fields (List.toArray (.str (.ofString "add") (197:Nat) :: .str (.ofString "add") (198:Nat) :: .str (.ofString "/claim/cut.py") (199:Nat) :: .int (4:Int) (0:Nat) :: .int (2:Int) (0:Nat) :: .int (0:Int) (0:Nat) :: .int (0:Int) (0:Nat) :: .int (3:Int) (0:Nat) :: .ref (22:Nat) :: .bool .true :: .int (181:Int) (0:Nat) :: .ref (23:Nat) :: .none :: .ref (24:Nat) :: .ref (25:Nat) :: .ref (26:Nat) :: .int (202:Int) (0:Nat) :: .int (4:Int) (0:Nat) :: .str (.ofString "/claim/cut.py") (203:Nat) :: []))), #[]⟩) ::
    ((nat_lit 28), ⟨(.type "function"), (@Option.none Nat), (.func ⟨(.ofString "add"), (.ofString "add"), a2, (.stmts b2), s9, (3:Nat), ([] : List (PySem.Str × Nat)), .none, .none, .none, (.str (.ofString "cpy313.operator") (187:Nat)), (@Option.none Nat), (.ref (27:Nat)), .none, (0:Nat)⟩), #[]⟩) ::
    ((nat_lit 29), ⟨(.type "tuple"), (@Option.none Nat), (.seq #[] (0:Nat)), #[]⟩) ::
    ((nat_lit 31), ⟨(.type "tuple"), (@Option.none Nat), (.seq #[.str (.ofString "a") (208:Nat), .str (.ofString "b") (209:Nat)] (0:Nat)), #[]⟩) ::
    ((nat_lit 32), ⟨(.type "tuple"), (@Option.none Nat), (.seq #[] (0:Nat)), #[]⟩) ::
    ((nat_lit 34), ⟨(.type "code"), (@Option.none Nat), (.fields (List.toArray (.str (.ofString "floordiv") (205:Nat) :: .str (.ofString "floordiv") (206:Nat) :: .str (.ofString "/claim/cut.py") (207:Nat) :: .int (6:Int) (0:Nat) :: .int (2:Int) (0:Nat) :: .int (0:Int) (0:Nat) :: .int (0:Int) (0:Nat) :: .int (3:Int) (0:Nat) :: .ref (29:Nat) :: .bool .true :: .int (181:Int) (0:Nat) :: .ref (30:Nat) :: .none :: .ref (31:Nat) :: .ref (32:Nat) :: .ref (33:Nat) :: .int (210:Int) (0:Nat) :: .int (6:Int) (0:Nat) :: .str (.ofString "/claim/cut.py") (211:Nat) :: []))), #[]⟩) ::
    ((nat_lit 35), ⟨(.type "function"), (@Option.none Nat), (.func ⟨(.ofString "floordiv"), (.ofString "floordiv"), a3, (.stmts b3), s9, (3:Nat), ([] : List (PySem.Str × Nat)), .none, .none, .none, (.str (.ofString "cpy313.operator") (187:Nat)), (@Option.none Nat), (.ref (34:Nat)), .none, (0:Nat)⟩), #[]⟩) ::
    ((nat_lit 36), ⟨(.type "tuple"), (@Option.none Nat), (.seq #[] (0:Nat)), #[]⟩) ::
    ((nat_lit 38), ⟨(.type "tuple"), (@Option.none Nat), (.seq #[.str (.ofString "a") (216:Nat), .str (.ofString "b") (217:Nat)] (0:Nat)), #[]⟩) ::
    ((nat_lit 39), ⟨(.type "tuple"), (@Option.none Nat), (.seq #[] (0:Nat)), #[]⟩) ::
    ((nat_lit 41), ⟨(.type "code"), (@Option.none Nat), (.fields (List.toArray (.str (.ofString "lshift") (213:Nat) :: .str (.ofString "lshift") (214:Nat) :: .str (.ofString "/claim/cut.py") (215:Nat) :: .int (8:Int) (0:Nat) :: .int (2:Int) (0:Nat) :: .int (0:Int) (0:Nat) :: .int (0:Int) (0:Nat) :: .int (3:Int) (0:Nat) :: .ref (36:Nat) :: .bool .true :: .int (181:Int) (0:Nat) :: .ref (37:Nat) :: .none :: .ref (38:Nat) :: .ref (39:Nat) :: .ref (40:Nat) :: .int (218:Int) (0:Nat) :: .int (8:Int) (0:Nat) :: .str (.ofString "/claim/cut.py") (219:Nat) :: []))), #[]⟩) ::
    ((nat_lit 42), ⟨(.type "function"), (@Option.none Nat), (.func ⟨(.ofString "lshift"), (.ofString "lshift"), a4, (.stmts b4), s9, (3:Nat), ([] : List (PySem.Str × Nat)), .none, .none, .none, (.str (.ofString "cpy313.operator") (187:Nat)), (@Option.none Nat), (.ref (41:Nat)), .none, (0:Nat)⟩), #[]⟩) ::
    ((nat_lit 43), ⟨(.type "tuple"), (@Option.none Nat), (.seq #[] (0:Nat)), #[]⟩) ::
    ((nat_lit 45), ⟨(.type "tuple"), (@Option.none Nat), (.seq #[.str (.ofString "a") (224:Nat), .str (.ofString "b") (225:Nat)] (0:Nat)), #[]⟩) ::
    ((nat_lit 46), ⟨(.type "tuple"), (@Option.none Nat), (.seq #[] (0:Nat)), #[]⟩) ::
    ((nat_lit 48), ⟨(.type "code"), (@Option.none Nat), (.fields (List.toArray (.str (.ofString "mod") (221:Nat) :: .str (.ofString "mod") (222:Nat) :: .str (.ofString "/claim/cut.py") (223:Nat) :: .int (10:Int) (0:Nat) :: .int (2:Int) (0:Nat) :: .int (0:Int) (0:Nat) :: .int (0:Int) (0:Nat) :: .int (3:Int) (0:Nat) :: .ref (43:Nat) :: .bool .true :: .int (181:Int) (0:Nat) :: .ref (44:Nat) :: .none :: .ref (45:Nat) :: .ref (46:Nat) :: .ref (47:Nat) :: .int (226:Int) (0:Nat) :: .int (10:Int) (0:Nat) :: .str (.ofString "/claim/cut.py") (227:Nat) :: []))), #[]⟩) ::
    ((nat_lit 49), ⟨(.type "function"), (@Option.none Nat), (.func ⟨(.ofString "mod"), (.ofString "mod"), a5, (.stmts b5), s9, (3:Nat), ([] : List (PySem.Str × Nat)), .none, .none, .none, (.str (.ofString "cpy313.operator") (187:Nat)), (@Option.none Nat), (.ref (48:Nat)), .none, (0:Nat)⟩), #[]⟩) ::
    ((nat_lit 50), ⟨(.type "tuple"), (@Option.none Nat), (.seq #[] (0:Nat)), #[]⟩) ::
    ((nat_lit 52), ⟨(.type "tuple"), (@Option.none Nat), (.seq #[.str (.ofString "a") (232:Nat), .str (.ofString "b") (233:Nat)] (0:Nat)), #[]⟩) ::
    ((nat_lit 53), ⟨(.type "tuple"), (@Option.none Nat), (.seq #[] (0:Nat)), #[]⟩) ::
    ((nat_lit 55), ⟨(.type "code"), (@Option.none Nat), (.fields (List.toArray (.str (.ofString "mul") (229:Nat) :: .str (.ofString "mul") (230:Nat) :: .str (.ofString "/claim/cut.py") (231:Nat) :: .int (12:Int) (0:Nat) :: .int (2:Int) (0:Nat) :: .int (0:Int) (0:Nat) :: .int (0:Int) (0:Nat) :: .int (3:Int) (0:Nat) :: .ref (50:Nat) :: .bool .true :: .int (181:Int) (0:Nat) :: .ref (51:Nat) :: .none :: .ref (52:Nat) :: .ref (53:Nat) :: .ref (54:Nat) :: .int (234:Int) (0:Nat) :: .int (12:Int) (0:Nat) :: .str (.ofString "/claim/cut.py") (235:Nat) :: []))), #[]⟩) ::
    ((nat_lit 56), ⟨(.type "function"), (@Option.none Nat), (.func ⟨(.ofString "mul"), (.ofString "mul"), a6, (.stmts b6), s9, (3:Nat), ([] : List (PySem.Str × Nat)), .none, .none, .none, (.str (.ofString "cpy313.operator") (187:Nat)), (@Option.none Nat), (.ref (55:Nat)), .none, (0:Nat)⟩), #[]⟩) ::
    ((nat_lit 57), ⟨(.type "tuple"), (@Option.none Nat), (.seq #[] (0:Nat)), #[]⟩) ::
    ((nat_lit 59), ⟨(.type "tuple"), (@Option.none Nat), (.seq #[.str (.ofString "a") (240:Nat), .str (.ofString "b") (241:Nat)] (0:Nat)), #[]⟩) ::
    ((nat_lit 60), ⟨(.type "tuple"), (@Option.none Nat), (.seq #[] (0:Nat)), #[]⟩) ::
    ((nat_lit 62), ⟨(.type "code"), (@Option.none Nat), (.fields (List.toArray (.str (.ofString "or_") (237:Nat) :: .str (.ofString "or_") (238:Nat) :: .str (.ofString "/claim/cut.py") (239:Nat) :: .int (14:Int) (0:Nat) :: .int (2:Int) (0:Nat) :: .int (0:Int) (0:Nat) :: .int (0:Int) (0:Nat) :: .int (3:Int) (0:Nat) :: .ref (57:Nat) :: .bool .true :: .int (181:Int) (0:Nat) :: .ref (58:Nat) :: .none :: .ref (59:Nat) :: .ref (60:Nat) :: .ref (61:Nat) :: .int (242:Int) (0:Nat) :: .int (14:Int) (0:Nat) :: .str (.ofString "/claim/cut.py") (243:Nat) :: []))), #[]⟩) ::
    ((nat_lit 63), ⟨(.type "function"), (@Option.none Nat), (.func ⟨(.ofString "or_"), (.ofString "or_"), a7, (.stmts b7), s9, (3:Nat), ([] : List (PySem.Str × Nat)), .none, .none, .none, (.str (.ofString "cpy313.operator") (187:Nat)), (@Option.none Nat), (.ref (62:Nat)), .none, (0:Nat)⟩), #[]⟩) ::
    ((nat_lit 64), ⟨(.type "tuple"), (@Option.none Nat), (.seq #[] (0:Nat)), #[]⟩) ::
    ((nat_lit 66), ⟨(.type "tuple"), (@Option.none Nat), (.seq #[.str (.ofString "a") (248:Nat), .str (.ofString "b") (249:Nat)] (0:Nat)), #[]⟩) ::
    ((nat_lit 67), ⟨(.type "tuple"), (@Option.none Nat), (.seq #[] (0:Nat)), #[]⟩) ::
    ((nat_lit 69), ⟨(.type "code"), (@Option.none Nat), (.fields (List.toArray (.str (.ofString "sub") (245:Nat) :: .str (.ofString "sub") (246:Nat) :: .str (.ofString "/claim/cut.py") (247:Nat) :: .int (16:Int) (0:Nat) :: .int (2:Int) (0:Nat) :: .int (0:Int) (0:Nat) :: .int (0:Int) (0:Nat) :: .int (3:Int) (0:Nat) :: .ref (64:Nat) :: .bool .true :: .int (181:Int) (0:Nat) :: .ref (65:Nat) :: .none :: .ref (66:Nat) :: .ref (67:Nat) :: .ref (68:Nat) :: .int (250:Int) (0:Nat) :: .int (16:Int) (0:Nat) :: .str (.ofString "/claim/cut.py") (251:Nat) :: []))), #[]⟩) ::
    ((nat_lit 70), ⟨(.type "function"), (@Option.none Nat), (.func ⟨(.ofString "sub"), (.ofString "sub"), a8, (.stmts b8), s9, (3:Nat), ([] : List (PySem.Str × Nat)), .none, .none, .none, (.str (.ofString "cpy313.operator") (187:Nat)), (@Option.none Nat), (.ref (69:Nat)), .none, (0:Nat)⟩), #[]⟩) ::
    ((nat_lit 71), ⟨(.type "tuple"), (@Option.none Nat), (.seq #[] (0:Nat)), #[]⟩) ::
    ((nat_lit 73), ⟨(.type "tuple"), (@Option.none Nat), (.seq #[.str (.ofString "a") (256:Nat), .str (.ofString "b") (257:Nat)] (0:Nat)), #[]⟩) ::
    ((nat_lit 74), ⟨(.type "tuple"), (@Option.none Nat), (.seq #[] (0:Nat)), #[]⟩) ::
    ((nat_lit 76), ⟨(.type "code"), (@Option.none Nat), (.fields (List.toArray (.str (.ofString "getitem") (253:Nat) :: .str (.ofString "getitem") (254:Nat) :: .str (.ofString "/claim/cut.py") (255:Nat) :: .int (18:Int) (0:Nat) :: .int (2:Int) (0:Nat) :: .int (0:Int) (0:Nat) :: .int (0:Int) (0:Nat) :: .int (3:Int) (0:Nat) :: .ref (71:Nat) :: .bool .true :: .int (181:Int) (0:Nat) :: .ref (72:Nat) :: .none :: .ref (73:Nat) :: .ref (74:Nat) :: .ref (75:Nat) :: .int (258:Int) (0:Nat) :: .int (18:Int) (0:Nat) :: .str (.ofString "/claim/cut.py") (259:Nat) :: []))), #[]⟩) ::
    ((nat_lit 77), ⟨(.type "function"), (@Option.none Nat), (.func ⟨(.ofString "getitem"), (.ofString "getitem"), a9, (.stmts b9), s9, (3:Nat), ([] : List (PySem.Str × Nat)), .none, .none, .none, (.str (.ofString "cpy313.operator") (187:Nat)), (@Option.none Nat), (.ref (76:Nat)), .none, (0:Nat)⟩), #[]⟩) ::
    ((nat_lit 78), ⟨(.type "tuple"), (@Option.none Nat), (.seq #[] (0:Nat)), #[]⟩) ::
    ((nat_lit 80), ⟨(.type "tuple"), (@Option.none Nat), (.seq #[.str (.ofString "a") (264:Nat), .str (.ofString "b") (265:Nat), .str (.ofString "i") (266:Nat), .str (.ofString "j") (267:Nat)] (0:Nat)), #[]⟩) ::
    ((nat_lit 81), ⟨(.type "tuple"), (@Option.none Nat), (.seq #[] (0:Nat)), #[]⟩) ::
    ((nat_lit 83), ⟨(.type "code"), (@Option.none Nat), (.fields (List.toArray (.str (.ofString "indexOf") (261:Nat) :: .str (.ofString "indexOf") (262:Nat) :: .str (.ofString "/claim/cut.py") (263:Nat) :: .int (20:Int) (0:Nat) :: .int (2:Int) (0:Nat) :: .int (0:Int) (0:Nat) :: .int (0:Int) (0:Nat) :: .int (3:Int) (0:Nat) :: .ref (78:Nat) :: .bool .true :: .int (181:Int) (0:Nat) :: .ref (79:Nat) :: .none :: .ref (80:Nat) :: .ref (81:Nat) :: .ref (82:Nat) :: .int (268:Int) (0:Nat) :: .int (20:Int) (0:Nat) :: .str (.ofString "/claim/cut.py") (269:Nat) :: []))), #[]⟩) ::
    ((nat_lit 84), ⟨(.type "function"), (@Option.none Nat), (.func ⟨(.ofString "indexOf"), (.ofString "indexOf"), a10, (.stmts b10), s10, (3:Nat), ([] : List (PySem.Str × Nat)), .none, .none, .none, (.str (.ofString "cpy313.operator") (187:Nat)), (@Option.none Nat), (.ref (83:Nat)), .none, (0:Nat)⟩), #[]⟩) ::
    ((nat_lit 85), ⟨(.type "tuple"), (@Option.none Nat), (.seq #[] (0:Nat)), #[]⟩) ::
    ((nat_lit 87), ⟨(.type "tuple"), (@Option.none Nat), (.seq #[.str (.ofString "a") (274:Nat), .str (.ofString "b") (275:Nat), .str (.ofString "c") (276:Nat)] (0:Nat)), #[]⟩) ::
    ((nat_lit 88), ⟨(.type "tuple"), (@Option.none Nat), (.seq #[] (0:Nat)), #[]⟩) ::
    ((nat_lit 90), ⟨(.type "code"), (@Option.none Nat), (.fields (List.toArray (.str (.ofString "setitem") (271:Nat) :: .str (.ofString "setitem") (272:Nat) :: .str (.ofString "/claim/cut.py") (273:Nat) :: .int (26:Int) (0:Nat) :: .int (3:Int) (0:Nat) :: .int (0:Int) (0:Nat) :: .int (0:Int) (0:Nat) :: .int (3:Int) (0:Nat) :: .ref (85:Nat) :: .bool .true :: .int (181:Int) (0:Nat) :: .ref (86:Nat) :: .none :: .ref (87:Nat) :: .ref (88:Nat) :: .ref (89:Nat) :: .int (277:Int) (0:Nat) :: .int (26:Int) (0:Nat) :: .str (.ofString "/claim/cut.py") (278:Nat) :: []))), #[]⟩) ::
    ((nat_lit 91), ⟨(.type "function"), (@Option.none Nat), (.func ⟨(.ofString "setitem"), (.ofString "setitem"), a11, (.stmts b11), s11, (3:Nat), ([] : List (PySem.Str × Nat)), .none, .none, .none, (.str (.ofString "cpy313.operator") (187:Nat)), (@Option.none Nat), (.ref (90:Nat)), .none, (0:Nat)⟩), #[]⟩) ::
    ((nat_lit 92), ⟨(.type "tuple"), (@Option.none Nat), (.seq #[] (0:Nat)), #[]⟩) ::
    ((nat_lit 94), ⟨(.type "tuple"), (@Option.none Nat), (.seq (List.toArray (.str (.ofString "r") (285:Nat) :: .str (.ofString "g") (286:Nat) :: .str (.ofString "b") (287:Nat) :: .str (.ofString "maxc") (288:Nat) :: .str (.ofString "minc") (289:Nat) :: .str (.ofString "sumc") (290:Nat) :: .str (.ofString "rangec") (291:Nat) :: .str (.ofString "l") (292:Nat) :: .str (.ofString "s") (293:Nat) :: .str (.ofString "rc") (294:Nat) :: .str (.ofString "gc") (295:Nat) :: .str (.ofString "bc") (296:Nat) :: .str (.ofString "h") (297:Nat) :: [])) (0:Nat)), #[]⟩) ::
    ((nat_lit 95), ⟨(.type "tuple"), (@Option.none Nat), (.seq #[] (0:Nat)), #[]⟩) ::
    ((nat_lit 97), ⟨(.type "code"), (@Option.none Nat), (.fields (List.toArray (.str (.ofString "rgb_to_hls") (282:Nat) :: .str (.ofString "rgb_to_hls") (283:Nat) :: .str (.ofString "/claim/cut.py") (284:Nat) :: .int (29:Int) (0:Nat) :: .int (3:Int) (0:Nat) :: .int (0:Int) (0:Nat) :: .int (0:Int) (0:Nat) :: .int (3:Int) (0:Nat) :: .ref (92:Nat) :: .bool .true :: .int (181:Int) (0:Nat) :: .ref (93:Nat) :: .none :: .ref (94:Nat) :: .ref (95:Nat) :: .ref (96:Nat) :: .int (298:Int) (0:Nat) :: .int (29:Int) (0:Nat) :: .str (.ofString "/claim/cut.py") (299:Nat) :: []))), #[]⟩) ::
    ((nat_lit 98), ⟨(.type "function"), (@Option.none Nat), (.func ⟨(.ofString "rgb_to_hls"), (.ofString "rgb_to_hls"), a13, (.stmts b13), s13, (3:Nat), ([] : List (PySem.Str × Nat)), .none, .none, .none, (.str (.ofString "cpy313.colorsys") (280:Nat)), (@Option.none Nat), (.ref (97:Nat)), .none, (0:Nat)⟩), #[]⟩) ::
    ((nat_lit 99), ⟨(.type "tuple"), (@Option.none Nat), (.seq #[] (0:Nat)), #[]⟩) ::
    ((nat_lit 101), ⟨(.type "tuple"), (@Option.none Nat), (.seq (List.toArray (.str (.ofString "r") (304:Nat) :: .str (.ofString "g") (305:Nat) :: .str (.ofString "b") (306:Nat) :: .str (.ofString "maxc") (307:Nat) :: .str (.ofString "minc") (308:Nat) :: .str (.ofString "rangec") (309:Nat) :: .str (.ofString "v") (310:Nat) :: .str (.ofString "s") (311:Nat) :: .str (.ofString "rc") (312:Nat) :: .str (.ofString "gc") (313:Nat) :: .str (.ofString "bc") (314:Nat) :: .str (.ofString "h") (315:Nat) :: [])) (0:Nat)), #[]⟩) ::
    ((nat_lit 102), ⟨(.type "tuple"), (@Option.none Nat), (.seq #[] (0:Nat)), #[]⟩) ::
    ((nat_lit 104), ⟨(.type "code"), (@Option.none Nat), (.fields (List.toArray (.str (.ofString "rgb_to_hsv") (301:Nat) :: .str (.ofString "rgb_to_hsv") (302:Nat) :: .str (.ofString "/claim/cut.py") (303:Nat) :: .int (52:Int) (0:Nat) :: .int (3:Int) (0:Nat) :: .int (0:Int) (0:Nat) :: .int (0:Int) (0:Nat) :: .int (3:Int) (0:Nat) :: .ref (99:Nat) :: .bool .true :: .int (181:Int) (0:Nat) :: .ref (100:Nat) :: .none :: .ref (101:Nat) :: .ref (102:Nat) :: .ref (103:Nat) :: .int (316:Int) (0:Nat) :: .int (52:Int) (0:Nat) :: .str (.ofString "/claim/cut.py") (317:Nat) :: []))), #[]⟩) ::
    ((nat_lit 105), ⟨(.type "function"), (@Option.none Nat), (.func ⟨(.ofString "rgb_to_hsv"), (.ofString "rgb_to_hsv"), a14, (.stmts b14), s14, (3:Nat), ([] : List (PySem.Str × Nat)), .none, .none, .none, (.str (.ofString "cpy313.colorsys") (280:Nat)), (@Option.none Nat), (.ref (104:Nat)), .none, (0:Nat)⟩), #[]⟩) ::
    ((nat_lit 106), ⟨(.type "tuple"), (@Option.none Nat), (.seq #[] (0:Nat)), #[]⟩) ::
    ((nat_lit 108), ⟨(.type "tuple"), (@Option.none Nat), (.seq #[.str (.ofString "h") (322:Nat), .str (.ofString "s") (323:Nat), .str (.ofString "v") (324:Nat), .str (.ofString "i") (325:Nat), .str (.ofString "f") (326:Nat), .str (.ofString "p") (327:Nat), .str (.ofString "q") (328:Nat), .str (.ofString "t") (329:Nat)] (0:Nat)), #[]⟩) ::
    ((nat_lit 109), ⟨(.type "tuple"), (@Option.none Nat), (.seq #[] (0:Nat)), #[]⟩) ::
    ((nat_lit 111), ⟨(.type "code"), (@Option.none Nat), (.fields (List.toArray (.str (.ofString "hsv_to_rgb") (319:Nat) :: .str (.ofString "hsv_to_rgb") (320:Nat) :: .str (.ofString "/claim/cut.py") (321:Nat) :: .int (71:Int) (0:Nat) :: .int (3:Int) (0:Nat) :: .int (0:Int) (0:Nat) :: .int (0:Int) (0:Nat) :: .int (3:Int) (0:Nat) :: .ref (106:Nat) :: .bool .true :: .int (181:Int) (0:Nat) :: .ref (107:Nat) :: .none :: .ref (108:Nat) :: .ref (109:Nat) :: .ref (110:Nat) :: .int (330:Int) (0:Nat) :: .int (71:Int) (0:Nat) :: .str (.ofString "/claim/cut.py") (331:Nat) :: []))), #[]⟩) ::
    ((nat_lit 112), ⟨(.type "function"), (@Option.none Nat), (.func ⟨(.ofString "hsv_to_rgb"), (.ofString "hsv_to_rgb"), a15, (.stmts b15), s15, (3:Nat), ([] : List (PySem.Str × Nat)), .none, .none, .none, (.str (.ofString "cpy313.colorsys") (280:Nat)), (@Option.none Nat), (.ref (111:Nat)), .none, (0:Nat)⟩), #[]⟩) ::
    ((nat_lit 120), ⟨(.type "tuple"), (@Option.none Nat), (.seq #[] (0:Nat)), #[]⟩) ::
    ((nat_lit 122), ⟨(.type "tuple"), (@Option.none Nat), (.seq #[.str (.ofString "self") (350:Nat), .str (.ofString "fp") (351:Nat)] (0:Nat)), #[]⟩) ::
    ((nat_lit 123), ⟨(.type "tuple"), (@Option.none Nat), (.seq #[] (0:Nat)), #[]⟩) ::
    ((nat_lit 125), ⟨(.type "code"), (@Option.none Nat), (.fields (List.toArray (.str (.ofString "__init__") (347:Nat) :: .str (.ofString "_netrclex.__init__") (348:Nat) :: .str (.ofString "/claim/cut.py") (349:Nat) :: .int (95:Int) (0:Nat) :: .int (2:Int) (0:Nat) :: .int (0:Int) (0:Nat) :: .int (0:Int) (0:Nat) :: .int (3:Int) (0:Nat) :: .ref (120:Nat) :: .bool .true :: .int (181:Int) (0:Nat) :: .ref (121:Nat) :: .none :: .ref (122:Nat) :: .ref (123:Nat) :: .ref (124:Nat) :: .int (352:Int) (0:Nat) :: .int (95:Int) (0:Nat) :: .str (.ofString "/claim/cut.py") (353:Nat) :: []))), #[]⟩) ::
    ((nat_lit 126), ⟨(.type "function"), (@Option.none Nat), (.func ⟨(.ofString "__init__"), (.ofString "_netrclex.__init__"), a17, (.stmts b17), s17, (3:Nat), ([] : List (PySem.Str × Nat)), .none, .none, .none, (.str (.ofString "cpy313.netrc") (333:Nat)), (@Option.none Nat), (.ref (125:Nat)), .none, (0:Nat)⟩), #[]⟩) ::
    ((nat_lit 127), ⟨(.type "tuple"), (@Option.none Nat), (.seq #[] (0:Nat)), #[]⟩) ::
    ((nat_lit 129), ⟨(.type "tuple"), (@Option.none Nat), (.seq #[.str (.ofString "self") (358:Nat), .str (.ofString "ch") (359:Nat)] (0:Nat)), #[]⟩) ::
    ((nat_lit 130), ⟨(.type "tuple"), (@Option.none Nat), (.seq #[] (0:Nat)), #[]⟩) ::
    ((nat_lit 132), ⟨(.type "code"), (@Option.none Nat), (.fields (List.toArray (.str (.ofString "_read_char") (355:Nat) :: .str (.ofString "_netrclex._read_char") (356:Nat) :: .str (.ofString "/claim/cut.py") (357:Nat) :: .int (101:Int) (0:Nat) :: .int (1:Int) (0:Nat) :: .int (0:Int) (0:Nat) :: .int (0:Int) (0:Nat) :: .int (3:Int) (0:Nat) :: .ref (127:Nat) :: .bool .true :: .int (181:Int) (0:Nat) :: .ref (128:Nat) :: .none :: .ref (129:Nat) :: .ref (130:Nat) :: .ref (131:Nat) :: .int (360:Int) (0:Nat) :: .int (101:Int) (0:Nat) :: .str (.ofString "/claim/cut.py") (361:Nat) :: []))), #[]⟩) ::
    ((nat_lit 133), ⟨(.type "function"), (@Option.none Nat), (.func ⟨(.ofString "_read_char"), (.ofString "_netrclex._read_char"), a18, (.stmts b18), s18, (3:Nat), ([] : List (PySem.Str × Nat)), .none, .none, .none, (.str (.ofString "cpy313.netrc") (333:Nat)), (@Option.none Nat), (.ref (132:Nat)), .none, (0:Nat)⟩), #[]⟩) ::
    ((nat_lit 134), ⟨(.type "tuple"), (@Option.none Nat), (.seq #[] (0:Nat)), #[]⟩) ::
    ((nat_lit 136), ⟨(.type "tuple"), (@Option.none Nat), (.seq #[.str (.ofString "self") (366:Nat), .str (.ofString "token") (367:Nat), .str (.ofString "fiter") (368:Nat), .str (.ofString "ch") (369:Nat)] (0:Nat)), #[]⟩) ::
    ((nat_lit 137), ⟨(.type "tuple"), (@Option.none Nat), (.seq #[] (0:Nat)), #[]⟩) ::
    ((nat_lit 139), ⟨(.type "code"), (@Option.none Nat), (.fields (List.toArray (.str (.ofString "get_token") (363:Nat) :: .str (.ofString "_netrclex.get_token") (364:Nat) :: .str (.ofString "/claim/cut.py") (365:Nat) :: .int (107:Int) (0:Nat) :: .int (1:Int) (0:Nat) :: .int (0:Int) (0:Nat) :: .int (0:Int) (0:Nat) :: .int (3:Int) (0:Nat) :: .ref (134:Nat) :: .bool .true :: .int (181:Int) (0:Nat) :: .ref (135:Nat) :: .none :: .ref (136:Nat) :: .ref (137:Nat) :: .ref (138:Nat) :: .int (370:Int) (0:Nat) :: .int (107:Int) (0:Nat) :: .str (.ofString "/claim/cut.py") (371:Nat) :: []))), #[]⟩) ::
    ((nat_lit 140), ⟨(.type "function"), (@Option.none Nat), (.func ⟨(.ofString "get_token"), (.ofString "_netrclex.get_token"), a19, (.stmts b19), s19, (3:Nat), ([] : List (PySem.Str × Nat)), .none, .none, .none, (.str (.ofString "cpy313.netrc") (333:Nat)), (@Option.none Nat), (.ref (139:Nat)), .none, (0:Nat)⟩), #[]⟩) ::
    ((nat_lit 141), ⟨(.type "tuple"), (@Option.none Nat), (.seq #[] (0:Nat)), #[]⟩) ::
    ((nat_lit 143), ⟨(.type "tuple"), (@Option.none Nat), (.seq #[.str (.ofString "self") (376:Nat), .str (.ofString "token") (377:Nat)] (0:Nat)), #[]⟩) ::
    ((nat_lit 144), ⟨(.type "tuple"), (@Option.none Nat), (.seq #[] (0:Nat)), #[]⟩) ::
    ((nat_lit 146), ⟨(.type "code"), (@Option.none Nat), (.fields (List.toArray (.str (.ofString "push_token") (373:Nat) :: .str (.ofString "_netrclex.push_token") (374:Nat) :: .str (.ofString "/claim/cut.py") (375:Nat) :: .int (134:Int) (0:Nat) :: .int (2:Int) (0:Nat) :: .int (0:Int) (0:Nat) :: .int (0:Int) (0:Nat) :: .int (3:Int) (0:Nat) :: .ref (141:Nat) :: .bool .true :: .int (181:Int) (0:Nat) :: .ref (142:Nat) :: .none :: .ref (143:Nat) :: .ref (144:Nat) :: .ref (145:Nat) :: .int (378:Int) (0:Nat) :: .int (134:Int) (0:Nat) :: .str (.ofString "/claim/cut.py") (379:Nat) :: []))), #[]⟩) ::
    ((nat_lit 147), ⟨(.type "function"), (@Option.none Nat), (.func ⟨(.ofString "push_token"), (.ofString "_netrclex.push_token"), a20, (.stmts b20), s20, (3:Nat), ([] : List (PySem.Str × Nat)), .none, .none, .none, (.str (.ofString "cpy313.netrc") (333:Nat)), (@Option.none Nat), (.ref (146:Nat)), .none, (0:Nat)⟩), #[]⟩) ::
    ((nat_lit 148), ⟨(.type "tuple"), (@Option.none Nat), (.seq #[.str (.ofString "instream") (381:Nat), .str (.ofString "lineno") (382:Nat), .str (.ofString "pushback") (383:Nat), .str (.ofString "whitespace") (384:Nat)] (0:Nat)), #[]⟩) ::
    ((nat_lit 149), ⟨(.type "dict"), (@Option.none Nat), (.dict (List.toArray (⟨(PyData.keyHash P (.ofString "__module__")), (.str (.ofString "__module__") (342:Nat)), (.str (.ofString "cpy313.netrc") (333:Nat))⟩ :: ⟨(PyData.keyHash P (.ofString "__firstlineno__")), (.str (.ofString "__firstlineno__") (346:Nat)), (.int (93:Int) (345:Nat))⟩ :: ⟨(PyData.keyHash P (.ofString "__init__")), (.str (.ofString "__init__") (354:Nat)), (.ref (126:Nat))⟩ :: ⟨(PyData.keyHash P (.ofString "_read_char")), (.str (.ofString "_read_char") (362:Nat)), (.ref (133:Nat))⟩ :: ⟨(PyData.keyHash P (.ofString "get_token")), (.str (.ofString "get_token") (372:Nat)), (.ref (140:Nat))⟩ :: ⟨(PyData.keyHash P (.ofString "push_token")), (.str (.ofString "push_token") (380:Nat)), (.ref (147:Nat))⟩ :: ⟨(PyData.keyHash P (.ofString "__static_attributes__")), (.str (.ofString "__static_attributes__") (385:Nat)), (.ref (148:Nat))⟩ :: ⟨(PyData.keyHash P (.ofString "__dict__")), (.str (.ofString "__dict__") (387:Nat)), (.ref (151:Nat))⟩ :: ⟨(PyData.keyHash P (.ofString "__weakref__")), (.str (.ofString "__weakref__") (389:Nat)), (.ref (152:Nat))⟩ :: ⟨(PyData.keyHash P (.ofString "__doc__")), (.str (.ofString "__doc__") (390:Nat)), .none⟩ :: [])) (4:Nat)), #[]⟩) ::
    ((nat_lit 150), ⟨(.type "type"), (@Option.none Nat), (.cls ⟨(.ofString "_netrclex"), [.type "object"], [.ref (150:Nat), .type "object"], (149:Nat), (.ofString "_netrclex"), .true, [], [], .false, .none, .false⟩), #[.none, .none, .some (.str (.ofString "_netrclex") (335:Nat)), .some (.str (.ofString "_netrclex") (343:Nat)), .some (.builtin "object.__new__"), .some (.bool .true)]⟩) ::
    ((nat_lit 151), ⟨(.type "getset_descriptor"), (@Option.none Nat), (.fields #[.str (.ofString "__dict__") (386:Nat), .ref (150:Nat), .builtin "function.__dict__", .builtin "function.__dict__#set"]), #[]⟩) ::
    ((nat_lit 152), ⟨(.type "getset_descriptor"), (@Option.none Nat), (.fields #[.str (.ofString "__weakref__") (388:Nat), .ref (150:Nat), .builtin "ExceptionGroup.__weakref__", .none]), #[]⟩) ::
    ((nat_lit 155), ⟨(.type "tuple"), (@Option.none Nat), (.seq #[] (0:Nat)), #[]⟩) ::
    ((nat_lit 157), ⟨(.type "tuple"), (@Option.none Nat), (.seq #[.str (.ofString "number") (398:Nat), .str (.ofString "x") (399:Nat)] (0:Nat)), #[]⟩) ::
    ((nat_lit 158), ⟨(.type "tuple"), (@Option.none Nat), (.seq #[] (0:Nat)), #[]⟩) ::
    ((nat_lit 160), ⟨(.type "code"), (@Option.none Nat), (.fields (List.toArray (.str (.ofString "_law_lamp") (395:Nat) :: .str (.ofString "_law_lamp") (396:Nat) :: .str (.ofString "/claim/cut.py") (397:Nat) :: .int (137:Int) (0:Nat) :: .int (1:Int) (0:Nat) :: .int (0:Int) (0:Nat) :: .int (0:Int) (0:Nat) :: .int (3:Int) (0:Nat) :: .ref (155:Nat) :: .bool .true :: .int (181:Int) (0:Nat) :: .ref (156:Nat) :: .none :: .ref (157:Nat) :: .ref (158:Nat) :: .ref (159:Nat) :: .int (400:Int) (0:Nat) :: .int (137:Int) (0:Nat) :: .str (.ofString "/claim/cut.py") (401:Nat) :: []))), #[]⟩) ::
    ((nat_lit 161), ⟨(.type "function"), (@Option.none Nat), (.func ⟨(.ofString "_law_lamp"), (.ofString "_law_lamp"), a23, (.stmts b23), s23, (3:Nat), ([] : List (PySem.Str × Nat)), .none, .none, .none, (.str (.ofString "law_sw0029_01") (393:Nat)), (@Option.none Nat), (.ref (160:Nat)), .none, (0:Nat)⟩), #[]⟩) ::
    ((nat_lit 162), ⟨(.type "tuple"), (@Option.none Nat), (.seq #[] (0:Nat)), #[]⟩) ::
    ((nat_lit 164), ⟨(.type "tuple"), (@Option.none Nat), (.seq #[.str (.ofString "lamp") (406:Nat), .str (.ofString "signs") (407:Nat)] (0:Nat)), #[]⟩) ::
    ((nat_lit 165), ⟨(.type "tuple"), (@Option.none Nat), (.seq #[] (0:Nat)), #[]⟩) ::
    ((nat_lit 167), ⟨(.type "code"), (@Option.none Nat), (.fields (List.toArray (.str (.ofString "_law_word") (403:Nat) :: .str (.ofString "_law_word") (404:Nat) :: .str (.ofString "/claim/cut.py") (405:Nat) :: .int (140:Int) (0:Nat) :: .int (1:Int) (0:Nat) :: .int (0:Int) (0:Nat) :: .int (0:Int) (0:Nat) :: .int (3:Int) (0:Nat) :: .ref (162:Nat) :: .bool .true :: .int (181:Int) (0:Nat) :: .ref (163:Nat) :: .none :: .ref (164:Nat) :: .ref (165:Nat) :: .ref (166:Nat) :: .int (408:Int) (0:Nat) :: .int (140:Int) (0:Nat) :: .str (.ofString "/claim/cut.py") (409:Nat) :: []))), #[]⟩) ::
    ((nat_lit 168), ⟨(.type "function"), (@Option.none Nat), (.func ⟨(.ofString "_law_word"), (.ofString "_law_word"), a24, (.stmts b24), s24, (3:Nat), ([] : List (PySem.Str × Nat)), .none, .none, .none, (.str (.ofString "law_sw0029_01") (393:Nat)), (@Option.none Nat), (.ref (167:Nat)), .none, (0:Nat)⟩), #[]⟩) ::
    ((nat_lit 169), ⟨(.type "tuple"), (@Option.none Nat), (.seq #[] (0:Nat)), #[]⟩) ::
    ((nat_lit 172), ⟨(.type "code"), (@Option.none Nat), (.fields (List.toArray (.str (.ofString "_law_spelled") (411:Nat) :: .str (.ofString "_law_spelled") (412:Nat) :: .str (.ofString "/claim/cut.py") (413:Nat) :: .int (143:Int) (0:Nat) :: .int (2:Int) (0:Nat) :: .int (0:Int) (0:Nat) :: .int (0:Int) (0:Nat) :: .int (3:Int) (0:Nat) :: .ref (169:Nat) :: .bool .true :: .int (181:Int) (0:Nat) :: .ref (170:Nat) :: .none :: .none :: .none :: .ref (171:Nat) :: .int (414:Int) (0:Nat) :: .int (143:Int) (0:Nat) :: .str (.ofString "/claim/cut.py") (415:Nat) :: []))), #[]⟩) ::
    ((nat_lit 173), ⟨(.type "function"), (@Option.none Nat), (.func ⟨(.ofString "_law_spelled"), (.ofString "_law_spelled"), a25, (.stmts b25), s25, (3:Nat), ([] : List (PySem.Str × Nat)), .none, .none, .none, (.str (.ofString "law_sw0029_01") (393:Nat)), (@Option.none Nat), (.ref (172:Nat)), .none, (0:Nat)⟩), #[]⟩) ::
    ((nat_lit 174), ⟨(.type "tuple"), (@Option.none Nat), (.seq #[] (0:Nat)), #[]⟩) ::
    ((nat_lit 177), ⟨(.type "code"), (@Option.none Nat), (.fields (List.toArray (.str (.ofString "_law_lexer") (417:Nat) :: .str (.ofString "_law_lexer") (418:Nat) :: .str (.ofString "/claim/cut.py") (419:Nat) :: .int (147:Int) (0:Nat) :: .int (1:Int) (0:Nat) :: .int (0:Int) (0:Nat) :: .int (0:Int) (0:Nat) :: .int (3:Int) (0:Nat) :: .ref (174:Nat) :: .bool .true :: .int (181:Int) (0:Nat) :: .ref (175:Nat) :: .none :: .none :: .none :: .ref (176:Nat) :: .int (420:Int) (0:Nat) :: .int (147:Int) (0:Nat) :: .str (.ofString "/claim/cut.py") (421:Nat) :: []))), #[]⟩) ::
    ((nat_lit 178), ⟨(.type "function"), (@Option.none Nat), (.func ⟨(.ofString "_law_lexer"), (.ofString "_law_lexer"), a26, (.stmts b26), s26, (3:Nat), ([] : List (PySem.Str × Nat)), .none, .none, .none, (.str (.ofString "law_sw0029_01") (393:Nat)), (@Option.none Nat), (.ref (177:Nat)), .none, (0:Nat)⟩), #[]⟩) ::
    ((nat_lit 179), ⟨(.type "tuple"), (@Option.none Nat), (.seq #[] (0:Nat)), #[]⟩) ::
    ((nat_lit 182), ⟨(.type "code"), (@Option.none Nat), (.fields (List.toArray (.str (.ofString "_law_kind") (423:Nat) :: .str (.ofString "_law_kind") (424:Nat) :: .str (.ofString "/claim/cut.py") (425:Nat) :: .int (152:Int) (0:Nat) :: .int (1:Int) (0:Nat) :: .int (0:Int) (0:Nat) :: .int (0:Int) (0:Nat) :: .int (3:Int) (0:Nat) :: .ref (179:Nat) :: .bool .true :: .int (181:Int) (0:Nat) :: .ref (180:Nat) :: .none :: .none :: .none :: .ref (181:Nat) :: .int (426:Int) (0:Nat) :: .int (152:Int) (0:Nat) :: .str (.ofString "/claim/cut.py") (427:Nat) :: []))), #[]⟩) ::
    ((nat_lit 183), ⟨(.type "function"), (@Option.none Nat), (.func ⟨(.ofString "_law_kind"), (.ofString "_law_kind"), a27, (.stmts b27), s27, (3:Nat), ([] : List (PySem.Str × Nat)), .none, .none, .none, (.str (.ofString "law_sw0029_01") (393:Nat)), (@Option.none Nat), (.ref (182:Nat)), .none, (0:Nat)⟩), #[]⟩) ::
    ((nat_lit 184), ⟨(.type "tuple"), (@Option.none Nat), (.seq #[] (0:Nat)), #[]⟩) ::
    ((nat_lit 186), ⟨(.type "tuple"), (@Option.none Nat), (.seq #[.str (.ofString "lexer") (432:Nat), .str (.ofString "row") (433:Nat), .str (.ofString "table") (434:Nat), .str (.ofString "lamp") (435:Nat), .str (.ofString "word") (436:Nat), .str (.ofString "kind") (437:Nat)] (0:Nat)), #[]⟩) ::
    ((nat_lit 187), ⟨(.type "tuple"), (@Option.none Nat), (.seq #[] (0:Nat)), #[]⟩) ::
    ((nat_lit 189), ⟨(.type "code"), (@Option.none Nat), (.fields (List.toArray (.str (.ofString "_law_table") (429:Nat) :: .str (.ofString "_law_table") (430:Nat) :: .str (.ofString "/claim/cut.py") (431:Nat) :: .int (168:Int) (0:Nat) :: .int (2:Int) (0:Nat) :: .int (0:Int) (0:Nat) :: .int (0:Int) (0:Nat) :: .int (3:Int) (0:Nat) :: .ref (184:Nat) :: .bool .true :: .int (181:Int) (0:Nat) :: .ref (185:Nat) :: .none :: .ref (186:Nat) :: .ref (187:Nat) :: .ref (188:Nat) :: .int (438:Int) (0:Nat) :: .int (168:Int) (0:Nat) :: .str (.ofString "/claim/cut.py") (439:Nat) :: []))), #[]⟩) ::
    ((nat_lit 190), ⟨(.type "function"), (@Option.none Nat), (.func ⟨(.ofString "_law_table"), (.ofString "_law_table"), a28, (.stmts b28), s28, (3:Nat), ([] : List (PySem.Str × Nat)), .none, .none, .none, (.str (.ofString "law_sw0029_01") (393:Nat)), (@Option.none Nat), (.ref (189:Nat)), .none, (0:Nat)⟩), #[]⟩) ::
    ((nat_lit 191), ⟨(.type "tuple"), (@Option.none Nat), (.seq #[] (0:Nat)), #[]⟩) ::
    ((nat_lit 194), ⟨(.type "code"), (@Option.none Nat), (.fields (List.toArray (.str (.ofString "_law_turned") (441:Nat) :: .str (.ofString "_law_turned") (442:Nat) :: .str (.ofString "/claim/cut.py") (443:Nat) :: .int (179:Int) (0:Nat) :: .int (2:Int) (0:Nat) :: .int (0:Int) (0:Nat) :: .int (0:Int) (0:Nat) :: .int (3:Int) (0:Nat) :: .ref (191:Nat) :: .bool .true :: .int (181:Int) (0:Nat) :: .ref (192:Nat) :: .none :: .none :: .none :: .ref (193:Nat) :: .int (444:Int) (0:Nat) :: .int (179:Int) (0:Nat) :: .str (.ofString "/claim/cut.py") (445:Nat) :: []))), #[]⟩) ::
    ((nat_lit 195), ⟨(.type "function"), (@Option.none Nat), (.func ⟨(.ofString "_law_turned"), (.ofString "_law_turned"), a29, (.stmts b29), s29, (3:Nat), ([] : List (PySem.Str × Nat)), .none, .none, .none, (.str (.ofString "law_sw0029_01") (393:Nat)), (@Option.none Nat), (.ref (194:Nat)), .none, (0:Nat)⟩), #[]⟩) ::
    ((nat_lit 196), ⟨(.type "tuple"), (@Option.none Nat), (.seq #[] (0:Nat)), #[]⟩) ::
    ((nat_lit 199), ⟨(.type "code"), (@Option.none Nat), (.fields (List.toArray (.str (.ofString "_law_near") (447:Nat) :: .str (.ofString "_law_near") (448:Nat) :: .str (.ofString "/claim/cut.py") (449:Nat) :: .int (192:Int) (0:Nat) :: .int (1:Int) (0:Nat) :: .int (0:Int) (0:Nat) :: .int (0:Int) (0:Nat) :: .int (3:Int) (0:Nat) :: .ref (196:Nat) :: .bool .true :: .int (181:Int) (0:Nat) :: .ref (197:Nat) :: .none :: .none :: .none :: .ref (198:Nat) :: .int (450:Int) (0:Nat) :: .int (192:Int) (0:Nat) :: .str (.ofString "/claim/cut.py") (451:Nat) :: []))), #[]⟩) ::
    ((nat_lit 200), ⟨(.type "function"), (@Option.none Nat), (.func ⟨(.ofString "_law_near"), (.ofString "_law_near"), a30, (.stmts b30), s30, (3:Nat), ([] : List (PySem.Str × Nat)), .none, .none, .none, (.str (.ofString "law_sw0029_01") (393:Nat)), (@Option.none Nat), (.ref (199:Nat)), .none, (0:Nat)⟩), #[]⟩) ::
    ((nat_lit 201), ⟨(.type "tuple"), (@Option.none Nat), (.seq #[] (0:Nat)), #[]⟩) ::
    ((nat_lit 204), ⟨(.type "code"), (@Option.none Nat), (.fields (List.toArray (.str (.ofString "_law_crossed") (453:Nat) :: .str (.ofString "_law_crossed") (454:Nat) :: .str (.ofString "/claim/cut.py") (455:Nat) :: .int (195:Int) (0:Nat) :: .int (2:Int) (0:Nat) :: .int (0:Int) (0:Nat) :: .int (0:Int) (0:Nat) :: .int (3:Int) (0:Nat) :: .ref (201:Nat) :: .bool .true :: .int (181:Int) (0:Nat) :: .ref (202:Nat) :: .none :: .none :: .none :: .ref (203:Nat) :: .int (456:Int) (0:Nat) :: .int (195:Int) (0:Nat) :: .str (.ofString "/claim/cut.py") (457:Nat) :: []))), #[]⟩) ::
    ((nat_lit 205), ⟨(.type "function"), (@Option.none Nat), (.func ⟨(.ofString "_law_crossed"), (.ofString "_law_crossed"), a31, (.stmts b31), s31, (3:Nat), ([] : List (PySem.Str × Nat)), .none, .none, .none, (.str (.ofString "law_sw0029_01") (393:Nat)), (@Option.none Nat), (.ref (204:Nat)), .none, (0:Nat)⟩), #[]⟩) ::
    ((nat_lit 206), ⟨(.type "tuple"), (@Option.none Nat), (.seq #[] (0:Nat)), #[]⟩) ::
    ((nat_lit 209), ⟨(.type "code"), (@Option.none Nat), (.fields (List.toArray (.str (.ofString "law") (459:Nat) :: .str (.ofString "law") (460:Nat) :: .str (.ofString "/claim/cut.py") (461:Nat) :: .int (203:Int) (0:Nat) :: .int (1:Int) (0:Nat) :: .int (0:Int) (0:Nat) :: .int (0:Int) (0:Nat) :: .int (3:Int) (0:Nat) :: .ref (206:Nat) :: .bool .true :: .int (181:Int) (0:Nat) :: .ref (207:Nat) :: .none :: .none :: .none :: .ref (208:Nat) :: .int (462:Int) (0:Nat) :: .int (203:Int) (0:Nat) :: .str (.ofString "/claim/cut.py") (463:Nat) :: []))), #[]⟩) ::
    ((nat_lit 210), ⟨(.type "function"), (@Option.none Nat), (.func ⟨(.ofString "law"), (.ofString "law"), a32, (.stmts b32), s32, (3:Nat), ([] : List (PySem.Str × Nat)), .none, .none, .none, (.str (.ofString "law_sw0029_01") (393:Nat)), (@Option.none Nat), (.ref (209:Nat)), .none, (0:Nat)⟩), #[]⟩) :: [] : List (Nat × Obj))
set_option maxRecDepth 100000 in
set_option maxHeartbeats 0 in
noncomputable def hd.view_39 : Program := by
  refine' (?f : ∀ {x0 x1 x2 x3 x4 x5 x6 x7 x8 x9 x10 x11 x12 x13 x14 x15 x16 x17 x18 x19 x20 x21 x22 x23 x24 x25 x26 x27 x28 : Stmt}, PySem.Challenge.pw_sw0029_01.main.body = [x0, x1, x2, x3, x4, x5, x6, x7, x8, x9, x10, x11, x12, x13, x14, x15, x16, x17, x18, x19, x20, x21, x22, x23, x24, x25, x26, x27, x28] → Program) rfl
  intro x0 x1 x2 x3 x4 x5 x6 x7 x8 x9 x10 x11 x12 x13 x14 x15 x16 x17 x18 x19 x20 x21 x22 x23 x24 x25 x26 x27 x28 _
  exact { PySem.Challenge.rw_sw0029_01.row.toRowW.prog with main := { PySem.Challenge.rw_sw0029_01.row.toRowW.prog.main with body := [x1, x2, x3, x4, x5, x6, x7, x8, x9, x10, x11, x13, x14, x15, x17, x19, x20, x21, x22, x23, x24, x25, x26, x27, x28] } }
theorem hd.adr : ∀ P, ([2, 3, 15, 17, 18, 20, 21, 22, 24, 25, 27, 28, 29, 31, 32, 34, 35, 36, 38, 39, 41, 42, 43, 45, 46, 48, 49, 50, 52, 53, 55, 56, 57, 59, 60, 62, 63, 64, 66, 67, 69, 70, 71, 73, 74, 76, 77, 78, 80, 81, 83, 84, 85, 87, 88, 90, 91, 92, 94, 95, 97, 98, 99, 101, 102, 104, 105, 106, 108, 109, 111, 112, 120, 122, 123, 125, 126, 127, 129, 130, 132, 133, 134, 136, 137, 139, 140, 141, 143, 144, 146, 147, 148, 149, 150, 151, 152, 155, 157, 158, 160, 161, 162, 164, 165, 167, 168, 169, 172, 173, 174, 177, 178, 179, 182, 183, 184, 186, 187, 189, 190, 191, 194, 195, 196, 199, 200, 201, 204, 205, 206, 209, 210] : List Nat) = (hd.heap_39 P).map (·.1) := fun _ => by kernel_rfl
theorem hd.saidL : looksOpen PySem.Challenge.rw_sw0029_01.row.prog = true := by
  unfold looksOpen
  with_reducible refine look_both (look_both (look_both (look_both ?_ ?_) ?_) ?_) ?_
  all_goals decide +kernel
theorem hd.saidR : PySem.Challenge.rw_sw0029_01.row.wellSaid = true := by
  unfold OpenRow.wellSaid OpenRow.partSaid
  iterate 15 with_reducible refine look_both ?_ (by kernel_rfl)
  exact hd.saidL
theorem hd.said : PySem.Challenge.rw_sw0029_01.wellSaid = true := by
  unfold OpenLaw.wellSaid
  repeat' with_reducible refine look_both ?_ ?_
  · exact hd.saidR
  all_goals decide +kernel
theorem hd.left : LeftO PySem.Challenge.rw_sw0029_01.row.toRowW.prog hd.view_39 [] (fun s => xlAt hd.view_39 [] s && recOk (RowW.records PySem.Challenge.rw_sw0029_01.row.toRowW) s) (Hook.obs (kmHook hd.heap_39 [2, 3, 15, 17, 18, 20, 21, 22, 24, 25, 27, 28, 29, 31, 32, 34, 35, 36, 38, 39, 41, 42, 43, 45, 46, 48, 49, 50, 52, 53, 55, 56, 57, 59, 60, 62, 63, 64, 66, 67, 69, 70, 71, 73, 74, 76, 77, 78, 80, 81, 83, 84, 85, 87, 88, 90, 91, 92, 94, 95, 97, 98, 99, 101, 102, 104, 105, 106, 108, 109, 111, 112, 120, 122, 123, 125, 126, 127, 129, 130, 132, 133, 134, 136, 137, 139, 140, 141, 143, 144, 146, 147, 148, 149, 150, 151, 152, 155, 157, 158, 160, 161, 162, 164, 165, 167, 168, 169, 172, 173, 174, 177, 178, 179, 182, 183, 184, 186, 187, 189, 190, 191, 194, 195, 196, 199, 200, 201, 204, 205, 206, 209, 210] hd.adr [175])) (Hook.val (kmHook hd.heap_39 [2, 3, 15, 17, 18, 20, 21, 22, 24, 25, 27, 28, 29, 31, 32, 34, 35, 36, 38, 39, 41, 42, 43, 45, 46, 48, 49, 50, 52, 53, 55, 56, 57, 59, 60, 62, 63, 64, 66, 67, 69, 70, 71, 73, 74, 76, 77, 78, 80, 81, 83, 84, 85, 87, 88, 90, 91, 92, 94, 95, 97, 98, 99, 101, 102, 104, 105, 106, 108, 109, 111, 112, 120, 122, 123, 125, 126, 127, 129, 130, 132, 133, 134, 136, 137, 139, 140, 141, 143, 144, 146, 147, 148, 149, 150, 151, 152, 155, 157, 158, 160, 161, 162, 164, 165, 167, 168, 169, 172, 173, 174, 177, 178, 179, 182, 183, 184, 186, 187, 189, 190, 191, 194, 195, 196, 199, 200, 201, 204, 205, 206, 209, 210] hd.adr [175])) 2296 := fun w => by kernel_rfl

end
section
-- B0
open PySem PySem.W PyProof.Rows PySem.Spec PySem.Calls
noncomputable abbrev P0 : Program := PySem.Challenge.rw_sw0029_01.row.prog
theorem lowerC {M : Model} {c : Code} {R : Result → Shared → Prop} {s : Shared} {D U d u : Nat} {gd : Option (List Code)} {cn : Str} {cs : Scope} {L a : Addr} {ccd : Value} {cl : List (Str × Addr)} {outer : List Env}
    (h : codeAny M (ktrTop D U gd cn cs L a ccd cl outer) c R s) (hd : d ≤ D) (hu : u ≤ U) : codeAny M (ktrTop d u gd cn cs L a ccd cl outer) c R s :=
  fun Γ p hc hΓ => h Γ p hc ⟨hΓ.1, Nat.le_trans hΓ.2.1 hd, hΓ.2.2.1, hΓ.2.2.2.1, Nat.le_trans hΓ.2.2.2.2 hu⟩
/-- what was there before and is not of the list l is there behind -/
noncomputable def Kept (l : List (Addr × Obj)) (h h' : Heap) : Prop := ∀ b o, h.get? b = some o → (∀ q ∈ l, q.1 ≠ b) → h'.get? b = some o
theorem Kept.news {l rest : List (Addr × Obj)} {h h' h₀ : Heap} {L : Addr} (k : Kept l h h') (N : News h₀ L h rest) (hne : ∀ p ∈ rest, ∀ q ∈ l, q.1 ≠ p.1) : News h₀ L h' rest :=
  fun p hp => ⟨k _ _ (N p hp).1 (hne p hp), (N p hp).2⟩
/-- how a call comes back -/
noncomputable abbrev backTo2 (Q E : Value → Shared → Prop) : Result → Shared → Prop := fun r s' => match r with | .ok (.ret v) => Q v s' | .ok _ => False | .error e => E e s'
/-- a call: led is the part of the ledger that it may turn, imm what it reads besides; it comes back with a value and a ledger as R says -/
noncomputable def Ctr (D U : Nat) (w : World) (c : Code) (imm led : List (Addr × Obj)) (R : Heap → Value → List (Addr × Obj) → Prop) : Prop :=
  ∀ (p : Program) (loose : List Str) (mean : ExcName → Option Value) (mg mb : Str → Option Value) (d u : Nat) (gd : Option (List Code)) (cn : Str) (cs : Scope) (a : Addr) (ccd : Value) (cl : List (Str × Addr)) (outer : List Env) (A₀ : Around) (base h₀ : Heap) (L : Addr) (m : Str → Option Value) (s : Shared) (Q E : Value → Shared → Prop),
    d ≤ D → u ≤ U → Below A₀ base outer h₀ → Fr h₀ L s.heap m → (Mine.hd.heap_39 w.params).In h₀ → News h₀ L s.heap led → (∀ q ∈ imm, s.heap.get? q.1 = some q.2 ∧ ∀ r ∈ led, r.1 ≠ q.1) → Top p loose mean mg mb h₀ → cs.kind = .function →
    (∀ v led' h' tk', R s.heap v led' → Fr h₀ L h' m → News h₀ L h' led' → Kept led s.heap h' → Q v { s with heap := h', toks := tk' }) →
    codeAny (model P0 w) (ktrTop d u gd cn cs L a ccd cl outer) c (backTo2 Q E) s
theorem Ctr.mk {D U : Nat} {w : World} {c : Code} {imm led : List (Addr × Obj)} {R : Heap → Value → List (Addr × Obj) → Prop}
    (h : ∀ (p : Program) (loose : List Str) (mean : ExcName → Option Value) (mg mb : Str → Option Value) (gd : Option (List Code)) (cn : Str) (cs : Scope) (a : Addr) (ccd : Value) (cl : List (Str × Addr)) (outer : List Env) (A₀ : Around) (base h₀ : Heap) (L : Addr) (m : Str → Option Value) (s : Shared) (Q E : Value → Shared → Prop),
      Below A₀ base outer h₀ → Fr h₀ L s.heap m → (Mine.hd.heap_39 w.params).In h₀ → News h₀ L s.heap led → (∀ q ∈ imm, s.heap.get? q.1 = some q.2 ∧ ∀ r ∈ led, r.1 ≠ q.1) → Top p loose mean mg mb h₀ → cs.kind = .function →
      (∀ v led' h' tk', R s.heap v led' → Fr h₀ L h' m → News h₀ L h' led' → Kept led s.heap h' → Q v { s with heap := h', toks := tk' }) →
      codeAny (model P0 w) (ktrTop D U gd cn cs L a ccd cl outer) c (backTo2 Q E) s) : Ctr D U w c imm led R :=
  fun p loose mean mg mb _ _ gd cn cs a ccd cl outer A₀ base h₀ L m s Q E hd hu B F X N I T hk r => lowerC (h p loose mean mg mb gd cn cs a ccd cl outer A₀ base h₀ L m s Q E B F X N I T hk r) hd hu
section
variable {D U : Nat} {w : World} {c : Code} {imm led : List (Addr × Obj)} {R : Heap → Value → List (Addr × Obj) → Prop}
    {p : Program} {loose : List Str} {mean : ExcName → Option Value} {mg mb : Str → Option Value} {d u : Nat} {gd : Option (List Code)} {cn : Str} {cs : Scope} {a : Addr} {ccd : Value} {cl : List (Str × Addr)} {outer : List Env} {A₀ : Around} {base h₀ : Heap} {L : Addr} {m : Str → Option Value} {s : Shared} {Q E : Value → Shared → Prop} {news : List (Addr × Obj)} {f : Value} {args : List Value}
/-- the use of a contract that turns nothing: the whole ledger stands, what is new goes ahead of it -/
theorem Ctr.use0 {R : Heap → Value → List (Addr × Obj) → Prop} (C : Ctr D U w (.call f ⟨args, []⟩) imm [] R)
    (hd : d ≤ D) (hu : u ≤ U) (B : Below A₀ base outer h₀) (F : Fr h₀ L s.heap m) (X : (Mine.hd.heap_39 w.params).In h₀) (N : News h₀ L s.heap news) (T : Top p loose mean mg mb h₀) (hk : cs.kind = .function)
    (I : ∀ q ∈ imm, s.heap.get? q.1 = some q.2)
    (r : ∀ sz v led' h' tk', R sz v led' → (∀ q ∈ news, sz.get? q.1 = some q.2) → Fr h₀ L h' m → News h₀ L h' (led' ++ news) → Q v { s with heap := h', toks := tk' }) :
    wpAny (model P0 w) (ktrTop d u gd cn cs L a ccd cl outer) (call f args) Q E s := wpAny_call <|
  C p loose mean mg mb d u gd cn cs a ccd cl outer A₀ base h₀ L m s Q E hd hu B F X (fun _ hp => nomatch hp) (fun q hq => ⟨I q hq, fun _ hr => nomatch hr⟩) T hk fun v led' h' tk' hR F' N' k =>
    r _ v led' h' tk' hR (fun q hq => (N q hq).1) F' fun q hq => (List.mem_append.mp hq).elim (N' q) fun hq => k.news N (fun _ _ _ hr => nomatch hr) q hq
/-- the use of a contract that turns led: rest is what else is known -/
theorem Ctr.use (C : Ctr D U w (.call f ⟨args, []⟩) imm led R) (rest : List (Addr × Obj))
    (hd : d ≤ D) (hu : u ≤ U) (B : Below A₀ base outer h₀) (F : Fr h₀ L s.heap m) (X : (Mine.hd.heap_39 w.params).In h₀) (N : News h₀ L s.heap news) (T : Top p loose mean mg mb h₀) (hk : cs.kind = .function)
    (hs : ∀ q ∈ led, q ∈ news) (hr : ∀ q ∈ rest, q ∈ news) (hne : ∀ q ∈ rest, ∀ r ∈ led, r.1 ≠ q.1)
    (I : ∀ q ∈ imm, s.heap.get? q.1 = some q.2 ∧ ∀ r ∈ led, r.1 ≠ q.1)
    (r : ∀ sz v led' h' tk', R sz v led' → (∀ q ∈ news, sz.get? q.1 = some q.2) → Fr h₀ L h' m → News h₀ L h' (led' ++ rest) → Q v { s with heap := h', toks := tk' }) :
    wpAny (model P0 w) (ktrTop d u gd cn cs L a ccd cl outer) (call f args) Q E s := wpAny_call <|
  C p loose mean mg mb d u gd cn cs a ccd cl outer A₀ base h₀ L m s Q E hd hu B F X (fun q hq => N q (hs q hq)) I T hk fun v led' h' tk' hR F' N' k =>
    r _ v led' h' tk' hR (fun q hq => (N q hq).1) F' fun q hq => (List.mem_append.mp hq).elim (N' q) fun hq => k.news (fun p hp => N p (hr p hp)) hne q hq
end
section
variable {prog : Program} {w : World} {A₀ A : Around} {E : Value → Shared → Prop} {s : Shared} {base h₀ : Heap} {outer : List Env} {L : Addr} {m : Str → Option Value} {env : Env} {led : List (Addr × Obj)} {K : Frag} {p : Program} {loose : List Str} {mean : ExcName → Option Value} {mg mb : Str → Option Value}
  {R : Result → Shared → Prop} {name qual : Str} {params : Arguments} {body : List Stmt} {scope : Scope} {dV kV doc pm cdv ct oc : Value} {an od : Option Addr} {osl : Array (Option Value)} {f : Addr} {args : Args} {binds : List (Str × Value)}
/-- what a def's end asks: as LeaveK, and it hands on that the rest stands -/
noncomputable def EndS (h₀ : Heap) (L : Addr) (m : Str → Option Value) (g h : Heap) (led : List (Addr × Obj)) (R : Result → Shared → Prop) (v : Value) (s' : Shared) : Prop :=
  LeaveK h₀ L m g (fun r s' => Kept led h s'.heap → R r s') v s'
theorem EndS.out {g h : Heap} {v : Value} {s' : Shared} (G : ∀ b o, h.get? b = some o → (∀ q ∈ led, q.1 ≠ b) → g.get? b = some o)
    (lv : LeaveK h₀ L m g (fun r s' => Kept led h s'.heap → R r s') v s' → Kept led h s'.heap → R (.ok (.ret v)) s') (e : EndS h₀ L m g h led R v s') : R (.ok (.ret v)) s' := by
  have e' := e
  obtain ⟨L', m', news', F', _, _⟩ := e'
  exact lv e fun b o hb hq => F'.keep b o (G b o hb hq)
theorem hidden_stays {h : Heap} {l : List (Addr × Obj)} : ∀ b o, h.get? b = some o → (∀ q ∈ l, q.1 ≠ b) → (hideAll h (l.map (·.1))).get? b = some o := fun b o e n =>
  hideAll_get _ e fun hm => by
    obtain ⟨q, hq, rfl⟩ := List.mem_map.mp hm
    exact n q hq rfl
/-- a def without cells is entered; the base behind is the heap as it stood, without led -/
theorem enterS (B : Below A₀ base outer h₀) (F : Fr h₀ L s.heap m) (X : K.In h₀) (N : News h₀ L s.heap led) (T : Top p loose mean mg mb h₀) (hA : A.frames = some (env :: outer)) (hf : env.frame = some L) (hke : env.scope.kind = .function)
    (ho : K.lookup f = some ⟨oc, od, .func (fnOf name qual params body scope dV kV doc pm an cdv ct), osl⟩) (hcd : codeIn K cdv qual = true) (hroom : A.depth < recursionLimit)
    (hbind : BindsTo s (fnOf name qual params body scope dV kV doc pm an cdv ct) args binds) (hloc : ∀ y ∈ binds, scope.names.lookup y.1 = some .local)
    (h : ∀ g L' h₁, s.heap.objs.size ≤ L' → (∀ b o, s.heap.get? b = some o → (∀ q ∈ led, q.1 ≠ b) → g.get? b = some o) → Fr g L' h₁ (fun y => binds.reverse.lookup y) → News g L' h₁ led → Below A base (env :: outer) g → K.In g → Top p loose mean mg mb g →
      wpAny (model prog w) (A.deeper (envOf qual scope L' f cdv)) (execs body (envOf qual scope L' f cdv))
        (fun fl s' => EndS h₀ L m g s.heap led R (match fl with | .ret v => v | _ => .none) s')
        (fun e s' => wpAny (model prog w) (A.deeper (envOf qual scope L' f cdv)) (leaving (envOf qual scope L' f cdv) e) (fun _ s'' => R (.error e) s'') (fun e' s'' => R (.error e') s'') s')
        { s with heap := h₁, toks := s.toks + binds.length })
    (hco : scope.isCoroutine = false) (hgen : scope.isGenerator = false) (hk : scope.kind = .function)
    (hcell : ∀ x ∈ scope.names, x.2 ≠ .cell) : codeAny (model prog w) A (.call (.ref f) args) R s := by
  obtain ⟨_, BG, st, lv⟩ := groundX (R := fun r s' => Kept led s.heap s'.heap → R r s') B F N hA hf hke
  refine codeAny_call_def (fd := fnX name qual params body scope [] dV kV doc pm an cdv ct) (body := body) (binds := binds) hroom ((X.keeps F.keep) _ _ ho) rfl (T.nolimit.keeps F.keep) (codeRec_of (X.keeps F.keep) hcd) rfl hbind hcell hloc (fun h₁ hns hk₁ => ?_) hco hgen hk
  have NG : News (hideAll s.heap (led.map (·.1))) s.heap.objs.size h₁ led := fun q hq => ⟨hk₁ _ _ (N q hq).1, Nat.ne_of_lt (Heap.lt_size (N q hq).1), hideAll_none _ (List.mem_map_of_mem hq)⟩
  have FG : Fr (hideAll s.heap (led.map (·.1))) s.heap.objs.size h₁ (fun y => binds.reverse.lookup y) := ⟨hns, fun b o e => hk₁ b o (of_hideAll _ e), Nat.le_of_eq (hideAll_size _ _)⟩
  exact wpAny_mono (h _ _ h₁ (Nat.le_refl _) hidden_stays FG NG BG (X.keeps st) (T.keeps st)) (fun fl s' e => EndS.out hidden_stays (lv _ _) e) fun _ _ y => y
/-- a def with cells is entered -/
theorem enterCS (B : Below A₀ base outer h₀) (F : Fr h₀ L s.heap m) (X : K.In h₀) (N : News h₀ L s.heap led) (T : Top p loose mean mg mb h₀) (hA : A.frames = some (env :: outer)) (hf : env.frame = some L) (hke : env.scope.kind = .function)
    (ho : K.lookup f = some ⟨oc, od, .func (fnOf name qual params body scope dV kV doc pm an cdv ct), osl⟩) (hcd : codeIn K cdv qual = true) (hroom : A.depth < recursionLimit)
    (hbind : BindsTo s (fnOf name qual params body scope dV kV doc pm an cdv ct) args binds) (hkind : (binds.all fun y => scope.names.lookup y.1 == some .local || scope.names.lookup y.1 == some .cell) = true)
    (hnd : ((cellsFrom 0 scope.names []).map (·.1)).Nodup)
    (h : ∀ g L' h₁ tk cells, s.heap.objs.size ≤ L' → (∀ b o, s.heap.get? b = some o → (∀ q ∈ led, q.1 ≠ b) → g.get? b = some o) → Fr g L' h₁ (bindL (envOfC qual scope L' f cdv).kindOf binds fun _ => none) → News g L' h₁ (cells ++ led) →
      CellsAre (bindC (envOfC qual scope L' f cdv).kindOf binds fun _ => none) (cellsFrom (L' + 1) scope.names []) cells → Below A base (env :: outer) g → K.In g → Top p loose mean mg mb g → (∀ p ∈ led, p.1 < L') →
      wpAny (model prog w) (A.deeper (envOfC qual scope L' f cdv)) (execs body (envOfC qual scope L' f cdv))
        (fun fl s' => EndS h₀ L m g s.heap led R (match fl with | .ret v => v | _ => .none) s')
        (fun e s' => wpAny (model prog w) (A.deeper (envOfC qual scope L' f cdv)) (leaving (envOfC qual scope L' f cdv) e) (fun _ s'' => R (.error e) s'') (fun e' s'' => R (.error e') s'') s')
        { s with heap := h₁, toks := tk })
    (hco : scope.isCoroutine = false) (hgen : scope.isGenerator = false) (hk : scope.kind = .function) : codeAny (model prog w) A (.call (.ref f) args) R s := by
  obtain ⟨_, BG, st, lv⟩ := groundX (R := fun r s' => Kept led s.heap s'.heap → R r s') B F N hA hf hke
  refine codeAny_call_function (fd := fnX name qual params body scope [] dV kV doc pm an cdv ct) (body := body) hroom ((X.keeps F.keep) _ _ ho) rfl hco hgen rfl (codeRec_of (X.keeps F.keep) hcd) (hbind _ _ _ _ ?_)
  refine wpAny_newFunctionEnv_cells hk (kindsX hkind _) fun env' he s' x => ?_
  subst he
  refine ⟨(T.nolimit.keeps F.keep).keeps x.toInCall.keep, codeAny_func ?_⟩
  obtain ⟨h₁, tk, rfl, _⟩ := x.done
  have up := x.toInCall.keep
  obtain ⟨cells, NC, Y⟩ := Cl.news (h₀ := s.heap) (Nat.le_refl _) fun n c hm => ⟨x.cell n c (lookup_of_mem_nodup (cellsFrom_names scope.names 0 (s.heap.objs.size + 1) [] [] rfl ▸ hnd) hm), x.above n c hm⟩
  have NL : News (hideAll s.heap (led.map (·.1))) s.heap.objs.size h₁ led := fun q hq => ⟨up _ _ (N q hq).1, Nat.ne_of_lt (Heap.lt_size (N q hq).1), hideAll_none _ (List.mem_map_of_mem hq)⟩
  have NC' : News (hideAll s.heap (led.map (·.1))) s.heap.objs.size h₁ cells := fun q hq => ⟨(NC q hq).1, (NC q hq).2.1, by
    cases e : (hideAll s.heap (led.map (·.1))).get? q.1 with
    | none => rfl
    | some o => exact absurd ((of_hideAll _ e).symm.trans (NC q hq).2.2) (by simp)⟩
  exact wpAny_mono (h _ _ h₁ tk cells (Nat.le_refl _) hidden_stays ⟨x.toInCall.ns, fun b o e => up b o (of_hideAll _ e), Nat.le_of_eq (hideAll_size _ _)⟩
    (fun q hq => (List.mem_append.mp hq).elim (NC' q) (NL q)) Y BG (X.keeps st) (T.keeps st) fun q hq => Heap.lt_size (N q hq).1) (fun fl s' e => EndS.out hidden_stays (lv _ _) e) fun _ _ y => y
end
noncomputable def getV : List Value → Nat → Option Value
  | [], _ => none
  | x :: _, 0 => some x
  | _ :: r, n + 1 => getV r n
theorem getV_eq : ∀ (l : List Value) (n : Nat), getV l n = l[n]?
  | [], _ => by simp [getV]
  | x :: _, 0 => by simp [getV]
  | _ :: r, n + 1 => by simpa [getV] using getV_eq r n
theorem item_l {prog : Program} {w : World} {A : Around} {E : Value → Shared → Prop} {s : Shared} {value slice : PySem.Expr} {l : Addr} {vs : List Value} {k : Int} {u : Tok} {v : Value} {Q : Value → Shared → Prop}
    (hl : s.heap.IsList l vs.toArray) (h0 : 0 ≤ k) (hhi : k < 2 ^ 63) (hx : getV vs k.toNat = some v) (h : Q v s)
    (hs : subscripted slice false (.ref l) (.int k u) = operate [.ref l, .int k u] (getItem (.ref l) (.int k u))) :
    wpAny (model prog w) A (subscriptTail value slice (.ref l) (.int k u)) Q E s :=
  tail_any hl.typeIs slot_list_getitem.lookup (wpAny_getItem_list hl h0 hhi (by rw [getV_eq] at hx; simpa using hx) h) hs
theorem allLt_ne {D : Addr} {l : List (Addr × Obj)} {p : Addr × Obj} (h : AllLt D l) (m : p ∈ l) : p.1 ≠ D := by
  induction l with
  | nil => cases m
  | cons q r ih => rcases List.mem_cons.mp m with rfl | m; exact Nat.ne_of_lt h.1; exact ih h.2 m
theorem ne_of_ltA {a b : Addr} (h : @LT.lt Nat _ a b) : a ≠ b := Nat.ne_of_lt h
theorem ne_of_ltB {a b : Addr} (h : @LT.lt Nat _ b a) : a ≠ b := Nat.ne_of_gt h
theorem neAll {a D : Addr} {o : Obj} {l : List (Addr × Obj)} (h : AllLt D l) (m : (a, o) ∈ l) : a ≠ D := allLt_ne h m
theorem neAll' {a D : Addr} {o : Obj} {l : List (Addr × Obj)} (h : AllLt D l) (m : (a, o) ∈ l) : D ≠ a := Ne.symm (allLt_ne h m)
theorem offI {a I C D : Addr} {o : Obj} {l : List (Addr × Obj)} (h : LCg.Off3 I C D l) (m : (a, o) ∈ l) : a ≠ I := (h.mem _ m).1
theorem offC {a I C D : Addr} {o : Obj} {l : List (Addr × Obj)} (h : LCg.Off3 I C D l) (m : (a, o) ∈ l) : a ≠ C := (h.mem _ m).2.1
theorem offD {a I C D : Addr} {o : Obj} {l : List (Addr × Obj)} (h : LCg.Off3 I C D l) (m : (a, o) ∈ l) : a ≠ D := (h.mem _ m).2.2
end
section
-- B1
open PySem PySem.W PyProof.Rows PySem.Spec PySem.Calls
section
variable {prog : Program} {w : World} {A : Around} {E : Value → Shared → Prop} {s : Shared} {h₀ : Heap} {L : Addr} {m : Str → Option Value} {env : Env}
/-- an iterator stands ready, and the turns of a comprehension over it are told -/
noncomputable def CompAt (prog : Program) (w : World) (A : Around) (h₀ : Heap) (L : Addr) (m : Str → Option Value) (env : Env) (elt : Expr) (x : Str) (scope : Scope) (cl : List (Str × Addr)) (Fin : Shared → List Value → List (Addr × Obj) → Prop) (it : Value) (s₂ : Shared) : Prop :=
  ∃ (I : Addr) (fp : List Addr) (n : Nat) (P : Nat → Value → Prop) (St : Nat → Heap → Prop) (S : List (Addr × Obj) → Prop) (news : List (Addr × Obj)), it = .ref I ∧ Walks prog w A I fp [I] n P St ∧ n ≤ sizeLine ∧ (∀ i h, St i h → ∃ o, h.get? I = some o) ∧
    (∀ i h h' o nw, St i h → h.get? I = some o → h'.get? I = some o → (∀ b o, h₀.get? b = some o → h'.get? b = some o) → News h₀ L h' nw → S nw → St i h') ∧
    St 0 s₂.heap ∧ (∀ b ∈ fp, b < s₂.heap.objs.size) ∧ Fr h₀ L s₂.heap m ∧ News h₀ L s₂.heap news ∧ L ≠ I ∧ h₀.get? I = none ∧ (∀ p ∈ news, p.1 ≠ I) ∧ S news ∧
    LCg.CompRest prog w A h₀ L m env elt x scope cl s₂ S P (Fin s₂) n 0 [] news
theorem comp_over {elt iter : Expr} {x : Str} {px : Pos} {scope : Scope} {cl : List (Str × Addr)} {pos : Pos} {Q : Value → Shared → Prop}
    (_F₀ : Fr h₀ L s.heap m) (hclos : closureFor scope env = pure cl) (hcell : ∀ y ∈ scope.names, y.2 ≠ .cell) (hkind : scope.kind = .function)
    (hnames : ∀ y ∈ scope.names, y.2 = .local → scope.names.lookup y.1 = some .local) (hx : scope.names.lookup x = some .local)
    (h : wpAny (model prog w) A (eval iter env) (fun xv s₁ => wpAny (model prog w) A (pyIter xv) (fun it s₂ => CompAt prog w A h₀ L m env elt x scope cl (fun s₂ => LCg.FinE h₀ L m s₂ Q) it s₂) E s₁) E s)
    (hs : ∀ x, foldedSetIterable iter env x = pure x := by intro _; rfl) :
    wpAny (model prog w) A (eval (.ListComp elt [⟨.Name x px, iter, [], 0⟩] scope pos) env) Q E s := by
  rw [eval_ListComp]
  refine wpAny_comprehension_free (use := none) rfl hs hclos hkind hnames (wpAny_mono h (fun xv s₁ h₁ => wpAny_mono h₁ (fun it s₂ h₂ => ?_) fun _ _ e => e) fun _ _ e => e)
  obtain ⟨I, fp, n, P, St, S, news, rfl, W, hsz, hIo, hSt, hst, hfp, F, N, hIL, hI₀, off, hS, R⟩ := h₂
  refine LCg.block_U W hsz hIo hSt hcell hkind hx hst hfp F N hIL hI₀ off hS R ?_
  intro D C h' tk m' ys news' F' N' o1 hn hC₀ hD₀ hCL hDL hCD offC fin
  refine ⟨m', hn, fun h'' hs'' => fin D h'' tk (F'.change hs'' hCL hC₀) (fun p hp => ?_) o1⟩
  refine ⟨hs''.extBut _ _ ?_ (N' p hp).1, (N' p hp).2⟩
  rcases List.mem_cons.mp hp with rfl | hp
  · exact Ne.symm hCD
  · exact offC p hp
/-- the source is a text -/
theorem compAt_str {elt : Expr} {x : Str} {scope : Scope} {cl : List (Str × Addr)} {Fin : Shared → List Value → List (Addr × Obj) → Prop} {y : Str} {t : Tok} {news : List (Addr × Obj)}
    (hh : A.handled = none) (F : Fr h₀ L s.heap m) (N : News h₀ L s.heap news) (hsz : y.cps.size ≤ sizeLine)
    (h : ∀ g, LCg.CompRest prog w A h₀ L m env elt x scope cl { s with heap := g } (fun _ => True) (SignAt y) (Fin { s with heap := g }) y.cps.size 0 [] news) :
    wpAny (model prog w) A (pyIter (.str y t)) (fun it s₂ => CompAt prog w A h₀ L m env elt x scope cl Fin it s₂) E s := by
  have st : ∀ {ty : String} i (h h' : Heap) (o : Obj) (nw : List (Addr × Obj)), h.IsStrIter s.heap.objs.size ty y t i → h.get? s.heap.objs.size = some o → h'.get? s.heap.objs.size = some o → (∀ b o, h₀.get? b = some o → h'.get? b = some o) → News h₀ L h' nw → True → h'.IsStrIter s.heap.objs.size ty y t i := by
    rintro ty i h h' o nw ⟨o', e', r⟩ e1 e2 _ _ _
    rw [e1] at e'; cases e'
    exact ⟨o, e2, r⟩
  have go : ∀ (ty : String) (o : Obj), (∀ A' : Around, A'.handled = none → Walks prog w A' s.heap.objs.size [s.heap.objs.size] [s.heap.objs.size] y.cps.size (SignAt y) (fun i h => h.IsStrIter s.heap.objs.size ty y t i)) →
      (s.heap.push o).IsStrIter s.heap.objs.size ty y t 0 → CompAt prog w A h₀ L m env elt x scope cl Fin (.ref s.heap.objs.size) { s with heap := s.heap.push o } := by
    intro ty o W st0
    have hf : (s.heap.push o).get? s.heap.objs.size = (s.heap.push o).get? s.heap.objs.size := rfl
    refine ⟨s.heap.objs.size, _, _, _, _, fun _ => True, news, rfl, W A hh, hsz, fun i h ⟨o, e, _⟩ => ⟨o, e⟩, st, st0, ?_, F.push o, fun p hp => ⟨Heap.get?_push_of_some _ (N p hp).1, (N p hp).2⟩, Nat.ne_of_lt F.ns.lt, next_is_new F, fun p hp => Nat.ne_of_lt (Heap.lt_size (N p hp).1), trivial, h _⟩
    intro b hb
    rw [List.mem_singleton.mp hb]
    show _ < (s.heap.push o).objs.size
    rw [Heap.size_push]; exact Nat.lt_succ_self _
  cases ha : y.cps.all (· < 128)
  · exact wpAny_pyIter_wide ha (go _ _ (fun A' hA => Walks.strWide hA _ y t) ⟨_, Heap.get?_push_size _ rfl, rfl, rfl⟩)
  · exact wpAny_pyIter_ascii ha (go _ _ (fun A' hA => Walks.strAscii hA _ y t) ⟨_, Heap.get?_push_size _ rfl, rfl, rfl⟩)
/-- what a turn gives, the ledger as it was -/
noncomputable def Turned (news : List (Addr × Obj)) (O : Nat → Value → Prop) (i : Nat) (y : Value) (news' : List (Addr × Obj)) : Prop := news' = news ∧ O i y
/-- turns that leave the ledger as it is: what each gives is told by O -/
theorem turns_all {elt : Expr} {x : Str} {scope : Scope} {cl : List (Str × Addr)} {S : List (Addr × Obj) → Prop} {n : Nat} {P : Nat → Value → Prop} {Fin : List Value → List (Addr × Obj) → Prop} {news : List (Addr × Obj)} (O : Nat → Value → Prop)
    (turn : ∀ i v I oI C oC D m₂ ys h tk (E' : Value → Shared → Prop), i < n → P i v → LCg.NsObj oC m₂ → m₂ x = some v → Fr h₀ L h m → News h₀ L h ((I, oI) :: (C, oC) :: (D, LCg.lst ys) :: news) → LCg.Off3 I C D news → ((@Ne Nat I C) ∧ (@Ne Nat I D) ∧ (@Ne Nat C D)) →
      wpAny (model prog w) A (eval elt (compEnvC scope cl C env)) (LCg.CompEnd h₀ L m { s with heap := h, toks := tk } I oI C oC D (LCg.lst ys) S (Turned news O i)) E' { s with heap := h, toks := tk })
    (fin : ∀ ys : List Value, ys.length = n → (∀ (i : Nat) (y : Value), ys[i]? = some y → O i y) → Fin ys news) : LCg.CompRest prog w A h₀ L m env elt x scope cl s S P Fin n 0 [] news := by
  have key : ∀ (j i : Nat) (ys : List Value), i + j = n → ys.length = i → (∀ (k : Nat) (y : Value), ys[k]? = some y → O k y) → LCg.CompRest prog w A h₀ L m env elt x scope cl s S P Fin j i ys news := by
    intro j
    induction j with
    | zero => intro i ys hi hl hy; exact LCg.CompRest.zero (fin ys (by omega) hy)
    | succ j ih =>
      intro i ys hi hl hy
      refine LCg.CompRest.succ ?_
      intro v I oI C oC D m₂ h tk E' hv hC hx F N off ne
      refine wpAny_mono (turn i v I oI C oC D m₂ ys h tk E' (by omega) hv hC hx F N off ne) (fun y s₂ hq => ?_) fun _ _ e => e
      obtain ⟨h', tk', nw, e, F', N', off', hS, hn, hO⟩ := hq
      subst hn
      refine ⟨h', tk', nw, e, F', N', off', hS, ih (i + 1) _ (by omega) (by simp [hl]) ?_⟩
      intro k z hz
      by_cases hk : k < ys.length
      · rw [List.getElem?_append_left hk] at hz; exact hy k z hz
      · rw [List.getElem?_append_right (by omega)] at hz
        have h0 : k - ys.length = 0 := by
          cases hq : k - ys.length with
          | zero => rfl
          | succ r => rw [hq] at hz; simp at hz
        rw [h0] at hz
        simp at hz
        subst hz
        have : k = i := by omega
        subst this; exact hO
  exact key n 0 [] (by omega) rfl (by simp)
theorem strs_of {g : Nat → Str} {cs : List Nat} : ∀ {ys : List Value}, ys.length = cs.length → (∀ (i : Nat) (y : Value), ys[i]? = some y → ∃ c t, cs[i]? = some c ∧ y = Value.str (g c) t) → ∃ l : List (Str × Tok), ys = strValues l ∧ l.map (·.1) = cs.map g := by
  induction cs with
  | nil => intro ys hl _; exact ⟨[], by simpa [strValues] using hl, rfl⟩
  | cons c r ih =>
    intro ys hl hy
    match ys, hl with
    | y :: yr, hl =>
      obtain ⟨c', t, e, hv⟩ := hy 0 y rfl
      simp at e
      subst e
      obtain ⟨l, e1, e2⟩ := ih (ys := yr) (by simpa using hl) fun i z hz => by simpa using hy (i + 1) z (by simpa using hz)
      exact ⟨(g c, t) :: l, by simp [strValues, hv, e1], by simp [e2]⟩
end
end
section
-- B2
open PySem PySem.W PyProof.Rows PySem.Spec PySem.Calls
theorem join0_fold (e : Array Nat) (he : e = #[]) : ∀ (ts : List Str) (a : Array Nat), (ts.foldl (fun acc p => acc ++ e ++ p.cps) a).toList = a.toList ++ (ts.map (·.cps.toList)).flatten := by
  subst he
  intro ts
  induction ts with
  | nil => intro a; simp
  | cons t r ih => intro a; rw [List.foldl_cons, ih]; simp
theorem empty_cps : (Str.ofString "").cps = #[] := by decide +kernel
theorem join0 (ts : List Str) : (Txt.join (Str.ofString "") ts).cps.toList = (ts.map (·.cps.toList)).flatten := by
  unfold Txt.join Builtin.Str.glued
  cases ts with
  | nil => rfl
  | cons t r =>
    show ((r.foldl (fun acc p => acc ++ (Str.ofString "").cps ++ p.cps) t.cps)).toList = _
    rw [join0_fold _ empty_cps]; simp
theorem length_toList (x : Str) : x.length = x.cps.toList.length := by show x.cps.size = _; simp
theorem flatten_len {k : Nat} : ∀ (l : List (List Nat)), (∀ x ∈ l, x.length ≤ k) → l.flatten.length ≤ l.length * k := by
  intro l
  induction l with
  | nil => intro _; simp
  | cons a r ih =>
    intro h
    have h1 := h a (.head _)
    have h2 := ih fun x hx => h x (.tail _ hx)
    simp only [List.flatten_cons, List.length_append, List.length_cons]
    rw [Nat.add_mul, Nat.one_mul]; omega
theorem join0_len {k : Nat} (ts : List Str) (h : ∀ t ∈ ts, t.length ≤ k) : (Txt.join (Str.ofString "") ts).length ≤ ts.length * k := by
  rw [length_toList, join0]
  have := flatten_len (k := k) (ts.map (·.cps.toList)) (by
    intro x hx
    obtain ⟨t, ht, rfl⟩ := List.mem_map.mp hx
    have := h t ht
    rwa [length_toList] at this)
  simpa using this
theorem joinOk_of (sep : Str) (hs : sep.length ≤ 2) (ts : List Str) (hn : ts.length ≤ 1000) (h : ∀ t ∈ ts, t.length ≤ 1000) : JoinOk sep ts = true := by
  have key : ∀ (l : List Str) (n : Nat), (∀ t ∈ l, t.length ≤ 1000) → l.foldl (· + ·.length + sep.length) n ≤ n + l.length * 1002 := by
    intro l
    induction l with
    | nil => intro n _; simp
    | cons t r ih =>
      intro n hl
      have h1 := hl t (.head _)
      have := ih (n + t.length + sep.length) fun u hu => hl u (.tail _ hu)
      simp only [List.foldl_cons, List.length_cons] at this ⊢
      omega
  have := key ts 0 h
  unfold JoinOk Builtin.Str.tooLong
  rw [List.foldl_toArray, PySem.sizeLine_eq]
  simp only [Bool.not_eq_true', decide_eq_false_iff_not]
  omega
end
section
-- B3
open PySem PySem.W PyProof.Rows PySem.Spec PySem.Calls
noncomputable abbrev lexD (P : Params) (t1 t2 t3 t4 t5 t6 : Tok) (no : Int) (st pb : Addr) : Obj :=
  dictOf [⟨PyData.keyHash P (Str.ofString "lineno"), .str (Str.ofString "lineno") t1, .int no t2⟩, ⟨PyData.keyHash P (Str.ofString "instream"), .str (Str.ofString "instream") t3, .ref st⟩,
    ⟨PyData.keyHash P (Str.ofString "whitespace"), .str (Str.ofString "whitespace") t4, .str (Str.ofString "\n\t\x0d ") t5⟩, ⟨PyData.keyHash P (Str.ofString "pushback"), .str (Str.ofString "pushback") t6, .ref pb⟩] 4
noncomputable abbrev strD (P : Params) (t1 t2 t3 t4 t5 t6 t7 : Tok) (pb fn : Addr) : Obj :=
  dictOf [⟨PyData.keyHash P (Str.ofString "lineno"), .str (Str.ofString "lineno") t1, .int 1 t2⟩, ⟨PyData.keyHash P (Str.ofString "instream"), .str (Str.ofString "instream") t3, .none⟩,
    ⟨PyData.keyHash P (Str.ofString "whitespace"), .str (Str.ofString "whitespace") t4, .str (Str.ofString "\n\t\x0d ") t5⟩, ⟨PyData.keyHash P (Str.ofString "pushback"), .str (Str.ofString "pushback") t6, .ref pb⟩,
    ⟨PyData.keyHash P (Str.ofString "read"), .str (Str.ofString "read") t7, .ref fn⟩] 5
noncomputable abbrev lamO (c cd : Addr) (pm ct : Value) : Obj :=
  kla_obj (Str.ofString "<lambda>") (Str.ofString "_law_lexer.<locals>.<lambda>")
    { posonlyargs := [], args := [{ arg := Str.ofString "count", annotation := none, pos := ⟨150, 25, 150, 30⟩ }], vararg := none, kwonlyargs := [], kw_defaults := [], kwarg := none, defaults := [] }
    (.IfExp (.Name (Str.ofString "left") ⟨150, 47, 150, 51⟩)
      (.Call (.Attribute (.Name (Str.ofString "left") ⟨150, 32, 150, 36⟩) (Str.ofString "pop") ⟨150, 32, 150, 40⟩) [.Constant (.int 0) 0 ⟨150, 41, 150, 42⟩] [] ⟨150, 32, 150, 43⟩)
      (.Constant (.str (Str.ofString "")) 0 ⟨150, 57, 150, 59⟩) ⟨150, 32, 150, 59⟩)
    { kind := .function, names := [(Str.ofString "count", .local), (Str.ofString "left", .free)], isGenerator := false, isCoroutine := false }
    [(Str.ofString "left", c)] pm cd ct
-- the fixed parts of a lexer 
set_option genInjectivity false in
set_option genSizeOf false in
structure LX where
  lx : Addr
  dx : Addr
  pb : Addr
  st : Addr
  sd : Addr
  sp : Addr
  fn : Addr
  cd : Addr
  cl : Addr
  lf : Addr
  t1 : Tok
  t3 : Tok
  t4 : Tok
  t5 : Tok
  t6 : Tok
  u1 : Tok
  u2 : Tok
  u3 : Tok
  u4 : Tok
  u5 : Tok
  u6 : Tok
  u7 : Tok
  pm : Value
  ct : Value
  oc : Obj
  vs : Array Value
  tq : Tok
  ol : Obj
set_option genInjectivity false in
set_option genSizeOf false in
structure LX.Ok (a : LX) : Prop where
  ord : @LT.lt Nat _ a.cl a.sd ∧ @LT.lt Nat _ a.sd a.st ∧ (@Ne Nat a.st a.lf ∧ @Ne Nat a.sd a.lf ∧ @Ne Nat a.cl a.lf ∧ @LT.lt Nat _ a.st a.cd) ∧ @LT.lt Nat _ a.lf a.cd ∧ @LT.lt Nat _ a.cd a.fn ∧ @LT.lt Nat _ a.fn a.dx ∧ @LT.lt Nat _ a.dx a.lx ∧ @LT.lt Nat _ a.lx a.pb
  code : a.oc.data = .fields a.vs
  qual : a.vs[1]? = some (.str (Str.ofString "_law_lexer.<locals>.<lambda>") a.tq)
  cell : a.ol.data = .cell (some (.ref a.lf))
/-- a lexer: left the signs that it has not read, back what is pushed back -/
noncomputable abbrev LX.led (a : LX) (P : Params) (no : Int) (t2 : Tok) (back : List Value) (e1 : Nat) (left : List Value) (e2 : Nat) : List (Addr × Obj) :=
  [(a.pb, listOf back.toArray e1), (a.lx, instObj 150 a.dx), (a.dx, lexD P a.t1 t2 a.t3 a.t4 a.t5 a.t6 no a.st a.pb), (a.fn, lamO a.cl a.cd a.pm a.ct), (a.cd, a.oc), (a.lf, listOf left.toArray e2), (a.st, instObj 150 a.sd), (a.sd, strD P a.u1 a.u2 a.u3 a.u4 a.u5 a.u6 a.u7 a.sp a.fn), (a.cl, a.ol)]
theorem sign_eq {c n : Nat} {x : Str} (hx : x = ⟨#[n]⟩) : ((⟨#[c]⟩ : Str) == x) = decide (c = n) := by
  subst hx
  by_cases h : c = n
  · subst h; simp
  · rw [decide_eq_false h]
    refine beq_eq_false_iff_ne.mpr fun e => h ?_
    injection e with e
    simpa using e
theorem nl_is : Str.ofString "\n" = ⟨#[10]⟩ := by decide +kernel
theorem pop0 {prog : Program} {w : World} {A : Around} {E : Value → Shared → Prop} {s : Shared} {h₀ : Heap} {L D : Addr} {m : Str → Option Value} {news news' : List (Addr × Obj)} {n : Nat} {y : Value} {q : List Value} {u : Tok} {Q : Value → Shared → Prop}
    (F : Fr h₀ L s.heap m) (N : News h₀ L s.heap news) (U : Upd D (listOf (y :: q).toArray n) (listOf q.toArray (n + 1)) news news') (hz : q.length ≤ 100000)
    (h : ∀ h', Fr h₀ L h' m → News h₀ L h' news' → Q y { s with heap := h' }) : wpAny (model prog w) A (call (.builtin "list.pop") [.ref D, .int 0 u]) Q E s := by
  refine kl_popAt (k := 0) (p := []) (y := y) (q := q) F N (by decide) ?_ ?_ U ?_ h
  · unfold seqIndex?
    have : (0 : Int) < (((y :: q).toArray.size : Nat) : Int) := by simp
    simp only [Int.lt_irrefl, if_false]
    rw [if_pos (by simp)]; rfl
  · rfl
  · rw [PySem.sizeLine_eq]; simp; omega
end
section
-- B4
open PySem PySem.W PyProof.Rows PySem.Spec PySem.Calls
set_option maxRecDepth 100000
theorem cit_owner : Manifest.owners.lookup (String.ofList ['r', 'o', 't', 'a', 'r', 'e', 't', 'i', '_', 'e', 'l', 'b', 'a', 'l', 'l', 'a', 'c'].reverse) = some Manifest.sig_callable_iterator := by kernel_rfl
theorem cit_slot_next : Slot "callable_iterator" "__next__" "callable_iterator.__next__" :=
  .of (owner := "callable_iterator") (n := "__next__") (by rw [typeLookup_type, builtinLookup_eq_fast]; kernel_rfl) (by decide +kernel) (by decide +kernel) (by decide +kernel)
    (by first | exact .inl (by decide +kernel) | exact .inr (by decide +kernel)) (by rw [isSubtype_type]; kernel_rfl)
theorem cit_entry_next : entryFor table "callable_iterator.__next__" = some Builtin.«callable_iterator.__next__» := entryFor_of_tree (by kernel_rfl)
theorem cit_args_next (a : Value) : argsOk "callable_iterator.__next__" ⟨[a], []⟩ := by
  unfold argsOk; rw [signature?_of (id := "callable_iterator.__next__") (n := ['_', '_', 't', 'x', 'e', 'n', '_', '_']) (o := ['r', 'o', 't', 'a', 'r', 'e', 't', 'i', '_', 'e', 'l', 'b', 'a', 'l', 'l', 'a', 'c']) (by kernel_rfl) cit_owner]; kernel_rfl
theorem cit_slot_iter : Slot "callable_iterator" "__iter__" "callable_iterator.__iter__" :=
  .of (owner := "callable_iterator") (n := "__iter__") (by rw [typeLookup_type, builtinLookup_eq_fast]; kernel_rfl) (by decide +kernel) (by decide +kernel) (by decide +kernel)
    (by first | exact .inl (by decide +kernel) | exact .inr (by decide +kernel)) (by rw [isSubtype_type]; kernel_rfl)
theorem cit_entry_iter : entryFor table "callable_iterator.__iter__" = some Builtin.«dict_keyiterator.__iter__» :=
  entryFor_alias (id' := "dict_keyiterator.__iter__") (by kernel_rfl) rfl (by decide +kernel) (by kernel_rfl)
theorem cit_args_iter (a : Value) : argsOk "callable_iterator.__iter__" ⟨[a], []⟩ := by
  unfold argsOk; rw [signature?_of (id := "callable_iterator.__iter__") (n := ['_', '_', 'r', 'e', 't', 'i', '_', '_']) (o := ['r', 'o', 't', 'a', 'r', 'e', 't', 'i', '_', 'e', 'l', 'b', 'a', 'l', 'l', 'a', 'c']) (by kernel_rfl) cit_owner]; kernel_rfl
noncomputable abbrev citO (f : Value) (t : Tok) : Obj := { cls := .type "callable_iterator", data := .fields #[f, .str (Str.ofString "") t, .bool false] }
noncomputable abbrev citEnd : Obj := { cls := .type "callable_iterator", data := .fields #[.none, .none, .bool true] }
section
variable {prog : Program} {w : World} {A : Around} {E : Value → Shared → Prop} {s : Shared}
theorem cit_iter {it : Addr} {f : Value} {t : Tok} {Q : Value → Shared → Prop} (hit : s.heap.get? it = some (citO f t)) (h : Q (.ref it) s) :
    wpAny (model prog w) A (pyIter (.ref it)) Q E s := by
  have ty : s.TypeIs (.ref it) "callable_iterator" := ⟨_, hit, rfl⟩
  refine wpAny_pyIter_slot ty cit_slot_iter (wpAny_call_entry cit_slot_iter ty cit_entry_iter ?_ (cit_args_iter _))
  show wpAny _ _ (ret (.ref it)) _ _ s
  exact wpAny_pure ⟨_, rfl, "callable_iterator", _, ty, cit_slot_next.lookup, h⟩
theorem borrows_method {q fa : Addr} {self : Value} {fo : Obj} {fd : FuncData} {Q : Bool → Shared → Prop} (hq : s.heap.get? q = some (methodObj (.ref fa) self)) (hf : s.heap.get? fa = some fo) (hd : fo.data = .func fd) (h : Q true s) :
    wpAny (model prog w) A (borrowsExactly (.ref q)) Q E s := by
  unfold borrowsExactly
  refine wpAny_bind (wpAny_load hq ?_)
  show wpAny _ _ (load fa >>= _) _ _ s
  refine wpAny_bind (wpAny_load hf ?_)
  rw [hd]; exact wpAny_pure h
end
end
section
-- B5
open PySem PySem.W PyProof.Rows PySem.Spec PySem.Calls
set_option maxRecDepth 100000
section
variable {prog : Program} {w : World} {A : Around} {E : Value → Shared → Prop} {s : Shared}
theorem cit_next {it q fa : Addr} {self : Value} {fo : Obj} {fd : FuncData} {ts : Tok} {Q : Option Value → Shared → Prop} (hit : s.heap.get? it = some (citO (.ref q) ts))
    (hq : s.heap.get? q = some (methodObj (.ref fa) self)) (hf : s.heap.get? fa = some fo) (hd : fo.data = .func fd)
    (hc : codeAny (model prog w) A.in1 (.call (.ref fa) ⟨[self], []⟩) (fun r s' => ∃ x t, r = .ok (.ret (.str x t)) ∧ x ≠ Str.ofString "" ∧ s'.heap.get? it = some (citO (.ref q) ts) ∧ Q (some (.str x t)) s') s) :
    wpAny (model prog w) A (pyNext (.ref it)) Q E s := by
  have ty : s.TypeIs (.ref it) "callable_iterator" := ⟨_, hit, rfl⟩
  unfold pyNext
  refine wpAny_bind (wpAny_attempt (wpAny_callSpecial?_slot (name := Str.ofString "__next__") ty cit_slot_next (wpAny_call_entry cit_slot_next ty cit_entry_next ?_ (cit_args_next _))))
  show wpAny _ _ (field (.ref it) 2 >>= _) _ _ s
  refine wpAny_bind (wpAny_field hit rfl (x := .bool false) rfl ?_)
  show wpAny _ _ (if (Value.bool false == Value.bool true) = true then _ else _) _ _ s
  rw [if_neg (by decide)]
  show wpAny _ _ (field (.ref it) 0 >>= _) _ _ s
  refine wpAny_bind (wpAny_field hit rfl (x := .ref q) rfl ?_)
  refine wpAny_bind (wpAny_attempt ?_)
  unfold callOutOfASlot
  refine wpAny_bind (borrows_method hq hf hd ?_)
  show wpAny _ _ (callBorrowed (.ref q) []) _ _ s
  unfold callBorrowed
  refine X.x_call ?_ (by intro h; cases h)
  refine method_call hq ?_
  refine codeAny_mono hc ?_
  rintro r s' ⟨x, t, rfl, hx, hi, hQ⟩
  show wpAny _ _ (Sem.pure (Value.str x t)) _ _ s'
  refine wpAny_pure ?_
  show wpAny _ _ (field (.ref it) 2 >>= _) _ _ s'
  refine wpAny_bind (wpAny_field hi rfl (x := .bool false) rfl ?_)
  show wpAny _ _ (if (Value.bool false == Value.bool true) = true then _ else _) _ _ s'
  rw [if_neg (by decide)]
  show wpAny _ _ (field (.ref it) 1 >>= _) _ _ s'
  refine wpAny_bind (wpAny_field hi rfl (x := .str (Str.ofString "") ts) rfl ?_)
  refine wpAny_bind (wpAny_holding (wpAny_eqBool_str ?_))
  rw [decide_eq_false (fun h => hx h.symm)]
  show wpAny _ _ (ret _ >>= _) _ _ s'
  refine wpAny_bind (wpAny_pure ?_)
  exact wpAny_pure ⟨_, rfl, wpAny_pure hQ⟩
theorem cit_next_end {it q fa : Addr} {self : Value} {fo : Obj} {fd : FuncData} {ts : Tok} {Q : Option Value → Shared → Prop} (hh : A.handled = none) (hit : s.heap.get? it = some (citO (.ref q) ts))
    (hq : s.heap.get? q = some (methodObj (.ref fa) self)) (hf : s.heap.get? fa = some fo) (hd : fo.data = .func fd)
    (hc : codeAny (model prog w) A.in1 (.call (.ref fa) ⟨[self], []⟩) (fun r s' => ∃ t, r = .ok (.ret (.str (Str.ofString "") t)) ∧ s'.heap.get? it = some (citO (.ref q) ts) ∧ s'.heap.get? q = some (methodObj (.ref fa) self) ∧ s'.heap.get? fa = some fo ∧
      ∀ h', (∀ b o, b ≠ it → s'.heap.get? b = some o → h'.get? b = some o) → Q none { s' with heap := h' }) s) :
    wpAny (model prog w) A (pyNext (.ref it)) Q E s := by
  have ty : s.TypeIs (.ref it) "callable_iterator" := ⟨_, hit, rfl⟩
  unfold pyNext
  refine wpAny_bind (wpAny_attempt (wpAny_callSpecial?_slot (name := Str.ofString "__next__") ty cit_slot_next (wpAny_call_entry cit_slot_next ty cit_entry_next ?_ (cit_args_next _))))
  show wpAny _ _ (field (.ref it) 2 >>= _) _ _ s
  refine wpAny_bind (wpAny_field hit rfl (x := .bool false) rfl ?_)
  show wpAny _ _ (if (Value.bool false == Value.bool true) = true then _ else _) _ _ s
  rw [if_neg (by decide)]
  show wpAny _ _ (field (.ref it) 0 >>= _) _ _ s
  refine wpAny_bind (wpAny_field hit rfl (x := .ref q) rfl ?_)
  refine wpAny_bind (wpAny_attempt ?_)
  unfold callOutOfASlot
  refine wpAny_bind (borrows_method hq hf hd ?_)
  show wpAny _ _ (callBorrowed (.ref q) []) _ _ s
  unfold callBorrowed
  refine X.x_call ?_ (by intro h; cases h)
  refine method_call hq ?_
  refine codeAny_mono hc ?_
  rintro r s' ⟨t, rfl, hi, hq', hf', hQ⟩
  show wpAny _ _ (Sem.pure (Value.str (Str.ofString "") t)) _ _ s'
  refine wpAny_pure ?_
  show wpAny _ _ (field (.ref it) 2 >>= _) _ _ s'
  refine wpAny_bind (wpAny_field hi rfl (x := .bool false) rfl ?_)
  show wpAny _ _ (if (Value.bool false == Value.bool true) = true then _ else _) _ _ s'
  rw [if_neg (by decide)]
  show wpAny _ _ (field (.ref it) 1 >>= _) _ _ s'
  refine wpAny_bind (wpAny_field hi rfl (x := .str (Str.ofString "") ts) rfl ?_)
  refine wpAny_bind (wpAny_holding (wpAny_eqBool_str ?_))
  rw [decide_eq_true rfl]
  show wpAny _ _ (rule _ >>= _) _ _ s'
  refine wpAny_bind (wpAny_rule ?_)
  refine wpAny_bind ?_
  show wpAny _ _ (field (.ref it) 0 >>= _) _ _ s'
  refine wpAny_bind (wpAny_field hi rfl (x := .ref q) rfl ?_)
  refine wpAny_bind ?_
  unfold slotLetsGo
  refine wpAny_bind (borrows_method hq' hf' hd ?_)
  refine wpAny_pure ?_
  refine wpAny_bind (wpAny_setField hi rfl (by simp) ?_)
  have e1 : (s'.heap.update it (Obj.mapFields (·.setIfInBounds 0 .none))).get? it = some _ := Heap.get?_update_self (Obj.mapFields (·.setIfInBounds 0 .none)) hi rfl
  refine wpAny_bind (wpAny_setField e1 rfl (by simp) ?_)
  have e2 := Heap.get?_update_self (Obj.mapFields (·.setIfInBounds 1 .none)) e1 rfl
  refine wpAny_setField e2 rfl (by simp) ?_
  show wpAny _ _ (newExc (.type "StopIteration") [] >>= _) _ _ _
  refine wpAny_bind ?_
  simp only [newExc, newTuple]
  refine wpAny_bind (wpAny_newObj_type ?_ (by size_fits))
  refine wpAny_bind (m := firstArgMember _ _) (wpAny_of_eq (a := Value.none) (by first | rfl | (simp only [firstArgMember]; rfl)) ?_)
  refine wpAny_newObj_type ?_ (by size_fits)
  simp only [raiseNew]
  refine wpAny_bind (wpAny_handled ?_)
  rw [show A.in1.handled = none from hh]
  refine wpAny_bind (wpAny_pure (wpAny_throw ?_))
  refine wpAny_bind (wpAny_isInstance (T := "StopIteration") (b := true) ⟨_, Heap.get?_push_size _ rfl, rfl⟩ isSubtype_stop ?_)
  refine wpAny_pure (hQ _ fun b o hb e => ?_)
  refine Heap.get?_push_of_some _ (Heap.get?_push_of_some _ ?_)
  exact ((Heap.SameBut.update ..).2 b hb).trans (((Heap.SameBut.update ..).2 b hb).trans (((Heap.SameBut.update ..).2 b hb).trans e))
end
end
section
-- B6
open PySem PySem.W PyProof.Rows PySem.Spec PySem.Calls
set_option maxRecDepth 100000
noncomputable def white (c : Nat) : Bool := c == 10 || c == 9 || c == 13 || c == 32
/-- within quotation marks -/
noncomputable def lexQ (acc : List Nat) (l : List Nat) : Option (List Nat × List Nat) := match l with
  | [] => none
  | c :: r => if c = 34 then some (acc, r) else if c = 92 then (match r with | [] => none | d :: r' => lexQ (acc ++ [d]) r') else lexQ (acc ++ [c]) r
/-- a bare word -/
noncomputable def lexB (acc : List Nat) (l : List Nat) : Option (List Nat × List Nat) := match l with
  | [] => none
  | c :: r => if white c then some (acc, r) else if c = 92 then (match r with | [] => none | d :: r' => lexB (acc ++ [d]) r') else lexB (acc ++ [c]) r
noncomputable def lexT (l : List Nat) : Option (List Nat × List Nat) := match l with
  | [] => some ([], [])
  | c :: r => if white c then lexT r else if c = 34 then lexQ [] r else if c = 92 then (match r with | [] => none | d :: r' => lexB [d] r') else lexB [c] r
theorem lexQ_nil (acc : List Nat) : lexQ acc [] = none := by rw [lexQ.eq_def]
theorem lexB_nil (acc : List Nat) : lexB acc [] = none := by rw [lexB.eq_def]
theorem lexQ_cons (acc : List Nat) (c : Nat) (r : List Nat) : lexQ acc (c :: r) = if c = 34 then some (acc, r) else if c = 92 then (match r with | [] => none | d :: r' => lexQ (acc ++ [d]) r') else lexQ (acc ++ [c]) r := by rw [lexQ.eq_def]
theorem lexB_cons (acc : List Nat) (c : Nat) (r : List Nat) : lexB acc (c :: r) = if white c then some (acc, r) else if c = 92 then (match r with | [] => none | d :: r' => lexB (acc ++ [d]) r') else lexB (acc ++ [c]) r := by rw [lexB.eq_def]
theorem lexT_cons (c : Nat) (r : List Nat) : lexT (c :: r) = if white c then lexT r else if c = 34 then lexQ [] r else if c = 92 then (match r with | [] => none | d :: r' => lexB [d] r') else lexB [c] r := by rw [lexT.eq_def]
noncomputable def Halt (p : Prop) : Prop := p
theorem Halt.out {p : Prop} (h : Halt p) : p := h
noncomputable def leftV (l : List (Nat × Tok)) : List Value := l.map fun p => .str ⟨#[p.1]⟩ p.2
noncomputable def nls (l : List (Nat × Tok)) : Int := ((l.map (·.1)).count 10 : Nat)
section
variable {D U : Nat} {w : World} {c : Code} {imm led : List (Addr × Obj)} {R : Heap → Value → List (Addr × Obj) → Prop}
    {p : Program} {loose : List Str} {mean : ExcName → Option Value} {mg mb : Str → Option Value} {d u : Nat} {gd : Option (List Code)} {cn : Str} {cs : Scope} {a : Addr} {ccd : Value} {cl : List (Str × Addr)} {outer : List Env} {A₀ : Around} {base h₀ : Heap} {L : Addr} {m : Str → Option Value} {s : Shared} {R2 : Result → Shared → Prop} {news : List (Addr × Obj)}
/-- a contract's use where a code is run -/
theorem Ctr.code (C : Ctr D U w c imm led R) (rest : List (Addr × Obj))
    (hd : d ≤ D) (hu : u ≤ U) (B : Below A₀ base outer h₀) (F : Fr h₀ L s.heap m) (X : (Mine.hd.heap_39 w.params).In h₀) (N : News h₀ L s.heap news) (T : Top p loose mean mg mb h₀) (hk : cs.kind = .function)
    (hs : ∀ q ∈ led, q ∈ news) (hr : ∀ q ∈ rest, q ∈ news) (hne : ∀ q ∈ rest, ∀ r ∈ led, r.1 ≠ q.1)
    (I : ∀ q ∈ imm, s.heap.get? q.1 = some q.2 ∧ ∀ r ∈ led, r.1 ≠ q.1)
    (r : ∀ sz v led' h' tk', R sz v led' → (∀ q ∈ news, sz.get? q.1 = some q.2) → Fr h₀ L h' m → News h₀ L h' (led' ++ rest) → Kept led s.heap h' → R2 (.ok (.ret v)) { s with heap := h', toks := tk' }) :
    codeAny (model P0 w) (ktrTop d u gd cn cs L a ccd cl outer) c R2 s := by
  refine codeAny_mono (C p loose mean mg mb d u gd cn cs a ccd cl outer A₀ base h₀ L m s (fun v s' => R2 (.ok (.ret v)) s') (fun e s' => R2 (.error e) s') hd hu B F X (fun q hq => N q (hs q hq)) I T hk fun v led' h' tk' hR F' N' k =>
    r _ v led' h' tk' hR (fun q hq => (N q hq).1) F' (fun q hq => (List.mem_append.mp hq).elim (N' q) fun hq => k.news (fun p hp => N p (hr p hp)) hne q hq) k) ?_
  intro r s' h
  match r, h with
  | .ok (.ret v), h => exact h
  | .error e, h => exact h
end
theorem method_call_slot : typeLookup (.type "method") "__call__" = pure (some (.builtin "method.__call__")) := by rw [typeLookup_type, builtinLookup_eq_fast]; kernel_rfl
section
variable {prog : Program} {w : World} {A : Around} {E : Value → Shared → Prop} {s : Shared} {h₀ : Heap} {L : Addr} {m : Str → Option Value} {news : List (Addr × Obj)}
theorem iter2 {q : Addr} {f self : Value} {t : Tok} {Q : Value → Shared → Prop} (F : Fr h₀ L s.heap m) (N : News h₀ L s.heap news) (hq : (q, methodObj f self) ∈ news)
    (h : ∀ it h', Fr h₀ L h' m → News h₀ L h' ((it, citO (.ref q) t) :: news) → (∀ p ∈ news, p.1 < it) → Q (.ref it) { s with heap := h' }) :
    wpAny (model prog w) A (call (.builtin "iter") [.ref q, .str (Str.ofString "") t]) Q E s := by
  refine call_function_entry (by decide +kernel) (by decide +kernel) kdk_entry_iter (by unfold argsOk; kernel_rfl) ?_
  unfold Builtin.«iter»
  refine wpAny_bind (m := someArgs "iter" 1 2 _) (wpAny_of_eq (a := [Value.ref q, .str (Str.ofString "") t]) (by first | rfl | kernel_rfl!) ?_)
  refine wpAny_bind (wpAny_specialOf (T := "method") ⟨_, (N _ hq).1, rfl⟩ method_call_slot ?_)
  show wpAny _ _ (if (some (Value.builtin "method.__call__")).isNone = true then _ else _) _ _ s
  rw [if_neg (by simp)]
  refine wpAny_bind (wpAny_rule ?_)
  refine wpAny_bind (wpAny_newObj_type ?_ (by size_fits))
  refine wpAny_pure ⟨_, rfl, ?_⟩
  exact h _ _ (F.push _) (N.push F _) fun p hp => Heap.lt_size (N p hp).1
end
noncomputable def Again (I : Nat → Shared → Prop) (n : Nat) (s : Shared) : Prop := ∃ m, m < n ∧ I m s
theorem loop_by {prog : Program} {w : World} {A : Around} {s : Shared} {R : Result → Shared → Prop} {target : Expr} {it : Value} {body : List Stmt} {env : Env} (I : Nat → Shared → Prop)
    (turn : ∀ n s, I n s → wpAny (model prog w) A (pyNext it) (fun r s₁ => match r with
      | none => wpAny (model prog w) A (execs [] env) (fun f s₃ => R (.ok f) s₃) (notedBy (model prog w) A env fun e s' => R (.error e) s') s₁
      | some v => wpAny (model prog w) A (assign target env v) (fun _ s₂ => wpAny (model prog w) A (execs body env) (fun f s₃ => match f with
          | .next | .cont => Again I n s₃
          | .brk => R (.ok .next) s₃
          | .ret v => R (.ok (.ret v)) s₃) (notedBy (model prog w) A env fun e s' => R (.error e) s') s₂) (notedBy (model prog w) A env fun e s' => R (.error e) s') s₁) (notedBy (model prog w) A env fun e s' => R (.error e) s') s)
    (n : Nat) (h : I n s) (ht : ∀ v, letOwnedTupleGo target it v = pure () := by intro _; rfl) : codeAny (model prog w) A (.forLoop target it body [] env) R s :=
  codeAny_forLoop I turn n h ht
theorem swap2 {α : Type} {x y z : α} {L : List α} (h : z ∈ x :: y :: L) : z ∈ L ++ [x, y] := by
  rcases List.mem_cons.mp h with rfl | h
  · simp
  · rcases List.mem_cons.mp h with rfl | h
    · simp
    · simp [h]
theorem sign_ne (c : Nat) : (⟨#[c]⟩ : Str) ≠ Str.ofString "" := fun e => by
  have h : (Str.ofString "").cps.size = 0 := by decide +kernel
  rw [← e] at h
  simp at h
theorem frNorm {g h : Heap} {L : Addr} {m : Str → Option Value} {va vb vc : Value} (F : Fr g L h m) (a : m (Str.ofString "self") = some va) (b : m (Str.ofString "fiter") = some vb) (c : m (Str.ofString "token") = some vc) :
    Fr g L h (fun y => if y = Str.ofString "self" then some va else if y = Str.ofString "fiter" then some vb else if y = Str.ofString "token" then some vc else m y) := by
  have e : m = (fun y => if y = Str.ofString "self" then some va else if y = Str.ofString "fiter" then some vb else if y = Str.ofString "token" then some vc else m y) := by
    funext y
    split
    · rename_i h; rw [h, a]
    · split
      · rename_i h; rw [h, b]
      · split
        · rename_i h; rw [h, c]
        · rfl
  rw [← e]; exact F
noncomputable def GT (w : World) (g : Heap) (L' : Addr) (a : LX) (q it : Addr) (ts : Tok) (e1 : Nat) (s : Shared) (no : Int) (x : Str) (l : List (Nat × Tok)) (s' : Shared) : Prop :=
  ∃ h tk m t2 e2 tt, s' = { s with heap := h, toks := tk } ∧ Fr g L' h m ∧ m (Str.ofString "self") = some (.ref a.lx) ∧ m (Str.ofString "fiter") = some (.ref it) ∧ m (Str.ofString "token") = some (.str x tt) ∧
    News g L' h ((it, citO (.ref q) ts) :: (q, methodObj (.ref 133) (.ref a.lx)) :: a.led w.params no t2 [] e1 (leftV l) e2)
noncomputable def LoopI (lex : List Nat → List Nat → Option (List Nat × List Nat)) (w : World) (g : Heap) (L' : Addr) (a : LX) (q it : Addr) (ts : Tok) (e1 : Nat) (s : Shared) (no : Int) (l0 : List (Nat × Tok)) (tok rest : List Nat) (n : Nat) (s' : Shared) : Prop :=
  ∃ no' l x, n = l.length ∧ l.length + x.length < 10001 ∧ lex x.cps.toList (l.map (·.1)) = some (tok, rest) ∧ no' = no + nls l0 - nls l ∧ GT w g L' a q it ts e1 s no' x l s'
noncomputable def lexT' (acc : List Nat) (l : List Nat) : Option (List Nat × List Nat) := if acc = [] then lexT l else none
theorem snoc_len {x : Str} {c : Nat} : (x ++ (⟨#[c]⟩ : Str)).length = x.length + 1 := by
  show (x.cps ++ #[c]).size = x.cps.size + 1
  simp
theorem snoc_list {x : Str} {c : Nat} : (x ++ (⟨#[c]⟩ : Str)).cps.toList = x.cps.toList ++ [c] := by
  show (x.cps ++ #[c]).toList = _
  simp
end
section
-- B7
open PySem PySem.W PyProof.Rows PySem.Spec PySem.Calls
noncomputable abbrev lexE (P : Params) (t1 t2 t3 t4 t5 t6 : Tok) (no : Int) (inst : Value) (pb : Addr) : Obj :=
  dictOf [⟨PyData.keyHash P (Str.ofString "lineno"), .str (Str.ofString "lineno") t1, .int no t2⟩, ⟨PyData.keyHash P (Str.ofString "instream"), .str (Str.ofString "instream") t3, inst⟩,
    ⟨PyData.keyHash P (Str.ofString "whitespace"), .str (Str.ofString "whitespace") t4, .str (Str.ofString "\n\t\x0d ") t5⟩, ⟨PyData.keyHash P (Str.ofString "pushback"), .str (Str.ofString "pushback") t6, .ref pb⟩] 4
/-- the part of a lexer that the pushing back speaks of -/
noncomputable abbrev pbL (P : Params) (lx dx pb : Addr) (t1 t2 t3 t4 t5 t6 : Tok) (no : Int) (inst : Value) (back : List Value) (e : Nat) : List (Addr × Obj) :=
  [(pb, listOf back.toArray e), (lx, instObj 150 dx), (dx, lexE P t1 t2 t3 t4 t5 t6 no inst pb)]
end
section
-- B8
open PySem PySem.W PyProof.Rows PySem.Spec PySem.Calls
section
variable {D U : Nat} {w : World} {R : Heap → Value → List (Addr × Obj) → Prop}
    {p : Program} {loose : List Str} {mean : ExcName → Option Value} {mg mb : Str → Option Value} {d u : Nat} {gd : Option (List Code)} {cn : Str} {cs : Scope} {a : Addr} {ccd : Value} {cl : List (Str × Addr)} {outer : List Env} {A₀ : Around} {base h₀ : Heap} {L : Addr} {m : Str → Option Value} {s : Shared} {Q E : Value → Shared → Prop} {news news' : List (Addr × Obj)} {f : Value} {args : List Value}
    {b : Addr} {o o' : Obj} {fix : List (Addr × Obj)} {P : Value → Prop}
/-- a contract that turns one object, where it stands in the ledger -/
theorem Ctr.turn (C : Ctr D U w (.call f ⟨args, []⟩) [] ((b, o) :: fix) R) (hR : ∀ sz v l, R sz v l → P v ∧ l = (b, o') :: fix)
    (hfix : ∀ r ∈ fix, r ∈ news) (V : Upd b o o' news news')
    (hd : d ≤ D) (hu : u ≤ U) (B : Below A₀ base outer h₀) (F : Fr h₀ L s.heap m) (X : (Mine.hd.heap_39 w.params).In h₀) (N : News h₀ L s.heap news) (T : Top p loose mean mg mb h₀) (hk : cs.kind = .function)
    (r : ∀ v h' tk', P v → Fr h₀ L h' m → News h₀ L h' news' → Q v { s with heap := h', toks := tk' }) :
    wpAny (model P0 w) (ktrTop d u gd cn cs L a ccd cl outer) (call f args) Q E s := by
  obtain ⟨pre, post, rfl, rfl, ha, hb⟩ := V.split
  have hbo : (b, o) ∈ pre ++ (b, o) :: post := List.mem_append_right _ (.head _)
  refine wpAny_call (C p loose mean mg mb d u gd cn cs a ccd cl outer A₀ base h₀ L m s Q E hd hu B F X ?_ (fun _ h => nomatch h) T hk fun v led' h' tk' hv F' N' k => ?_)
  · intro q hq
    rcases List.mem_cons.mp hq with rfl | hq
    · exact N _ hbo
    · exact N _ (hfix q hq)
  · obtain ⟨hP, rfl⟩ := hR _ _ _ hv
    refine r v h' tk' hP F' fun q hq => ?_
    have old : q ∈ pre ++ (b, o) :: post → q.1 ≠ b → h'.get? q.1 = some q.2 ∧ q.1 ≠ L ∧ h₀.get? q.1 = none := by
      intro hq hne
      have z := N q hq
      by_cases hf : ∃ r ∈ fix, r.1 = q.1
      · obtain ⟨r', hr', e⟩ := hf
        have z' := N r' (hfix r' hr')
        have y := N' r' (.tail _ hr')
        rw [e] at z' y
        have eo : r'.2 = q.2 := Option.some.inj (z'.1.symm.trans z.1)
        rw [eo] at y
        exact y
      · refine ⟨k _ _ z.1 fun r' hr' => ?_, z.2⟩
        rcases List.mem_cons.mp hr' with rfl | hr'
        · exact Ne.symm hne
        · exact fun e => hf ⟨r', hr', e⟩
    rcases List.mem_append.mp hq with hq | hq
    · exact old (List.mem_append_left _ hq) (ha q hq)
    · rcases List.mem_cons.mp hq with rfl | hq
      · exact N' _ (.head _)
      · exact old (List.mem_append_right _ (.tail _ hq)) (hb q hq)
end
end
section
-- B9
open PySem PySem.W PyProof.Rows PySem.Spec PySem.Calls
/-- values that are these ints -/
inductive IL : List Value → List Int → Prop
  | nil : IL [] []
  | cons {x : Int} {t : Tok} {vs : List Value} {xs : List Int} : IL vs xs → IL (.int x t :: vs) (x :: xs)
theorem IL.length : ∀ {vs : List Value} {xs : List Int}, IL vs xs → vs.length = xs.length
  | _, _, .nil => rfl
  | _, _, .cons h => by simp [h.length]
theorem IL.snoc {vs : List Value} {xs : List Int} {x : Int} {t : Tok} (h : IL vs xs) : IL (vs ++ [.int x t]) (xs ++ [x]) := by
  induction h with
  | nil => exact .cons .nil
  | cons _ ih => exact .cons ih
theorem IL.append {vs ws : List Value} {xs ys : List Int} (h : IL vs xs) (g : IL ws ys) : IL (vs ++ ws) (xs ++ ys) := by
  induction h with
  | nil => exact g
  | cons _ ih => exact .cons ih
theorem IL.uncons {vs : List Value} {x : Int} {xs : List Int} (h : IL vs (x :: xs)) : ∃ t ws, vs = .int x t :: ws ∧ IL ws xs := by
  cases h with
  | cons h => exact ⟨_, _, rfl, h⟩
theorem frL {h₀ h : Heap} {L : Addr} {m : Str → Option Value} (l : List (Str × Value)) (hm : ∀ p ∈ l, m p.1 = some p.2) (F : Fr h₀ L h m) : Fr h₀ L h (kstB m l) := by
  have e : kstB m l = m := funext fun z => kstB_eq hm fun _ => rfl
  rw [e]; exact F
theorem frX {h₀ h : Heap} {L : Addr} {m : Str → Option Value} {x : Str} {v : Value} (l : List (Str × Value)) (hm : ∀ p ∈ l, m p.1 = some p.2) (F : Fr h₀ L h (fun y => if y = x then some v else m y)) : Fr h₀ L h (fun y => if y = x then some v else kstB m l y) := by
  have e : kstB m l = m := funext fun z => kstB_eq hm fun _ => rfl
  rw [e]; exact F
section
variable {prog : Program} {w : World} {A : Around} {E : Value → Shared → Prop} {s : Shared} {env : Env} {h₀ : Heap} {x : Str} {body : List Stmt} {Q : Flow → Shared → Prop}
/-- how a turn of a loop ends -/
noncomputable def TurnEnd (h₀ : Heap) (L : Addr) (s₁ : Shared) (I : Addr) (it : Obj) (J : (Str → Option Value) → List (Addr × Obj) → Prop) (Q : Flow → Shared → Prop) (f : Flow) (s₂ : Shared) : Prop := UnrPost h₀ L s₁ I it J Q f s₂
theorem TurnEnd.next {L I : Addr} {it : Obj} {J : (Str → Option Value) → List (Addr × Obj) → Prop} {s₁ : Shared} {h' : Heap} {tk : Nat} {m' : Str → Option Value} {all : List (Addr × Obj)} (F : Fr h₀ L h' m') (N : News h₀ L h' all) (news' : List (Addr × Obj))
    (r : J m' news') (hI : (I, it) ∈ all) (sub : SubL news' all) (off : OffI I it news') : TurnEnd h₀ L s₁ I it J Q .next { s₁ with heap := h', toks := tk } :=
  UnrEnd.intro3 F N news' hI sub off r
theorem TurnEnd.ret {L I : Addr} {it : Obj} {J : (Str → Option Value) → List (Addr × Obj) → Prop} {s₁ s₂ : Shared} {v : Value} (h : Q (.ret v) s₂) : TurnEnd h₀ L s₁ I it J Q (.ret v) s₂ := h
theorem TurnEnd.out {L I : Addr} {it : Obj} {J J' : (Str → Option Value) → List (Addr × Obj) → Prop} {s₁ s₂ : Shared} {f : Flow} (h : TurnEnd h₀ L s₁ I it J Q f s₂) (k : ∀ m n, J m n → J' m n) : UnrPost h₀ L s₁ I it J' Q f s₂ := by
  cases f with
  | ret v => exact h
  | brk => exact h
  | next => obtain ⟨h', tk, m', news', e, F, N, o, r⟩ := (show UnrEnd _ _ _ _ _ _ _ from h); exact ⟨h', tk, m', news', e, F, N, o, k _ _ r⟩
  | cont => obtain ⟨h', tk, m', news', e, F, N, o, r⟩ := (show UnrEnd _ _ _ _ _ _ _ from h); exact ⟨h', tk, m', news', e, F, N, o, k _ _ r⟩
theorem range_by {I : Addr} {a : Int} {n : Nat} (J : Nat → (Str → Option Value) → List (Addr × Obj) → Prop)
    (turn : ∀ i m news t h tk it, i < n → J i m news → Fr h₀ env.locals h (fun y => if y = x then some (.int (a + (i : Int)) t) else m y) → News h₀ env.locals h ((I, it) :: news) → it.cls = .type "range_iterator" →
      wpAny (model prog w) A (execs body env) (TurnEnd h₀ env.locals { s with heap := h, toks := tk } I it (J (i + 1)) Q) E { s with heap := h, toks := tk })
    (done : ∀ m news h tk, J n m news → Fr h₀ env.locals h m → News h₀ env.locals h news → Q .next { s with heap := h, toks := tk }) :
    ∀ (k i : Nat) m news, i + k = n → J i m news → RangeRest prog w A E h₀ env x body Q s I a n k i m news
  | 0, i, m, news, hi, hJ => fun h tk F N => done m news h tk (by rw [← hi]; exact hJ) F N
  | k + 1, i, m, news, hi, hJ => fun t h tk F N => wpAny_mono (turn i m news t h tk _ (by omega) hJ F N rfl) (fun _ _ e => e.out fun m' n' hJ' => range_by J turn done k (i + 1) m' n' (by omega) hJ') fun _ _ e => e
theorem list_by {I : Addr} {lp : Addr × Obj} (J : List Value → (Str → Option Value) → List (Addr × Obj) → Prop)
    (turn : ∀ v r m news h tk it, J (v :: r) m news → Fr h₀ env.locals h (fun y => if y = x then some v else m y) → News h₀ env.locals h ((I, it) :: news) → it.cls = .type "list_iterator" →
      wpAny (model prog w) A (execs body env) (TurnEnd h₀ env.locals { s with heap := h, toks := tk } I it (fun m n => lp ∈ n ∧ J r m n) Q) E { s with heap := h, toks := tk })
    (done : ∀ m news h tk, J [] m news → Fr h₀ env.locals h m → News h₀ env.locals h news → Q .next { s with heap := h, toks := tk }) :
    ∀ vs m news, J vs m news → ListRest prog w A E h₀ env x body Q s I lp vs m news
  | [], m, news, hJ => fun h tk F N => done m news h tk hJ F N
  | v :: r, m, news, hJ => fun it h tk hc F N => wpAny_mono (turn v r m news h tk it hJ F N hc) (fun _ _ e => e.out fun m' n' hJ' => ⟨hJ'.1, list_by J turn done r m' n' hJ'.2⟩) fun _ _ e => e
end
section
variable {prog : Program} {w : World} {A : Around} {E : Value → Shared → Prop} {s : Shared} {h₀ : Heap} {L : Addr} {m : Str → Option Value} {env : Env}
/-- the source is a range -/
theorem compAt_range {elt : Expr} {x : Str} {scope : Scope} {cl : List (Str × Addr)} {Fin : Shared → List Value → List (Addr × Obj) → Prop} {r : Addr} {a b c : Int} {t u v : Tok} (n : Nat) {news : List (Addr × Obj)}
    (hh : A.handled = none) (hr : IsRange s.heap r a b c t u v) (hsmall : Builtin.Range.small a b c = true) (hn : Builtin.Range.rangeSize a b c = (n : Int)) (F : Fr h₀ L s.heap m) (N : News h₀ L s.heap news) (hsz : n ≤ sizeLine)
    (h : ∀ g, LCg.CompRest prog w A h₀ L m env elt x scope cl { s with heap := g } (fun _ => True) (fun i v => i < n ∧ ∃ t, v = .int (a + i * c) t) (Fin { s with heap := g }) n 0 [] news) :
    wpAny (model prog w) A (pyIter (.ref r)) (fun it s₂ => CompAt prog w A h₀ L m env elt x scope cl Fin it s₂) E s := by
  refine wpAny_pyIter_range hr hsmall ?_
  refine ⟨s.heap.objs.size, _, _, _, _, fun _ => True, news, rfl, (Walks.range hh s.heap.objs.size a c n).bound, hsz, fun i h st => ⟨_, st⟩, ?_, (by show IsRangeIter _ _ _ _ _; rw [hn]; simpa using Heap.get?_push_size _ rfl), ?_, F.push _, fun p hp => ⟨Heap.get?_push_of_some _ (N p hp).1, (N p hp).2⟩, Nat.ne_of_lt F.ns.lt, next_is_new F, fun p hp => Nat.ne_of_lt (Heap.lt_size (N p hp).1), trivial, h _⟩
  · intro i h h' o nw st e1 e2 _ _ _
    have e3 : h.get? s.heap.objs.size = _ := st
    rw [e1] at e3
    show h'.get? s.heap.objs.size = _
    rw [e2]; exact e3
  · intro b hb
    rw [List.mem_singleton.mp hb]
    show _ < (s.heap.push _).objs.size
    rw [Heap.size_push]; exact Nat.lt_succ_self _
/-- the turns of a comprehension, by what holds between them -/
theorem turns_inv {elt : Expr} {x : Str} {scope : Scope} {cl : List (Str × Addr)} {S : List (Addr × Obj) → Prop} {n : Nat} {P : Nat → Value → Prop} {Fin : List Value → List (Addr × Obj) → Prop} (J : Nat → List Value → List (Addr × Obj) → Prop)
    (turn : ∀ i v I oI C oC D m₂ ys news h tk (E' : Value → Shared → Prop), i < n → P i v → J i ys news → LCg.NsObj oC m₂ → m₂ x = some v → Fr h₀ L h m → News h₀ L h ((I, oI) :: (C, oC) :: (D, LCg.lst ys) :: news) → LCg.Off3 I C D news → ((@Ne Nat I C) ∧ (@Ne Nat I D) ∧ (@Ne Nat C D)) →
      wpAny (model prog w) A (eval elt (compEnvC scope cl C env)) (LCg.CompEnd h₀ L m { s with heap := h, toks := tk } I oI C oC D (LCg.lst ys) S (fun y n' => J (i + 1) (ys ++ [y]) n')) E' { s with heap := h, toks := tk })
    (fin : ∀ ys news, J n ys news → Fin ys news) : ∀ (k i : Nat) ys news, i + k = n → J i ys news → LCg.CompRest prog w A h₀ L m env elt x scope cl s S P Fin k i ys news := by
  intro k
  induction k with
  | zero => intro i ys news hi hJ; exact LCg.CompRest.zero (fin ys news (by rw [← hi]; exact hJ))
  | succ k ih =>
    intro i ys news hi hJ
    refine LCg.CompRest.succ ?_
    intro v I oI C oC D m₂ h tk E' hv hC hx F N off ne
    refine wpAny_mono (turn i v I oI C oC D m₂ ys news h tk E' (by omega) hv hJ hC hx F N off ne) (fun y s₂ hq => ?_) fun _ _ e => e
    obtain ⟨h', tk', nw, e, F', N', off', hS, hJ'⟩ := hq
    exact ⟨h', tk', nw, e, F', N', off', hS, ih (i + 1) _ _ (by omega) hJ'⟩
end
end
section
-- B10
open PySem PySem.W PySem.Flt PyProof.Rows PySem.Spec PySem.Calls
theorem nt {c : Bool} (h : c = false) : ¬ (c = true) := by rw [h]; decide
theorem nan_nf {x : UInt64} (h : Float64.isNaN x = true) : ¬ (Float64.isFinite x = true) := by
  unfold Float64.isNaN at h; unfold Float64.isFinite
  cases e : Float64.decode x <;> simp_all
theorem inf_nf {x : UInt64} (h : Float64.isInf x = true) : ¬ (Float64.isFinite x = true) := by
  unfold Float64.isInf at h; unfold Float64.isFinite
  cases e : Float64.decode x <;> simp_all
theorem big_nf {n : Nat} (h : 2 ^ 1024 - 2 ^ 970 ≤ n) : ¬ (n < 2 ^ 1024 - 2 ^ 970) := Nat.not_lt.mpr h
noncomputable abbrev fOne : UInt64 := 4607182418800017408
noncomputable abbrev fSix : UInt64 := 4618441417868443648
noncomputable def hsvI (h : UInt64) : Int := Flt.toInt Float64.truncOf (Float64.mul h 4618441417868443648)
/-- what hsv_to_rgb gives -/
noncomputable def hsvR (h s v : UInt64) : Option (UInt64 × UInt64 × UInt64) :=
  if (Float64.cmp s 0 == some Ordering.eq) = true then some (v, v, v)
  else if Float64.isFinite (Float64.mul h 4618441417868443648) = true then
    if (Flt.toInt Float64.truncOf (Float64.mul h 4618441417868443648)).natAbs < 2 ^ 1024 - 2 ^ 970 then
      let f := Float64.sub (Float64.mul h 4618441417868443648) (Float64.ofInt (Flt.toInt Float64.truncOf (Float64.mul h 4618441417868443648)))
      let p := Float64.mul v (Float64.sub 4607182418800017408 s)
      let q := Float64.mul v (Float64.sub 4607182418800017408 (Float64.mul s f))
      let t := Float64.mul v (Float64.sub 4607182418800017408 (Float64.mul s (Float64.sub 4607182418800017408 f)))
      if (Flt.toInt Float64.truncOf (Float64.mul h 4618441417868443648)).fmod 6 = 0 then some (v, t, p)
      else if (Flt.toInt Float64.truncOf (Float64.mul h 4618441417868443648)).fmod 6 = 1 then some (q, v, p)
      else if (Flt.toInt Float64.truncOf (Float64.mul h 4618441417868443648)).fmod 6 = 2 then some (p, v, t)
      else if (Flt.toInt Float64.truncOf (Float64.mul h 4618441417868443648)).fmod 6 = 3 then some (p, q, v)
      else if (Flt.toInt Float64.truncOf (Float64.mul h 4618441417868443648)).fmod 6 = 4 then some (t, p, v)
      else if (Flt.toInt Float64.truncOf (Float64.mul h 4618441417868443648)).fmod 6 = 5 then some (v, p, q)
      else none
    else none
  else none
noncomputable abbrev tupO (vs : Array Value) : Obj := { cls := .type "tuple", data := .seq vs }
noncomputable def max3 (x y z : UInt64) : UInt64 := if (Float64.cmp x y == some .lt) = true then (if (Float64.cmp y z == some .lt) = true then z else y) else (if (Float64.cmp x z == some .lt) = true then z else x)
noncomputable def min3 (x y z : UInt64) : UInt64 := if (Float64.cmp y x == some .lt) = true then (if (Float64.cmp z y == some .lt) = true then z else y) else (if (Float64.cmp z x == some .lt) = true then z else x)
section
variable {prog : Program} {w : World} {A : Around} {E : Value → Shared → Prop} {s : Shared} {Q : Value → Shared → Prop} {h₀ : Heap} {L : Addr} {m : Str → Option Value} {news : List (Addr × Obj)}
end
theorem fresh0 {g h h' : Heap} {L D : Addr} {o : Obj} {l : List (Addr × Obj)} (N : News g L h' l) (hm : (D, o) ∈ l) (hG : ∀ b o, h.get? b = some o → (∀ q ∈ ([] : List (Addr × Obj)), q.1 ≠ b) → g.get? b = some o) : h.get? D = none := by
  cases e : h.get? D with
  | none => rfl
  | some o' =>
    have := hG D _ e (fun _ hq => nomatch hq)
    rw [(N _ hm).2.2] at this
    cases this
/-- the hue and the share that are told of a colour, its lightness -/
noncomputable def hueR (x0 x1 x2 : UInt64) : UInt64 := if (Float64.cmp (min3 x0 x1 x2) (max3 x0 x1 x2) == some Ordering.eq) = true then 0 else (Float64.divmod (Float64.div (if (Float64.cmp x0 (max3 x0 x1 x2) == some Ordering.eq) = true then Float64.sub (Float64.div (Float64.sub (max3 x0 x1 x2) x2) (Float64.sub (max3 x0 x1 x2) (min3 x0 x1 x2))) (Float64.div (Float64.sub (max3 x0 x1 x2) x1) (Float64.sub (max3 x0 x1 x2) (min3 x0 x1 x2)))
      else if (Float64.cmp x1 (max3 x0 x1 x2) == some Ordering.eq) = true then Float64.sub (Float64.add 4611686018427387904 (Float64.div (Float64.sub (max3 x0 x1 x2) x0) (Float64.sub (max3 x0 x1 x2) (min3 x0 x1 x2)))) (Float64.div (Float64.sub (max3 x0 x1 x2) x2) (Float64.sub (max3 x0 x1 x2) (min3 x0 x1 x2)))
      else Float64.sub (Float64.add 4616189618054758400 (Float64.div (Float64.sub (max3 x0 x1 x2) x1) (Float64.sub (max3 x0 x1 x2) (min3 x0 x1 x2)))) (Float64.div (Float64.sub (max3 x0 x1 x2) x0) (Float64.sub (max3 x0 x1 x2) (min3 x0 x1 x2)))) 4618441417868443648) 4607182418800017408).snd
noncomputable def satR (x0 x1 x2 : UInt64) : UInt64 := if (Float64.cmp (min3 x0 x1 x2) (max3 x0 x1 x2) == some Ordering.eq) = true then 0 else Float64.div (Float64.sub (max3 x0 x1 x2) (min3 x0 x1 x2)) (max3 x0 x1 x2)
noncomputable def lightR (x0 x1 x2 : UInt64) : UInt64 := Float64.div (Float64.add (max3 x0 x1 x2) (min3 x0 x1 x2)) 4611686018427387904
noncomputable def okHls (x0 x1 x2 : UInt64) : Prop := (Float64.cmp (min3 x0 x1 x2) (max3 x0 x1 x2) == some Ordering.eq) = true ∨ (¬ Float64.isZero (Float64.add (max3 x0 x1 x2) (min3 x0 x1 x2)) = true ∧ ¬ Float64.isZero (Float64.sub (Float64.sub 4611686018427387904 (max3 x0 x1 x2)) (min3 x0 x1 x2)) = true ∧ ¬ Float64.isZero (Float64.sub (max3 x0 x1 x2) (min3 x0 x1 x2)) = true)
noncomputable def okRsv (x0 x1 x2 : UInt64) : Prop := (Float64.cmp (min3 x0 x1 x2) (max3 x0 x1 x2) == some Ordering.eq) = true ∨ (¬ Float64.isZero (max3 x0 x1 x2) = true ∧ ¬ Float64.isZero (Float64.sub (max3 x0 x1 x2) (min3 x0 x1 x2)) = true)
noncomputable def okHlsD (x0 x1 x2 : UInt64) : Decidable (okHls x0 x1 x2) := by unfold okHls; infer_instance
noncomputable def okRsvD (x0 x1 x2 : UInt64) : Decidable (okRsv x0 x1 x2) := by unfold okRsv; infer_instance
end
section
-- B11
open PySem PySem.W PyProof.Rows PySem.Spec PySem.Calls
section
variable {prog : Program} {w : World} {A : Around} {s : Shared} {env : Env} {g : Heap} {L : Addr} {target : Expr} {body orelse : List Stmt} {R : Result → Shared → Prop}
/-- how a turn of a loop over an enumeration ends -/
noncomputable def EnumEnd (g : Heap) (L : Addr) (s : Shared) (its : List (Addr × Obj)) (J : (Str → Option Value) → Prop) (R : Result → Shared → Prop) (f : Flow) (s₃ : Shared) : Prop :=
  match f with
  | .next | .cont => ∃ h' tk' m', s₃ = { s with heap := h', toks := tk' } ∧ Fr g L h' m' ∧ News g L h' its ∧ J m'
  | .brk => R (.ok .next) s₃
  | .ret v => R (.ok (.ret v)) s₃
end
end
section
-- B12
open PySem PySem.W PyProof.Rows PySem.Spec PySem.Calls
/-- tokens are never given back -/
theorem runs_toks {M : Model} {Γ : PySem.Ctx} {p : Pos} {t : Sem Fin} {fs : List Frame} {s s' : Shared} {e : End} (h : Runs M Γ p t fs s e s') : s.toks ≤ s'.toks := by
  induction h <;> first | exact Nat.le_refl _ | assumption | (refine Nat.le_trans ?_ (by assumption); first | exact Nat.le_refl _ | exact Nat.le_succ _ | assumption) | skip
  all_goals (simp only [Shared.setGen] at *)
  all_goals omega
theorem wakes_toks {M : Model} {Γ : PySem.Ctx} {p : Pos} {g : Nat} {r : Resume} {s s' : Shared} {res : GenResult} (h : Wakes M Γ p g r s res s') : s.toks ≤ s'.toks := by
  unfold Wakes at h
  split at h
  · exact h.elim
  · split at h
    · obtain ⟨e₁, s₁, h, _, _, rfl⟩ := h
      have := runs_toks h
      simpa [Shared.setGen] using this
    · obtain ⟨_, rfl⟩ := h; exact Nat.le_refl _
    · obtain ⟨_, rfl⟩ := h; exact Nat.le_refl _
  · obtain ⟨e₁, s₁, h, _, _, rfl⟩ := h
    have := runs_toks h
    simpa [Shared.setGen] using this
  · obtain ⟨_, rfl⟩ := h; exact Nat.le_refl _
  · obtain ⟨_, rfl⟩ := h; exact Nat.le_refl _
theorem wp_toks {α : Type} {M : Model} {Γ : PySem.Ctx} (t : Sem α) {Q : α → Pos → Shared → Prop} {E : Value → Pos → Shared → Prop} {p : Pos} {s : Shared} (n : Nat) (hn : n ≤ s.toks)
    (h : Sem.wp M Γ t (fun a p s' => n ≤ s'.toks → Q a p s') (fun e p s' => n ≤ s'.toks → E e p s') p s) : Sem.wp M Γ t Q E p s := by
  induction t generalizing p s <;> simp only [Sem.wp] at h ⊢
  all_goals first | exact h hn | exact h.elim | skip
  all_goals (rename_i ih)
  all_goals first
    | exact ih _ hn h
    | exact ih _ (Nat.le_succ_of_le hn) h
    | exact ⟨h.1, ih _ hn h.2⟩
    | (obtain ⟨o, e, h⟩ := h; exact ⟨o, e, ih _ hn h⟩)
    | (obtain ⟨r, s', hr, h⟩ := h; exact ⟨r, s', hr, ih _ (Nat.le_trans hn (runs_toks hr)) h⟩)
    | (obtain ⟨r, s', hr, h⟩ := h; exact ⟨r, s', hr, ih _ (Nat.le_trans hn (wakes_toks hr)) h⟩)
theorem wpAny_toks {α : Type} {M : Model} {A : Around} {t : Sem α} {Q : α → Shared → Prop} {E : Value → Shared → Prop} {s : Shared}
    (h : wpAny M A t (fun a s' => s.toks ≤ s'.toks → Q a s') (fun e s' => s.toks ≤ s'.toks → E e s') s) : wpAny M A t Q E s :=
  fun Γ p hΓ => wp_toks t s.toks (Nat.le_refl _) (h Γ p hΓ)
theorem codeAny_toks {M : Model} {A : Around} {c : Code} {R : Result → Shared → Prop} {s : Shared} (h : codeAny M A c (fun r s' => s.toks ≤ s'.toks → R r s') s) : codeAny M A c R s := fun Γ p hc hΓ => by
  obtain ⟨r, s', hr, h⟩ := h Γ p hc hΓ
  exact ⟨r, s', hr, h (runs_toks hr)⟩
/-- nothing is booked: what the state holds of shared texts is an empty table -/
theorem noneBooked {w : World} {h : Heap} (X : (Mine.hd.heap_39 w.params).In h) : NoneBooked h :=
  ⟨fun _ => none, ⟨_, #[], 0, X 2 _ rfl, rfl, by simp [StrKeys], fun _ => rfl⟩, rfl⟩
end
section
-- B13
open PySem PySem.W PyProof.Rows PySem.Spec PySem.Calls
section
variable {prog : Program} {w : World} {A : Around} {E : Value → Shared → Prop} {s : Shared} {h₀ : Heap} {L : Addr} {m : Str → Option Value} {env : Env}
-- between the turns of a comprehension over a text 
set_option genInjectivity false in
set_option genSizeOf false in
structure SInv (h₀ : Heap) (L : Addr) (m : Str → Option Value) (s₂ : Shared) (I C D : Addr) (y : Str) (t : Tok) (news : List (Addr × Obj)) (J : Nat → List Value → Prop) (k : Nat) (s' : Shared) : Prop where
  ex : ∃ h' tk i ys m', s' = { s₂ with heap := h', toks := tk } ∧ s₂.toks ≤ tk ∧ i ≤ y.cps.size ∧ k = y.cps.size + 1 - i ∧ ys.length = i ∧ h'.IsStrIter I "str_ascii_iterator" y t i ∧ Fr h₀ L h' m ∧ h'.Ns C m' ∧
    News h₀ L h' ((D, LCg.lst ys) :: news) ∧ J i ys
theorem comp_signs {elt iter : Expr} {x : Str} {px : Pos} {scope : Scope} {pos : Pos} {cl : List (Str × Addr)} {s₂ : Shared} {I C D : Addr} {y : Str} {t : Tok} {news : List (Addr × Obj)} {R : Result → Shared → Prop} (J : Nat → List Value → Prop)
    (hh : A.handled = none) (hsz : y.cps.size ≤ sizeLine) (hkind : scope.kind = .function) (hx : scope.names.lookup x = some .local)
    (hI₀ : h₀.get? I = none) (hC₀ : h₀.get? C = none) (hD₀ : h₀.get? D = none) (hIL : L ≠ I) (hCL : C ≠ L) (hDL : D ≠ L) (hIC : I ≠ C) (hID : I ≠ D) (hDC : D ≠ C) (off : LCg.Off3 I C D news)
    (turn : ∀ i c u oI oC m₂ ys h tk (E' : Value → Shared → Prop), y.cps[i]? = some c → s₂.toks ≤ u → u < tk → J i ys → LCg.NsObj oC m₂ → m₂ x = some (.str ⟨#[c]⟩ u) → Fr h₀ L h m → News h₀ L h ((I, oI) :: (C, oC) :: (D, LCg.lst ys) :: news) →
      wpAny (model prog w) A (eval elt (compEnvC scope cl C env)) (LCg.CompEnd h₀ L m { s₂ with heap := h, toks := tk } I oI C oC D (LCg.lst ys) (fun _ => True) (fun v n' => n' = news ∧ J (i + 1) (ys ++ [v]))) E' { s₂ with heap := h, toks := tk })
    (fin : ∀ ys h tk m', Fr h₀ L h m → News h₀ L h ((D, LCg.lst ys) :: news) → h.Ns C m' → J y.cps.size ys → R (.ok .next) { s₂ with heap := h, toks := tk })
    (start : ∃ n, SInv h₀ L m s₂ I C D y t news J n s) :
    codeAny (model prog w) A (.compLoop (.ListComp elt [⟨.Name x px, iter, [], 0⟩] scope pos) 0 (.ref I) (.ref D) (compEnvC scope cl C env)) R s := by
  obtain ⟨n, hstart⟩ := start
  have off3 := off.mem
  refine codeAny_compLoop_tests (SInv h₀ L m s₂ I C D y t news J) ?_ n hstart
  rintro k _ ⟨h', tk, i, ys, m', rfl, htk, hi, rfl, hyl, hit, F, hn, N, hJ⟩
  have keep : ∀ {h₂ : Heap}, (∀ b o, b ∉ [I] → h'.get? b = some o → h₂.get? b = some o) → Fr h₀ L h₂ m ∧ h₂.Ns C m' ∧ News h₀ L h₂ ((D, LCg.lst ys) :: news) := fun {h₂} hk =>
    ⟨LCg.fr_but F hk hIL hI₀, hn.at' fun o e => hk C o (by simpa using Ne.symm hIC) e, LCg.news_but N hk fun p hp => by
      rcases List.mem_cons.mp hp with rfl | hp
      · exact Ne.symm hID
      · exact (off3 p hp).1⟩
  by_cases hlt : i < y.cps.size
  · refine wpAny_pyNext_ascii_item hit (c := y.cps[i]) (by simp [hlt]) fun h₂ hit₂ hs₂ => ?_
    obtain ⟨F₂, hn₂, N₂⟩ := keep fun b o hb e => hs₂.extBut b o (by simpa using hb) e
    refine wpAny_assign_Name (wpAny_storeName_local (lookup_relabel_local hx) hn₂ (fun h₃ hn₃ hs₃ => ?_) (by simp [compEnvC, relabel, hkind]))
    refine wpAny_tests_nil ?_
    simp only [if_true]
    replace hs₃ : Heap.SameBut C h₂ h₃ := hs₃
    obtain ⟨oI, heI, hI2⟩ := (show ∃ o, h₃.get? I = some o ∧ h₃.IsStrIter I "str_ascii_iterator" y t (i + 1) from by
      obtain ⟨o, ho, r⟩ := hit₂
      have e3 := hs₃.extBut I o hIC ho
      exact ⟨o, e3, o, e3, r⟩)
    obtain ⟨oC, heC, hoC⟩ := LCg.ns_obj hn₃
    have F₃ : Fr h₀ L h₃ m := F₂.change hs₃ hCL hC₀
    have N₃ : News h₀ L h₃ ((I, oI) :: (C, oC) :: (D, LCg.lst ys) :: news) := fun p hp => by
      rcases List.mem_cons.mp hp with rfl | hp
      · exact ⟨heI, Ne.symm hIL, hI₀⟩
      · rcases List.mem_cons.mp hp with rfl | hp
        · exact ⟨heC, hCL, hC₀⟩
        · have z := N₂ p hp
          refine ⟨hs₃.extBut _ _ ?_ z.1, z.2⟩
          rcases List.mem_cons.mp hp with rfl | hp
          · exact hDC
          · exact (off3 p hp).2.1
    refine wpAny_toks (wpAny_mono (turn i y.cps[i] tk oI oC _ ys h₃ (tk + 1 + 1) _ (by simp [hlt]) htk (Nat.lt_succ_of_lt (Nat.lt_succ_self _)) hJ hoC (by simp) F₃ N₃) (fun v s₄ h₄ => ?_) fun _ _ e _ => e)
    obtain ⟨h₄, tk₄, news₄, rfl, F₄, N₄, off₄, _, rfl, hJ₄⟩ := h₄
    intro htk₄
    have zI := (N₄ (I, oI) List.mem_cons_self).1
    have zC := (N₄ (C, oC) (List.mem_cons_of_mem _ List.mem_cons_self)).1
    have zD := (N₄ (D, LCg.lst ys) (List.mem_cons_of_mem _ (List.mem_cons_of_mem _ List.mem_cons_self))).1
    have N₄' : News h₀ L h₄ news₄ := fun p hp => N₄ p (List.mem_cons_of_mem _ (List.mem_cons_of_mem _ (List.mem_cons_of_mem _ hp)))
    refine append_at (hsz := by show ys.toArray.size ≤ sizeLine; rw [List.size_toArray, hyl]; exact Nat.le_trans hi hsz) zD fun h₅ hs₅ hD₅ => ?_
    refine ⟨y.cps.size + 1 - (i + 1), by omega, ⟨h₅, tk₄, i + 1, ys ++ [v], _, rfl, Nat.le_trans (Nat.le_succ_of_le (Nat.le_succ_of_le htk)) htk₄, hlt, rfl, by rw [List.length_append, List.length_singleton, hyl], ?_, F₄.change hs₅ hDL hD₀, (hoC.ns zC).sameBut hs₅ (Ne.symm hDC), fun p hp => ?_, hJ₄⟩⟩
    · obtain ⟨o, ho, r⟩ := hI2
      rw [heI] at ho; cases ho
      exact ⟨oI, hs₅.extBut I oI hID zI, r⟩
    · rcases List.mem_cons.mp hp with rfl | hp
      · exact ⟨hD₅.trans (congrArg some (LCg.lst_snoc ys v)), hDL, hD₀⟩
      · exact ⟨hs₅.extBut _ _ (off3 p hp).2.2 (N₄' p hp).1, (N₄' p hp).2⟩
  · obtain rfl : i = y.cps.size := Nat.le_antisymm hi (Nat.not_lt.mp hlt)
    refine wpAny_pyNext_ascii_end hh hit (by simp) fun h₂ hs₂ => ?_
    obtain ⟨F₂, hn₂, N₂⟩ := keep fun b o hb e => hs₂ b o (by simpa using hb) e
    exact fin ys h₂ tk _ F₂ N₂ hn₂ hJ
theorem block_S {elt iter : Expr} {x : Str} {px : Pos} {scope : Scope} {cl : List (Str × Addr)} {pos : Pos} {s₂ : Shared} {I : Addr} {y : Str} {t : Tok} {news : List (Addr × Obj)} {RR : Value → Addr → Result → Shared → Prop} (J : Nat → List Value → Prop)
    (hh : A.handled = none) (hsz : y.cps.size ≤ sizeLine) (hcell : ∀ y ∈ scope.names, y.2 ≠ .cell) (hkind : scope.kind = .function) (hx : scope.names.lookup x = some .local) (hst : s₂.heap.IsStrIter I "str_ascii_iterator" y t 0)
    (F : Fr h₀ L s₂.heap m) (N : News h₀ L s₂.heap news) (hIL : L ≠ I) (hI₀ : h₀.get? I = none) (off : ∀ p ∈ news, p.1 ≠ I) (h0 : J 0 [])
    (turn : ∀ i c u oI C oC D m₂ ys h tk (E' : Value → Shared → Prop), y.cps[i]? = some c → s₂.toks ≤ u → u < tk → J i ys → LCg.NsObj oC m₂ → m₂ x = some (.str ⟨#[c]⟩ u) → Fr h₀ L h m → News h₀ L h ((I, oI) :: (C, oC) :: (D, LCg.lst ys) :: news) → LCg.Off3 I C D news → ((@Ne Nat I C) ∧ (@Ne Nat I D) ∧ (@Ne Nat C D)) →
      wpAny (model prog w) A (eval elt (compEnvC scope cl C env)) (LCg.CompEnd h₀ L m { s₂ with heap := h, toks := tk } I oI C oC D (LCg.lst ys) (fun _ => True) (fun v n' => n' = news ∧ J (i + 1) (ys ++ [v]))) E' { s₂ with heap := h, toks := tk })
    (hRR : ∀ D C h tk m' ys, Fr h₀ L h m → News h₀ L h ((D, LCg.lst ys) :: news) → LCg.Off1 D news → h.Ns C m' → h₀.get? C = none → h₀.get? D = none → C ≠ L → D ≠ L → C ≠ D → (∀ p ∈ news, p.1 ≠ C) → J y.cps.size ys → RR (.ref D) C (.ok .next) { s₂ with heap := h, toks := tk }) :
    wpAny (model prog w) A (newList []) (fun acc s₃ => wpAny (model prog w) A (newFunctionEnv scope env.globals cl [] env.qual none .none (some env)) (fun cenv s₄ =>
      codeAny (model prog w) A (.compStart (.ListComp elt [⟨.Name x px, iter, [], 0⟩] scope pos) 0 (.ref I) acc { cenv with scope := relabel scope env }) (RR acc cenv.locals) s₄) E s₃) E s₂ := by
  refine wpAny_newObj_type (wpAny_newFunctionEnv hcell (by intro y hy; simp at hy) (fun h₁ hns₁ hsb₁ => ?_) hkind)
  dsimp only at hns₁ hsb₁ ⊢
  generalize hH2 : s₂.heap.push { cls := .type "list", dict := none, data := .seq ([] : List Value).toArray } = H2 at hns₁ hsb₁ ⊢
  have hC : H2.objs.size = s₂.heap.objs.size + 1 := by rw [← hH2, Heap.size_push]
  obtain ⟨oit, hoit, hit⟩ := hst
  have lt : ∀ b, b < s₂.heap.objs.size → b ≠ H2.objs.size ∧ b ≠ s₂.heap.objs.size := fun b hb => ⟨by rw [hC]; exact Nat.ne_of_lt (Nat.lt_succ_of_lt hb), Nat.ne_of_lt hb⟩
  have hDC : s₂.heap.objs.size ≠ H2.objs.size := by rw [hC]; exact Nat.ne_of_lt (Nat.lt_succ_self _)
  have old : ∀ b o, s₂.heap.get? b = some o → h₁.get? b = some o := fun b o e => hsb₁.extBut b o (lt b (Heap.lt_size e)).1 (Heap.get?_push_of_some _ (hH2 ▸ Heap.get?_push_of_some _ e))
  have hacc : h₁.get? s₂.heap.objs.size = some (LCg.lst []) := hsb₁.extBut _ _ hDC (Heap.get?_push_of_some _ (hH2 ▸ Heap.get?_push_size _ rfl))
  have none₀ : ∀ a, s₂.heap.objs.size ≤ a → h₀.get? a = none := fun a ha => by
    cases e : h₀.get? a with
    | none => rfl
    | some o' => exact absurd (Heap.lt_size (F.keep a o' e)) (Nat.not_lt.mpr ha)
  have hCI := (lt I (Heap.lt_size hoit))
  have hLl := lt L F.ns.lt
  have hD₀ := none₀ s₂.heap.objs.size (Nat.le_refl _)
  have hC₀ := none₀ H2.objs.size (by rw [hC]; exact Nat.le_succ _)
  have off₀ : LCg.Off3 I H2.objs.size s₂.heap.objs.size news := LCg.Off3.of fun p hp => ⟨off p hp, (lt _ (Heap.lt_size (N p hp).1)).1, (lt _ (Heap.lt_size (N p hp).1)).2⟩
  have N₁ : News h₀ L h₁ ((s₂.heap.objs.size, LCg.lst []) :: news) := fun p hp => by
    rcases List.mem_cons.mp hp with rfl | hp
    · exact ⟨hacc, Ne.symm hLl.2, hD₀⟩
    · exact ⟨old _ _ (N p hp).1, (N p hp).2⟩
  have loop : ∀ s₃ : Shared, s₃ = { s₂ with heap := h₁, toks := s₂.toks + ([] : List (Str × Value)).length } →
      codeAny (model prog w) A (.compLoop (.ListComp elt [⟨.Name x px, iter, [], 0⟩] scope pos) 0 (.ref I) (.ref s₂.heap.objs.size) (compEnvC scope cl H2.objs.size env)) (RR (.ref s₂.heap.objs.size) H2.objs.size) s₃ := by
    rintro s₃ rfl
    refine comp_signs (s₂ := s₂) J hh hsz hkind hx hI₀ hC₀ hD₀ hIL (Ne.symm hLl.1) (Ne.symm hLl.2) hCI.1 hCI.2 hDC off₀ (fun i c u oI oC m₂ ys h tk E' a b d e f g k l => turn i c u oI _ oC _ m₂ ys h tk E' a b d e f g k l off₀ ⟨hCI.1, hCI.2, Ne.symm hDC⟩)
      (fun ys h tk m' F' N' hn hJ => hRR _ _ h tk m' ys F' N' off₀.one hn hC₀ hD₀ (Ne.symm hLl.1) (Ne.symm hLl.2) (Ne.symm hDC) (fun p hp => (off₀.mem p hp).2.1) hJ)
      ⟨y.cps.size + 1, ⟨h₁, _, 0, [], _, rfl, Nat.le_add_right _ _, Nat.zero_le _, rfl, rfl, ⟨oit, old _ _ hoit, hit⟩, F.keeps old, hns₁, N₁, h0⟩⟩
  exact codeAny_compStart_list (loop _ rfl) (wpAny_pyIter_striter_ascii ⟨oit, old _ _ hoit, hit⟩ (loop _ rfl))
end
end
section
-- B14
open PySem PySem.W PyProof.Rows PySem.Spec PySem.Calls
section
variable {prog : Program} {w : World} {A : Around} {E : Value → Shared → Prop} {s : Shared}
/-- an enumeration over a text hands out its next pair: the sign's token is the one that was free -/
theorem enum_next_sign {e it : Addr} {i c : Nat} {y : Str} {t : Tok} {old : Value} {Q : Value → Shared → Prop}
    (he : IsEnum s.heap e it i old) (hst : s.heap.IsStrIter it "str_ascii_iterator" y t i) (hc : y.cps[i]? = some c) (hne : e ≠ it)
    (hQ : ∀ h', IsEnumOut h' e it ((i : Int) + 1) (.str ⟨#[c]⟩ s.toks) s.heap.objs.size → h'.IsStrIter it "str_ascii_iterator" y t (i + 1) →
      h'.get? s.heap.objs.size = some { cls := .type "tuple", data := .seq #[.int i (s.toks + 1), .str ⟨#[c]⟩ s.toks] } → h'.objs.size = s.heap.objs.size + 1 →
      (∀ b o, b ≠ e → b ≠ it → s.heap.get? b = some o → h'.get? b = some o) → Q (.ref s.heap.objs.size) { s with heap := h', toks := s.toks + 2 }) :
    wpAny (model prog w) A (Builtin.«enumerate.__next__» ⟨[.ref e], []⟩) (fun fin s' => ∃ v, fin = .done (.ret v) ∧ Q v s') E s := by
  obtain ⟨hp, g, d, tk, os⟩ := s
  show wpAny _ _ (field (.ref e) 2 >>= _) _ _ _
  refine wpAny_bind (wpAny_field he rfl (x := .ref it) rfl ?_)
  refine wpAny_bind (wpAny_nextOf_ascii_item hst hc fun h₁ hit₁ hs₁ => ?_)
  replace hs₁ : Heap.SameBut it hp h₁ := hs₁
  have he₁ : IsEnum h₁ e it i old := (hs₁.2 e hne).trans he
  show wpAny _ _ (field (.ref e) 3 >>= _) _ _ ⟨h₁, g, d, tk + 1, os⟩
  refine wpAny_bind (wpAny_field he₁ rfl (x := rawInt i) rfl ?_)
  show wpAny _ _ (field (.ref e) 4 >>= _) _ _ ⟨h₁, g, d, tk + 1, os⟩
  refine wpAny_bind (wpAny_field he₁ rfl (x := .none) rfl ?_)
  show wpAny _ _ (mkInt i >>= _) _ _ ⟨h₁, g, d, tk + 1, os⟩
  refine wpAny_bind (wpAny_mkInt ?_)
  show wpAny _ _ (setField (.ref e) 3 (rawInt ((i : Int) + 1)) >>= _) _ _ ⟨h₁, g, d, tk + 2, os⟩
  refine wpAny_bind (wpAny_setField_rec he₁ (by simp) fun h₂ he₂ hs₂ => ?_)
  replace hs₂ : Heap.SameBut e h₁ h₂ := hs₂
  replace he₂ : IsEnum h₂ e it ((i : Int) + 1) old := he₂
  show wpAny _ _ (setField (.ref e) 4 .none >>= _) _ _ ⟨h₂, g, d, tk + 2, os⟩
  refine wpAny_bind (wpAny_setField_rec he₂ (by simp) fun h₃ he₃ hs₃ => ?_)
  replace hs₃ : Heap.SameBut e h₂ h₃ := hs₃
  replace he₃ : IsEnum h₃ e it ((i : Int) + 1) old := he₃
  show wpAny _ _ (newTuple [.int i (tk + 1), .str ⟨#[c]⟩ tk] >>= _) _ _ ⟨h₃, g, d, tk + 2, os⟩
  refine wpAny_bind (wpAny_newTuple ?_)
  have he₄ : IsEnum (h₃.push (tupO #[.int i (tk + 1), .str ⟨#[c]⟩ tk])) e it ((i : Int) + 1) old := Heap.get?_push_of_some _ he₃
  have hsz : h₃.objs.size = hp.objs.size := by rw [hs₃.1, hs₂.1, hs₁.1]
  have hel : e < hp.objs.size := Heap.lt_size he
  have ht₄ : (h₃.push (tupO #[.int i (tk + 1), .str ⟨#[c]⟩ tk])).get? hp.objs.size = some (tupO #[.int i (tk + 1), .str ⟨#[c]⟩ tk]) := by rw [← hsz]; exact Heap.get?_push_size _ rfl
  have hz₄ : (h₃.push (tupO #[.int i (tk + 1), .str ⟨#[c]⟩ tk])).objs.size = hp.objs.size + 1 := by rw [Heap.size_push, hsz]
  have hk₄ : ∀ b o, b ≠ e → b ≠ it → hp.get? b = some o → (h₃.push (tupO #[.int i (tk + 1), .str ⟨#[c]⟩ tk])).get? b = some o := fun b o hbe hbi hb =>
    Heap.get?_push_of_some _ (hs₃.extBut b o hbe (hs₂.extBut b o hbe (hs₁.extBut b o hbi hb)))
  have hit₄ : (h₃.push (tupO #[.int i (tk + 1), .str ⟨#[c]⟩ tk])).IsStrIter it "str_ascii_iterator" y t (i + 1) := by
    obtain ⟨o, ho, r⟩ := hit₁
    exact ⟨o, Heap.get?_push_of_some _ (hs₃.extBut it o (Ne.symm hne) (hs₂.extBut it o (Ne.symm hne) ho)), r⟩
  generalize h₃.push (tupO #[.int i (tk + 1), .str ⟨#[c]⟩ tk]) = h₄ at he₄ ht₄ hz₄ hk₄ hit₄ ⊢
  show wpAny _ _ (Builtin.SmallTypes.ownedTupleIsFree (.ref e) >>= _) _ _ ⟨h₄, g, d, tk + 2, os⟩
  rw [hsz]
  clear he₃ hs₃ he₂ hs₂ he₁ hs₁ hit₁ hsz h₃ h₂ h₁
  refine wpAny_bind ?_
  unfold Builtin.SmallTypes.ownedTupleIsFree
  refine wpAny_bind (wpAny_field he₄ rfl (x := .none) rfl (wpAny_pure ?_))
  simp only [if_true]
  refine wpAny_bind (wpAny_rule ?_)
  refine wpAny_bind (wpAny_field he₄ rfl (x := old) rfl ?_)
  refine wpAny_bind (wpAny_setField_rec he₄ (by simp) fun h₅ he₅ hs₅ => ?_)
  replace hs₅ : Heap.SameBut e h₄ h₅ := hs₅
  replace he₅ : IsEnum h₅ e it ((i : Int) + 1) (.str ⟨#[c]⟩ tk) := he₅
  show wpAny _ _ (Builtin.SmallTypes.ownedTupleHandOut (.ref e) (.ref hp.objs.size) >>= _) _ _ ⟨h₅, g, d, tk + 2, os⟩
  refine wpAny_bind ?_
  unfold Builtin.SmallTypes.ownedTupleHandOut
  refine wpAny_bind (wpAny_setField_rec he₅ (by simp) fun h₆ he₆ hs₆ => ?_)
  replace hs₆ : Heap.SameBut e h₅ h₆ := hs₆
  replace he₆ : IsEnumOut h₆ e it ((i : Int) + 1) (.str ⟨#[c]⟩ tk) hp.objs.size := he₆
  refine wpAny_setField_rec he₆ (by simp) fun h₇ he₇ hs₇ => ?_
  replace hs₇ : Heap.SameBut e h₆ h₇ := hs₇
  replace he₇ : IsEnumOut h₇ e it ((i : Int) + 1) (.str ⟨#[c]⟩ tk) hp.objs.size := he₇
  have up : ∀ b o, b ≠ e → h₄.get? b = some o → h₇.get? b = some o := fun b o hb x => hs₇.extBut b o hb (hs₆.extBut b o hb (hs₅.extBut b o hb x))
  refine wpAny_bind (wpAny_letGo (wpAny_pure ⟨_, rfl, hQ h₇ he₇ ?_ (up _ _ (Nat.ne_of_gt hel) ht₄) ?_ fun b o hbe hbi hb => up b o hbe (hk₄ b o hbe hbi hb)⟩))
  · obtain ⟨o, ho, r⟩ := hit₄
    exact ⟨o, up it o (Ne.symm hne) ho, r⟩
  · rw [hs₇.1, hs₆.1, hs₅.1, hz₄]
theorem pyNext_enum_sign {e it : Addr} {i c : Nat} {y : Str} {t : Tok} {old : Value} {Q : Option Value → Shared → Prop}
    (he : IsEnum s.heap e it i old) (hst : s.heap.IsStrIter it "str_ascii_iterator" y t i) (hc : y.cps[i]? = some c) (hne : e ≠ it)
    (hQ : ∀ h', IsEnumOut h' e it ((i : Int) + 1) (.str ⟨#[c]⟩ s.toks) s.heap.objs.size → h'.IsStrIter it "str_ascii_iterator" y t (i + 1) →
      h'.get? s.heap.objs.size = some { cls := .type "tuple", data := .seq #[.int i (s.toks + 1), .str ⟨#[c]⟩ s.toks] } → h'.objs.size = s.heap.objs.size + 1 →
      (∀ b o, b ≠ e → b ≠ it → s.heap.get? b = some o → h'.get? b = some o) → Q (some (.ref s.heap.objs.size)) { s with heap := h', toks := s.toks + 2 }) :
    wpAny (model prog w) A (pyNext (.ref e)) Q E s := by
  have hT : s.TypeIs (.ref e) "enumerate" := ⟨_, he, rfl⟩
  unfold pyNext
  exact wpAny_bind (wpAny_attempt (wpAny_callSpecial?_slot (name := Str.ofString "__next__") hT F.slot_enumerate_next
    (wpAny_call_entry F.slot_enumerate_next hT F.entry_enumerate_next
      (enum_next_sign he hst hc hne fun h' a b c' d' k => wpAny_pure (hQ h' a b c' d' k)) (F.args_enumerate_next_1 _))))
end
section
variable {prog : Program} {w : World} {A : Around} {s : Shared} {env : Env} {g : Heap} {L : Addr} {body orelse : List Stmt} {R : Result → Shared → Prop}
theorem sign_loop {elts : List Expr} {kk : Nat} {pos : Pos} {e it : Addr} {y : Str} {t : Tok} {old₀ : Value} {m : Str → Option Value} (hne : e ≠ it) (hL : e ≠ L ∧ it ≠ L) (hg : g.get? e = none ∧ g.get? it = none)
    (he : IsEnum s.heap e it 0 old₀) (hst : s.heap.IsStrIter it "str_ascii_iterator" y t 0) (F : Fr g L s.heap m)
    (J : Nat → (Str → Option Value) → Prop) (h0 : J 0 m) (hJ : ∀ i m, J i m → i < y.cps.size)
    (turn : ∀ i c T ti u m h tk o1 o2, y.cps[i]? = some c → J i m → s.toks ≤ u → u < tk → IsTup h T #[.int i ti, .str ⟨#[c]⟩ u] → Fr g L h m → News g L h [(e, o1), (it, o2)] →
      wpAny (model prog w) A (assign (.Tuple elts kk pos) env (.ref T)) (fun _ s₂ => wpAny (model prog w) A (execs body env) (EnumEnd g L { s with heap := h, toks := tk } [(e, o1), (it, o2)] (J (i + 1)) R) (notedBy (model prog w) A env fun e s' => R (.error e) s') s₂) (notedBy (model prog w) A env fun e s' => R (.error e) s') { s with heap := h, toks := tk }) :
    codeAny (model prog w) A (.forLoop (.Tuple elts kk pos) (.ref e) body orelse env) R s := by
  refine codeAny_forLoop_any (fun k s' => ∃ i h tk m old, s' = { s with heap := h, toks := tk } ∧ s.toks ≤ tk ∧ k = y.cps.size - i ∧ IsEnum h e it (i : Nat) old ∧ h.IsStrIter it "str_ascii_iterator" y t i ∧ Fr g L h m ∧ J i m) ?_ y.cps.size
    ⟨0, s.heap, s.toks, m, _, rfl, Nat.le_refl _, rfl, he, hst, F, h0⟩
  rintro k _ ⟨i, h, tk, m, old, rfl, htk, rfl, he, hst, F, hj⟩
  have hi := hJ i m hj
  refine pyNext_enum_sign he hst (c := y.cps[i]) (by simp [hi]) hne fun h1 he1 hst1 hT1 hz1 hk1 => ?_
  dsimp only at he1 hT1 hz1 hk1 ⊢
  refine wpAny_letOwnedTupleGo_enum he1 fun h2 he2 hs2 => ?_
  have keepF : Fr g L h2 m := by
    have hk : ∀ b o, b ≠ e → b ≠ it → h.get? b = some o → h2.get? b = some o := fun b o q1 q2 x => (hs2.2 b q1).trans (hk1 b o q1 q2 x)
    exact ⟨F.ns.at' fun o x => hk L o (Ne.symm hL.1) (Ne.symm hL.2) x, fun b o x => hk b o (fun q => by rw [q, hg.1] at x; cases x) (fun q => by rw [q, hg.2] at x; cases x) (F.keep b o x), F.above⟩
  obtain ⟨o2, ho2, hr2⟩ := hst1
  have ho2' : h2.get? it = some o2 := (hs2.2 it (Ne.symm hne)).trans ho2
  obtain ⟨o1, ho1, e1⟩ : ∃ o, h2.get? e = some o ∧ ∀ h' : Heap, h'.get? e = some o → IsEnum h' e it ((i + 1 : Nat) : Int) (.str ⟨#[y.cps[i]]⟩ tk) := ⟨_, he2, fun _ x => x⟩
  have N2 : News g L h2 [(e, o1), (it, o2)] := fun p hp => by
    rcases List.mem_cons.mp hp with rfl | hp
    · exact ⟨ho1, hL.1, hg.1⟩
    · rw [List.mem_singleton.mp hp]; exact ⟨ho2', hL.2, hg.2⟩
  have hel : h.objs.size ≠ e := Nat.ne_of_gt (Heap.lt_size he)
  have hT2 : IsTup h2 h.objs.size #[.int i (tk + 1), .str ⟨#[y.cps[i]]⟩ tk] := ⟨_, (hs2.2 _ hel).trans hT1, rfl, 0, rfl⟩
  refine wpAny_toks (wpAny_mono (turn i y.cps[i] _ _ tk m h2 (tk + 2) o1 o2 (by simp [hi]) hj htk (by omega) hT2 keepF N2) (fun _ s₂ h₂' h2t => wpAny_toks (wpAny_mono h₂' (fun f s₃ h₃ h3t => ?_) fun _ _ e _ => e)) fun _ _ e _ => e)
  have fin : (∃ h' tk' m', s₃ = { s with heap := h', toks := tk' } ∧ Fr g L h' m' ∧ News g L h' [(e, o1), (it, o2)] ∧ J (i + 1) m') → ∃ m', m' < y.cps.size - i ∧ ∃ i' h tk m old, s₃ = { s with heap := h, toks := tk } ∧ s.toks ≤ tk ∧ m' = y.cps.size - i' ∧ IsEnum h e it (i' : Nat) old ∧ h.IsStrIter it "str_ascii_iterator" y t i' ∧ Fr g L h m ∧ J i' m := by
    rintro ⟨h', tk', m', rfl, F', N', hj'⟩
    refine ⟨y.cps.size - (i + 1), by omega, i + 1, h', tk', m', _, rfl, ?_, rfl, e1 _ (N' _ (.head _)).1, ⟨o2, (N' _ (.tail _ (.head _))).1, hr2⟩, F', hj'⟩
    exact Nat.le_trans htk (Nat.le_trans (Nat.le_trans (Nat.le_add_right _ _) h2t) h3t)
  cases f with
  | ret v => exact h₃
  | brk => exact h₃
  | next => exact fin h₃
  | cont => exact fin h₃
end
end
section
-- B15
open PySem PySem.W PyProof.Rows PySem.Spec PySem.Calls
/-- a contract that asks something of the tokens, and turns nothing -/
noncomputable def CtrT (D U : Nat) (w : World) (c : Code) (pre : Nat → Prop) (R : Heap → Value → List (Addr × Obj) → Prop) : Prop :=
  ∀ (p : Program) (loose : List Str) (mean : ExcName → Option Value) (mg mb : Str → Option Value) (d u : Nat) (gd : Option (List Code)) (cn : Str) (cs : Scope) (a : Addr) (ccd : Value) (cl : List (Str × Addr)) (outer : List Env) (A₀ : Around) (base h₀ : Heap) (L : Addr) (m : Str → Option Value) (s : Shared) (Q E : Value → Shared → Prop),
    pre s.toks → d ≤ D → u ≤ U → Below A₀ base outer h₀ → Fr h₀ L s.heap m → (Mine.hd.heap_39 w.params).In h₀ → Top p loose mean mg mb h₀ → cs.kind = .function →
    (∀ v led' h' tk', R s.heap v led' → Fr h₀ L h' m → News h₀ L h' led' → Kept [] s.heap h' → Q v { s with heap := h', toks := tk' }) →
    codeAny (model P0 w) (ktrTop d u gd cn cs L a ccd cl outer) c (backTo2 Q E) s
theorem CtrT.mk {D U : Nat} {w : World} {c : Code} {pre : Nat → Prop} {R : Heap → Value → List (Addr × Obj) → Prop}
    (h : ∀ (p : Program) (loose : List Str) (mean : ExcName → Option Value) (mg mb : Str → Option Value) (gd : Option (List Code)) (cn : Str) (cs : Scope) (a : Addr) (ccd : Value) (cl : List (Str × Addr)) (outer : List Env) (A₀ : Around) (base h₀ : Heap) (L : Addr) (m : Str → Option Value) (s : Shared) (Q E : Value → Shared → Prop),
      pre s.toks → Below A₀ base outer h₀ → Fr h₀ L s.heap m → (Mine.hd.heap_39 w.params).In h₀ → News h₀ L s.heap [] → Top p loose mean mg mb h₀ → cs.kind = .function →
      (∀ v led' h' tk', R s.heap v led' → Fr h₀ L h' m → News h₀ L h' led' → Kept [] s.heap h' → Q v { s with heap := h', toks := tk' }) →
      codeAny (model P0 w) (ktrTop D U gd cn cs L a ccd cl outer) c (backTo2 Q E) s) : CtrT D U w c pre R :=
  fun p loose mean mg mb _ _ gd cn cs a ccd cl outer A₀ base h₀ L m s Q E hp hd hu B F X T hk r => lowerC (h p loose mean mg mb gd cn cs a ccd cl outer A₀ base h₀ L m s Q E hp B F X (fun _ hq => nomatch hq) T hk r) hd hu
/-- `is` of two texts of other tokens: by the world, and never if the texts differ -/
theorem is_str {M : Model} {A : Around} {E : Value → Shared → Prop} {s : Shared} {y z : Str} {u v : Tok} {Q : Value → Shared → Prop}
    (h0 : 0 < u) (h1 : 0 < v) (hne : u ≠ v) (hb : NoneBooked s.heap) (hq : ∀ b, (b = true → y = z) → Q (.bool b) s) : wpAny M A (compareOp .Is (.str y u) (.str z v)) Q E s := by
  show wpAny M A (do return .bool (← isSame (.str y u) (.str z v))) Q E s
  refine wpAny_bind (Q := Q) (m := isSame (.str y u) (.str z v)) ?_
  show wpAny M A (isSame.created (y == z) u v) _ E s
  have fin : ∀ b, (b = true → y = z) → wpAny M A (pure (Value.bool b) : Sem Value) Q E s := fun b hb => wpAny_pure (hq b hb)
  unfold isSame.created
  refine wpAny_ite ?_
  split
  · rename_i h
    simp only [Bool.or_eq_true, beq_iff_eq] at h
    rcases h with h | h
    · rw [h] at h0; exact absurd h0 (Nat.lt_irrefl _)
    · rw [h] at h1; exact absurd h1 (Nat.lt_irrefl _)
  refine wpAny_ite ?_
  split
  · rename_i h; exact absurd (by simpa using h) hne
  refine wpAny_ite ?_
  split
  · exact wpAny_pure (fin false (fun h => nomatch h))
  · rename_i hyz
    have hyz' : y = z := by simpa using hyz
    refine wpAny_bind (wpAny_sharingNotTold_none hb ?_)
    first | rw [if_neg Bool.false_ne_true] | simp only [Bool.false_eq_true, if_false]
    refine wpAny_bind (wpAny_sharingNotTold_none hb ?_)
    first | rw [if_neg Bool.false_ne_true] | simp only [Bool.false_eq_true, if_false]
    exact wpAny_bind (wpAny_rule (wpAny_bind (wpAny_askSetting (wpAny_pure (fin _ fun _ => hyz')))))
theorem NoneBooked.fr {h₀ h : Heap} {L : Addr} {m : Str → Option Value} (b : NoneBooked h₀) (F : Fr h₀ L h m) : NoneBooked h := by
  obtain ⟨mc, hn, e⟩ := b
  exact ⟨mc, hn.keeps F.keep, e⟩
end
section
-- B16
open PySem PySem.W PyProof.Rows PySem.Spec PySem.Calls
section
variable {prog : Program} {w : World} {A : Around} {E : Value → Shared → Prop} {s : Shared} {h₀ : Heap} {L : Addr} {m : Str → Option Value} {env : Env}
/-- a comprehension's source is an ascii text, and its turns are told, with the signs' tokens -/
noncomputable def StrSrc (prog : Program) (w : World) (A : Around) (h₀ : Heap) (L : Addr) (m : Str → Option Value) (env : Env) (elt : Expr) (x : Str) (scope : Scope) (cl : List (Str × Addr)) (Q : Value → Shared → Prop) (xv : Value) (s₁ : Shared) : Prop :=
  ∃ (y : Str) (t : Tok) (news : List (Addr × Obj)) (J : Nat → List Value → Prop), xv = .str y t ∧ (y.cps.all (· < 128)) = true ∧ y.cps.size ≤ sizeLine ∧ A.handled = none ∧ Fr h₀ L s₁.heap m ∧ News h₀ L s₁.heap news ∧ J 0 [] ∧
    (∀ i c u I oI C oC D m₂ ys h tk (E' : Value → Shared → Prop), y.cps[i]? = some c → s₁.toks ≤ u → u < tk → J i ys → LCg.NsObj oC m₂ → m₂ x = some (.str ⟨#[c]⟩ u) → Fr h₀ L h m → News h₀ L h ((I, oI) :: (C, oC) :: (D, LCg.lst ys) :: news) → LCg.Off3 I C D news → ((@Ne Nat I C) ∧ (@Ne Nat I D) ∧ (@Ne Nat C D)) →
      wpAny (model prog w) A (eval elt (compEnvC scope cl C env)) (LCg.CompEnd h₀ L m { s₁ with heap := h, toks := tk } I oI C oC D (LCg.lst ys) (fun _ => True) (fun v n' => n' = news ∧ J (i + 1) (ys ++ [v]))) E' { s₁ with heap := h, toks := tk }) ∧
    ∀ ys, J y.cps.size ys → LCg.FinE h₀ L m s₁ Q ys news
theorem comp_overS {elt iter : Expr} {x : Str} {px : Pos} {scope : Scope} {cl : List (Str × Addr)} {pos : Pos} {Q : Value → Shared → Prop}
    (_F₀ : Fr h₀ L s.heap m) (hclos : closureFor scope env = pure cl) (hcell : ∀ y ∈ scope.names, y.2 ≠ .cell) (hkind : scope.kind = .function)
    (hnames : ∀ y ∈ scope.names, y.2 = .local → scope.names.lookup y.1 = some .local) (hx : scope.names.lookup x = some .local)
    (h : wpAny (model prog w) A (eval iter env) (StrSrc prog w A h₀ L m env elt x scope cl Q) E s)
    (hs : ∀ x, foldedSetIterable iter env x = pure x := by intro _; rfl) :
    wpAny (model prog w) A (eval (.ListComp elt [⟨.Name x px, iter, [], 0⟩] scope pos) env) Q E s := by
  rw [eval_ListComp]
  refine wpAny_comprehension_free (use := none) rfl hs hclos hkind hnames (wpAny_mono h (fun xv s₁ h₁ => ?_) fun _ _ e => e)
  obtain ⟨y, t, news, J, rfl, ha, hsz, hh, F, N, h0, turn, fin⟩ := h₁
  refine wpAny_pyIter_ascii ha ?_
  refine block_S (y := y) (t := t) (news := news) J hh hsz hcell hkind hx ⟨_, Heap.get?_push_size _ rfl, rfl, rfl⟩ (F.push _) (fun p hp => ⟨Heap.get?_push_of_some _ (N p hp).1, (N p hp).2⟩) (Nat.ne_of_lt F.ns.lt) (next_is_new F) (fun p hp => Nat.ne_of_lt (Heap.lt_size (N p hp).1)) h0 (fun i c u oI => turn i c u _ oI) ?_
  intro D C h' tk m' ys F' N' o1 hn hC₀ hD₀ hCL hDL hCD offC hJ
  refine ⟨m', hn, fun h'' hs'' => fin ys hJ D h'' tk (F'.change hs'' hCL hC₀) (fun p hp => ?_) o1⟩
  refine ⟨hs''.extBut _ _ ?_ (N' p hp).1, (N' p hp).2⟩
  rcases List.mem_cons.mp hp with rfl | hp
  · exact Ne.symm hCD
  · exact offC p hp
end
end
section
-- B17
open PySem PySem.W PyProof.Rows PySem.Spec PySem.Calls
section
variable {D U : Nat} {w : World} {pre : Nat → Prop} {R : Heap → Value → List (Addr × Obj) → Prop}
    {p : Program} {loose : List Str} {mean : ExcName → Option Value} {mg mb : Str → Option Value} {d u : Nat} {gd : Option (List Code)} {cn : Str} {cs : Scope} {a : Addr} {ccd : Value} {cl : List (Str × Addr)} {outer : List Env} {A₀ : Around} {base h₀ : Heap} {L : Addr} {m : Str → Option Value} {s : Shared} {Q E : Value → Shared → Prop} {news : List (Addr × Obj)} {f : Value} {args : List Value}
theorem CtrT.use0 (C : CtrT D U w (.call f ⟨args, []⟩) pre R) (hp : pre s.toks)
    (hd : d ≤ D) (hu : u ≤ U) (B : Below A₀ base outer h₀) (F : Fr h₀ L s.heap m) (X : (Mine.hd.heap_39 w.params).In h₀) (N : News h₀ L s.heap news) (T : Top p loose mean mg mb h₀) (hk : cs.kind = .function)
    (r : ∀ v led' h' tk', R s.heap v led' → Fr h₀ L h' m → News h₀ L h' (led' ++ news) → Q v { s with heap := h', toks := tk' }) :
    wpAny (model P0 w) (ktrTop d u gd cn cs L a ccd cl outer) (call f args) Q E s := wpAny_call <|
  C p loose mean mg mb d u gd cn cs a ccd cl outer A₀ base h₀ L m s Q E hp hd hu B F X T hk fun v led' h' tk' hR F' N' k =>
    r v led' h' tk' hR F' fun q hq => (List.mem_append.mp hq).elim (N' q) fun hq => k.news N (fun _ _ _ hr => nomatch hr) q hq
end
end
section
-- B18
open PySem PySem.W PySem.Flt PyProof.Rows PySem.Spec PySem.Calls
/-- the quotient of two whole numbers -/
noncomputable def quotF (a b : Int) : UInt64 := Float64.ofFrac (decide (a < 0) != decide (b < 0)) a.natAbs b.natAbs
noncomputable def shareN (la : Nat) : Int := ([0, 2, 3, 4] : List Int).getD ((la : Int).fdiv 2).toNat 0
theorem shareN_le (n : Nat) : ((([0, 2, 3, 4] : List Int).getD n 0).natAbs) < 2 ^ 1023 := by
  refine Nat.lt_of_lt_of_le (m := 5) ?_ (by decide +kernel)
  match n with
  | 0 => decide
  | 1 => decide
  | 2 => decide
  | 3 => decide
  | n + 4 => simp
theorem valN_le (n : Nat) : ((1 + ((n : Int)).fmod 4).natAbs) < 2 ^ 1023 := by
  refine Nat.lt_of_lt_of_le (m := 100) ?_ (by decide +kernel)
  have h1 : 0 ≤ (n : Int).fmod 4 := Int.fmod_nonneg (by omega) (by decide)
  have h2 : (n : Int).fmod 4 < 4 := Int.fmod_lt_of_pos _ (by decide)
  omega
theorem modN_lt (n : Nat) : ((n : Int).fmod 2).natAbs < 2 ^ 1024 - 2 ^ 970 := by
  refine Nat.lt_of_lt_of_le (m := 100) ?_ (by decide +kernel)
  have h1 : 0 ≤ (n : Int).fmod 2 := Int.fmod_nonneg (by omega) (by decide)
  have h2 : (n : Int).fmod 2 < 2 := Int.fmod_lt_of_pos _ (by decide)
  omega
noncomputable def hueF (lo hi : Nat) : UInt64 := quotF ((lo : Int) + 8 * hi) 64
noncomputable def shareF (la : Nat) : UInt64 := quotF (shareN la) 4
noncomputable def valueF (lo : Nat) : UInt64 := quotF (1 + (lo : Int).fmod 4) 4
noncomputable def hue2F (lo hi la : Nat) : UInt64 := Float64.add (hueF lo hi) (Float64.ofInt ((la : Int).fmod 2))
noncomputable def toldF (lo hi la : Nat) : UInt64 := if (1 : Int) < la then hueF lo hi else 0
/-- one part of the colour against the lightness -/
noncomputable def bitF (x l : UInt64) (k p : Int) : Int := if (Float64.cmp x l == some .gt) = true then Builtin.bitOr k (1 * 2 ^ Int.toNat p) else k
noncomputable def kindF (r g b : UInt64) : Int := bitF b (lightR r g b) (bitF g (lightR r g b) (bitF r (lightR r g b) 0 0) 1) 2
/-- is part p less than a quarter of the wheel from its corner -/
noncomputable def wayN (lo hi : Nat) (corner : Int) : Int := let way := (3 * ((lo : Int) + 8 * hi) - corner).natAbs; min way (192 - way)
noncomputable def nearB (lo hi la : Nat) (corner : Int) : Bool := decide (1 < la) && decide (wayN lo hi corner < 48)
noncomputable def kindN (lo hi la : Nat) : Int := (if nearB lo hi la 0 then 1 else 0) + (if nearB lo hi la 64 then 2 else 0) + (if nearB lo hi la 128 then 4 else 0)
noncomputable def okKind (lo hi la : Nat) : Bool :=
  match hsvR (hue2F lo hi la) (shareF la) (valueF lo) with
  | some (r, g, b) => @decide (okHls r g b) (okHlsD r g b) && @decide (okRsv r g b) (okRsvD r g b) && (Float64.cmp (hueR r g b) (toldF lo hi la) == some .eq) && (Float64.cmp (satR r g b) (shareF la) == some .eq) && (Float64.cmp (max3 r g b) (valueF lo) == some .eq) && decide (kindF r g b = kindN lo hi la)
  | none => false
noncomputable def Mark : Prop := 0 = 0
theorem Halt.out2 {P : Prop} (_ : Mark) (h : Halt P) : P := h
section
variable {M : Model} {A : Around} {E : Value → Shared → Prop} {s : Shared} {c : Sem Value} {Q : Value → Shared → Prop} {g : Heap} {L : Addr} {m : Str → Option Value} {n : List (Addr × Obj)}
/-- between two parts of a reckoning: the value is so, names and ledger stand -/
noncomputable def Cut (g : Heap) (L : Addr) (m : Str → Option Value) (n : List (Addr × Obj)) (s : Shared) (Pv : Value → Prop) (v : Value) (s' : Shared) : Prop :=
  ∃ h' tk', s' = { s with heap := h', toks := tk' } ∧ Pv v ∧ Fr g L h' m ∧ News g L h' n
theorem cut (Pv : Value → Prop) (_F : Fr g L s.heap m) (_N : News g L s.heap n) (h1 : wpAny M A c (Cut g L m n s Pv) E s)
    (h2 : ∀ v h' tk', Pv v → Fr g L h' m → News g L h' n → Q v { s with heap := h', toks := tk' }) : wpAny M A c Q E s := by
  refine wpAny_mono h1 (fun v s' h => ?_) fun _ _ e => e
  obtain ⟨h', tk', rfl, hv, F', N'⟩ := h
  exact h2 v h' tk' hv F' N'
end
end
section
-- B19
open PySem PySem.W PySem.Flt PyProof.Rows PySem.Spec PySem.Calls
section
variable {prog : Program} {w : World} {A : Around} {E : Value → Shared → Prop} {s : Shared}
theorem sliceApplied_two {sl : Addr} {u : Tok} {Q : Int × Int × Nat → Shared → Prop} (hs : s.heap.IsSliceOf sl .none (.int 2 u) .none) (h : Q (0, 1, 2) s) :
    wpAny (model prog w) A (Builtin.Slice.sliceApplied (.ref sl) (pure ((3 : Nat) : Int))) Q E s := by
  obtain ⟨os, hos, hcs, hds⟩ := id hs
  unfold Builtin.Slice.sliceApplied Builtin.Slice.sliceFields
  refine wpAny_bind (wpAny_bind (wpAny_field hos hds (x := .none) rfl (wpAny_bind (wpAny_field hos hds (x := .int 2 u) rfl (wpAny_bind (wpAny_field hos hds (x := .none) rfl (wpAny_pure ?_)))))))
  refine wpAny_bind (slicePart_none ?_)
  show wpAny _ _ (if ((1 : Int) == 0) = true then _ else _) _ _ s
  rw [if_neg (by decide)]
  refine wpAny_bind (slicePart_none (wpAny_bind (slicePart_int (wpAny_bind (wpAny_pure ?_)))))
  exact wpAny_pure h
theorem getItem_tuple_two {t sl : Addr} {x y z : Value} {u : Tok} {Q : Value → Shared → Prop} (ht : IsTup s.heap t #[x, y, z]) (hs : s.heap.IsSliceOf sl .none (.int 2 u) .none)
    (h : Q (.ref s.heap.objs.size) { s with heap := s.heap.push (tupO #[x, y]) }) : wpAny (model prog w) A (getItem (.ref t) (.ref sl)) Q E s := by
  have hsz : sizeOk (.seq #[x, y]) := by
    show 2 ≤ sizeLine
    rw [PySem.sizeLine_eq]; omega
  obtain ⟨os, hos, hcs, hds⟩ := id hs
  have hTs : s.TypeIs (.ref sl) "slice" := ⟨os, hos, hcs⟩
  unfold getItem
  try with_reducible refine wpAny_holding ?_
  first | refine wpAny_bind (wpAny_pure ?_) | skip
  refine wpAny_bind (wpAny_sequenceKey ht.typeIs (by decide) ?_)
  refine wpAny_bind (wpAny_callSpecial?_slot (name := Str.ofString "__getitem__") ht.typeIs slot_tuple_getitem
    (wpAny_call_entry slot_tuple_getitem ht.typeIs entry_tuple_getitem ?_ (args_tuple_getitem _ _)))
  show wpAny _ _ (Builtin.Tuple.tupleItemsOf (.ref t) >>= _) _ _ s
  refine wpAny_bind (tupleItemsOf_ ht ?_)
  refine wpAny_bind (wpAny_typeOf hTs ?_)
  rw [if_pos (by decide)]
  refine wpAny_bind (sliceApplied_two hs ?_)
  have hno : ¬ (((0 : Int) == 0 && (1 : Int) == 1 && (2 : Nat) == (#[x, y, z] : Array Value).size) = true) := by
    simp
  show wpAny _ _ (if ((0 : Int) == 0 && (1 : Int) == 1 && (2 : Nat) == (#[x, y, z] : Array Value).size) = true then _ else _) _ _ s
  rw [if_neg hno]
  have e : ((List.range 2).filterMap fun (k : Nat) => (#[x, y, z] : Array Value)[((0 : Int) + (k : Int) * 1).toNat]?).toArray = #[x, y] := rfl
  rw [e]
  first
    | exact wpAny_bind (m := Builtin.Tuple.tupleExact _) (wpAny_newObj_type (wpAny_pure ⟨_, rfl, wpAny_pure h⟩) hsz)
    | exact wpAny_bind (m := Builtin.Tuple.tupleExact _) (wpAny_newObj_type (wpAny_bind (wpAny_pure (wpAny_pure ⟨_, rfl, wpAny_pure h⟩))) hsz)
    | exact wpAny_bind (wpAny_bind (m := Builtin.Tuple.tupleExact _) (wpAny_newObj_type (wpAny_pure (wpAny_pure ⟨_, rfl, wpAny_pure h⟩)) hsz))
    | exact wpAny_bind (wpAny_bind (m := Builtin.Tuple.tupleExact _) (wpAny_newObj_type (wpAny_pure ⟨_, rfl, wpAny_pure h⟩) hsz))
end
section
variable {prog : Program} {w : World} {A : Around} {E : Value → Shared → Prop} {s : Shared} {h₀ : Heap} {L : Addr} {m : Str → Option Value} {news : List (Addr × Obj)}
theorem slice_two {value slice : Expr} {t : Addr} {x y z : Value} {u : Tok} {Q : Value → Shared → Prop}
    (F : Fr h₀ L s.heap m) (N : News h₀ L s.heap news) (ht : IsTup s.heap t #[x, y, z])
    (h : ∀ D h', Fr h₀ L h' m → News h₀ L h' ((D, tupO #[x, y]) :: news) → (∀ p ∈ news, p.1 < D) → Q (.ref D) { s with heap := h' })
    {ops : List Value} (hs : subscripted slice false (.ref t) (.ref s.heap.objs.size) = operate ops (getItem (.ref t) (.ref s.heap.objs.size))) :
    wpAny (model prog w) A (subscriptTail value slice (.ref t) (.ref s.heap.objs.size)) Q E { s with heap := s.heap.push { cls := .type "slice", data := .fields #[.none, .int 2 u, .none] } } := by
  have ht' : IsTup (s.heap.push { cls := .type "slice", data := .fields #[.none, .int 2 u, .none] }) t #[x, y, z] := ht.keeps fun _ _ e => Heap.get?_push_of_some _ e
  refine tail_any (s := { s with heap := s.heap.push { cls := .type "slice", data := .fields #[.none, .int 2 u, .none] } }) ht'.typeIs slot_tuple_getitem.lookup
    (getItem_tuple_two ht' (Heap.IsSliceOf.new ..) ?_) hs
  have N1 := News.push (F.push { cls := .type "slice", data := .fields #[.none, .int 2 u, .none] }) (N.grown fun _ _ e => Heap.get?_push_of_some _ e) (tupO #[x, y])
  rw [Heap.size_push] at N1
  show Q (.ref (s.heap.push _).objs.size) _
  rw [Heap.size_push]
  exact h _ _ ((F.push _).push _) N1 fun p hp => Nat.lt_succ_of_lt (Heap.lt_size (N p hp).1)
end
theorem isTup_of {h₀ h : Heap} {L a : Addr} {vs : Array Value} {news : List (Addr × Obj)} (N : News h₀ L h news) (hm : (a, tupO vs) ∈ news) : IsTup h a vs := ⟨_, (N _ hm).1, rfl, _, rfl⟩
end
section
-- B20
open PySem PySem.W PySem.Flt PyProof.Rows PySem.Spec PySem.Calls
/-- a token that was given away leaves the counter above 0 -/
theorem gt0 {M : Model} {α : Type} {A : Around} {t : Sem α} {Q : α → Shared → Prop} {E : Value → Shared → Prop} {h : Heap} {gs : _} {dr : _} {n : Nat} {os : _}
    (k : ∀ tk, 0 < tk → wpAny M A t Q E ⟨h, gs, dr, tk, os⟩) : wpAny M A t Q E ⟨h, gs, dr, n + 1, os⟩ := k _ (Nat.succ_pos _)
theorem gtA {M : Model} {α : Type} {A : Around} {t : Sem α} {Q : α → Shared → Prop} {E : Value → Shared → Prop} {h : Heap} {gs : _} {dr : _} {n : Nat} {os : _} (h0 : 0 < n)
    (k : ∀ tk, 0 < tk → wpAny M A t Q E ⟨h, gs, dr, tk, os⟩) : wpAny M A t Q E ⟨h, gs, dr, n, os⟩ := k _ h0
section
variable {M : Model} {A : Around} {E : Value → Shared → Prop} {s : Shared}
/-- `is` of two floats: by the world -/
theorem is_float {x y : UInt64} {t u : Tok} {Q : Bool → Shared → Prop} (h0 : 0 < t) (h1 : 0 < u) (hb : NoneBooked s.heap) (hq : ∀ b, Q b s) : wpAny M A (isSame (.float x t) (.float y u)) Q E s := by
  show wpAny M A (isSame.created (x == y && !Float64.isNaN x) t u) _ E s
  unfold isSame.created
  refine wpAny_ite ?_
  split
  · rename_i h
    simp only [Bool.or_eq_true, beq_iff_eq] at h
    rcases h with h | h
    · rw [h] at h0; exact absurd h0 (Nat.lt_irrefl _)
    · rw [h] at h1; exact absurd h1 (Nat.lt_irrefl _)
  refine wpAny_ite ?_
  split
  · exact wpAny_pure (hq _)
  refine wpAny_ite ?_
  split
  · exact wpAny_pure (hq _)
  · refine wpAny_bind (wpAny_sharingNotTold_none hb ?_)
    first | rw [if_neg Bool.false_ne_true] | simp only [Bool.false_eq_true, if_false]
    refine wpAny_bind (wpAny_sharingNotTold_none hb ?_)
    first | rw [if_neg Bool.false_ne_true] | simp only [Bool.false_eq_true, if_false]
    exact wpAny_bind (wpAny_rule (wpAny_bind (wpAny_askSetting (wpAny_pure (hq _)))))
end
theorem eqAt_ff {A : Around} {s : Shared} {x y : UInt64} {t u : Tok} (h0 : 0 < t) (h1 : 0 < u) (hb : NoneBooked s.heap) (hc : (Float64.cmp x y == some .eq) = true) : SeqAt.EqAt A s (.float x t) (.float y u) true := fun prog w E Q h => by
  unfold eqBool
  refine wpAny_holding ?_
  refine wpAny_ite_split (fun _ => ?_) (fun _ => ?_)
  · exact wpAny_bind (wpAny_rule (wpAny_pure h))
  · refine wpAny_bind (is_float h0 h1 hb fun b => ?_)
    cases b
    · refine wpAny_bind (AutoFloatOps.eq_0 ?_)
      rw [hc]
      exact wpAny_truthy_bool h
    · exact wpAny_pure h
section
variable {prog : Program} {w : World} {A : Around} {E : Value → Shared → Prop} {s : Shared} {Q : Value → Shared → Prop} {h₀ : Heap} {L : Addr} {m : Str → Option Value} {news : List (Addr × Obj)}
/-- two tuples of three floats are compared: they are alike -/
theorem ne_tup3 {a b : Addr} {x0 x1 x2 y0 y1 y2 : UInt64} {t0 t1 t2 u0 u1 u2 : Tok} (hl : IsTup s.heap a #[.float x0 t0, .float x1 t1, .float x2 t2]) (hr : IsTup s.heap b #[.float y0 u0, .float y1 u1, .float y2 u2])
    (ht0 : 0 < t0) (ht1 : 0 < t1) (ht2 : 0 < t2) (hu0 : 0 < u0) (hu1 : 0 < u1) (hu2 : 0 < u2) (hb : NoneBooked s.heap)
    (hc0 : (Float64.cmp x0 y0 == some .eq) = true) (hc1 : (Float64.cmp x1 y1 == some .eq) = true) (hc2 : (Float64.cmp x2 y2 == some .eq) = true) (hu : A.units + 64 < cLine)
    (h : Q (.bool false) s) : wpAny (model prog w) A (compareOp .NotEq (.ref a) (.ref b)) Q E s := by
  refine SeqAt.RcNeAt.tuples (e := fun _ => true) hl hr (by omega) ?_ prog w E Q h
  intro j h1 h2
  match j, h1, h2 with
  | 0, _, _ => exact eqAt_ff ht0 hu0 hb hc0
  | 1, _, _ => exact eqAt_ff ht1 hu1 hb hc1
  | 2, _, _ => exact eqAt_ff ht2 hu2 hb hc2
  | j + 3, h1, _ => exact absurd h1 (by simp)
theorem max3_fffT {x y z : UInt64} {t u v : Tok} (hh : A.handled = none) (p0 : 0 < t) (p1 : 0 < u) (p2 : 0 < v) (F : Fr h₀ L s.heap m) (N : News h₀ L s.heap news)
    (h : ∀ h' tk k, (0 < s.toks → 0 < tk) → 0 < k → Fr h₀ L h' m → News h₀ L h' news → Q (.float (max3 x y z) k) { s with heap := h', toks := tk }) :
    wpAny (model prog w) A (call (.builtin "max") [.float x t, .float y u, .float z v]) Q E s := by
  refine wpAny_toks ?_
  have hT : (s.heap.push (tupO #[.float x t, .float y u, .float z v])).IsTuple s.heap.objs.size #[.float x t, .float y u, .float z v] := ⟨_, Heap.get?_push_size _ rfl, rfl, 0, rfl⟩
  refine call_max_three (wpAny_pyIter_tuple hT ?_)
  have hsz : (s.heap.push (tupO #[.float x t, .float y u, .float z v])).objs.size = s.heap.objs.size + 1 := Heap.size_push ..
  refine ⟨_, [_, s.heap.objs.size], [_], _, _, _, _, rfl, Walks.tuple (A := A.in1) hh _ s.heap.objs.size (by rw [hsz]; exact Nat.ne_of_lt (Nat.lt_succ_self _)) #[.float x t, .float y u, .float z v],
    ⟨⟨_, Heap.get?_push_size _ rfl, rfl, rfl⟩, hT.push _⟩, fun c hc => ?_, by simp, cmpOf_gt #[.float x t, .float y u, .float z v] (by intro a ha; simp at ha; rcases ha with rfl | rfl | rfl <;> exact .float _ _), fun a h' tk hP hk => ?_⟩
  · show c < ((s.heap.push _).push _).objs.size
    rw [Heap.size_push, hsz]
    rcases List.mem_cons.mp hc with rfl | hc
    · rw [hsz]; exact Nat.lt_succ_self _
    · rcases List.mem_cons.mp hc with rfl | hc
      · exact Nat.lt_succ_of_lt (Nat.lt_succ_self _)
      · cases hc
  · have hold : ∀ c o, s.heap.get? c = some o → h'.get? c = some o := fun c o e => by
      refine hk c o (fun hm => ?_) (Heap.get?_push_of_some _ (Heap.get?_push_of_some _ e))
      rcases List.mem_cons.mp hm with e1 | hm
      · have := Heap.lt_size e; rw [e1, hsz] at this; exact Nat.lt_irrefl _ (Nat.lt_of_succ_lt this)
      · cases hm
    have hv : ∃ k, 0 < k ∧ a = .float (max3 x y z) k := by
      unfold max3
      cases c1 : (Float64.cmp x y == some .lt) <;> cases c2 : (Float64.cmp y z == some .lt) <;> cases c3 : (Float64.cmp x z == some .lt) <;>
        simp [argBest, ltV, c1, c2, c3] at hP <;> subst hP <;> first | exact ⟨_, p0, rfl⟩ | exact ⟨_, p1, rfl⟩ | exact ⟨_, p2, rfl⟩
    obtain ⟨k, hkk, rfl⟩ := hv
    exact fun hle => h h' tk k (fun z => Nat.lt_of_lt_of_le z hle) hkk (F.grownK hold) (N.grown hold)
theorem min3_fffT {x y z : UInt64} {t u v : Tok} (hh : A.handled = none) (p0 : 0 < t) (p1 : 0 < u) (p2 : 0 < v) (F : Fr h₀ L s.heap m) (N : News h₀ L s.heap news)
    (h : ∀ h' tk k, (0 < s.toks → 0 < tk) → 0 < k → Fr h₀ L h' m → News h₀ L h' news → Q (.float (min3 x y z) k) { s with heap := h', toks := tk }) :
    wpAny (model prog w) A (call (.builtin "min") [.float x t, .float y u, .float z v]) Q E s := by
  refine wpAny_toks ?_
  have hT : (s.heap.push (tupO #[.float x t, .float y u, .float z v])).IsTuple s.heap.objs.size #[.float x t, .float y u, .float z v] := ⟨_, Heap.get?_push_size _ rfl, rfl, 0, rfl⟩
  refine call_min_three (wpAny_pyIter_tuple hT ?_)
  have hsz : (s.heap.push (tupO #[.float x t, .float y u, .float z v])).objs.size = s.heap.objs.size + 1 := Heap.size_push ..
  refine ⟨_, [_, s.heap.objs.size], [_], _, _, _, _, rfl, Walks.tuple (A := A.in1) hh _ s.heap.objs.size (by rw [hsz]; exact Nat.ne_of_lt (Nat.lt_succ_self _)) #[.float x t, .float y u, .float z v],
    ⟨⟨_, Heap.get?_push_size _ rfl, rfl, rfl⟩, hT.push _⟩, fun c hc => ?_, by simp, cmpOf_lt #[.float x t, .float y u, .float z v] (by intro a ha; simp at ha; rcases ha with rfl | rfl | rfl <;> exact .float _ _), fun a h' tk hP hk => ?_⟩
  · show c < ((s.heap.push _).push _).objs.size
    rw [Heap.size_push, hsz]
    rcases List.mem_cons.mp hc with rfl | hc
    · rw [hsz]; exact Nat.lt_succ_self _
    · rcases List.mem_cons.mp hc with rfl | hc
      · exact Nat.lt_succ_of_lt (Nat.lt_succ_self _)
      · cases hc
  · have hold : ∀ c o, s.heap.get? c = some o → h'.get? c = some o := fun c o e => by
      refine hk c o (fun hm => ?_) (Heap.get?_push_of_some _ (Heap.get?_push_of_some _ e))
      rcases List.mem_cons.mp hm with e1 | hm
      · have := Heap.lt_size e; rw [e1, hsz] at this; exact Nat.lt_irrefl _ (Nat.lt_of_succ_lt this)
      · cases hm
    have hv : ∃ k, 0 < k ∧ a = .float (min3 x y z) k := by
      unfold min3
      cases c1 : (Float64.cmp y x == some .lt) <;> cases c2 : (Float64.cmp z y == some .lt) <;> cases c3 : (Float64.cmp z x == some .lt) <;>
        simp [argBest, ltV, c1, c2, c3] at hP <;> subst hP <;> first | exact ⟨_, p0, rfl⟩ | exact ⟨_, p1, rfl⟩ | exact ⟨_, p2, rfl⟩
    obtain ⟨k, hkk, rfl⟩ := hv
    exact fun hle => h h' tk k (fun z => Nat.lt_of_lt_of_le z hle) hkk (F.grownK hold) (N.grown hold)
end
end
section
-- B21
open PySem PySem.W PyProof.Rows PySem.Spec PySem.Calls
section
variable {prog : Program} {w : World} {A : Around} {E : Value → Shared → Prop} {s : Shared} {h₀ : Heap} {L : Addr} {m : Str → Option Value} {env : Env}
/-- the source is a list of the ledger -/
theorem compAt_listN {elt : Expr} {x : Str} {scope : Scope} {cl : List (Str × Addr)} {Fin : Shared → List Value → List (Addr × Obj) → Prop} {l : Addr} {vs : List Value} {e : Nat} {news : List (Addr × Obj)}
    (hh : A.handled = none) (F : Fr h₀ L s.heap m) (N : News h₀ L s.heap news) (hm : (l, listOf vs.toArray e) ∈ news) (hsz : vs.length ≤ sizeLine)
    (h : ∀ g, LCg.CompRest prog w A h₀ L m env elt x scope cl { s with heap := g } (fun nw => (l, listOf vs.toArray e) ∈ nw) (fun i v => vs[i]? = some v) (Fin { s with heap := g }) vs.length 0 [] news) :
    wpAny (model prog w) A (pyIter (.ref l)) (fun it s₂ => CompAt prog w A h₀ L m env elt x scope cl Fin it s₂) E s := by
  have hl : s.heap.IsList l vs.toArray := ⟨_, (N _ hm).1, rfl, _, rfl⟩
  have hlt : l < s.heap.objs.size := Heap.lt_size (N _ hm).1
  refine wpAny_pyIter_list hl ?_
  refine ⟨s.heap.objs.size, [s.heap.objs.size, l], vs.length, (fun i v => vs[i]? = some v), (fun i h => h.IsListIter s.heap.objs.size l i ∧ h.IsList l vs.toArray), (fun nw => (l, listOf vs.toArray e) ∈ nw), news, rfl, ?_, hsz, fun i h st => ⟨_, st.1.choose_spec.1⟩, ?_, ⟨⟨_, Heap.get?_push_size _ rfl, rfl, rfl⟩, hl.push _⟩, ?_, F.push _, fun p hp => ⟨Heap.get?_push_of_some _ (N p hp).1, (N p hp).2⟩, Nat.ne_of_lt F.ns.lt, next_is_new F, fun p hp => Nat.ne_of_lt (Heap.lt_size (N p hp).1), hm, h _⟩
  · have W := Walks.list (prog := prog) (w := w) hh s.heap.objs.size l (Nat.ne_of_lt hlt) vs.toArray
    simp only [List.size_toArray, List.getElem?_toArray] at W
    exact W
  · intro i h h' o nw st e1 e2 _ hN hS
    refine ⟨?_, ⟨_, (hN _ hS).1, rfl, _, rfl⟩⟩
    obtain ⟨o', e', r⟩ := st.1
    rw [e1] at e'; cases e'
    exact ⟨o, e2, r⟩
  · intro b hb
    show _ < (s.heap.push _).objs.size
    rw [Heap.size_push]
    rcases List.mem_cons.mp hb with rfl | hb
    · exact Nat.lt_succ_self _
    · rw [List.mem_singleton.mp hb]; exact Nat.lt_succ_of_lt hlt
end
end
section
-- B22
open PySem PySem.W PyProof.Rows PySem.Spec PySem.Calls
section
variable {prog : Program} {w : World} {A : Around} {E : Value → Shared → Prop} {s : Shared} {env : Env} {h₀ : Heap} {x : Str} {body : List Stmt} {Q : Flow → Shared → Prop}
/-- the turns that are left of a loop over a list that stands beneath -/
noncomputable def ListRestH (prog : Program) (w : World) (A : Around) (E : Value → Shared → Prop) (h₀ : Heap) (env : Env) (x : Str) (body : List Stmt) (Q : Flow → Shared → Prop) (s : Shared) (I : Addr) : List Value → (Str → Option Value) → List (Addr × Obj) → Prop
  | [], m, news => ∀ h tk, Fr h₀ env.locals h m → News h₀ env.locals h news → Q .next { s with heap := h, toks := tk }
  | v :: r, m, news => ∀ (it : Obj) h tk, it.cls = .type "list_iterator" → Fr h₀ env.locals h (fun y => if y = x then some v else m y) → News h₀ env.locals h ((I, it) :: news) →
      wpAny (model prog w) A (execs body env) (UnrPost h₀ env.locals { s with heap := h, toks := tk } I it (fun m' n' => ListRestH prog w A E h₀ env x body Q s I r m' n') Q) E { s with heap := h, toks := tk }
theorem iter_listH {ax : Addr} {vs : List Value} {m₀ : Str → Option Value} {news : List (Addr × Obj)}
    (hh : A.handled = none) (F : Fr h₀ env.locals s.heap m₀) (N : News h₀ env.locals s.heap news) (hl₀ : h₀.IsList ax vs.toArray)
    (rest₀ : ∀ I : Addr, (∀ p ∈ news, p.1 < I) → ListRestH prog w A E h₀ env x body Q s I vs m₀ news) :
    wpAny (model prog w) A (pyIter (.ref ax)) (fun it s₂ => LoopAtV prog w A h₀ env x body Q E it s₂) E s := by
  have hl : s.heap.IsList ax vs.toArray := hl₀.at fun o e => F.keep _ o e
  have hlt : ax < s.heap.objs.size := by obtain ⟨_, e, _⟩ := hl; exact Heap.lt_size e
  have hne : ax ≠ s.heap.objs.size := Nat.ne_of_lt hlt
  have hax₀ : ∀ {b}, b = ax → h₀.get? b = none → False := fun e h => by
    obtain ⟨_, e', _⟩ := hl₀
    rw [e, e'] at h; cases h
  refine wpAny_pyIter_list hl ?_
  have rest := rest₀ s.heap.objs.size fun p hp => Heap.lt_size (N p hp).1
  have W := Walks.list (prog := prog) (w := w) hh s.heap.objs.size ax hne vs.toArray
  have hnew := next_is_new F
  have hlen : vs.toArray.size = vs.length := by simp
  rw [hlen] at W
  let J : Nat → (Str → Option Value) → List (Addr × Obj) → Prop := fun i m₁ news₁ => ListRestH prog w A E h₀ env x body Q s s.heap.objs.size (vs.drop i) m₁ news₁
  refine ⟨_, _, _, vs.length, _, _, m₀, news, J, rfl, W, ?_, ?_, ?_, ⟨⟨_, Heap.get?_push_size _ rfl, rfl, rfl⟩, hl.at fun o e => Heap.get?_push_of_some _ e⟩, F.push _, (fun p hp => ⟨Heap.get?_push_of_some _ (N p hp).1, (N p hp).2⟩), (by show ListRestH prog w A E h₀ env x body Q s s.heap.objs.size (vs.drop 0) m₀ news; rw [List.drop_zero]; exact rest), ?_, ?_⟩
  · intro hmm
    rcases List.mem_cons.mp hmm with e | hmm
    · exact absurd F.ns.lt (e ▸ Nat.lt_irrefl _)
    · have e := List.mem_singleton.mp hmm
      have h1 : h₀.get? env.locals = none := Heap.get?_none_of_le F.above
      exact hax₀ e h1
  · intro b hb
    rw [List.mem_singleton.mp hb]
    exact hnew
  · intro p hp hI
    exact absurd (Heap.lt_size (N p hp).1) ((List.mem_singleton.mp hI) ▸ Nat.lt_irrefl _)
  · rintro i v m₁ news₁ s₁ own ⟨hh', tk', rfl⟩ hin hP hJ hoff hown hget hall hst F₁ N₁
    obtain ⟨it, hit, hic, hid⟩ := hst.1
    have hmemI := hall s.heap.objs.size (List.mem_cons_self ..) hnew _ hit
    have hdrop : vs.drop i = v :: vs.drop (i + 1) := by
      have hlt' : i < vs.length := hin
      have hv : vs[i]? = some v := by simpa using hP
      rw [List.drop_eq_getElem_cons hlt']
      congr 1
      exact Option.some.inj ((List.getElem?_eq_getElem hlt').symm.trans hv)
    have hJ : ListRestH prog w A E h₀ env x body Q s s.heap.objs.size (vs.drop i) m₁ news₁ := hJ
    rw [hdrop] at hJ
    have N₂ : News h₀ env.locals hh' ((s.heap.objs.size, it) :: news₁) := fun p hp => by
      rcases List.mem_cons.mp hp with rfl | hp
      · exact N₁ _ (List.mem_append_left _ hmemI)
      · exact N₁ _ (List.mem_append_right _ hp)
    refine wpAny_mono (hJ it hh' tk' hic F₁ N₂) (fun f s₂ p => ?_) fun _ _ e => e
    have fin : UnrEnd h₀ env.locals { s with heap := hh', toks := tk' } s.heap.objs.size it (fun m' n' => ListRestH prog w A E h₀ env x body Q s s.heap.objs.size (vs.drop (i + 1)) m' n') s₂ →
        LoopStepU h₀ env.locals [s.heap.objs.size] own (J (i + 1)) { s with heap := hh', toks := tk' } .next s₂ := by
      rintro ⟨h', tk, m', news', e, F', N', ho, r⟩
      refine ⟨rfl, h', tk, m', news', e, F', fun p hp => ?_, fun p hp hI => ho p hp (List.mem_singleton.mp hI), r⟩
      rcases List.mem_append.mp hp with hp | hp
      · have h2 : hh'.get? p.1 = some p.2 := hget p hp
        rcases List.mem_cons.mp (hown p hp) with h1 | h1
        · have h3 : p = (s.heap.objs.size, it) := by
            rw [h1, hit] at h2
            exact Prod.ext h1 (Option.some.inj h2).symm
          rw [h3]; exact N' _ (List.mem_cons_self ..)
        · exact (hax₀ (List.mem_singleton.mp h1) (N₁ _ (List.mem_append_left _ hp)).2.2).elim
      · exact N' _ (List.mem_cons_of_mem _ hp)
    cases f with
    | ret v => exact .ret p
    | brk => exact .brk p
    | next => exact .next (fin p)
    | cont => exact .cont (fin p)
  · rintro h' tk m' news' F' N' _ hJ
    have z : vs.drop vs.length = [] := List.drop_length
    have hJ : ListRestH prog w A E h₀ env x body Q s s.heap.objs.size (vs.drop vs.length) m' news' := hJ
    rw [z] at hJ
    exact hJ h' tk F' N'
theorem list_byH {I : Addr} (J : List Value → (Str → Option Value) → List (Addr × Obj) → Prop)
    (turn : ∀ v r m news h tk it, J (v :: r) m news → Fr h₀ env.locals h (fun y => if y = x then some v else m y) → News h₀ env.locals h ((I, it) :: news) → it.cls = .type "list_iterator" →
      wpAny (model prog w) A (execs body env) (TurnEnd h₀ env.locals { s with heap := h, toks := tk } I it (fun m n => J r m n) Q) E { s with heap := h, toks := tk })
    (done : ∀ m news h tk, J [] m news → Fr h₀ env.locals h m → News h₀ env.locals h news → Q .next { s with heap := h, toks := tk }) :
    ∀ vs m news, J vs m news → ListRestH prog w A E h₀ env x body Q s I vs m news
  | [], m, news, hJ => fun h tk F N => done m news h tk hJ F N
  | v :: r, m, news, hJ => fun it h tk hc F N => wpAny_mono (turn v r m news h tk it hJ F N hc) (fun _ _ e => e.out fun m' n' hJ' => list_byH J turn done r m' n' hJ') fun _ _ e => e
end
section
variable {prog : Program} {w : World} {A : Around} {E : Value → Shared → Prop} {s : Shared} {env : Env} {h₀ : Heap} {target : Expr} {body : List Stmt} {Q : Flow → Shared → Prop}
/-- how a turn of a loop with a target of several names ends -/
noncomputable def TurnEndW (h₀ : Heap) (L : Addr) (s₁ : Shared) (its : List (Addr × Obj)) (J : (Str → Option Value) → List (Addr × Obj) → Prop) (Q : Flow → Shared → Prop) (f : Flow) (s₂ : Shared) : Prop := UnrPostW h₀ L s₁ its J Q f s₂
theorem TurnEndW.next {L : Addr} {its : List (Addr × Obj)} {J : (Str → Option Value) → List (Addr × Obj) → Prop} {s₁ : Shared} {h' : Heap} {tk : Nat} {m' : Str → Option Value} (news' : List (Addr × Obj)) (F : Fr h₀ L h' m') (N : News h₀ L h' (its ++ news'))
    (off : ∀ p ∈ news', ∀ q ∈ its, p.1 ≠ q.1) (r : J m' news') : TurnEndW h₀ L s₁ its J Q .next { s₁ with heap := h', toks := tk } := ⟨h', tk, m', news', rfl, F, N, off, r⟩
theorem TurnEndW.out {L : Addr} {its : List (Addr × Obj)} {J J' : (Str → Option Value) → List (Addr × Obj) → Prop} {s₁ s₂ : Shared} {f : Flow} (h : TurnEndW h₀ L s₁ its J Q f s₂) (k : ∀ m n, J m n → J' m n) : UnrPostW h₀ L s₁ its J' Q f s₂ := by
  cases f with
  | ret v => exact h
  | brk => exact h
  | next => obtain ⟨h', tk, m', news', e, F, N, o, r⟩ := (show UnrEndW _ _ _ _ _ _ from h); exact ⟨h', tk, m', news', e, F, N, o, k _ _ r⟩
  | cont => obtain ⟨h', tk, m', news', e, F, N, o, r⟩ := (show UnrEndW _ _ _ _ _ _ from h); exact ⟨h', tk, m', news', e, F, N, o, k _ _ r⟩
theorem vals_by {I : Addr} {keep : List (Addr × Obj)} (J : List Value → (Str → Option Value) → List (Addr × Obj) → Prop)
    (turn : ∀ v r m news h tk it, J (v :: r) m news → Fr h₀ env.locals h m → it.cls = .type "list_iterator" → News h₀ env.locals h ((I, it) :: news) →
      wpAny (model prog w) A (assign target env v) (fun _ s₂ => wpAny (model prog w) A (execs body env) (TurnEndW h₀ env.locals { s with heap := h, toks := tk } [(I, it)] (fun m n => SubL keep n ∧ J r m n) Q) E s₂) E { s with heap := h, toks := tk })
    (done : ∀ m news h tk, J [] m news → Fr h₀ env.locals h m → News h₀ env.locals h news → Q .next { s with heap := h, toks := tk }) :
    ∀ vs m news, J vs m news → ItemsRest prog w A E h₀ env target body Q s [(I, "list_iterator")] keep (vs.map .val) m news
  | [], m, news, hJ => fun h tk F N => done m news h tk hJ F N
  | v :: r, m, news, hJ => ItemsRest.val fun h tk F it hc N =>
      wpAny_mono (turn v r m news h tk it hJ F hc N) (fun _ _ e => wpAny_mono e (fun _ _ e => e.out fun m' n' hJ' => ⟨hJ'.1, vals_by J turn done r m' n' hJ'.2⟩) fun _ _ e => e) fun _ _ e => e
end
section
variable {prog : Program} {w : World} {A : Around} {E : Value → Shared → Prop} {s : Shared} {h₀ : Heap} {L : Addr} {m : Str → Option Value} {env : Env}
/-- the turns of a comprehension with a test, by what holds between them -/
theorem turnsT_inv {ct elt : Expr} {x : Str} {scope : Scope} {cl : List (Str × Addr)} {S : List (Addr × Obj) → Prop} {n : Nat} {P : Nat → Value → Prop} {Fin : List Value → List (Addr × Obj) → Prop} (J : Nat → List Value → List (Addr × Obj) → Prop)
    (turn : ∀ i v I oI C oC D m₂ ys news h tk (E' : Value → Shared → Prop), i < n → P i v → J i ys news → LCg.NsObj oC m₂ → m₂ x = some v → Fr h₀ L h m → News h₀ L h ((I, oI) :: (C, oC) :: (D, LCg.lst ys) :: news) → LCg.Off3 I C D news → ((@Ne Nat I C) ∧ (@Ne Nat I D) ∧ (@Ne Nat C D)) →
      wpAny (model prog w) A (isTrue ct (compEnvC scope cl C env) (eval ct (compEnvC scope cl C env))) (fun ok s' => if ok = true then
        wpAny (model prog w) A (eval elt (compEnvC scope cl C env)) (LCg.CompEnd h₀ L m { s with heap := h, toks := tk } I oI C oC D (LCg.lst ys) S (fun y n' => J (i + 1) (ys ++ [y]) n')) E' s'
        else LCg.CompEnd h₀ L m { s with heap := h, toks := tk } I oI C oC D (LCg.lst ys) S (fun _ n' => J (i + 1) ys n') Value.none s') E' { s with heap := h, toks := tk })
    (fin : ∀ ys news, J n ys news → Fin ys news) : ∀ (k i : Nat) ys news, i + k = n → J i ys news → LCt.CompRestT prog w A h₀ L m env ct elt x scope cl s S P Fin k i ys news := by
  intro k
  induction k with
  | zero => intro i ys news hi hJ; exact LCt.CompRestT.zero (fin ys news (by rw [← hi]; exact hJ))
  | succ k ih =>
    intro i ys news hi hJ
    refine LCt.CompRestT.succ ?_
    intro v I oI C oC D m₂ h tk E' hv hC hx F N off ne
    refine wpAny_mono (turn i v I oI C oC D m₂ ys news h tk E' (by omega) hv hJ hC hx F N off ne) (fun ok s₂ hq => ?_) fun _ _ e => e
    cases ok with
    | true =>
      simp only [if_true] at hq ⊢
      refine wpAny_mono hq (fun y s₃ hq => ?_) fun _ _ e => e
      obtain ⟨h', tk, nw, e, F', N', off', hS, hJ'⟩ := hq
      exact ⟨h', tk, nw, e, F', N', off', hS, ih (i + 1) _ _ (by omega) hJ'⟩
    | false =>
      simp only [Bool.false_eq_true, if_false] at hq ⊢
      obtain ⟨h', tk, nw, e, F', N', off', hS, hJ'⟩ := hq
      exact ⟨h', tk, nw, e, F', N', off', hS, ih (i + 1) _ _ (by omega) hJ'⟩
end
theorem IL.ints : ∀ {vs : List Value} {xs : List Int}, IL vs xs → IntsAre vs xs
  | _, _, .nil => .nil
  | _, _, .cons h => .cons _ _ h.ints
theorem IL.of_ints : ∀ {vs : List Value} {xs : List Int}, IntsAre vs xs → IL vs xs
  | _, _, .nil => .nil
  | _, _, .cons _ _ h => .cons (IL.of_ints h)
end
section
-- E1
open PySem PySem.W PyProof.Rows PySem.Spec PySem.Calls
@[irreducible] noncomputable def eps {α : Sort _} (n : Nonempty α) (P : α → Prop) : α := @Classical.epsilon α n fun x => ¬ P x
theorem byE {α : Sort _} (n : Nonempty α) {P : α → Prop} (h : P (eps n P)) : ∀ x, P x := by
  intro x
  refine Classical.byContradiction fun hx => ?_
  have : ¬ P (@Classical.epsilon α n fun x => ¬ P x) := Classical.epsilon_spec_aux n (fun x => ¬ P x) ⟨x, hx⟩
  unfold eps at h
  exact this h
theorem neW : Nonempty World := ⟨{ draws := fun _ _ => 0, params := { strHash := fun _ => 0, shareClass := fun _ => 0, mergeTok := fun t => t, idOf := fun _ => 0, idOfShared := fun _ _ => 0, followText := fun _ => false, idOfImm := fun _ => 0 } }⟩
theorem neA : Nonempty Around := ⟨callerA⟩
theorem neS : Nonempty Shared := ⟨{}⟩
theorem neI {α : Type _} [Inhabited α] : Nonempty α := ⟨default⟩
theorem neF {α β : Type _} [Inhabited β] : Nonempty (α → β) := ⟨fun _ => default⟩
theorem neP {α β : Type _} : Nonempty (α → β → Prop) := ⟨fun _ _ => True⟩
theorem curryE {α β : Type _} {P : α → β → Prop} (h : ∀ x : α × β, P x.1 x.2) : ∀ a b, P a b := fun a b => h (a, b)
theorem exE {α : Type _} {p : α → Prop} {b : Prop} (h : ∀ x, p x → b) : (∃ x, p x) → b := fun ⟨x, hx⟩ => h x hx
theorem exE2 {α β : Type _} {p : α → β → Prop} {b : Prop} (h : ∀ x y, p x y → b) : (∃ x y, p x y) → b := fun ⟨x, y, hx⟩ => h x y hx
theorem ne2 {α β : Type _} (a : Nonempty α) (b : Nonempty β) : Nonempty (α × β) := a.elim fun x => b.elim fun y => ⟨(x, y)⟩
end
section
-- E2
open PySem PySem.W PyProof.Rows PySem.Spec PySem.Calls
set_option genInjectivity false in
set_option genSizeOf false in
structure Cx where
  p : Program
  loose : List Str
  mean : ExcName → Option Value
  mg : Str → Option Value
  mb : Str → Option Value
  gd : Option (List Code)
  cn : Str
  cs : Scope
  aa : Addr
  ccd : Value
  cl : List (Str × Addr)
  outer : List Env
  A₀ : Around
  base : Heap
  h₀ : Heap
  L : Addr
  m : Str → Option Value
  s : Shared
  Q : Value → Shared → Prop
  E : Value → Shared → Prop
theorem neC : Nonempty Cx := ⟨⟨default, [], fun _ => none, fun _ => none, fun _ => none, none, default, default, 0, default, [], [], callerA, default, default, 0, fun _ => none, {}, fun _ _ => True, fun _ _ => True⟩⟩
noncomputable def CG (D U : Nat) (w : World) (c : Code) (imm led : List (Addr × Obj)) (R : Heap → Value → List (Addr × Obj) → Prop) (k : Cx) : Prop :=
  Below k.A₀ k.base k.outer k.h₀ → Fr k.h₀ k.L k.s.heap k.m → (Mine.hd.heap_39 w.params).In k.h₀ → News k.h₀ k.L k.s.heap led → (∀ q ∈ imm, k.s.heap.get? q.1 = some q.2 ∧ ∀ r ∈ led, r.1 ≠ q.1) → Top k.p k.loose k.mean k.mg k.mb k.h₀ → k.cs.kind = .function →
    (∀ v led' h' tk', R k.s.heap v led' → Fr k.h₀ k.L h' k.m → News k.h₀ k.L h' led' → Kept led k.s.heap h' → k.Q v { k.s with heap := h', toks := tk' }) →
    codeAny (model P0 w) (ktrTop D U k.gd k.cn k.cs k.L k.aa k.ccd k.cl k.outer) c (backTo2 k.Q k.E) k.s
theorem Ctr.mkE {D U : Nat} {w : World} {c : Code} {imm led : List (Addr × Obj)} {R : Heap → Value → List (Addr × Obj) → Prop} (h : CG D U w c imm led R (eps neC (CG D U w c imm led R))) : Ctr D U w c imm led R :=
  Ctr.mk fun p loose mean mg mb gd cn cs a ccd cl outer A₀ base h₀ L m s Q E B F X N I T hk r =>
    byE neC (P := CG D U w c imm led R) h ⟨p, loose, mean, mg, mb, gd, cn, cs, a, ccd, cl, outer, A₀, base, h₀, L, m, s, Q, E⟩ B F X N I T hk r
end
section
-- E3
open PySem PySem.W PyProof.Rows PySem.Spec PySem.Calls
noncomputable def CGT (D U : Nat) (w : World) (c : Code) (pre : Nat → Prop) (R : Heap → Value → List (Addr × Obj) → Prop) (k : Cx) : Prop :=
  pre k.s.toks → Below k.A₀ k.base k.outer k.h₀ → Fr k.h₀ k.L k.s.heap k.m → (Mine.hd.heap_39 w.params).In k.h₀ → News k.h₀ k.L k.s.heap [] → Top k.p k.loose k.mean k.mg k.mb k.h₀ → k.cs.kind = .function →
    (∀ v led' h' tk', R k.s.heap v led' → Fr k.h₀ k.L h' k.m → News k.h₀ k.L h' led' → Kept [] k.s.heap h' → k.Q v { k.s with heap := h', toks := tk' }) →
    codeAny (model P0 w) (ktrTop D U k.gd k.cn k.cs k.L k.aa k.ccd k.cl k.outer) c (backTo2 k.Q k.E) k.s
theorem CtrT.mkE {D U : Nat} {w : World} {c : Code} {pre : Nat → Prop} {R : Heap → Value → List (Addr × Obj) → Prop} (h : CGT D U w c pre R (eps neC (CGT D U w c pre R))) : CtrT D U w c pre R :=
  CtrT.mk fun p loose mean mg mb gd cn cs a ccd cl outer A₀ base h₀ L m s Q E hp B F X N T hk r =>
    byE neC (P := CGT D U w c pre R) h ⟨p, loose, mean, mg, mb, gd, cn, cs, a, ccd, cl, outer, A₀, base, h₀, L, m, s, Q, E⟩ hp B F X N T hk r
end
section
open PySem PySem.W PyProof.Rows PySem.Spec PySem.Calls
local macro_rules | `(tactic| keq_hits) => `(tactic| first | assumption | exact And.right (by first | assumption | exact And.right (by first | assumption | exact And.right (by first | assumption | exact And.right (by first | assumption | exact And.right (by first | assumption | exact And.right (by first | assumption | exact And.right (by first | assumption | exact And.right (by first | assumption | exact And.right (by first | assumption | exact And.right (by first | assumption | exact And.right (by assumption))))))))))))
local macro_rules | `(tactic| keq_rows) => `(tactic| first | keq_hits | exact And.left (by keq_hits))
local macro_rules | `(tactic| k_ne) => `(tactic| ((try dsimp only); first | (with_reducible first | assumption | exact Ne.symm (by assumption) | exact ne_of_ltA (by assumption) | exact ne_of_ltB (by assumption)) | exact offI (by assumption) (by k_mem) | exact offC (by assumption) (by k_mem) | exact offD (by assumption) (by k_mem) | exact Ne.symm (offI (by assumption) (by k_mem)) | exact Ne.symm (offC (by assumption) (by k_mem)) | exact Ne.symm (offD (by assumption) (by k_mem)) | (with_reducible first | exact ne_of_ltA (by keq_rows) | exact ne_of_ltB (by keq_rows) | keq_rows | exact Ne.symm (by keq_rows))))
-- a contract's def is entered
local macro_rules | `(tactic| cell_enter) => `(tactic| first
  | (refine' enterS ?k1 ?k2 ?k3 ?k4 ?k5 ?kA ?kF ?kK ?k6 ?k7 ?k8 ?k9 ?kB ?_ ?c2 ?c3 ?c4 ?c5; (case kA => exact rfl); (case kF => exact rfl); (case kK => assumption); (case k1 => k_asm); (case k2 => k_asm); (case k3 => k_asm); (case k4 => k_asm); (case k5 => k_asm); (case k6 => k_is); (case k7 => k_is); (case k8 => k_room); (case k9 => exact BindsTo.of_eq rfl); (case c5 => decide); (case kB => exact locs rfl); (case c2 => exact rfl); (case c3 => exact rfl); (case c4 => exact rfl); k_whole; intro g' L' h' hL' hG' F' N' B' X' T'; (try dsimp only))
  | (refine' enterCS ?k1 ?k2 ?k3 ?k4 ?k5 ?kA ?kF ?kK ?k6 ?k7 ?k8 ?k9 ?kB ?kD ?_ ?c2 ?c3 ?c4; (case kA => exact rfl); (case kF => exact rfl); (case kK => assumption); (case k1 => k_asm); (case k2 => k_asm); (case k3 => k_asm); (case k4 => k_asm); (case k5 => k_asm); (case k6 => k_is); (case k7 => k_is); (case k8 => k_room); (case k9 => exact BindsTo.of_eq rfl); (case kB => exact rfl); (case kD => decide +kernel); (case c2 => exact rfl); (case c3 => exact rfl); (case c4 => exact rfl); k_whole; intro g' L' h' tk' cells' hL' hG' F' N' Y' B' X' T' l1; (try k_lt l1); k_cells Y'; (try simp only [List.cons_append, List.nil_append] at N'); (try dsimp only)))
local macro_rules | `(tactic| walk_at "EndS") => `(tactic| (k_dflt (refine' leaveK_ ?k1 ?k2 ?_; (case k1 => k_asm); (case k2 => k_asm); k_whole); intro kF kN kK; (try dsimp only)))
-- a sign of a written text at a place that is reckoned
local macro_rules | `(tactic| walk_at "subscriptTail Name") => `(tactic| (k_here; (with_reducible show wpAny _ _ (subscriptTail _ _ (Value.str _ _) (Value.int _ _)) _ _ _); (refine item_str (fitsSsize_of (N := 9223372036854775808) (by omega) (by omega) (Int.le_refl _)) (by (refine Int.le_trans (by decide : -((PySem.Str.length _ : Nat) : Int) ≤ 0) ?_; omega)) (by (refine Int.lt_of_lt_of_le ?_ (by decide : (8 : Int) ≤ ((PySem.Str.length _ : Nat) : Int)); omega)) ?_; intro _)))
-- an item of a list at a written place
local macro_rules | `(tactic| walk_at "iT") => `(tactic| (k_here; (with_reducible show wpAny _ _ (subscriptTail _ _ (Value.ref _) (Value.int _ _)) _ _ _); k_dflt (refine' item_l ?k1 ?k2 ?k3 ?k4 ?_ ?k6; (case k1 => first | exact News.isList (by k_asm) (by k_mem) | is_list); (case k4 => exact rfl); (case k2 => decide); (case k3 => decide); (case k6 => with_unfolding_all rfl); k_whole)))
local macro_rules | `(tactic| walk_at "subscriptTail") => `(tactic| walk_at "iT")
local macro_rules | `(tactic| walk_at "subscriptTail Name Constant ref int") => `(tactic| walk_at "iT")

theorem fill_all (w : World) (h : Heap) : PySem.Challenge.rw_sw0029_01 = PySem.Challenge.rw_sw0029_01 → (Mine.hd.heap_39 w.params).In h → True := by k_fill; intros; trivial
theorem reset1 : True := by w_top off; trivial
section
-- CWord
open PySem PySem.W PyProof.Rows PySem.Spec PySem.Calls
noncomputable def signs : Str := Str.ofString "ab \"\\\n#\t"
noncomputable def wordT (x0 x1 x2 : Int) : Str := (Txt.item signs x0 ++ Txt.item signs x1) ++ Txt.item signs x2
noncomputable def lampL (x0 x1 x2 x3 x4 x5 : Int) (t0 t1 t2 t3 t4 t5 : Tok) : List Value := [.int x0 t0, .int x1 t1, .int x2 t2, .int x3 t3, .int x4 t4, .int x5 t5]
noncomputable def word_c_St (w : World) (x0 : Int) (x1 : Int) (x2 : Int) (x3 : Int) (x4 : Int) (x5 : Int) (t0 : Tok) (t1 : Tok) (t2 : Tok) (t3 : Tok) (t4 : Tok) (t5 : Tok) (l : Addr) : Prop :=
  ∀ (h0 : 0 ≤ x0 ∧ x0 < 8) (h1 : 0 ≤ x1 ∧ x1 < 8) (h2 : 0 ≤ x2 ∧ x2 < 8), Ctr 500 5000 w (.call (.ref 168) ⟨[.ref l], []⟩) [(l, listOf (lampL x0 x1 x2 x3 x4 x5 t0 t1 t2 t3 t4 t5).toArray 0)] [] (fun _ v n' => n' = [] ∧ ∃ t, v = .str (wordT x0 x1 x2) t)
set_option maxRecDepth 100000 in
set_option maxHeartbeats 8000000 in
theorem word_c_e : ∀ x : World × Int × Int × Int × Int × Int × Int × Tok × Tok × Tok × Tok × Tok × Tok × Addr, word_c_St x.1 x.2.1 x.2.2.1 x.2.2.2.1 x.2.2.2.2.1 x.2.2.2.2.2.1 x.2.2.2.2.2.2.1 x.2.2.2.2.2.2.2.1 x.2.2.2.2.2.2.2.2.1 x.2.2.2.2.2.2.2.2.2.1 x.2.2.2.2.2.2.2.2.2.2.1 x.2.2.2.2.2.2.2.2.2.2.2.1 x.2.2.2.2.2.2.2.2.2.2.2.2.1 x.2.2.2.2.2.2.2.2.2.2.2.2.2 := by
  refine byE (ne2 neW (ne2 neI (ne2 neI (ne2 neI (ne2 neI (ne2 neI (ne2 neI (ne2 neI (ne2 neI (ne2 neI (ne2 neI (ne2 neI (ne2 neI neI))))))))))))) ?_
  generalize eps _ _ = x9
  generalize x9.1 = w
  generalize x9.2.1 = x0
  generalize x9.2.2.1 = x1
  generalize x9.2.2.2.1 = x2
  generalize x9.2.2.2.2.1 = x3
  generalize x9.2.2.2.2.2.1 = x4
  generalize x9.2.2.2.2.2.2.1 = x5
  generalize x9.2.2.2.2.2.2.2.1 = t0
  generalize x9.2.2.2.2.2.2.2.2.1 = t1
  generalize x9.2.2.2.2.2.2.2.2.2.1 = t2
  generalize x9.2.2.2.2.2.2.2.2.2.2.1 = t3
  generalize x9.2.2.2.2.2.2.2.2.2.2.2.1 = t4
  generalize x9.2.2.2.2.2.2.2.2.2.2.2.2.1 = t5
  generalize x9.2.2.2.2.2.2.2.2.2.2.2.2.2 = l
  unfold word_c_St
  intro h0 h1 h2
  refine Ctr.mkE ?_
  generalize eps _ _ = c9
  dsimp only [CG]
  generalize c9.p = p
  generalize c9.loose = loose
  generalize c9.mean = mean
  generalize c9.mg = mg
  generalize c9.mb = mb
  generalize c9.gd = gd
  generalize c9.cn = cn
  generalize c9.cs = cs
  generalize c9.aa = a
  generalize c9.ccd = ccd
  generalize c9.cl = cl
  generalize c9.outer = outer
  generalize c9.A₀ = A₀
  generalize c9.base = base
  generalize c9.h₀ = h₀
  generalize c9.L = L
  generalize c9.m = m
  generalize c9.s = s
  generalize c9.Q = Q
  generalize c9.E = E
  intro B F X N I T hk hret
  k_dflt cell_enter
  rename_i g' L' h1 hL hG F1 N1 B1 X1 T1
  revert g' L' h1
  refine curryE ?_
  refine curryE ?_
  refine byE (ne2 (ne2 inferInstance inferInstance) inferInstance) ?_
  generalize (Prod.fst (Prod.fst (eps _ _))) = g'
  generalize (Prod.snd (Prod.fst (eps _ _))) = L'
  generalize (Prod.snd (eps _ _)) = h1
  intro hL hG F1 N1 B1 X1 T1
  have hl : g'.IsList l [Value.int x0 t0, .int x1 t1, .int x2 t2, .int x3 t3, .int x4 t4, .int x5 t5].toArray := ⟨_, hG _ _ (I _ (.head _)).1 (fun _ h => nomatch h), rfl, _, rfl⟩

  k_unmd
  k_fold
  k_steps
  all_goals (refine hret _ _ _ _ ⟨rfl, _, rfl⟩ ?_ ?_ ?_ <;> assumption)
theorem word_c (w : World) (x0 x1 x2 x3 x4 x5 : Int) (h0 : 0 ≤ x0 ∧ x0 < 8) (h1 : 0 ≤ x1 ∧ x1 < 8) (h2 : 0 ≤ x2 ∧ x2 < 8) (t0 t1 t2 t3 t4 t5 : Tok) (l : Addr) :
  Ctr 500 5000 w (.call (.ref 168) ⟨[.ref l], []⟩) [(l, listOf (lampL x0 x1 x2 x3 x4 x5 t0 t1 t2 t3 t4 t5).toArray 0)] [] (fun _ v n' => n' = [] ∧ ∃ t, v = .str (wordT x0 x1 x2) t) := word_c_e (w, x0, x1, x2, x3, x4, x5, t0, t1, t2, t3, t4, t5, l) h0 h1 h2
end
section
open PySem PySem.W PyProof.Rows PySem.Spec PySem.Calls
-- the greatest and the least of three floats
local macro_rules | `(tactic| walk_at "cU") => `(tactic| (intro h' tk' k' hle hkk F' N'; (replace hle := hle (by first | assumption | exact Nat.succ_pos _))))
local macro_rules | `(tactic| walk_at "call builtin:max") => `(tactic| (k_here; (with_reducible show wpAny _ _ (call _ [Value.float _ _, Value.float _ _, Value.float _ _]) _ _ _); k_dflt (refine' max3_fffT ?hh ?p0 ?p1 ?p2 ?F ?N ?_; (case hh => exact rfl); (case p0 => first | assumption | exact Nat.succ_pos _); (case p1 => first | assumption | exact Nat.succ_pos _); (case p2 => first | assumption | exact Nat.succ_pos _); (case F => k_asm); (case N => k_asm); k_whole); walk_at "cU"))
local macro_rules | `(tactic| walk_at "call builtin:min") => `(tactic| (k_here; (with_reducible show wpAny _ _ (call _ [Value.float _ _, Value.float _ _, Value.float _ _]) _ _ _); k_dflt (refine' min3_fffT ?hh ?p0 ?p1 ?p2 ?F ?N ?_; (case hh => exact rfl); (case p0 => first | assumption | exact Nat.succ_pos _); (case p1 => first | assumption | exact Nat.succ_pos _); (case p2 => first | assumption | exact Nat.succ_pos _); (case F => k_asm); (case N => k_asm); k_whole); walk_at "cU"))
-- the counter stays above 0
local macro_rules | `(tactic| walk_at "execs cons") => `(tactic| (k_here; refine gt0 ?_; intro tk htk))
local macro_rules | `(tactic| walk_at "execs nil") => `(tactic| (k_here; refine gt0 ?_; intro tk htk))

theorem reset2 : True := by w_top off; trivial
section
-- CHsvT
open PySem PySem.W PyProof.Rows PySem.Spec PySem.Calls
noncomputable def hsv_t_St (w : World) (x0 : UInt64) (x1 : UInt64) (x2 : UInt64) (r : UInt64) (g : UInt64) (b : UInt64) (u0 : Tok) (u1 : Tok) (u2 : Tok) : Prop :=
  ∀ (p2 : 0 < u2) (hr : hsvR x0 x1 x2 = some (r, g, b)), CtrT 450 3500 w (.call (.ref 112) ⟨[.float x0 u0, .float x1 u1, .float x2 u2], []⟩) (fun tk => 0 < tk)
    (fun sz v' n' => ∃ t a b' c, v' = .ref t ∧ 0 < a ∧ 0 < b' ∧ 0 < c ∧ n' = [(t, tupO #[.float r a, .float g b', .float b c])] ∧ sz.get? t = none)
set_option maxRecDepth 100000 in
set_option maxHeartbeats 8000000 in
theorem hsv_t_e : ∀ x : World × UInt64 × UInt64 × UInt64 × UInt64 × UInt64 × UInt64 × Tok × Tok × Tok, hsv_t_St x.1 x.2.1 x.2.2.1 x.2.2.2.1 x.2.2.2.2.1 x.2.2.2.2.2.1 x.2.2.2.2.2.2.1 x.2.2.2.2.2.2.2.1 x.2.2.2.2.2.2.2.2.1 x.2.2.2.2.2.2.2.2.2 := by
  refine byE (ne2 neW (ne2 neI (ne2 neI (ne2 neI (ne2 neI (ne2 neI (ne2 neI (ne2 neI (ne2 neI neI))))))))) ?_
  generalize eps _ _ = x9
  generalize x9.1 = w
  generalize x9.2.1 = x0
  generalize x9.2.2.1 = x1
  generalize x9.2.2.2.1 = x2
  generalize x9.2.2.2.2.1 = r
  generalize x9.2.2.2.2.2.1 = g
  generalize x9.2.2.2.2.2.2.1 = b
  generalize x9.2.2.2.2.2.2.2.1 = u0
  generalize x9.2.2.2.2.2.2.2.2.1 = u1
  generalize x9.2.2.2.2.2.2.2.2.2 = u2
  unfold hsv_t_St
  intro p2 hr
  refine CtrT.mkE ?_
  generalize eps _ _ = c9
  dsimp only [CGT]
  generalize c9.p = p
  generalize c9.loose = loose
  generalize c9.mean = mean
  generalize c9.mg = mg
  generalize c9.mb = mb
  generalize c9.gd = gd
  generalize c9.cn = cn
  generalize c9.cs = cs
  generalize c9.aa = aa
  generalize c9.ccd = ccd
  generalize c9.cl = cl'
  generalize c9.outer = outer
  generalize c9.A₀ = A₀
  generalize c9.base = base
  generalize c9.h₀ = h₀
  generalize c9.L = L
  generalize c9.m = m
  generalize c9.s = s
  generalize c9.Q = Q
  generalize c9.E = E
  intro hpre B F X N T hk hret
  k_dflt cell_enter
  rename_i g' L' h1 hL hG9 F1 N1 B1 X1 T1
  revert g' L' h1
  refine curryE ?_
  refine curryE ?_
  refine byE (ne2 (ne2 inferInstance inferInstance) inferInstance) ?_
  generalize (Prod.fst (Prod.fst (eps _ _))) = g'
  generalize (Prod.snd (Prod.fst (eps _ _))) = L'
  generalize (Prod.snd (eps _ _)) = h1
  intro hL hG9 F1 N1 B1 X1 T1
  k_unmd
  k_fold
  unfold hsvR at hr
  refine gtA (Nat.lt_of_lt_of_le hpre (Nat.le_add_right _ _)) ?_
  intro tk0 htk0
  k_steps
  all_goals (repeat (first | rw [if_pos (by assumption)] at hr | rw [if_neg (by assumption)] at hr | rw [if_neg (nt (by assumption))] at hr | rw [if_neg (nan_nf (by assumption))] at hr | rw [if_neg (inf_nf (by assumption))] at hr | rw [if_neg (big_nf (by assumption))] at hr))
  all_goals first | (cases hr; done) | skip
  all_goals (simp only [Option.some.injEq, Prod.mk.injEq] at hr; obtain ⟨hr1, hr2, hr3⟩ := hr; subst hr1 hr2 hr3)
  all_goals (rename News h₀ L _ _ => N9)
  all_goals exact hret _ _ _ _ ⟨_, _, _, _, rfl, (by first | assumption | exact Nat.succ_pos _), (by first | assumption | exact Nat.succ_pos _), (by first | assumption | exact Nat.succ_pos _), rfl, fresh0 (by assumption) (.head _) hG9⟩ (by assumption) N9 (by assumption)
theorem hsv_t (w : World) (x0 x1 x2 r g b : UInt64) (u0 u1 u2 : Tok) (p2 : 0 < u2) (hr : hsvR x0 x1 x2 = some (r, g, b)) :
  CtrT 450 3500 w (.call (.ref 112) ⟨[.float x0 u0, .float x1 u1, .float x2 u2], []⟩) (fun tk => 0 < tk)
    (fun sz v' n' => ∃ t a b' c, v' = .ref t ∧ 0 < a ∧ 0 < b' ∧ 0 < c ∧ n' = [(t, tupO #[.float r a, .float g b', .float b c])] ∧ sz.get? t = none) := hsv_t_e (w, x0, x1, x2, r, g, b, u0, u1, u2) p2 hr
end
theorem reset3 : True := by w_top off; trivial
section
-- CRsvT
open PySem PySem.W PyProof.Rows PySem.Spec PySem.Calls
noncomputable def rsv_t_St (w : World) (x0 : UInt64) (x1 : UInt64) (x2 : UInt64) (hh : UInt64) (ss : UInt64) (u0 : Tok) (u1 : Tok) (u2 : Tok) : Prop :=
  ∀ (hr1 : hueR x0 x1 x2 = hh) (hr2 : satR x0 x1 x2 = ss) (hok : okRsv x0 x1 x2) (p0 : 0 < u0) (p1 : 0 < u1) (p2 : 0 < u2), CtrT 450 3500 w (.call (.ref 105) ⟨[.float x0 u0, .float x1 u1, .float x2 u2], []⟩) (fun tk => 0 < tk)
    (fun sz v' n' => ∃ t a b c, v' = .ref t ∧ 0 < a ∧ 0 < b ∧ 0 < c ∧ n' = [(t, tupO #[.float hh a, .float ss b, .float (max3 x0 x1 x2) c])] ∧ sz.get? t = none)
set_option maxRecDepth 100000 in
set_option maxHeartbeats 8000000 in
theorem rsv_t_e : ∀ x : World × UInt64 × UInt64 × UInt64 × UInt64 × UInt64 × Tok × Tok × Tok, rsv_t_St x.1 x.2.1 x.2.2.1 x.2.2.2.1 x.2.2.2.2.1 x.2.2.2.2.2.1 x.2.2.2.2.2.2.1 x.2.2.2.2.2.2.2.1 x.2.2.2.2.2.2.2.2 := by
  refine byE (ne2 neW (ne2 neI (ne2 neI (ne2 neI (ne2 neI (ne2 neI (ne2 neI (ne2 neI neI)))))))) ?_
  generalize eps _ _ = x9
  generalize x9.1 = w
  generalize x9.2.1 = x0
  generalize x9.2.2.1 = x1
  generalize x9.2.2.2.1 = x2
  generalize x9.2.2.2.2.1 = hh
  generalize x9.2.2.2.2.2.1 = ss
  generalize x9.2.2.2.2.2.2.1 = u0
  generalize x9.2.2.2.2.2.2.2.1 = u1
  generalize x9.2.2.2.2.2.2.2.2 = u2
  unfold rsv_t_St
  intro hr1 hr2 hok p0 p1 p2
  refine CtrT.mkE ?_
  generalize eps _ _ = c9
  dsimp only [CGT]
  generalize c9.p = p
  generalize c9.loose = loose
  generalize c9.mean = mean
  generalize c9.mg = mg
  generalize c9.mb = mb
  generalize c9.gd = gd
  generalize c9.cn = cn
  generalize c9.cs = cs
  generalize c9.aa = aa
  generalize c9.ccd = ccd
  generalize c9.cl = cl'
  generalize c9.outer = outer
  generalize c9.A₀ = A₀
  generalize c9.base = base
  generalize c9.h₀ = h₀
  generalize c9.L = L
  generalize c9.m = m
  generalize c9.s = s
  generalize c9.Q = Q
  generalize c9.E = E
  intro hpre B F X N T hk hret
  k_dflt cell_enter
  rename_i g' L' h1 hL hG9 F1 N1 B1 X1 T1
  revert g' L' h1
  refine curryE ?_
  refine curryE ?_
  refine byE (ne2 (ne2 inferInstance inferInstance) inferInstance) ?_
  generalize (Prod.fst (Prod.fst (eps _ _))) = g'
  generalize (Prod.snd (Prod.fst (eps _ _))) = L'
  generalize (Prod.snd (eps _ _)) = h1
  intro hL hG9 F1 N1 B1 X1 T1
  k_unmd
  k_fold
  unfold hueR at hr1; unfold satR at hr2
  unfold okRsv at hok
  refine gtA (Nat.lt_of_lt_of_le hpre (Nat.le_add_right _ _)) ?_
  intro tk0 htk0
  k_steps
  all_goals first
    | (exfalso; rcases hok with h9 | h9; · exact absurd h9 (nt (by assumption)); · first | exact absurd (by assumption) h9.1 | exact absurd (by assumption) h9.2; done)
    | skip
  all_goals (repeat (first | rw [if_pos (by assumption)] at hr1 | rw [if_neg (nt (by assumption))] at hr1))
  all_goals (repeat (first | rw [if_pos (by assumption)] at hr2 | rw [if_neg (nt (by assumption))] at hr2))
  all_goals subst hr1 hr2
  all_goals (rename News h₀ L _ _ => N9)
  all_goals exact hret _ _ _ _ ⟨_, _, _, _, rfl, (by first | assumption | exact Nat.succ_pos _), (by first | assumption | exact Nat.succ_pos _), (by first | assumption | exact Nat.succ_pos _), rfl, fresh0 (by assumption) (.head _) hG9⟩ (by assumption) N9 (by assumption)
theorem rsv_t (w : World) (x0 x1 x2 : UInt64) (hh ss : UInt64) (hr1 : hueR x0 x1 x2 = hh) (hr2 : satR x0 x1 x2 = ss) (hok : okRsv x0 x1 x2) (u0 u1 u2 : Tok) (p0 : 0 < u0) (p1 : 0 < u1) (p2 : 0 < u2) :
  CtrT 450 3500 w (.call (.ref 105) ⟨[.float x0 u0, .float x1 u1, .float x2 u2], []⟩) (fun tk => 0 < tk)
    (fun sz v' n' => ∃ t a b c, v' = .ref t ∧ 0 < a ∧ 0 < b ∧ 0 < c ∧ n' = [(t, tupO #[.float hh a, .float ss b, .float (max3 x0 x1 x2) c])] ∧ sz.get? t = none) := rsv_t_e (w, x0, x1, x2, hh, ss, u0, u1, u2) hr1 hr2 hok p0 p1 p2
end
theorem reset4 : True := by w_top off; trivial
section
-- CHls
open PySem PySem.W PyProof.Rows PySem.Spec PySem.Calls
noncomputable def hls_t_St (w : World) (x0 : UInt64) (x1 : UInt64) (x2 : UInt64) (hh : UInt64) (ll : UInt64) (u0 : Tok) (u1 : Tok) (u2 : Tok) : Prop :=
  ∀ (hr1 : hueR x0 x1 x2 = hh) (hr2 : lightR x0 x1 x2 = ll) (hok : okHls x0 x1 x2) (p0 : 0 < u0) (p1 : 0 < u1) (p2 : 0 < u2), CtrT 450 3500 w (.call (.ref 98) ⟨[.float x0 u0, .float x1 u1, .float x2 u2], []⟩) (fun tk => 0 < tk)
    (fun sz v' n' => ∃ t d a b c, v' = .ref t ∧ n' = [(t, tupO #[.float hh a, .float ll b, .float d c])] ∧ sz.get? t = none)
set_option maxRecDepth 100000 in
set_option maxHeartbeats 8000000 in
theorem hls_t_e : ∀ x : World × UInt64 × UInt64 × UInt64 × UInt64 × UInt64 × Tok × Tok × Tok, hls_t_St x.1 x.2.1 x.2.2.1 x.2.2.2.1 x.2.2.2.2.1 x.2.2.2.2.2.1 x.2.2.2.2.2.2.1 x.2.2.2.2.2.2.2.1 x.2.2.2.2.2.2.2.2 := by
  refine byE (ne2 neW (ne2 neI (ne2 neI (ne2 neI (ne2 neI (ne2 neI (ne2 neI (ne2 neI neI)))))))) ?_
  generalize eps _ _ = x9
  generalize x9.1 = w
  generalize x9.2.1 = x0
  generalize x9.2.2.1 = x1
  generalize x9.2.2.2.1 = x2
  generalize x9.2.2.2.2.1 = hh
  generalize x9.2.2.2.2.2.1 = ll
  generalize x9.2.2.2.2.2.2.1 = u0
  generalize x9.2.2.2.2.2.2.2.1 = u1
  generalize x9.2.2.2.2.2.2.2.2 = u2
  unfold hls_t_St
  intro hr1 hr2 hok p0 p1 p2
  refine CtrT.mkE ?_
  generalize eps _ _ = c9
  dsimp only [CGT]
  generalize c9.p = p
  generalize c9.loose = loose
  generalize c9.mean = mean
  generalize c9.mg = mg
  generalize c9.mb = mb
  generalize c9.gd = gd
  generalize c9.cn = cn
  generalize c9.cs = cs
  generalize c9.aa = aa
  generalize c9.ccd = ccd
  generalize c9.cl = cl'
  generalize c9.outer = outer
  generalize c9.A₀ = A₀
  generalize c9.base = base
  generalize c9.h₀ = h₀
  generalize c9.L = L
  generalize c9.m = m
  generalize c9.s = s
  generalize c9.Q = Q
  generalize c9.E = E
  intro hpre B F X N T hk hret
  k_dflt cell_enter
  rename_i g' L' h1 hL hG9 F1 N1 B1 X1 T1
  revert g' L' h1
  refine curryE ?_
  refine curryE ?_
  refine byE (ne2 (ne2 inferInstance inferInstance) inferInstance) ?_
  generalize (Prod.fst (Prod.fst (eps _ _))) = g'
  generalize (Prod.snd (Prod.fst (eps _ _))) = L'
  generalize (Prod.snd (eps _ _)) = h1
  intro hL hG9 F1 N1 B1 X1 T1
  k_unmd
  k_fold
  unfold hueR at hr1; unfold lightR at hr2
  unfold okHls at hok
  refine gtA (Nat.lt_of_lt_of_le hpre (Nat.le_add_right _ _)) ?_
  intro tk0 htk0
  k_steps
  all_goals first
    | (exfalso; rcases hok with h9 | h9; · exact absurd h9 (nt (by assumption)); · first | exact absurd (by assumption) h9.1 | exact absurd (by assumption) h9.2.1 | exact absurd (by assumption) h9.2.2; done)
    | skip
  all_goals (repeat (first | rw [if_pos (by assumption)] at hr1 | rw [if_neg (nt (by assumption))] at hr1))
  all_goals (repeat (first | rw [if_pos (by assumption)] at hr2 | rw [if_neg (nt (by assumption))] at hr2))
  all_goals subst hr1 hr2
  all_goals (rename News h₀ L _ _ => N9)
  all_goals exact hret _ _ _ _ ⟨_, _, _, _, _, rfl, rfl, fresh0 (by assumption) (.head _) hG9⟩ (by assumption) N9 (by assumption)
theorem hls_t (w : World) (x0 x1 x2 : UInt64) (hh ll : UInt64) (hr1 : hueR x0 x1 x2 = hh) (hr2 : lightR x0 x1 x2 = ll) (hok : okHls x0 x1 x2) (u0 u1 u2 : Tok) (p0 : 0 < u0) (p1 : 0 < u1) (p2 : 0 < u2) :
  CtrT 450 3500 w (.call (.ref 98) ⟨[.float x0 u0, .float x1 u1, .float x2 u2], []⟩) (fun tk => 0 < tk)
    (fun sz v' n' => ∃ t d a b c, v' = .ref t ∧ n' = [(t, tupO #[.float hh a, .float ll b, .float d c])] ∧ sz.get? t = none) := hls_t_e (w, x0, x1, x2, hh, ll, u0, u1, u2) hr1 hr2 hok p0 p1 p2
end
end
section
open PySem PySem.W PyProof.Rows PySem.Spec PySem.Calls
-- a comprehension over a text or a list, by the turns
local macro_rules | `(tactic| walk_at "eval ListComp") => `(tactic| (k_here; k_dflt (refine comp_over (by k_asm) (by with_unfolding_all rfl) (by decide) (by rfl) (by decide) (by rfl) ?_); walk_say "COMP"))
-- texts of a list joined
local macro_rules | `(tactic| walk_at "call builtin:str.join") => `(tactic| (k_here; (with_reducible show wpAny _ _ (call (Value.builtin "str.join") [Value.str _ _, Value.ref _]) _ _ _); k_dflt (refine' SC.join ?j1 ?j0 ?j2 ?_; (case j1 => exact News.isList (by k_asm) (by k_mem)); (case j0 => assumption); (case j2 => assumption); k_whole); intro _ _))

theorem reset5 : True := by w_top off; trivial
section
-- CSpell
open PySem PySem.W PyProof.Rows PySem.Spec PySem.Calls
local macro_rules | `(tactic| walk_at "pyIter str") => `(tactic| (k_here; (with_reducible show wpAny _ _ (pyIter (Value.str _ _)) (fun it s₂ => CompAt _ _ _ _ _ _ _ _ _ _ _ _ it s₂) _ _); k_dflt (refine compAt_str (by rfl) (by k_asm) (by k_asm) (by assumption) ?_)))

noncomputable def escT (wants : Str) (c : Nat) : Str := if (Builtin.Str.occurrences wants ⟨#[c]⟩ 0 wants.length 1).isEmpty = true then ⟨#[c]⟩ else Str.ofString "\\" ++ ⟨#[c]⟩
noncomputable def innerT (wants x : Str) : Str := Txt.join (Str.ofString "") (x.cps.toList.map (escT wants))
theorem esc_len (wants : Str) (c : Nat) : (escT wants c).length ≤ 2 := by
  unfold escT
  split
  · show (#[c] : Array Nat).size ≤ 2; simp
  · show ((Str.ofString "\\").cps ++ #[c]).size ≤ 2
    have : (Str.ofString "\\").cps.size = 1 := by decide +kernel
    simp [this]
theorem esc_no {wants x : Str} {c i : Nat} {u : Tok} (hc : x.cps.toList[i]? = some c) (hb : (Builtin.Str.occurrences wants ⟨#[c]⟩ 0 wants.length 1).isEmpty = true) : ∃ t, x.cps.toList[i]? = some c ∧ Value.str ⟨#[c]⟩ u = Value.str (escT wants c) t := ⟨u, hc, by rw [escT, if_pos hb]⟩
theorem esc_yes {wants x : Str} {c i : Nat} {u : Tok} (hc : x.cps.toList[i]? = some c) (hb : (Builtin.Str.occurrences wants ⟨#[c]⟩ 0 wants.length 1).isEmpty = false) : ∃ t, x.cps.toList[i]? = some c ∧ Value.str (Str.ofString "\\" ++ ⟨#[c]⟩) u = Value.str (escT wants c) t := ⟨u, hc, by rw [escT, if_neg (by simp [hb])]⟩

set_option maxRecDepth 100000 in
set_option maxHeartbeats 8000000 in
theorem spell0_c (w : World) (x : Str) (hx : x.cps.size ≤ 3) (t t2 : Tok) :
  Ctr 500 5000 w (.call (.ref 173) ⟨[.str x t, .int 0 t2], []⟩) [] [] (fun _ v n' => n' = [] ∧ ∃ t, v = .str (Str.ofString "\"" ++ innerT (Str.ofString "\"\\") x ++ Str.ofString "\"") t) := by
  refine Ctr.mk ?_
  intro p loose mean mg mb gd cn cs aa ccd cl outer A₀ base h₀ L m s Q E B F X N I T hk hret
  k_dflt cell_enter
  k_unmd
  k_fold
  have hsz : x.cps.size ≤ sizeLine := by rw [PySem.sizeLine_eq]; omega
  have hJ : JoinOk (Str.ofString "") (x.cps.toList.map (escT (Str.ofString "\"\\"))) = true := joinOk_of _ (by decide +kernel) _ (by simp; omega) (by
    intro t ht
    obtain ⟨c, _, rfl⟩ := List.mem_map.mp ht
    exact Nat.le_trans (esc_len _ _) (by decide))
  have hLn : (Txt.join (Str.ofString "") (x.cps.toList.map (escT (Str.ofString "\"\\")))).length ≤ 6 := by
    have := join0_len (k := 2) (x.cps.toList.map (escT (Str.ofString "\"\\"))) (by intro t ht; obtain ⟨c, _, rfl⟩ := List.mem_map.mp ht; exact esc_len _ _)
    simp only [List.length_map, Array.length_toList] at this
    omega
  k_steps
  refine turns_all (fun i v => ∃ c t, x.cps.toList[i]? = some c ∧ v = Value.str (escT (Str.ofString "\"\\") c) t) ?_ ?_
  · rintro i v I' oI' C' oC' D' m' ys' h' tk' E' hi ⟨c, u, hc, rfl⟩ hC' hx' F' N' off' ne'
    simp only [LCg.Off3, and_true] at off'
    k_steps
    all_goals (refine ⟨rfl, c, ?_⟩; first | exact esc_no (by simpa using hc) (by assumption) | exact esc_yes (by simpa using hc) (by assumption))
  · intro ys hl hO
    obtain ⟨l, rfl, hl'⟩ := strs_of (by simpa using hl) hO
    k_steps
    all_goals (refine hret _ _ _ _ ⟨rfl, _, rfl⟩ (by assumption) (fun _ h => nomatch h) (by assumption))

set_option maxRecDepth 100000 in
set_option maxHeartbeats 8000000 in
theorem spell1_c (w : World) (x : Str) (hx : x.cps.size ≤ 3) (t t2 : Tok) :
  Ctr 500 5000 w (.call (.ref 173) ⟨[.str x t, .int 1 t2], []⟩) [] [] (fun _ v n' => n' = [] ∧ ∃ t, v = .str (innerT (Str.ofString "b \"\\\n#\t") x) t) := by
  refine Ctr.mk ?_
  intro p loose mean mg mb gd cn cs aa ccd cl outer A₀ base h₀ L m s Q E B F X N I T hk hret
  k_dflt cell_enter
  k_unmd
  k_fold
  have hsz : x.cps.size ≤ sizeLine := by rw [PySem.sizeLine_eq]; omega
  have hJ : JoinOk (Str.ofString "") (x.cps.toList.map (escT (Str.ofString "b \"\\\n#\t"))) = true := joinOk_of _ (by decide +kernel) _ (by simp; omega) (by
    intro t ht
    obtain ⟨c, _, rfl⟩ := List.mem_map.mp ht
    exact Nat.le_trans (esc_len _ _) (by decide))
  have hLn : (Txt.join (Str.ofString "") (x.cps.toList.map (escT (Str.ofString "b \"\\\n#\t")))).length ≤ 6 := by
    have := join0_len (k := 2) (x.cps.toList.map (escT (Str.ofString "b \"\\\n#\t"))) (by intro t ht; obtain ⟨c, _, rfl⟩ := List.mem_map.mp ht; exact esc_len _ _)
    simp only [List.length_map, Array.length_toList] at this
    omega
  k_steps
  refine turns_all (fun i v => ∃ c t, x.cps.toList[i]? = some c ∧ v = Value.str (escT (Str.ofString "b \"\\\n#\t") c) t) ?_ ?_
  · rintro i v I' oI' C' oC' D' m' ys' h' tk' E' hi ⟨c, u, hc, rfl⟩ hC' hx' F' N' off' ne'
    simp only [LCg.Off3, and_true] at off'
    k_steps
    all_goals (refine ⟨rfl, c, ?_⟩; first | exact esc_no (by simpa using hc) (by assumption) | exact esc_yes (by simpa using hc) (by assumption))
  · intro ys hl hO
    obtain ⟨l, rfl, hl'⟩ := strs_of (by simpa using hl) hO
    k_steps
    all_goals (refine hret _ _ _ _ ⟨rfl, _, rfl⟩ (by assumption) (fun _ h => nomatch h) (by assumption))

set_option maxRecDepth 100000 in
set_option maxHeartbeats 8000000 in
theorem spell2_c (w : World) (x : Str) (hx : x.cps.size ≤ 3) (t t2 : Tok) :
  Ctr 500 5000 w (.call (.ref 173) ⟨[.str x t, .int 2 t2], []⟩) [] [] (fun _ v n' => n' = [] ∧ ∃ t, v = .str (Str.ofString "\"" ++ innerT (Str.ofString "ab \"\\\n#\t") x ++ Str.ofString "\"") t) := by
  refine Ctr.mk ?_
  intro p loose mean mg mb gd cn cs aa ccd cl outer A₀ base h₀ L m s Q E B F X N I T hk hret
  k_dflt cell_enter
  k_unmd
  k_fold
  have hsz : x.cps.size ≤ sizeLine := by rw [PySem.sizeLine_eq]; omega
  have hJ : JoinOk (Str.ofString "") (x.cps.toList.map (escT (Str.ofString "ab \"\\\n#\t"))) = true := joinOk_of _ (by decide +kernel) _ (by simp; omega) (by
    intro t ht
    obtain ⟨c, _, rfl⟩ := List.mem_map.mp ht
    exact Nat.le_trans (esc_len _ _) (by decide))
  have hLn : (Txt.join (Str.ofString "") (x.cps.toList.map (escT (Str.ofString "ab \"\\\n#\t")))).length ≤ 6 := by
    have := join0_len (k := 2) (x.cps.toList.map (escT (Str.ofString "ab \"\\\n#\t"))) (by intro t ht; obtain ⟨c, _, rfl⟩ := List.mem_map.mp ht; exact esc_len _ _)
    simp only [List.length_map, Array.length_toList] at this
    omega
  k_steps
  refine turns_all (fun i v => ∃ c t, x.cps.toList[i]? = some c ∧ v = Value.str (escT (Str.ofString "ab \"\\\n#\t") c) t) ?_ ?_
  · rintro i v I' oI' C' oC' D' m' ys' h' tk' E' hi ⟨c, u, hc, rfl⟩ hC' hx' F' N' off' ne'
    simp only [LCg.Off3, and_true] at off'
    k_steps
    all_goals (refine ⟨rfl, c, ?_⟩; first | exact esc_no (by simpa using hc) (by assumption) | exact esc_yes (by simpa using hc) (by assumption))
  · intro ys hl hO
    obtain ⟨l, rfl, hl'⟩ := strs_of (by simpa using hl) hO
    k_steps
    all_goals (refine hret _ _ _ _ ⟨rfl, _, rfl⟩ (by assumption) (fun _ h => nomatch h) (by assumption))
end
section
open PySem PySem.W PyProof.Rows PySem.Spec PySem.Calls
-- the stream's lambda: called, entered, its name read
local macro_rules | `(tactic| walk_at "callWith ref") => `(tactic| (k_here; k_dflt (first
  | (refine' callWith_F ?k1 ?_; (case k1 => exact FnAt.of (by k_asm) (by k_mem)); k_whole)
  | (refine' callWith_F0 ?k1 ?_; (case k1 => exact FnAt.of (by k_asm) (by k_mem)); k_whole; try dsimp only [List.nil_append, List.cons_append]))))
local macro_rules | `(tactic| walk_at "call ref") => `(tactic| (k_here; k_dflt (refine wpAny_call ?_; kla_enter)))
local macro_rules | `(tactic| walk_at "eval Name") => `(tactic| (k_here; k_dflt (refine' nameX_F ?N ?c ?m ?d ?_ ?a ?b; (case a => rfl); (case b => rfl); (case N => k_asm); (case c => rfl); (case m => k_mem); (case d => k_asm); k_whole)))
local macro_rules | `(tactic| walk_at "call builtin:list.pop") => `(tactic| (k_here; (with_reducible show wpAny _ _ (call (Value.builtin _) [Value.ref _, Value.int _ _]) _ _ _); k_dflt (refine' pop0 ?F ?N ?U ?z ?_; (case F => k_asm); (case N => k_asm); (case U => k_upd); (case z => omega)); kl_rest))

theorem reset6 : True := by w_top off; trivial
section
-- CRead
open PySem PySem.W PyProof.Rows PySem.Spec PySem.Calls
set_option maxRecDepth 100000 in
set_option maxHeartbeats 8000000 in
theorem read_c (w : World) (a : LX) (ok : a.Ok) (no : Int) (t2 : Tok) (back : List Value) (e1 : Nat) (c : Nat) (t : Tok) (left : List Value) (hl : left.length < 10000) (e2 : Nat) :
  Ctr 600 6000 w (.call (.ref 133) ⟨[.ref a.lx], []⟩) [] (a.led w.params no t2 back e1 (Value.str ⟨#[c]⟩ t :: left) e2)
    (fun _ v n' => ∃ no' t2' e2', v = .str ⟨#[c]⟩ t ∧ no' = (if c = 10 then no + 1 else no) ∧ n' = a.led w.params no' t2' back e1 left e2') := by
  obtain ⟨⟨o1, o2, o3, o4, o5, o6, o7, o8⟩, hcode, hqual, hcell⟩ := ok
  obtain ⟨lx, dx, pb, st, sd, sp, fn, cd, cl, lf, t1, t3, t4, t5, t6, u1, u2, u3, u4, u5, u6, u7, pm, ct, oc, vs, tq, ol⟩ := a
  dsimp only [LX.led] at *
  refine Ctr.mk ?_
  intro p loose mean mg mb gd cn cs a ccd cl' outer A₀ base h₀ L m s Q E B F X N I T hk hret
  k_dflt cell_enter
  k_unmd
  k_fold
  k_steps
  · rename ((⟨#[c]⟩ : Str) == Str.ofString "\n") = true => hb
    rw [sign_eq nl_is] at hb
    exact hret _ _ _ _ ⟨_, _, _, rfl, (if_pos (of_decide_eq_true hb)).symm, rfl⟩ (by assumption) (by assumption) (by assumption)
  · rename ((⟨#[c]⟩ : Str) == Str.ofString "\n") = false => hb
    rw [sign_eq nl_is] at hb
    exact hret _ _ _ _ ⟨_, _, _, rfl, (if_neg (of_decide_eq_false hb)).symm, rfl⟩ (by assumption) (by assumption) (by assumption)
set_option maxRecDepth 100000 in
set_option maxHeartbeats 8000000 in
theorem read_end_c (w : World) (a : LX) (ok : a.Ok) (no : Int) (t2 : Tok) (back : List Value) (e1 e2 : Nat) :
  Ctr 600 6000 w (.call (.ref 133) ⟨[.ref a.lx], []⟩) [] (a.led w.params no t2 back e1 [] e2)
    (fun _ v n' => (∃ t, v = .str (Str.ofString "") t) ∧ n' = a.led w.params no t2 back e1 [] e2) := by
  obtain ⟨⟨o1, o2, o3, o4, o5, o6, o7, o8⟩, hcode, hqual, hcell⟩ := ok
  obtain ⟨lx, dx, pb, st, sd, sp, fn, cd, cl, lf, t1, t3, t4, t5, t6, u1, u2, u3, u4, u5, u6, u7, pm, ct, oc, vs, tq, ol⟩ := a
  dsimp only [LX.led] at *
  refine Ctr.mk ?_
  intro p loose mean mg mb gd cn cs a ccd cl' outer A₀ base h₀ L m s Q E B F X N I T hk hret
  k_dflt cell_enter
  k_unmd
  k_fold
  k_steps
  all_goals (refine hret _ _ _ _ ⟨⟨_, rfl⟩, rfl⟩ (by assumption) (by assumption) (by assumption))

/-- one sign is read, or none is left -/
noncomputable def ReadOne (l : List (Nat × Tok)) (x : Str) (l' : List (Nat × Tok)) : Prop := (l = [] ∧ l' = [] ∧ x = Str.ofString "") ∨ ∃ c t, l = (c, t) :: l' ∧ x = ⟨#[c]⟩
theorem nls_cons (c : Nat) (t : Tok) (l : List (Nat × Tok)) : nls ((c, t) :: l) = (if c = 10 then 1 else 0) + nls l := by
  unfold nls
  simp only [List.map_cons, List.count_cons]
  by_cases h : c = 10
  · simp [h]; omega
  · simp [h]
end
end
theorem reset7 : True := by w_top off; trivial
section
-- CGetA
open PySem PySem.W PyProof.Rows PySem.Spec PySem.Calls
theorem gt_next {w : World} {p : Program} {loose : List Str} {mean : ExcName → Option Value} {mg mb : Str → Option Value} {d u : Nat} {gd : Option (List Code)} {cn : Str} {cs : Scope} {aa : Addr} {ccd : Value} {cl : List (Str × Addr)} {outer : List Env} {A₀ : Around} {base g : Heap} {L' : Addr} {s s' : Shared}
    {a : LX} {q it : Addr} {ts : Tok} {e1 : Nat} {no : Int} {x : Str} {c : Nat} {t : Tok} {l : List (Nat × Tok)} {fo : Obj} {fd : FuncData} {Q : Option Value → Shared → Prop} {E : Value → Shared → Prop}
    (ok : a.Ok) (hd : d ≤ 600) (hu : u + 1 ≤ 6000) (B : Below A₀ base outer g) (X : (Mine.hd.heap_39 w.params).In g) (T : Top p loose mean mg mb g) (hk : cs.kind = .function) (hfo : g.get? 133 = some fo) (hfd : fo.data = .func fd)
    (hne : ∀ x ∈ ([(it, citO (.ref q) ts), (q, methodObj (.ref 133) (.ref a.lx))] : List (Addr × Obj)), ∀ r ∈ [a.pb, a.lx, a.dx, a.fn, a.cd, a.lf, a.st, a.sd, a.cl], r ≠ x.1)
    (hl : l.length < 10000) (hG : GT w g L' a q it ts e1 s no x ((c, t) :: l) s')
    (k : ∀ s2, GT w g L' a q it ts e1 s (if c = 10 then no + 1 else no) x l s2 → Q (some (.str ⟨#[c]⟩ t)) s2) :
    wpAny (model P0 w) (ktrTop d u gd cn cs L' aa ccd cl outer) (pyNext (.ref it)) Q E s' := by
  obtain ⟨h, tk, m, t2, e2, tt, rfl, F, hs, hf, ht, N⟩ := hG
  refine cit_next (News.get N (.head _)) (News.get N (.tail _ (.head _))) (F.keep _ _ hfo) hfd ?_
  refine Ctr.code (read_c w a ok no t2 [] e1 c t (leftV l) (by simp [leftV] at *; omega) e2) [(it, citO (.ref q) ts), (q, methodObj (.ref 133) (.ref a.lx))] hd hu B F X N T hk
      (fun q hq => .tail _ (.tail _ hq)) (fun z hz => by rcases List.mem_cons.mp hz with rfl | hz; exact .head _; rcases List.mem_cons.mp hz with rfl | hz; exact .tail _ (.head _); cases hz) ?_ (fun _ h => nomatch h) ?_
  · intro z hz r hr
    exact hne z hz r.1 (by simp only [LX.led, List.mem_cons, List.not_mem_nil, or_false] at hr ⊢; rcases hr with rfl | rfl | rfl | rfl | rfl | rfl | rfl | rfl | rfl <;> simp)
  · rintro sz v led' h' tk' ⟨no2, t2', e2', rfl, hno2, rfl⟩ hsz F' N' _
    have N3 : News g L' h' ((it, citO (.ref q) ts) :: (q, methodObj (.ref 133) (.ref a.lx)) :: a.led w.params no2 t2' [] e1 (leftV l) e2') := fun z hz => N' z (swap2 hz)
    exact ⟨_, _, rfl, sign_ne c, News.get N3 (.head _), k _ (hno2 ▸ ⟨_, _, _, _, _, _, rfl, F', hs, hf, ht, N3⟩)⟩
theorem gt_end {w : World} {p : Program} {loose : List Str} {mean : ExcName → Option Value} {mg mb : Str → Option Value} {d u : Nat} {gd : Option (List Code)} {cn : Str} {cs : Scope} {aa : Addr} {ccd : Value} {cl : List (Str × Addr)} {outer : List Env} {A₀ : Around} {base g : Heap} {L' : Addr} {s s' : Shared}
    {a : LX} {q it : Addr} {ts : Tok} {e1 : Nat} {no : Int} {x : Str} {fo : Obj} {fd : FuncData} {Q : Option Value → Shared → Prop} {E : Value → Shared → Prop}
    (ok : a.Ok) (hd : d ≤ 600) (hu : u + 1 ≤ 6000) (B : Below A₀ base outer g) (X : (Mine.hd.heap_39 w.params).In g) (T : Top p loose mean mg mb g) (hk : cs.kind = .function) (hfo : g.get? 133 = some fo) (hfd : fo.data = .func fd)
    (hne : ∀ x ∈ ([(it, citO (.ref q) ts), (q, methodObj (.ref 133) (.ref a.lx))] : List (Addr × Obj)), ∀ r ∈ [a.pb, a.lx, a.dx, a.fn, a.cd, a.lf, a.st, a.sd, a.cl], r ≠ x.1)
    (hit : it ≠ L') (hig : g.get? it = none) (hG : GT w g L' a q it ts e1 s no x [] s')
    (k : ∀ h tk m t2 e2 tt, Fr g L' h m → m (Str.ofString "self") = some (.ref a.lx) → m (Str.ofString "fiter") = some (.ref it) → m (Str.ofString "token") = some (.str x tt) → News g L' h (a.led w.params no t2 [] e1 (leftV []) e2) → Q none { s with heap := h, toks := tk }) :
    wpAny (model P0 w) (ktrTop d u gd cn cs L' aa ccd cl outer) (pyNext (.ref it)) Q E s' := by
  obtain ⟨h, tk, m, t2, e2, tt, rfl, F, hs, hf, ht, N⟩ := hG
  refine cit_next_end rfl (News.get N (.head _)) (News.get N (.tail _ (.head _))) (F.keep _ _ hfo) hfd ?_
  refine Ctr.code (read_end_c w a ok no t2 [] e1 e2) [(it, citO (.ref q) ts), (q, methodObj (.ref 133) (.ref a.lx))] hd hu B F X N T hk
      (fun q hq => .tail _ (.tail _ hq)) (fun z hz => by rcases List.mem_cons.mp hz with rfl | hz; exact .head _; rcases List.mem_cons.mp hz with rfl | hz; exact .tail _ (.head _); cases hz) ?_ (fun _ h => nomatch h) ?_
  · intro z hz r hr
    exact hne z hz r.1 (by simp only [LX.led, List.mem_cons, List.not_mem_nil, or_false] at hr ⊢; rcases hr with rfl | rfl | rfl | rfl | rfl | rfl | rfl | rfl | rfl <;> simp)
  · rintro sz v led' h' tk' ⟨⟨t, rfl⟩, rfl⟩ hsz F' N' _
    have N3 : News g L' h' ((it, citO (.ref q) ts) :: (q, methodObj (.ref 133) (.ref a.lx)) :: a.led w.params no t2 [] e1 (leftV []) e2) := fun z hz => N' z (swap2 hz)
    refine ⟨t, rfl, News.get N3 (.head _), News.get N3 (.tail _ (.head _)), F'.keep _ _ hfo, fun h'' hk => ?_⟩
    refine k h'' tk' m t2 e2 tt ⟨F'.ns.at' fun o e => hk L' o (Ne.symm hit) e, fun b o e => hk b o (fun q => by rw [q, hig] at e; cases e) (F'.keep b o e), F'.above⟩ hs hf ht fun z hz => ?_
    have z0 := N3 z (.tail _ (.tail _ hz))
    refine ⟨hk _ _ ?_ z0.1, z0.2⟩
    exact hne (it, citO (.ref q) ts) (.head _) z.1 (by simp only [LX.led, List.mem_cons, List.not_mem_nil, or_false] at hz ⊢; rcases hz with rfl | rfl | rfl | rfl | rfl | rfl | rfl | rfl | rfl <;> simp)
theorem ws_is (c : Nat) : (Builtin.Str.occurrences (Str.ofString "\n\t\x0d ") ⟨#[c]⟩ 0 (Str.ofString "\n\t\x0d ").length 1).isEmpty = !white c := by
  have h := StrLaws.found_one (Str.ofString "\n\t\x0d ") c
  have e : (Str.ofString "\n\t\x0d ").cps.toList = [10, 9, 13, 32] := by decide +kernel
  rw [e] at h
  have : decide (c ∈ [10, 9, 13, 32]) = white c := by
    rw [Bool.eq_iff_iff]
    simp [white, or_assoc]
  rw [this] at h
  rw [← h, Bool.not_not]
theorem quote_is : Str.ofString "\"" = ⟨#[34]⟩ := by decide +kernel
theorem back_is : Str.ofString "\\" = ⟨#[92]⟩ := by decide +kernel
theorem str_nil {x : Str} (h : x.cps.toList = []) : x = Str.ofString "" := by
  have e : Str.ofString "" = ⟨#[]⟩ := by decide +kernel
  rw [e]
  obtain ⟨c⟩ := x
  have : c = #[] := by simpa using h
  rw [this]
end
section
open PySem PySem.W PyProof.Rows PySem.Spec PySem.Calls
local macro_rules | `(tactic| walk_at "call builtin:iter") => `(tactic| (k_here; (with_reducible show wpAny _ _ (call (Value.builtin "iter") [Value.ref _, Value.str _ _]) _ _ _); k_dflt (refine' iter2 ?F ?N ?q ?_; (case F => k_asm); (case N => k_asm); (case q => k_mem); k_whole); intro it' h' F' N' l1; (try k_lt l1); (try k_sweep)))
local macro_rules | `(tactic| walk_at "exec For Name Name cons nil") => `(tactic| (k_here; k_dflt (refine wpAny_For ?_)))
local macro_rules | `(tactic| walk_at "pyIter ref") => `(tactic| (k_here; (with_reducible show wpAny _ _ (pyIter (Value.ref _)) (fun it s₂ => codeAny _ _ _ _ s₂) _ _); k_dflt (refine' cit_iter ?h ?_; (case h => exact News.get (by k_asm) (by k_mem)))))

theorem reset8 : True := by w_top off; trivial
section
-- CGet
open PySem PySem.W PyProof.Rows PySem.Spec PySem.Calls
local macro_rules | `(tactic| walk_at "zz") => `(tactic| skip)
theorem useLem {M : Model} {A : Around} {c : Code} {I : Nat → Shared → Prop} {R : Result → Shared → Prop} {Q : Prop} (main : (∀ n s', I n s' → codeAny M A c R s') → Q) (h : ∀ n s', I n s' → codeAny M A c R s') : Q := main h
/-- the word is read and given back -/
noncomputable def RB (w : World) (g : Heap) (L' : Addr) (a : LX) (q it : Addr) (ts : Tok) (e1 : Nat) (s : Shared) (no : Int) (l0 : List (Nat × Tok)) (tok rest : List Nat) (r : Result) (s' : Shared) : Prop :=
  ∃ no' l x t, r = .ok (.ret (.str x t)) ∧ x.cps.toList = tok ∧ l.map (·.1) = rest ∧ no' = no + nls l0 - nls l ∧ GT w g L' a q it ts e1 s no' x l s'
theorem RB.mk {w : World} {g : Heap} {L' : Addr} {a : LX} {q it : Addr} {ts : Tok} {e1 : Nat} {s : Shared} {no : Int} {l0 : List (Nat × Tok)} {tok rest : List Nat} {no' : Int} {l : List (Nat × Tok)} {x : Str} {t : Tok} {s' : Shared} (h1 : x.cps.toList = tok) (h2 : l.map (·.1) = rest) (h3 : no' = no + nls l0 - nls l) (h4 : GT w g L' a q it ts e1 s no' x l s') :
    RB w g L' a q it ts e1 s no l0 tok rest (.ok (.ret (.str x t))) s' := ⟨no', l, x, t, rfl, h1, h2, h3, h4⟩
theorem RB.out {w : World} {g : Heap} {L' : Addr} {a : LX} {q it : Addr} {ts : Tok} {e1 : Nat} {s : Shared} {no : Int} {l0 : List (Nat × Tok)} {tok rest : List Nat} {r : Result} {s' : Shared} (h : RB w g L' a q it ts e1 s no l0 tok rest r s') :
    ∃ no' l x t, r = .ok (.ret (.str x t)) ∧ x.cps.toList = tok ∧ l.map (·.1) = rest ∧ no' = no + nls l0 - nls l ∧ GT w g L' a q it ts e1 s no' x l s' := h
theorem neL : Nonempty LX := ⟨⟨0,0,0,0,0,0,0,0,0,0,0,0,0,0,0,0,0,0,0,0,0,0,default,default,default,default,0,default⟩⟩
local macro_rules | `(tactic| walk_at "call ref") => `(tactic| (k_here; (show wpAny _ _ (call (Value.ref _) _ _) _ _ _); (refine Halt.out ?_)))
theorem gl1 {l x : Nat} (h : l + 1 + x < 10001) : l < 10000 := by omega
theorem gl2 {l x : Nat} (h : l + 1 + 1 + x < 10001) : l < 10000 := by omega
theorem gx1 {l x : Nat} (h : l + 1 + x < 10001) : x ≤ 10001 := by omega
theorem gs1 {l x : Nat} (h : l + 1 + x < 10001) : l + (x + 1) < 10001 := by omega
theorem gs2 {l x : Nat} (h : l + 1 + 1 + x < 10001) : l + (x + 1) < 10001 := by omega
theorem gs3 {l x : Nat} (h : l + 1 + x < 10001) : l + x < 10001 := by omega
theorem gi0 (a n : Int) : a - (0 + n) = a - n := by omega
theorem gi1 (a n : Int) : a - (1 + n) + 1 = a - n := by omega
noncomputable def get_c_St (w : World) (a : LX) (no : Int) (t2 : Tok) (e1 : Nat) (l : List (Nat × Tok)) (e2 : Nat) (tok : List Nat) (rest : List Nat) : Prop :=
  ∀ (ok : a.Ok) (hl : l.length < 10000) (hlex : lexT (l.map (·.1)) = some (tok, rest)), Ctr 550 5500 w (.call (.ref 140) ⟨[.ref a.lx], []⟩) [] (a.led w.params no t2 [] e1 (leftV l) e2)
    (fun _ v n' => ∃ x no' t2' e2' l' t, v = .str x t ∧ x.cps.toList = tok ∧ l'.map (·.1) = rest ∧ no' = no + nls l - nls l' ∧ n' = a.led w.params no' t2' [] e1 (leftV l') e2')
set_option maxRecDepth 100000 in
set_option maxHeartbeats 8000000 in
theorem get_c_e : ∀ x : World × LX × Int × Tok × Nat × List (Nat × Tok) × Nat × List Nat × List Nat, get_c_St x.1 x.2.1 x.2.2.1 x.2.2.2.1 x.2.2.2.2.1 x.2.2.2.2.2.1 x.2.2.2.2.2.2.1 x.2.2.2.2.2.2.2.1 x.2.2.2.2.2.2.2.2 := by
  refine byE (ne2 neW (ne2 neL (ne2 neI (ne2 neI (ne2 neI (ne2 neI (ne2 neI (ne2 neI neI)))))))) ?_
  generalize eps _ _ = x9
  generalize x9.1 = w
  generalize x9.2.1 = a
  generalize x9.2.2.1 = no
  generalize x9.2.2.2.1 = t2
  generalize x9.2.2.2.2.1 = e1
  generalize x9.2.2.2.2.2.1 = l
  generalize x9.2.2.2.2.2.2.1 = e2
  generalize x9.2.2.2.2.2.2.2.1 = tok
  generalize x9.2.2.2.2.2.2.2.2 = rest
  unfold get_c_St
  intro ok hl hlex
  have ok' := ok
  obtain ⟨⟨o1, o2, o3, o4, o5, o6, o7, o8⟩, hcode, hqual, hcell⟩ := ok
  dsimp only [LX.led] at *
  refine Ctr.mkE ?_
  generalize eps _ _ = c9
  dsimp only [CG]
  generalize c9.p = p
  generalize c9.loose = loose
  generalize c9.mean = mean
  generalize c9.mg = mg
  generalize c9.mb = mb
  generalize c9.gd = gd
  generalize c9.cn = cn
  generalize c9.cs = cs
  generalize c9.aa = aa
  generalize c9.ccd = ccd
  generalize c9.cl = cl'
  generalize c9.outer = outer
  generalize c9.A₀ = A₀
  generalize c9.base = base
  generalize c9.h₀ = h₀
  generalize c9.L = L
  generalize c9.m = m
  generalize c9.s = s
  generalize c9.Q = Q
  generalize c9.E = E
  intro B F X N I T hk hret
  k_dflt cell_enter
  rename_i g' L' h1 hL hG F1 N1 B1 X1 T1
  revert g' L' h1
  refine curryE ?_
  refine curryE ?_
  refine byE (ne2 (ne2 inferInstance inferInstance) inferInstance) ?_
  generalize (Prod.fst (Prod.fst (eps _ _))) = g'
  generalize (Prod.snd (Prod.fst (eps _ _))) = L'
  generalize (Prod.snd (eps _ _)) = h1
  intro hL hG F1 N1 B1 X1 T1
  k_unmd
  k_fold
  have hfd : ∃ fo fd, g'.get? 133 = some fo ∧ fo.data = .func fd := ⟨_, _, X1 _ _ (by k_is), rfl⟩
  obtain ⟨fo, fd, hfo, hfd⟩ := hfd
  k_steps
  rename_i q hq1 l1 it hq2 l2 h5 F2 N2
  obtain ⟨ts, N2⟩ : ∃ ts, News g' L' h5 ((it, citO (.ref q) ts) :: (q, methodObj (.ref 133) (.ref a.lx)) :: a.led w.params no t2 [] e1 (leftV l) e2) := ⟨_, N2⟩
  have hne : ∀ x ∈ ([(it, citO (.ref q) ts), (q, methodObj (.ref 133) (.ref a.lx))] : List (Addr × Obj)), ∀ r ∈ [a.pb, a.lx, a.dx, a.fn, a.cd, a.lf, a.st, a.sd, a.cl], r ≠ x.1 := by
    intro x hx r hr
    simp only [List.mem_cons, List.not_mem_nil, or_false] at hx hr
    rcases hx with rfl | rfl <;> rcases hr with rfl | rfl | rfl | rfl | rfl | rfl | rfl | rfl | rfl <;> (refine neN ?_; (try dsimp only); omega)
  have hit := (N2 _ (.head _)).2
  have hneL : ∀ {P : Params} {no : Int} {t2 : Tok} {e1 e2 : Nat} {lv : List Value}, ∀ z ∈ ([(it, citO (.ref q) ts), (q, methodObj (.ref 133) (.ref a.lx))] : List (Addr × Obj)), ∀ r ∈ a.led P no t2 [] e1 lv e2, r.1 ≠ z.1 := by
    intro P no t2 e1 e2 lv z hz r hr
    exact hne z hz r.1 (by simp only [LX.led, List.mem_cons, List.not_mem_nil, or_false] at hr ⊢; rcases hr with rfl | rfl | rfl | rfl | rfl | rfl | rfl | rfl | rfl <;> simp)
  refine' useLem (I := LoopI lexQ w g' L' a q it ts e1 s no l tok rest) (R := RB w g' L' a q it ts e1 s no l tok rest) ?main ?hq
  case main =>
    intro hQ
    refine' useLem (I := LoopI lexB w g' L' a q it ts e1 s no l tok rest) (R := RB w g' L' a q it ts e1 s no l tok rest) ?main2 ?hb
    case main2 =>
      intro hB
      refine loop_by (LoopI lexT' w g' L' a q it ts e1 s no l tok rest) ?_ l.length
        ⟨no, l, Str.ofString "", rfl, by have : (Str.ofString "").length = 0 := by decide +kernel
                                         omega, by rw [lexT', if_pos (by decide +kernel)]; exact hlex, by omega, _, _, _, _, _, _, rfl, F2, rfl, rfl, rfl, N2⟩
      rintro n s' ⟨no', l', x, rfl, hlen, hlex', hno', hGT⟩
      have hx0 : x = Str.ofString "" := by
        unfold lexT' at hlex'
        split at hlex'
        · exact str_nil (by assumption)
        · cases hlex'
      subst hx0
      have hlex2 : lexT (l'.map (·.1)) = some (tok, rest) := by rw [lexT', if_pos (by decide +kernel)] at hlex'; exact hlex'
      clear hlex'
      cases l' with
      | nil =>
        refine gt_end ok' (Nat.le_of_ble_eq_true rfl) (Nat.le_of_ble_eq_true rfl) B1 X1 T1 rfl hfo hfd hne hit.1 hit.2 hGT ?_
        intro h tk m t2 e2 tt F hs hf ht N
        have F4 := frNorm F hs hf ht
        dsimp only [LX.led] at N
        clear F hGT
        dsimp only
        k_unmd
        k_fold
        k_steps
        have hn9 : some (([] : List Nat), ([] : List Nat)) = some (tok, rest) := hlex2
        have hn1 : ([] : List Nat) = tok := congrArg Prod.fst (Option.some.inj hn9)
        have hn2 : ([] : List Nat) = rest := congrArg Prod.snd (Option.some.inj hn9)
        refine hret _ _ _ _ ⟨Str.ofString "", no', t2, e2, [], _, rfl, by rw [empty_cps]; exact hn1, hn2, hno', rfl⟩ (by assumption) (by assumption) (by assumption)
      | cons ct l' =>
        obtain ⟨c, t⟩ := ct
        simp only [List.length_cons] at hlen
        have e0 : (Str.ofString "").length = 0 := by decide +kernel
        have hl9 : l'.length < 10000 := by (first | exact gl1 (by assumption) | exact gl2 (by assumption) | exact gx1 (by assumption) | exact gs1 (by assumption) | exact gs2 (by assumption) | exact gs3 (by assumption) | exact gi0 _ _ | exact gi1 _ _ | omega)
        have hno2 : (if c = 10 then no' + 1 else no') = no + nls l - nls l' := by
          rw [hno', nls_cons]
          split <;> (first | exact gl1 (by assumption) | exact gl2 (by assumption) | exact gx1 (by assumption) | exact gs1 (by assumption) | exact gs2 (by assumption) | exact gs3 (by assumption) | exact gi0 _ _ | exact gi1 _ _ | omega)
        rw [List.map_cons, lexT_cons] at hlex2
        refine gt_next ok' (Nat.le_of_ble_eq_true rfl) (Nat.le_of_ble_eq_true rfl) B1 X1 T1 rfl hfo hfd hne hl9 hGT ?_
        rintro s2 ⟨h, tk, m, t2, e2, tt, rfl, F, hs, hf, ht, N⟩
        have F4 := frNorm F hs hf ht
        dsimp only [LX.led] at N
        clear F hGT
        dsimp only
        k_unmd
        k_fold
        refine wpAny_assign_Name ?_
        k_steps
        · -- a quotation mark
          rename (Builtin.Str.occurrences _ _ _ _ _).isEmpty = _ => hw
          rename ((⟨#[c]⟩ : Str) == Str.ofString "\"") = _ => hq
          rw [ws_is] at hw
          rw [sign_eq quote_is] at hq
          rw [if_neg (by simpa using hw), if_pos (of_decide_eq_true hq)] at hlex2
          rename Fr _ _ _ _ => F9
          rename News _ _ _ _ => N9
          refine codeAny_mono (hQ _ _
            ⟨_, l', Str.ofString "", rfl, by (first | exact gl1 (by assumption) | exact gl2 (by assumption) | exact gx1 (by assumption) | exact gs1 (by assumption) | exact gs2 (by assumption) | exact gs3 (by assumption) | exact gi0 _ _ | exact gi1 _ _ | omega), by rw [empty_cps]; exact hlex2, hno2, _, _, _, _, _, _, rfl, F9, rfl, rfl, rfl, N9⟩) ?_
          clear F9 N9
          rintro r s3 hr
          obtain ⟨no3, l3, x3, t3, rfl, hx3, hl3, hn3, h, tk, m, t2, e2, tt, rfl, F, hs, hf, ht, N⟩ := hr.out
          dsimp only
          k_steps
          rename Fr h₀ L _ _ => kF9
          rename News h₀ L _ _ => kN9
          rename Kept _ _ _ => kK9
          exact hret _ _ _ _ ⟨x3, no3, t2, e2, l3, _, rfl, hx3, hl3, hn3, rfl⟩ kF9 (fun z hz => kN9 z (.tail _ (.tail _ hz))) kK9
        · -- a backslash
          rename (Builtin.Str.occurrences _ _ _ _ _).isEmpty = _ => hw
          rename ((⟨#[c]⟩ : Str) == Str.ofString "\"") = _ => hq
          rename ((⟨#[c]⟩ : Str) == Str.ofString "\\") = _ => hb
          rw [ws_is] at hw
          rw [sign_eq quote_is] at hq
          rw [sign_eq back_is] at hb
          rw [if_neg (by simpa using hw), if_neg (of_decide_eq_false hq), if_pos (of_decide_eq_true hb)] at hlex2
          cases l' with
          | nil => cases hlex2
          | cons ct5 l5 =>
          obtain ⟨c5, t5⟩ := ct5
          simp only [List.length_cons] at hlen hl9
          simp only [List.map_cons] at hlex2
          rename Fr _ _ _ _ => F9
          rename News _ _ _ _ => N9
          unfold Halt
          refine Ctr.use (read_c w a ok' _ t2 [] e1 c5 t5 (leftV l5) (by simp [leftV]; (first | exact gl1 (by assumption) | exact gl2 (by assumption) | exact gx1 (by assumption) | exact gs1 (by assumption) | exact gs2 (by assumption) | exact gs3 (by assumption) | exact gi0 _ _ | exact gi1 _ _ | omega)) e2) [(it, citO (.ref q) ts), (q, methodObj (.ref 133) (.ref a.lx))] (Nat.le_of_ble_eq_true rfl) (Nat.le_of_ble_eq_true rfl) B1 F9 X1 N9 T1 rfl
            (fun q hq => .tail _ (.tail _ hq)) (fun z hz => by rcases List.mem_cons.mp hz with rfl | hz; exact .head _; rcases List.mem_cons.mp hz with rfl | hz; exact .tail _ (.head _); cases hz) hneL (fun _ h => nomatch h) ?_
          rintro sz v led' h' tk' ⟨no5, t6, e6, rfl, hno5, rfl⟩ hsz F' N'
          have N5 : News g' L' h' ((it, citO (.ref q) ts) :: (q, methodObj (.ref 133) (.ref a.lx)) :: a.led w.params no5 t6 [] e1 (leftV l5) e6) := fun z hz => N' z (swap2 hz)
          have hno6 : no5 = no + nls l - nls l5 := by
            rw [hno5, hno2, nls_cons]
            split <;> (first | exact gl1 (by assumption) | exact gl2 (by assumption) | exact gx1 (by assumption) | exact gs1 (by assumption) | exact gs2 (by assumption) | exact gs3 (by assumption) | exact gi0 _ _ | exact gi1 _ _ | omega)
          dsimp only [LX.led] at N5
          clear N' F9 N9
          k_steps
          rename Fr _ _ _ _ => F9
          rename News _ _ _ _ => N9
          refine codeAny_mono (hB _ _
            ⟨_, l5, _, rfl, by rw [snoc_len]; (first | exact gl1 (by assumption) | exact gl2 (by assumption) | exact gx1 (by assumption) | exact gs1 (by assumption) | exact gs2 (by assumption) | exact gs3 (by assumption) | exact gi0 _ _ | exact gi1 _ _ | omega), by rw [snoc_list, empty_cps]; exact hlex2, hno6, _, _, _, _, _, _, rfl, F9, rfl, rfl, rfl, N9⟩) ?_
          clear F9 N9
          rintro r s3 hr
          obtain ⟨no3, l3, x3, t3, rfl, hx3, hl3, hn3, h, tk, m, t2, e2, tt, rfl, F, hs, hf, ht, N⟩ := hr.out
          dsimp only
          k_steps
          rename Fr h₀ L _ _ => kF9
          rename News h₀ L _ _ => kN9
          rename Kept _ _ _ => kK9
          exact hret _ _ _ _ ⟨x3, no3, t2, e2, l3, _, rfl, hx3, hl3, hn3, rfl⟩ kF9 (fun z hz => kN9 z (.tail _ (.tail _ hz))) kK9
        · -- a bare sign
          rename (Builtin.Str.occurrences _ _ _ _ _).isEmpty = _ => hw
          rename ((⟨#[c]⟩ : Str) == Str.ofString "\"") = _ => hq
          rename ((⟨#[c]⟩ : Str) == Str.ofString "\\") = _ => hb
          rw [ws_is] at hw
          rw [sign_eq quote_is] at hq
          rw [sign_eq back_is] at hb
          rw [if_neg (by simpa using hw), if_neg (of_decide_eq_false hq), if_neg (of_decide_eq_false hb)] at hlex2
          rename Fr _ _ _ _ => F9
          rename News _ _ _ _ => N9
          refine codeAny_mono (hB _ _
            ⟨_, l', _, rfl, by rw [snoc_len]; (first | exact gl1 (by assumption) | exact gl2 (by assumption) | exact gx1 (by assumption) | exact gs1 (by assumption) | exact gs2 (by assumption) | exact gs3 (by assumption) | exact gi0 _ _ | exact gi1 _ _ | omega), by rw [snoc_list, empty_cps]; exact hlex2, hno2, _, _, _, _, _, _, rfl, F9, rfl, rfl, rfl, N9⟩) ?_
          clear F9 N9
          rintro r s3 hr
          obtain ⟨no3, l3, x3, t3, rfl, hx3, hl3, hn3, h, tk, m, t2, e2, tt, rfl, F, hs, hf, ht, N⟩ := hr.out
          dsimp only
          k_steps
          rename Fr h₀ L _ _ => kF9
          rename News h₀ L _ _ => kN9
          rename Kept _ _ _ => kK9
          exact hret _ _ _ _ ⟨x3, no3, t2, e2, l3, _, rfl, hx3, hl3, hn3, rfl⟩ kF9 (fun z hz => kN9 z (.tail _ (.tail _ hz))) kK9
        · -- white
          rename (Builtin.Str.occurrences _ _ _ _ _).isEmpty = _ => hw
          rw [ws_is] at hw
          rw [if_pos (by simpa using hw)] at hlex2
          rename Fr _ _ _ _ => F9
          rename News _ _ _ _ => N9
          show Again (LoopI lexT' w g' L' a q it ts e1 s no l tok rest) _ _
          exact ⟨l'.length, by first | omega | (simp only [List.length_cons]; omega), _, l', Str.ofString "", rfl, by omega, by rw [lexT', if_pos (by decide +kernel)]; exact hlex2, hno2, _, _, _, _, _, _, rfl, F9, rfl, rfl, rfl, N9⟩
    case hb =>
      intro n s' hI
      refine loop_by (LoopI lexB w g' L' a q it ts e1 s no l tok rest) ?_ n hI
      clear hI n s'
      rintro n s' ⟨no3, l3, x, rfl, hlen3, hlex3, hno3, hG3⟩
      cases l3 with
      | nil => rw [List.map_nil, lexB_nil] at hlex3; cases hlex3
      | cons ct3 l3 =>
        obtain ⟨c3, t3⟩ := ct3
        simp only [List.length_cons] at hlen3
        rw [List.map_cons, lexB_cons] at hlex3
        have hxl : x.length ≤ 10001 := by (first | exact gl1 (by assumption) | exact gl2 (by assumption) | exact gx1 (by assumption) | exact gs1 (by assumption) | exact gs2 (by assumption) | exact gs3 (by assumption) | exact gi0 _ _ | exact gi1 _ _ | omega)
        have hno4 : (if c3 = 10 then no3 + 1 else no3) = no + nls l - nls l3 := by
          rw [hno3, nls_cons]
          split <;> (first | exact gl1 (by assumption) | exact gl2 (by assumption) | exact gx1 (by assumption) | exact gs1 (by assumption) | exact gs2 (by assumption) | exact gs3 (by assumption) | exact gi0 _ _ | exact gi1 _ _ | omega)
        refine gt_next ok' (Nat.le_of_ble_eq_true rfl) (Nat.le_of_ble_eq_true rfl) B1 X1 T1 rfl hfo hfd hne (by (first | exact gl1 (by assumption) | exact gl2 (by assumption) | exact gx1 (by assumption) | exact gs1 (by assumption) | exact gs2 (by assumption) | exact gs3 (by assumption) | exact gi0 _ _ | exact gi1 _ _ | omega)) hG3 ?_
        rintro s3 ⟨h, tk, m, t2, e2, tt, rfl, F, hs, hf, ht, N⟩
        have F4 := frNorm F hs hf ht
        dsimp only [LX.led] at N
        clear F hG3
        dsimp only
        k_unmd
        k_fold
        refine wpAny_assign_Name ?_
        k_steps
        · -- a sign behind a backslash
          rename (Builtin.Str.occurrences _ _ _ _ _).isEmpty = _ => hq3
          rw [ws_is] at hq3
          rw [if_neg (by simpa using hq3)] at hlex3
          rename ((⟨#[c3]⟩ : Str) == Str.ofString "\\") = _ => hb3
          rw [sign_eq back_is] at hb3
          rw [if_pos (of_decide_eq_true hb3)] at hlex3
          cases l3 with
          | nil => cases hlex3
          | cons ct4 l4 =>
            obtain ⟨c4, t4⟩ := ct4
            simp only [List.length_cons] at hlen3
            simp only [List.map_cons] at hlex3
            rename Fr _ _ _ _ => F9
            rename News _ _ _ _ => N9
            unfold Halt
            refine Ctr.use (read_c w a ok' _ t2 [] e1 c4 t4 (leftV l4) (by simp [leftV]; (first | exact gl1 (by assumption) | exact gl2 (by assumption) | exact gx1 (by assumption) | exact gs1 (by assumption) | exact gs2 (by assumption) | exact gs3 (by assumption) | exact gi0 _ _ | exact gi1 _ _ | omega)) e2) [(it, citO (.ref q) ts), (q, methodObj (.ref 133) (.ref a.lx))] (Nat.le_of_ble_eq_true rfl) (Nat.le_of_ble_eq_true rfl) B1 F9 X1 N9 T1 rfl
              (fun q hq => .tail _ (.tail _ hq)) (fun z hz => by rcases List.mem_cons.mp hz with rfl | hz; exact .head _; rcases List.mem_cons.mp hz with rfl | hz; exact .tail _ (.head _); cases hz) hneL (fun _ h => nomatch h) ?_
            · rintro sz v led' h' tk' ⟨no5, t5, e5, rfl, hno5, rfl⟩ hsz F' N'
              have N5 : News g' L' h' ((it, citO (.ref q) ts) :: (q, methodObj (.ref 133) (.ref a.lx)) :: a.led w.params no5 t5 [] e1 (leftV l4) e5) := fun z hz => N' z (swap2 hz)
              dsimp only [LX.led] at N5
              clear N' F9 N9
              k_steps
              rename Fr _ _ _ _ => F8
              rename News _ _ _ _ => N8
              show Again (LoopI lexB w g' L' a q it ts e1 s no l tok rest) _ _
              refine ⟨l4.length, by first | omega | (simp only [List.length_cons]; omega), no5, l4, _, rfl, ?_, ?_, ?_, _, _, _, _, _, _, rfl, F8, rfl, rfl, rfl, N8⟩
              · rw [snoc_len]; (first | exact gl1 (by assumption) | exact gl2 (by assumption) | exact gx1 (by assumption) | exact gs1 (by assumption) | exact gs2 (by assumption) | exact gs3 (by assumption) | exact gi0 _ _ | exact gi1 _ _ | omega)
              · rw [snoc_list]; exact hlex3
              · rw [hno5, hno4, nls_cons]; split <;> (first | exact gl1 (by assumption) | exact gl2 (by assumption) | exact gx1 (by assumption) | exact gs1 (by assumption) | exact gs2 (by assumption) | exact gs3 (by assumption) | exact gi0 _ _ | exact gi1 _ _ | omega)
        · -- any other sign
          rename (Builtin.Str.occurrences _ _ _ _ _).isEmpty = _ => hq3
          rw [ws_is] at hq3
          rw [if_neg (by simpa using hq3)] at hlex3
          rename ((⟨#[c3]⟩ : Str) == Str.ofString "\\") = _ => hb3
          rw [sign_eq back_is] at hb3
          rw [if_neg (of_decide_eq_false hb3)] at hlex3
          rename Fr _ _ _ _ => F8
          rename News _ _ _ _ => N8
          show Again (LoopI lexB w g' L' a q it ts e1 s no l tok rest) _ _
          refine ⟨l3.length, by first | omega | (simp only [List.length_cons]; omega), _, l3, _, rfl, ?_, ?_, hno4, _, _, _, _, _, _, rfl, F8, rfl, rfl, rfl, N8⟩
          · rw [snoc_len]; (first | exact gl1 (by assumption) | exact gl2 (by assumption) | exact gx1 (by assumption) | exact gs1 (by assumption) | exact gs2 (by assumption) | exact gs3 (by assumption) | exact gi0 _ _ | exact gi1 _ _ | omega)
          · rw [snoc_list]; exact hlex3
        · -- the end of the word
          rename (Builtin.Str.occurrences _ _ _ _ _).isEmpty = _ => hq3
          rw [ws_is] at hq3
          rw [if_pos (by simpa using hq3)] at hlex3
          cases hlex3
          rename Fr _ _ _ _ => F9
          rename News _ _ _ _ => N9
          exact RB.mk rfl rfl hno4 ⟨_, _, _, _, _, _, rfl, F9, rfl, rfl, rfl, N9⟩
  case hq =>
    intro n s' hI
    refine loop_by (LoopI lexQ w g' L' a q it ts e1 s no l tok rest) ?_ n hI
    clear hI n s'
    rintro n s' ⟨no3, l3, x, rfl, hlen3, hlex3, hno3, hG3⟩
    cases l3 with
    | nil => rw [List.map_nil, lexQ_nil] at hlex3; cases hlex3
    | cons ct3 l3 =>
      obtain ⟨c3, t3⟩ := ct3
      simp only [List.length_cons] at hlen3
      rw [List.map_cons, lexQ_cons] at hlex3
      have hxl : x.length ≤ 10001 := by (first | exact gl1 (by assumption) | exact gl2 (by assumption) | exact gx1 (by assumption) | exact gs1 (by assumption) | exact gs2 (by assumption) | exact gs3 (by assumption) | exact gi0 _ _ | exact gi1 _ _ | omega)
      have hno4 : (if c3 = 10 then no3 + 1 else no3) = no + nls l - nls l3 := by
        rw [hno3, nls_cons]
        split <;> (first | exact gl1 (by assumption) | exact gl2 (by assumption) | exact gx1 (by assumption) | exact gs1 (by assumption) | exact gs2 (by assumption) | exact gs3 (by assumption) | exact gi0 _ _ | exact gi1 _ _ | omega)
      refine gt_next ok' (Nat.le_of_ble_eq_true rfl) (Nat.le_of_ble_eq_true rfl) B1 X1 T1 rfl hfo hfd hne (by (first | exact gl1 (by assumption) | exact gl2 (by assumption) | exact gx1 (by assumption) | exact gs1 (by assumption) | exact gs2 (by assumption) | exact gs3 (by assumption) | exact gi0 _ _ | exact gi1 _ _ | omega)) hG3 ?_
      rintro s3 ⟨h, tk, m, t2, e2, tt, rfl, F, hs, hf, ht, N⟩
      have F4 := frNorm F hs hf ht
      dsimp only [LX.led] at N
      clear F hG3
      dsimp only
      k_unmd
      k_fold
      refine wpAny_assign_Name ?_
      k_steps
      · -- the end of the word
        rename ((⟨#[c3]⟩ : Str) == Str.ofString "\"") = _ => hq3
        rw [sign_eq quote_is] at hq3
        rw [if_pos (of_decide_eq_true hq3)] at hlex3
        cases hlex3
        rename Fr _ _ _ _ => F9
        rename News _ _ _ _ => N9
        exact RB.mk rfl rfl hno4 ⟨_, _, _, _, _, _, rfl, F9, rfl, rfl, rfl, N9⟩
      · -- a sign behind a backslash
        rename ((⟨#[c3]⟩ : Str) == Str.ofString "\"") = _ => hq3
        rw [sign_eq quote_is] at hq3
        rw [if_neg (of_decide_eq_false hq3)] at hlex3
        rename ((⟨#[c3]⟩ : Str) == Str.ofString "\\") = _ => hb3
        rw [sign_eq back_is] at hb3
        rw [if_pos (of_decide_eq_true hb3)] at hlex3
        cases l3 with
        | nil => cases hlex3
        | cons ct4 l4 =>
          obtain ⟨c4, t4⟩ := ct4
          simp only [List.length_cons] at hlen3
          simp only [List.map_cons] at hlex3
          rename Fr _ _ _ _ => F9
          rename News _ _ _ _ => N9
          unfold Halt
          refine Ctr.use (read_c w a ok' _ t2 [] e1 c4 t4 (leftV l4) (by simp [leftV]; (first | exact gl1 (by assumption) | exact gl2 (by assumption) | exact gx1 (by assumption) | exact gs1 (by assumption) | exact gs2 (by assumption) | exact gs3 (by assumption) | exact gi0 _ _ | exact gi1 _ _ | omega)) e2) [(it, citO (.ref q) ts), (q, methodObj (.ref 133) (.ref a.lx))] (Nat.le_of_ble_eq_true rfl) (Nat.le_of_ble_eq_true rfl) B1 F9 X1 N9 T1 rfl
            (fun q hq => .tail _ (.tail _ hq)) (fun z hz => by rcases List.mem_cons.mp hz with rfl | hz; exact .head _; rcases List.mem_cons.mp hz with rfl | hz; exact .tail _ (.head _); cases hz) hneL (fun _ h => nomatch h) ?_
          · rintro sz v led' h' tk' ⟨no5, t5, e5, rfl, hno5, rfl⟩ hsz F' N'
            have N5 : News g' L' h' ((it, citO (.ref q) ts) :: (q, methodObj (.ref 133) (.ref a.lx)) :: a.led w.params no5 t5 [] e1 (leftV l4) e5) := fun z hz => N' z (swap2 hz)
            dsimp only [LX.led] at N5
            clear N' F9 N9
            k_steps
            rename Fr _ _ _ _ => F8
            rename News _ _ _ _ => N8
            show Again (LoopI lexQ w g' L' a q it ts e1 s no l tok rest) _ _
            refine ⟨l4.length, by first | omega | (simp only [List.length_cons]; omega), no5, l4, _, rfl, ?_, ?_, ?_, _, _, _, _, _, _, rfl, F8, rfl, rfl, rfl, N8⟩
            · rw [snoc_len]; (first | exact gl1 (by assumption) | exact gl2 (by assumption) | exact gx1 (by assumption) | exact gs1 (by assumption) | exact gs2 (by assumption) | exact gs3 (by assumption) | exact gi0 _ _ | exact gi1 _ _ | omega)
            · rw [snoc_list]; exact hlex3
            · rw [hno5, hno4, nls_cons]; split <;> (first | exact gl1 (by assumption) | exact gl2 (by assumption) | exact gx1 (by assumption) | exact gs1 (by assumption) | exact gs2 (by assumption) | exact gs3 (by assumption) | exact gi0 _ _ | exact gi1 _ _ | omega)
      · -- any other sign
        rename ((⟨#[c3]⟩ : Str) == Str.ofString "\"") = _ => hq3
        rw [sign_eq quote_is] at hq3
        rw [if_neg (of_decide_eq_false hq3)] at hlex3
        rename ((⟨#[c3]⟩ : Str) == Str.ofString "\\") = _ => hb3
        rw [sign_eq back_is] at hb3
        rw [if_neg (of_decide_eq_false hb3)] at hlex3
        rename Fr _ _ _ _ => F8
        rename News _ _ _ _ => N8
        show Again (LoopI lexQ w g' L' a q it ts e1 s no l tok rest) _ _
        refine ⟨l3.length, by first | omega | (simp only [List.length_cons]; omega), _, l3, _, rfl, ?_, ?_, hno4, _, _, _, _, _, _, rfl, F8, rfl, rfl, rfl, N8⟩
        · rw [snoc_len]; (first | exact gl1 (by assumption) | exact gl2 (by assumption) | exact gx1 (by assumption) | exact gs1 (by assumption) | exact gs2 (by assumption) | exact gs3 (by assumption) | exact gi0 _ _ | exact gi1 _ _ | omega)
        · rw [snoc_list]; exact hlex3
theorem get_c (w : World) (a : LX) (ok : a.Ok) (no : Int) (t2 : Tok) (e1 : Nat) (l : List (Nat × Tok)) (hl : l.length < 10000) (e2 : Nat) (tok rest : List Nat) (hlex : lexT (l.map (·.1)) = some (tok, rest)) :
  Ctr 550 5500 w (.call (.ref 140) ⟨[.ref a.lx], []⟩) [] (a.led w.params no t2 [] e1 (leftV l) e2)
    (fun _ v n' => ∃ x no' t2' e2' l' t, v = .str x t ∧ x.cps.toList = tok ∧ l'.map (·.1) = rest ∧ no' = no + nls l - nls l' ∧ n' = a.led w.params no' t2' [] e1 (leftV l') e2') := get_c_e (w, a, no, t2, e1, l, e2, tok, rest) ok hl hlex
end
end
theorem reset9 : True := by w_top off; trivial
section
-- CPush
open PySem PySem.W PyProof.Rows PySem.Spec PySem.Calls
local macro_rules | `(tactic| walk_at "call builtin:list.pop") => `(tactic| (k_here; (with_reducible show wpAny _ _ (call (Value.builtin _) [Value.ref _, Value.int _ _]) _ _ _); k_dflt (refine' pop0 ?F ?N ?U ?z ?_; (case F => k_asm); (case N => k_asm); (case U => k_upd); (case z => omega)); kl_rest))
noncomputable def getp_c_St (w : World) (lx : Addr) (dx : Addr) (pb : Addr) (t1 : Tok) (t2 : Tok) (t3 : Tok) (t4 : Tok) (t5 : Tok) (t6 : Tok) (no : Int) (inst : Value) (v : Value) (back : List Value) (e : Nat) : Prop :=
  ∀ (o1 : @LT.lt Nat _ dx lx) (o2 : @LT.lt Nat _ lx pb) (hb : back.length < 1000), Ctr 550 5500 w (.call (.ref 140) ⟨[.ref lx], []⟩) [] (pbL w.params lx dx pb t1 t2 t3 t4 t5 t6 no inst (v :: back) e)
    (fun _ v' n' => v' = v ∧ n' = pbL w.params lx dx pb t1 t2 t3 t4 t5 t6 no inst back (e + 1))
set_option maxRecDepth 100000 in
set_option maxHeartbeats 8000000 in
theorem getp_c_e : ∀ x : World × Addr × Addr × Addr × Tok × Tok × Tok × Tok × Tok × Tok × Int × Value × Value × List Value × Nat, getp_c_St x.1 x.2.1 x.2.2.1 x.2.2.2.1 x.2.2.2.2.1 x.2.2.2.2.2.1 x.2.2.2.2.2.2.1 x.2.2.2.2.2.2.2.1 x.2.2.2.2.2.2.2.2.1 x.2.2.2.2.2.2.2.2.2.1 x.2.2.2.2.2.2.2.2.2.2.1 x.2.2.2.2.2.2.2.2.2.2.2.1 x.2.2.2.2.2.2.2.2.2.2.2.2.1 x.2.2.2.2.2.2.2.2.2.2.2.2.2.1 x.2.2.2.2.2.2.2.2.2.2.2.2.2.2 := by
  refine byE (ne2 neW (ne2 neI (ne2 neI (ne2 neI (ne2 neI (ne2 neI (ne2 neI (ne2 neI (ne2 neI (ne2 neI (ne2 neI (ne2 neI (ne2 neI (ne2 neI neI)))))))))))))) ?_
  generalize eps _ _ = x9
  generalize x9.1 = w
  generalize x9.2.1 = lx
  generalize x9.2.2.1 = dx
  generalize x9.2.2.2.1 = pb
  generalize x9.2.2.2.2.1 = t1
  generalize x9.2.2.2.2.2.1 = t2
  generalize x9.2.2.2.2.2.2.1 = t3
  generalize x9.2.2.2.2.2.2.2.1 = t4
  generalize x9.2.2.2.2.2.2.2.2.1 = t5
  generalize x9.2.2.2.2.2.2.2.2.2.1 = t6
  generalize x9.2.2.2.2.2.2.2.2.2.2.1 = no
  generalize x9.2.2.2.2.2.2.2.2.2.2.2.1 = inst
  generalize x9.2.2.2.2.2.2.2.2.2.2.2.2.1 = v
  generalize x9.2.2.2.2.2.2.2.2.2.2.2.2.2.1 = back
  generalize x9.2.2.2.2.2.2.2.2.2.2.2.2.2.2 = e
  unfold getp_c_St
  intro o1 o2 hb
  dsimp only [pbL]
  refine Ctr.mkE ?_
  generalize eps _ _ = c9
  dsimp only [CG]
  generalize c9.p = p
  generalize c9.loose = loose
  generalize c9.mean = mean
  generalize c9.mg = mg
  generalize c9.mb = mb
  generalize c9.gd = gd
  generalize c9.cn = cn
  generalize c9.cs = cs
  generalize c9.aa = aa
  generalize c9.ccd = ccd
  generalize c9.cl = cl'
  generalize c9.outer = outer
  generalize c9.A₀ = A₀
  generalize c9.base = base
  generalize c9.h₀ = h₀
  generalize c9.L = L
  generalize c9.m = m
  generalize c9.s = s
  generalize c9.Q = Q
  generalize c9.E = E
  intro B F X N I T hk hret
  k_dflt cell_enter
  rename_i g' L' h1 hL hG F1 N1 B1 X1 T1
  revert g' L' h1
  refine curryE ?_
  refine curryE ?_
  refine byE (ne2 (ne2 inferInstance inferInstance) inferInstance) ?_
  generalize (Prod.fst (Prod.fst (eps _ _))) = g'
  generalize (Prod.snd (Prod.fst (eps _ _))) = L'
  generalize (Prod.snd (eps _ _)) = h1
  intro hL hG F1 N1 B1 X1 T1
  k_unmd
  k_fold
  k_steps
  all_goals exact hret _ _ _ _ ⟨rfl, rfl⟩ (by assumption) (by assumption) (by assumption)
theorem getp_c (w : World) (lx dx pb : Addr) (o1 : @LT.lt Nat _ dx lx) (o2 : @LT.lt Nat _ lx pb) (t1 t2 t3 t4 t5 t6 : Tok) (no : Int) (inst : Value) (v : Value) (back : List Value) (hb : back.length < 1000) (e : Nat) :
  Ctr 550 5500 w (.call (.ref 140) ⟨[.ref lx], []⟩) [] (pbL w.params lx dx pb t1 t2 t3 t4 t5 t6 no inst (v :: back) e)
    (fun _ v' n' => v' = v ∧ n' = pbL w.params lx dx pb t1 t2 t3 t4 t5 t6 no inst back (e + 1)) := getp_c_e (w, lx, dx, pb, t1, t2, t3, t4, t5, t6, no, inst, v, back, e) o1 o2 hb
noncomputable def push_c_St (w : World) (lx : Addr) (dx : Addr) (pb : Addr) (t1 : Tok) (t2 : Tok) (t3 : Tok) (t4 : Tok) (t5 : Tok) (t6 : Tok) (no : Int) (inst : Value) (v : Value) (back : List Value) (e : Nat) : Prop :=
  ∀ (o1 : @LT.lt Nat _ dx lx) (o2 : @LT.lt Nat _ lx pb) (hb : back.length < 1000), Ctr 550 5500 w (.call (.ref 147) ⟨[.ref lx, v], []⟩) [] (pbL w.params lx dx pb t1 t2 t3 t4 t5 t6 no inst back e)
    (fun _ v' n' => v' = .none ∧ n' = pbL w.params lx dx pb t1 t2 t3 t4 t5 t6 no inst (back ++ [v]) (e + 1))
set_option maxRecDepth 100000 in
set_option maxHeartbeats 8000000 in
theorem push_c_e : ∀ x : World × Addr × Addr × Addr × Tok × Tok × Tok × Tok × Tok × Tok × Int × Value × Value × List Value × Nat, push_c_St x.1 x.2.1 x.2.2.1 x.2.2.2.1 x.2.2.2.2.1 x.2.2.2.2.2.1 x.2.2.2.2.2.2.1 x.2.2.2.2.2.2.2.1 x.2.2.2.2.2.2.2.2.1 x.2.2.2.2.2.2.2.2.2.1 x.2.2.2.2.2.2.2.2.2.2.1 x.2.2.2.2.2.2.2.2.2.2.2.1 x.2.2.2.2.2.2.2.2.2.2.2.2.1 x.2.2.2.2.2.2.2.2.2.2.2.2.2.1 x.2.2.2.2.2.2.2.2.2.2.2.2.2.2 := by
  refine byE (ne2 neW (ne2 neI (ne2 neI (ne2 neI (ne2 neI (ne2 neI (ne2 neI (ne2 neI (ne2 neI (ne2 neI (ne2 neI (ne2 neI (ne2 neI (ne2 neI neI)))))))))))))) ?_
  generalize eps _ _ = x9
  generalize x9.1 = w
  generalize x9.2.1 = lx
  generalize x9.2.2.1 = dx
  generalize x9.2.2.2.1 = pb
  generalize x9.2.2.2.2.1 = t1
  generalize x9.2.2.2.2.2.1 = t2
  generalize x9.2.2.2.2.2.2.1 = t3
  generalize x9.2.2.2.2.2.2.2.1 = t4
  generalize x9.2.2.2.2.2.2.2.2.1 = t5
  generalize x9.2.2.2.2.2.2.2.2.2.1 = t6
  generalize x9.2.2.2.2.2.2.2.2.2.2.1 = no
  generalize x9.2.2.2.2.2.2.2.2.2.2.2.1 = inst
  generalize x9.2.2.2.2.2.2.2.2.2.2.2.2.1 = v
  generalize x9.2.2.2.2.2.2.2.2.2.2.2.2.2.1 = back
  generalize x9.2.2.2.2.2.2.2.2.2.2.2.2.2.2 = e
  unfold push_c_St
  intro o1 o2 hb
  dsimp only [pbL]
  refine Ctr.mkE ?_
  generalize eps _ _ = c9
  dsimp only [CG]
  generalize c9.p = p
  generalize c9.loose = loose
  generalize c9.mean = mean
  generalize c9.mg = mg
  generalize c9.mb = mb
  generalize c9.gd = gd
  generalize c9.cn = cn
  generalize c9.cs = cs
  generalize c9.aa = aa
  generalize c9.ccd = ccd
  generalize c9.cl = cl'
  generalize c9.outer = outer
  generalize c9.A₀ = A₀
  generalize c9.base = base
  generalize c9.h₀ = h₀
  generalize c9.L = L
  generalize c9.m = m
  generalize c9.s = s
  generalize c9.Q = Q
  generalize c9.E = E
  intro B F X N I T hk hret
  k_dflt cell_enter
  rename_i g' L' h1 hL hG F1 N1 B1 X1 T1
  revert g' L' h1
  refine curryE ?_
  refine curryE ?_
  refine byE (ne2 (ne2 inferInstance inferInstance) inferInstance) ?_
  generalize (Prod.fst (Prod.fst (eps _ _))) = g'
  generalize (Prod.snd (Prod.fst (eps _ _))) = L'
  generalize (Prod.snd (eps _ _)) = h1
  intro hL hG F1 N1 B1 X1 T1
  k_unmd
  k_fold
  k_steps
  rename News h₀ L _ _ => kN9
  exact hret _ _ _ _ ⟨rfl, by rw [List.push_toArray]⟩ (by assumption) kN9 (by assumption)
theorem push_c (w : World) (lx dx pb : Addr) (o1 : @LT.lt Nat _ dx lx) (o2 : @LT.lt Nat _ lx pb) (t1 t2 t3 t4 t5 t6 : Tok) (no : Int) (inst : Value) (v : Value) (back : List Value) (hb : back.length < 1000) (e : Nat) :
  Ctr 550 5500 w (.call (.ref 147) ⟨[.ref lx, v], []⟩) [] (pbL w.params lx dx pb t1 t2 t3 t4 t5 t6 no inst back e)
    (fun _ v' n' => v' = .none ∧ n' = pbL w.params lx dx pb t1 t2 t3 t4 t5 t6 no inst (back ++ [v]) (e + 1)) := push_c_e (w, lx, dx, pb, t1, t2, t3, t4, t5, t6, no, inst, v, back, e) o1 o2 hb
end
section
open PySem PySem.W PyProof.Rows PySem.Spec PySem.Calls
-- the pushing back: get_token and push_token by their contracts
local macro_rules | `(tactic| walk_at "cU") => `(tactic| (intro v' h' tk' hv' F' N'; subst hv'; (try dsimp only [List.nil_append, List.cons_append] at N')))
local macro_rules | `(tactic| walk_at "call ref") => `(tactic| (k_here; k_dflt ((show wpAny _ _ (call (Value.ref 147) [Value.ref _, _]) _ _ _); refine' Ctr.turn (push_c _ _ _ _ ?o1 ?o2 _ _ _ _ _ _ _ _ _ _ ?hb _) (fun _ _ _ h => h) ?hf ?V ?hd ?hu ?B ?F ?X ?N ?T ?hk ?_; (case N => k_asm); (case hf => (refine List.forall_mem_cons.mpr ⟨?_, List.forall_mem_cons.mpr ⟨?_, List.forall_mem_nil _⟩⟩; (k_mem); (k_mem))); (case V => k_upd); (case o1 => first | assumption | omega); (case o2 => first | assumption | omega); (case hb => first | assumption | decide | exact Nat.le_of_ble_eq_true rfl); (case hd => exact Nat.le_of_ble_eq_true rfl); (case hu => exact Nat.le_of_ble_eq_true rfl); (case B => k_asm); (case F => k_asm); (case X => k_asm); (case T => k_asm); (case hk => first | exact rfl | assumption); k_whole; (try dsimp only)); walk_at "cU"))
local macro_rules | `(tactic| walk_at "call ref") => `(tactic| (k_here; k_dflt ((show wpAny _ _ (call (Value.ref 140) [Value.ref _]) _ _ _); refine' Ctr.turn (getp_c _ _ _ _ ?o1 ?o2 _ _ _ _ _ _ _ _ _ _ ?hb _) (fun _ _ _ h => h) ?hf ?V ?hd ?hu ?B ?F ?X ?N ?T ?hk ?_; (case N => k_asm); (case hf => (refine List.forall_mem_cons.mpr ⟨?_, List.forall_mem_cons.mpr ⟨?_, List.forall_mem_nil _⟩⟩; (k_mem); (k_mem))); (case V => k_upd); (case o1 => first | assumption | omega); (case o2 => first | assumption | omega); (case hb => first | assumption | decide | exact Nat.le_of_ble_eq_true rfl); (case hd => exact Nat.le_of_ble_eq_true rfl); (case hu => exact Nat.le_of_ble_eq_true rfl); (case B => k_asm); (case F => k_asm); (case X => k_asm); (case T => k_asm); (case hk => first | exact rfl | assumption); k_whole; (try dsimp only)); walk_at "cU"))
-- loops and comprehensions over objects stop here
local macro_rules | `(tactic| walk_at "pyIter ref") => `(tactic| (k_here; (with_reducible show wpAny _ _ (pyIter (Value.ref _)) (fun it s₂ => LoopAtV _ _ _ _ _ _ _ _ _ it s₂) _ _); (refine Halt.out ?_)))
local macro_rules | `(tactic| walk_at "pyIter ref") => `(tactic| (k_here; (with_reducible show wpAny _ _ (pyIter (Value.ref _)) (fun it s₂ => CompAt _ _ _ _ _ _ _ _ _ _ _ _ it s₂) _ _); (refine Halt.out ?_)))

theorem reset10 : True := by w_top off; trivial
section
-- CTurn
open PySem PySem.W PyProof.Rows PySem.Spec PySem.Calls
noncomputable def rnd : Nat → List Int → List Int → List Int × List Int
  | 0, xs, ys => (xs, ys)
  | _ + 1, [], ys => ([], ys)
  | _ + 1, [x], ys => ([x], ys)
  | n + 1, x :: y :: r, ys => rnd n (r ++ [x + y]) (ys ++ [x - y])
noncomputable def roundL (xs : List Int) : List Int := (rnd 4 xs []).1 ++ (rnd 4 xs []).2
noncomputable def roundsN : Nat → List Int → List Int
  | 0, xs => xs
  | n + 1, xs => roundsN n (roundL xs)
noncomputable def turnedL (xs : List Int) : List Int := roundsN 3 xs
section
variable (w : World) (co : Addr × Obj) (lx dx pb tl : Addr) (t1 t2 t3 t4 t5 t6 : Tok) (no : Int) (inst : Value)
/-- the first loop: the table goes into the line -/
noncomputable def TJ1 (xs : List Int) (et : Nat) (vs : List Value) (r : List Value) (m : Str → Option Value) (n : List (Addr × Obj)) : Prop :=
  ∃ ws ys zs e, n = co :: (tl, listOf vs.toArray et) :: pbL w.params lx dx pb t1 t2 t3 t4 t5 t6 no inst ws e ∧ IL ws ys ∧ IL r zs ∧ ys ++ zs = xs
/-- between the rounds -/
noncomputable def TJ2 (xs : List Int) (i : Nat) (_m : Str → Option Value) (n : List (Addr × Obj)) : Prop :=
  ∃ ws ys e, n = co :: pbL w.params lx dx pb t1 t2 t3 t4 t5 t6 no inst ws e ∧ IL ws ys ∧ ys.length = 8 ∧ roundsN (3 - i) ys = turnedL xs
/-- within a round: the pairs are taken off -/
noncomputable def TJ3 (ci : Addr × Obj) (lx' dx' pb' : Addr) (u1 u2 u3 u4 u5 u6 : Tok) (ys0 : List Int) (i : Nat) (m : Str → Option Value) (n : List (Addr × Obj)) : Prop :=
  ∃ ws ys us zs e e', n = (pb', listOf us.toArray e') :: (lx', instObj 150 dx') :: (dx', lexE w.params u1 u2 u3 u4 u5 u6 1 .none pb') :: ci :: co :: pbL w.params lx dx pb t1 t2 t3 t4 t5 t6 no inst ws e ∧ IL ws ys ∧ IL us zs ∧ ys.length = 8 - i ∧ zs.length = i ∧ rnd (4 - i) ys zs = rnd 4 ys0 [] ∧ m (Str.ofString "late") = some (.ref lx')
/-- within a round: the differences go behind -/
noncomputable def TJ4 (ci : Addr × Obj) (lx' dx' pb' : Addr) (u1 u2 u3 u4 u5 u6 : Tok) (ys0 : List Int) (i : Nat) (m : Str → Option Value) (n : List (Addr × Obj)) : Prop :=
  ∃ ws ys us zs e e', n = (pb', listOf us.toArray e') :: (lx', instObj 150 dx') :: (dx', lexE w.params u1 u2 u3 u4 u5 u6 1 .none pb') :: ci :: co :: pbL w.params lx dx pb t1 t2 t3 t4 t5 t6 no inst ws e ∧ IL ws ys ∧ IL us zs ∧ ys.length = 4 + i ∧ zs.length = 4 - i ∧ ys ++ zs = roundL ys0 ∧ m (Str.ofString "late") = some (.ref lx')
/-- at the end the line is read off -/
noncomputable def TJ5 (zs0 : List Int) (i : Nat) (ys : List Value) (n : List (Addr × Obj)) : Prop :=
  ∃ ws a b e, n = co :: pbL w.params lx dx pb t1 t2 t3 t4 t5 t6 no inst ws e ∧ IL ys a ∧ IL ws b ∧ a ++ b = zs0 ∧ b.length = 8 - i
end
theorem ot1 {j : Nat} (h : j < 4) : 4 - j = 4 - (j + 1) + 1 := by omega
theorem ot2 {j : Nat} (h : j < 3) : 3 - j = 3 - (j + 1) + 1 := by omega
theorem ot3 {r j : Nat} (h : r + 2 = 8 - j) : r + (0 + 1) = 8 - (j + 1) := by omega
theorem ot4 {z j : Nat} (h : z + 1 = 4 - j) : z = 4 - (j + 1) := by omega
theorem ot5 {z j : Nat} (h : z + 1 = 8 - j) : z = 8 - (j + 1) := by omega
theorem ot6 {a r j : Nat} (h : r + 2 = 8 - j) (e : a = r) : a + 1 < 1000 := by omega
theorem ot7 {a r j : Nat} (h : r + 2 = 8 - j) (e : a = r) : a < 1000 := by omega
theorem ot8 {a z j : Nat} (h : z + 1 = 4 - j) (e : a = z) : a < 1000 := by omega
theorem ot9 {a z j : Nat} (h : z + 1 = 8 - j) (e : a = z) : a < 1000 := by omega
theorem otA {a z j : Nat} (hj : j < 4) (h : z = j) (e : a = z) : a < 1000 := by omega
theorem otB {a z j : Nat} (hj : j < 4) (h : z = 4 + j) (e : a = z) : a < 1000 := by omega
theorem otC {z j : Nat} (h : z = j) : z + (0 + 1) = j + 1 := by omega
theorem otD {z j : Nat} (h : z = 4 + j) : z + (0 + 1) = 4 + (j + 1) := by omega
theorem otE {j : Nat} (hj : j < 4) (h : 0 = 8 - j) : False := by omega
theorem otF {j : Nat} (hj : j < 4) (h : 1 = 8 - j) : False := by omega
theorem otG {j : Nat} (hj : j < 4) (h : 0 = 4 - j) : False := by omega
theorem otH {j : Nat} (hj : j < 0 + 8) (h : 0 = 8 - j) : False := by omega
noncomputable def turned_c_St (w : World) (lx : Addr) (dx : Addr) (pb : Addr) (tl : Addr) (t1 : Tok) (t2 : Tok) (t3 : Tok) (t4 : Tok) (t5 : Tok) (t6 : Tok) (no : Int) (inst : Value) (e : Nat) (et : Nat) (vs : List Value) (xs : List Int) : Prop :=
  ∀ (o1 : @LT.lt Nat _ dx lx) (o2 : @LT.lt Nat _ lx pb) (o3 : @Ne Nat tl pb ∧ @Ne Nat tl lx ∧ @Ne Nat tl dx) (hv : IL vs xs) (hx : xs.length = 8), Ctr 350 3000 w (.call (.ref 195) ⟨[.ref lx, .ref tl], []⟩) [] ((tl, listOf vs.toArray et) :: pbL w.params lx dx pb t1 t2 t3 t4 t5 t6 no inst [] e)
    (fun sz v' n' => ∃ rl vs' e' er, v' = .ref rl ∧ IL vs' (turnedL xs) ∧ n' = (rl, listOf vs'.toArray er) :: pbL w.params lx dx pb t1 t2 t3 t4 t5 t6 no inst [] e' ∧ ∀ o, sz.get? rl = some o → rl = tl)
set_option maxRecDepth 100000 in
set_option maxHeartbeats 0 in
theorem turned_c_e : ∀ x : World × Addr × Addr × Addr × Addr × Tok × Tok × Tok × Tok × Tok × Tok × Int × Value × Nat × Nat × List Value × List Int, turned_c_St x.1 x.2.1 x.2.2.1 x.2.2.2.1 x.2.2.2.2.1 x.2.2.2.2.2.1 x.2.2.2.2.2.2.1 x.2.2.2.2.2.2.2.1 x.2.2.2.2.2.2.2.2.1 x.2.2.2.2.2.2.2.2.2.1 x.2.2.2.2.2.2.2.2.2.2.1 x.2.2.2.2.2.2.2.2.2.2.2.1 x.2.2.2.2.2.2.2.2.2.2.2.2.1 x.2.2.2.2.2.2.2.2.2.2.2.2.2.1 x.2.2.2.2.2.2.2.2.2.2.2.2.2.2.1 x.2.2.2.2.2.2.2.2.2.2.2.2.2.2.2.1 x.2.2.2.2.2.2.2.2.2.2.2.2.2.2.2.2 := by
  refine byE (ne2 neW (ne2 neI (ne2 neI (ne2 neI (ne2 neI (ne2 neI (ne2 neI (ne2 neI (ne2 neI (ne2 neI (ne2 neI (ne2 neI (ne2 neI (ne2 neI (ne2 neI (ne2 neI neI)))))))))))))))) ?_
  generalize eps _ _ = x9
  generalize x9.1 = w
  generalize x9.2.1 = lx
  generalize x9.2.2.1 = dx
  generalize x9.2.2.2.1 = pb
  generalize x9.2.2.2.2.1 = tl
  generalize x9.2.2.2.2.2.1 = t1
  generalize x9.2.2.2.2.2.2.1 = t2
  generalize x9.2.2.2.2.2.2.2.1 = t3
  generalize x9.2.2.2.2.2.2.2.2.1 = t4
  generalize x9.2.2.2.2.2.2.2.2.2.1 = t5
  generalize x9.2.2.2.2.2.2.2.2.2.2.1 = t6
  generalize x9.2.2.2.2.2.2.2.2.2.2.2.1 = no
  generalize x9.2.2.2.2.2.2.2.2.2.2.2.2.1 = inst
  generalize x9.2.2.2.2.2.2.2.2.2.2.2.2.2.1 = e
  generalize x9.2.2.2.2.2.2.2.2.2.2.2.2.2.2.1 = et
  generalize x9.2.2.2.2.2.2.2.2.2.2.2.2.2.2.2.1 = vs
  generalize x9.2.2.2.2.2.2.2.2.2.2.2.2.2.2.2.2 = xs
  unfold turned_c_St
  intro o1 o2 o3 hv hx
  dsimp only [pbL]
  refine Ctr.mkE ?_
  generalize eps _ _ = c9
  dsimp only [CG]
  generalize c9.p = p
  generalize c9.loose = loose
  generalize c9.mean = mean
  generalize c9.mg = mg
  generalize c9.mb = mb
  generalize c9.gd = gd
  generalize c9.cn = cn
  generalize c9.cs = cs
  generalize c9.aa = aa
  generalize c9.ccd = ccd
  generalize c9.cl = cl'
  generalize c9.outer = outer
  generalize c9.A₀ = A₀
  generalize c9.base = base
  generalize c9.h₀ = h₀
  generalize c9.L = L
  generalize c9.m = m
  generalize c9.s = s
  generalize c9.Q = Q
  generalize c9.E = E
  intro B F X N I T hk hret
  k_dflt cell_enter
  rename_i g' L' h1 tk1 c1 hL hG B1 X1 T1 d1 d2 cell1 N1
  revert g' L' h1 tk1 d2
  refine curryE ?_
  refine curryE ?_
  refine curryE ?_
  refine byE (ne2 (ne2 (ne2 inferInstance inferInstance) inferInstance) inferInstance) ?_
  generalize (Prod.fst (Prod.fst (Prod.fst (eps _ _)))) = g'
  generalize (Prod.snd (Prod.fst (Prod.fst (eps _ _)))) = L'
  generalize (Prod.snd (Prod.fst (eps _ _))) = h1
  generalize (Prod.snd (eps _ _)) = tk1
  intro c1 hL hG B1 X1 T1 d1
  refine byE inferInstance ?_
  generalize (eps _ _) = d2
  intro cell1 N1
  k_unmd
  k_fold
  k_steps
  unfold Halt
  rename Fr g' L' _ _ => F1
  with_unfolding_all refine iter_listUnr (lo := listOf vs.toArray et) (vs := vs) (by rfl) F1 N1 (by k_mem) (by rfl) (by rfl) ?_
  intro I1 l1
  k_lt l1
  refine list_by (TJ1 w (L' + 1, d2) lx dx pb tl t1 t2 t3 t4 t5 t6 no inst xs et vs) ?_ ?_ _ _ _ ?_
  · rintro v r m' news h tk it ⟨ws, ys, zs, e1, rfl, hws, hzs, hxs⟩ F2 N2 hit
    dsimp only [pbL] at N2
    have hb : ws.length < 1000 := by
      rw [hws.length]
      have := congrArg List.length hxs
      simp at this
      omega
    k_steps
    rename Fr g' L' _ _ => kF9
    rename News g' L' _ _ => kN9
    (try rw [List.push_toArray] at kN9)
    obtain ⟨z, zs', rfl⟩ : ∃ z zs', zs = z :: zs' := by cases hzs with | cons _ => exact ⟨_, _, rfl⟩
    obtain ⟨tz, ws', hq, hzs'⟩ := hzs.uncons
    obtain ⟨rfl, rfl⟩ := List.cons.inj hq
    exact TurnEnd.next kF9 kN9 ((L' + 1, d2) :: (tl, listOf vs.toArray et) :: pbL w.params lx dx pb t1 t2 t3 t4 t5 t6 no inst (ws ++ [.int z tz]) (e1 + 1)) ⟨.tail _ (.head _), ws ++ [.int z tz], ys ++ [z], zs', e1 + 1, rfl, hws.snoc, hzs', by simpa using hxs⟩ (by k_mem) (by dsimp only [pbL]; k_subL) (by dsimp only [pbL]; k_offL)
  · rintro m' news h tk ⟨ws, ys, zs, e1, rfl, hws, hzs, hxs⟩ F2 N2
    cases hzs
    rw [List.append_nil] at hxs
    subst hxs
    clear N1 F1
    dsimp only [pbL] at N2
    k_steps
    unfold Halt
    rename Fr g' L' _ _ => F3
    rename News g' L' _ _ => N3
    rename IsRange _ _ _ _ _ _ _ _ => R3
    have N3 : News g' L' _ ((L' + 1, d2) :: pbL w.params lx dx pb t1 t2 t3 t4 t5 t6 no inst ws e1) := fun p hp => N3 p (SubL.mem (by dsimp only [pbL]; k_subL) p hp)
    with_unfolding_all refine iter_rangeUnr (n := 3) (by rfl) R3 (by decide) (by decide) F3 N3 ?_
    intro I2 l2
    dsimp only [pbL] at l2
    k_lt l2
    refine range_by (TJ2 w (L' + 1, d2) lx dx pb t1 t2 t3 t4 t5 t6 no inst ys) ?_ ?_ 3 0 _ _ (by omega) ⟨ws, ys, e1, rfl, hws, hx, rfl⟩
    · rintro i m2 news t4' h4 tk4 it hi ⟨ws2, ys2, e2, rfl, hws2, hys2, hr⟩ F4 N4 hit
      dsimp only [pbL] at N4
      k_steps
      unfold Halt
      rename_i x' d' _h' _F' _N' l3 l4 _g' _L' _h' _B' _X' _T' _tk _h' _h' _h' l' _h' l5 _h' _F2 _N2 _tk _Tc' _kX _h' _F' _N3 h5 tk5 ta tb tc R5 F5 N5 _
      obtain ⟨u1, u2, u3, u4, u5, u6, N5⟩ : ∃ u1 u2 u3 u4 u5 u6, News g' L' h5 ((l', listOf #[] 0) :: (x', instObj 150 d') :: (d', lexE w.params u1 u2 u3 u4 u5 u6 1 .none l') :: (I2, it) :: (L' + 1, d2) :: pbL w.params lx dx pb t1 t2 t3 t4 t5 t6 no inst ws2 e2) := ⟨_, _, _, _, _, _, fun p hp => N5 p (SubL.mem (by dsimp only [pbL]; k_subL) p hp)⟩
      rename_i N5'
      clear N5'
      clear _F' _N' _N3
      with_unfolding_all refine iter_rangeUnr (n := 4) (by rfl) R5 (by decide) (by decide) F5 N5 ?_
      intro I3 l6
      dsimp only [pbL] at l6
      k_lt l6
      refine range_by (TJ3 w (L' + 1, d2) lx dx pb t1 t2 t3 t4 t5 t6 no inst (I2, it) x' d' l' u1 u2 u3 u4 u5 u6 ys2) ?_ ?_ 4 0 _ _ (by omega) ⟨ws2, ys2, [], [], e2, 0, rfl, hws2, .nil, hys2, rfl, rfl, rfl⟩
      · rintro j m3 news t6' h6 tk6 it3 hj ⟨ws3, ys3, us3, zs3, e3, e3', rfl, hws3, hus3, hys3, hzs3, hr3, hm3⟩ F6 N6 hit3
        obtain ⟨y1, y2, yr, rfl⟩ : ∃ y1 y2 yr, ys3 = y1 :: y2 :: yr := by
          match ys3, hys3 with
          | [], h => simp at h; (first | exact ot1 (by assumption) | exact ot2 (by assumption) | exact ot3 (by assumption) | exact ot4 (by assumption) | exact ot5 (by assumption) | exact ot6 (by assumption) (by assumption) | exact ot7 (by assumption) (by assumption) | exact ot8 (by assumption) (by assumption) | exact ot9 (by assumption) (by assumption) | exact otC (by assumption) | exact otD (by assumption) | exact otE (by assumption) (by assumption) | exact otF (by assumption) (by assumption) | exact otG (by assumption) (by assumption) | exact otH (by assumption) (by assumption) | exact otA (by assumption) (by assumption) (by assumption) | exact otB (by assumption) (by assumption) (by assumption) | omega)
          | [_], h => simp at h; (first | exact ot1 (by assumption) | exact ot2 (by assumption) | exact ot3 (by assumption) | exact ot4 (by assumption) | exact ot5 (by assumption) | exact ot6 (by assumption) (by assumption) | exact ot7 (by assumption) (by assumption) | exact ot8 (by assumption) (by assumption) | exact ot9 (by assumption) (by assumption) | exact otC (by assumption) | exact otD (by assumption) | exact otE (by assumption) (by assumption) | exact otF (by assumption) (by assumption) | exact otG (by assumption) (by assumption) | exact otH (by assumption) (by assumption) | exact otA (by assumption) (by assumption) (by assumption) | exact otB (by assumption) (by assumption) (by assumption) | omega)
          | y1 :: y2 :: yr, _ => exact ⟨_, _, _, rfl⟩
        obtain ⟨ty1, ws4, rfl, hws4⟩ := hws3.uncons
        obtain ⟨ty2, ws5, rfl, hws5⟩ := hws4.uncons
        have hyl : yr.length + 2 = 8 - j := by simpa using hys3
        have hwl := hws5.length
        have hul := hus3.length
        have hb1 : (Value.int y2 ty2 :: ws5).length < 1000 := by simp only [List.length_cons]; (first | exact ot1 (by assumption) | exact ot2 (by assumption) | exact ot3 (by assumption) | exact ot4 (by assumption) | exact ot5 (by assumption) | exact ot6 (by assumption) (by assumption) | exact ot7 (by assumption) (by assumption) | exact ot8 (by assumption) (by assumption) | exact ot9 (by assumption) (by assumption) | exact otC (by assumption) | exact otD (by assumption) | exact otE (by assumption) (by assumption) | exact otF (by assumption) (by assumption) | exact otG (by assumption) (by assumption) | exact otH (by assumption) (by assumption) | exact otA (by assumption) (by assumption) (by assumption) | exact otB (by assumption) (by assumption) (by assumption) | omega)
        have hb2 : ws5.length < 1000 := by (first | exact ot1 (by assumption) | exact ot2 (by assumption) | exact ot3 (by assumption) | exact ot4 (by assumption) | exact ot5 (by assumption) | exact ot6 (by assumption) (by assumption) | exact ot7 (by assumption) (by assumption) | exact ot8 (by assumption) (by assumption) | exact ot9 (by assumption) (by assumption) | exact otC (by assumption) | exact otD (by assumption) | exact otE (by assumption) (by assumption) | exact otF (by assumption) (by assumption) | exact otG (by assumption) (by assumption) | exact otH (by assumption) (by assumption) | exact otA (by assumption) (by assumption) (by assumption) | exact otB (by assumption) (by assumption) (by assumption) | omega)
        have hb3 : us3.length < 1000 := by (first | exact ot1 (by assumption) | exact ot2 (by assumption) | exact ot3 (by assumption) | exact ot4 (by assumption) | exact ot5 (by assumption) | exact ot6 (by assumption) (by assumption) | exact ot7 (by assumption) (by assumption) | exact ot8 (by assumption) (by assumption) | exact ot9 (by assumption) (by assumption) | exact otC (by assumption) | exact otD (by assumption) | exact otE (by assumption) (by assumption) | exact otF (by assumption) (by assumption) | exact otG (by assumption) (by assumption) | exact otH (by assumption) (by assumption) | exact otA (by assumption) (by assumption) (by assumption) | exact otB (by assumption) (by assumption) (by assumption) | omega)
        dsimp only [pbL] at N6
        replace F6 := frX [(Str.ofString "late", .ref x')] (by intro p hp; rw [List.mem_singleton.mp hp]; exact hm3) F6
        dsimp only [kstB] at F6
        k_steps
        rename Fr g' L' _ _ => kF9
        rename News g' L' _ _ => kN9
        refine' TurnEnd.next kF9 kN9 _ ⟨_, _, _, _, _, _, rfl, hws5.snoc, hus3.snoc, ?ta1, ?ta2, ?ta3, rfl⟩ (by k_mem) ?sub1 ?off1
        case sub1 => (dsimp only [pbL]; k_subL)
        case off1 => (dsimp only [pbL]; k_offL)
        case ta1 => (simp only [List.length_append, List.length_cons, List.length_nil]; (first | exact ot1 (by assumption) | exact ot2 (by assumption) | exact ot3 (by assumption) | exact ot4 (by assumption) | exact ot5 (by assumption) | exact ot6 (by assumption) (by assumption) | exact ot7 (by assumption) (by assumption) | exact ot8 (by assumption) (by assumption) | exact ot9 (by assumption) (by assumption) | exact otC (by assumption) | exact otD (by assumption) | exact otE (by assumption) (by assumption) | exact otF (by assumption) (by assumption) | exact otG (by assumption) (by assumption) | exact otH (by assumption) (by assumption) | exact otA (by assumption) (by assumption) (by assumption) | exact otB (by assumption) (by assumption) (by assumption) | omega))
        case ta2 => (simp only [List.length_append, List.length_cons, List.length_nil]; (first | exact ot1 (by assumption) | exact ot2 (by assumption) | exact ot3 (by assumption) | exact ot4 (by assumption) | exact ot5 (by assumption) | exact ot6 (by assumption) (by assumption) | exact ot7 (by assumption) (by assumption) | exact ot8 (by assumption) (by assumption) | exact ot9 (by assumption) (by assumption) | exact otC (by assumption) | exact otD (by assumption) | exact otE (by assumption) (by assumption) | exact otF (by assumption) (by assumption) | exact otG (by assumption) (by assumption) | exact otH (by assumption) (by assumption) | exact otA (by assumption) (by assumption) (by assumption) | exact otB (by assumption) (by assumption) (by assumption) | omega))
        case ta3 =>
          have hq : 4 - j = (4 - (j + 1)) + 1 := by (first | exact ot1 (by assumption) | exact ot2 (by assumption) | exact ot3 (by assumption) | exact ot4 (by assumption) | exact ot5 (by assumption) | exact ot6 (by assumption) (by assumption) | exact ot7 (by assumption) (by assumption) | exact ot8 (by assumption) (by assumption) | exact ot9 (by assumption) (by assumption) | exact otC (by assumption) | exact otD (by assumption) | exact otE (by assumption) (by assumption) | exact otF (by assumption) (by assumption) | exact otG (by assumption) (by assumption) | exact otH (by assumption) (by assumption) | exact otA (by assumption) (by assumption) (by assumption) | exact otB (by assumption) (by assumption) (by assumption) | omega)
          rw [hq] at hr3
          exact hr3
      · rintro m3 news h6 tk6 ⟨ws3, ys3, us3, zs3, e3, e3', rfl, hws3, hus3, hys3, hzs3, hr3, hm3⟩ F6 N6
        have hrd : ys3 ++ zs3 = roundL ys2 := by
          have hq : rnd 4 ys2 [] = (ys3, zs3) := hr3.symm
          show _ = (rnd 4 ys2 []).1 ++ (rnd 4 ys2 []).2
          rw [hq]
        clear N5 F5 R5
        dsimp only [pbL] at N6
        k_steps
        unfold Halt
        rename IsRange _ _ _ _ _ _ _ _ => R7
        rename Fr g' L' _ _ => F7
        rename News g' L' _ _ => N7
        with_unfolding_all refine iter_rangeUnr (n := 4) (by rfl) R7 (by decide) (by decide) F7 (news := (l', listOf us3.toArray e3') :: (x', instObj 150 d') :: (d', lexE w.params u1 u2 u3 u4 u5 u6 1 .none l') :: (I2, it) :: (L' + 1, d2) :: pbL w.params lx dx pb t1 t2 t3 t4 t5 t6 no inst ws3 e3) (fun p hp => N7 p (SubL.mem (by dsimp only [pbL]; k_subL) p hp)) ?_
        intro I4 l7
        dsimp only [pbL] at l7
        k_lt l7
        refine range_by (TJ4 w (L' + 1, d2) lx dx pb t1 t2 t3 t4 t5 t6 no inst (I2, it) x' d' l' u1 u2 u3 u4 u5 u6 ys2) ?_ ?_ 4 0 _ _ (by omega) ⟨ws3, ys3, us3, zs3, e3, e3', rfl, hws3, hus3, hys3, hzs3, hrd, hm3⟩
        · rintro j m4 news t8 h8 tk8 it4 hj ⟨ws6, ys6, us6, zs6, e6, e6', rfl, hws6, hus6, hys6, hzs6, hr6, hm6⟩ F8 N8 hit4
          obtain ⟨z1, zr, rfl⟩ : ∃ z1 zr, zs6 = z1 :: zr := by
            match zs6, hzs6 with
            | [], h => simp at h; (first | exact ot1 (by assumption) | exact ot2 (by assumption) | exact ot3 (by assumption) | exact ot4 (by assumption) | exact ot5 (by assumption) | exact ot6 (by assumption) (by assumption) | exact ot7 (by assumption) (by assumption) | exact ot8 (by assumption) (by assumption) | exact ot9 (by assumption) (by assumption) | exact otC (by assumption) | exact otD (by assumption) | exact otE (by assumption) (by assumption) | exact otF (by assumption) (by assumption) | exact otG (by assumption) (by assumption) | exact otH (by assumption) (by assumption) | exact otA (by assumption) (by assumption) (by assumption) | exact otB (by assumption) (by assumption) (by assumption) | omega)
            | z1 :: zr, _ => exact ⟨_, _, rfl⟩
          obtain ⟨tz1, us7, rfl, hus7⟩ := hus6.uncons
          have hzl : zr.length + 1 = 4 - j := by simpa using hzs6
          have hwl := hws6.length
          have hul := hus7.length
          have hb1 : us7.length < 1000 := by (first | exact ot1 (by assumption) | exact ot2 (by assumption) | exact ot3 (by assumption) | exact ot4 (by assumption) | exact ot5 (by assumption) | exact ot6 (by assumption) (by assumption) | exact ot7 (by assumption) (by assumption) | exact ot8 (by assumption) (by assumption) | exact ot9 (by assumption) (by assumption) | exact otC (by assumption) | exact otD (by assumption) | exact otE (by assumption) (by assumption) | exact otF (by assumption) (by assumption) | exact otG (by assumption) (by assumption) | exact otH (by assumption) (by assumption) | exact otA (by assumption) (by assumption) (by assumption) | exact otB (by assumption) (by assumption) (by assumption) | omega)
          have hb2 : ws6.length < 1000 := by (first | exact ot1 (by assumption) | exact ot2 (by assumption) | exact ot3 (by assumption) | exact ot4 (by assumption) | exact ot5 (by assumption) | exact ot6 (by assumption) (by assumption) | exact ot7 (by assumption) (by assumption) | exact ot8 (by assumption) (by assumption) | exact ot9 (by assumption) (by assumption) | exact otC (by assumption) | exact otD (by assumption) | exact otE (by assumption) (by assumption) | exact otF (by assumption) (by assumption) | exact otG (by assumption) (by assumption) | exact otH (by assumption) (by assumption) | exact otA (by assumption) (by assumption) (by assumption) | exact otB (by assumption) (by assumption) (by assumption) | omega)
          dsimp only [pbL] at N8
          replace F8 := frX [(Str.ofString "late", .ref x')] (by intro p hp; rw [List.mem_singleton.mp hp]; exact hm6) F8
          dsimp only [kstB] at F8
          k_steps
          rename Fr g' L' _ _ => kF9
          rename News g' L' _ _ => kN9
          refine' TurnEnd.next kF9 kN9 _ ⟨_, _, _, _, _, _, rfl, hws6.snoc, hus7, ?tb1, ?tb2, ?tb3, rfl⟩ (by k_mem) ?sub2 ?off2
          case sub2 => (dsimp only [pbL]; k_subL)
          case off2 => (dsimp only [pbL]; k_offL)
          case tb1 => (simp only [List.length_append, List.length_cons, List.length_nil]; (first | exact ot1 (by assumption) | exact ot2 (by assumption) | exact ot3 (by assumption) | exact ot4 (by assumption) | exact ot5 (by assumption) | exact ot6 (by assumption) (by assumption) | exact ot7 (by assumption) (by assumption) | exact ot8 (by assumption) (by assumption) | exact ot9 (by assumption) (by assumption) | exact otC (by assumption) | exact otD (by assumption) | exact otE (by assumption) (by assumption) | exact otF (by assumption) (by assumption) | exact otG (by assumption) (by assumption) | exact otH (by assumption) (by assumption) | exact otA (by assumption) (by assumption) (by assumption) | exact otB (by assumption) (by assumption) (by assumption) | omega))
          case tb2 => (first | exact ot1 (by assumption) | exact ot2 (by assumption) | exact ot3 (by assumption) | exact ot4 (by assumption) | exact ot5 (by assumption) | exact ot6 (by assumption) (by assumption) | exact ot7 (by assumption) (by assumption) | exact ot8 (by assumption) (by assumption) | exact ot9 (by assumption) (by assumption) | exact otC (by assumption) | exact otD (by assumption) | exact otE (by assumption) (by assumption) | exact otF (by assumption) (by assumption) | exact otG (by assumption) (by assumption) | exact otH (by assumption) (by assumption) | exact otA (by assumption) (by assumption) (by assumption) | exact otB (by assumption) (by assumption) (by assumption) | omega)
          case tb3 => (rw [← hr6]; simp)
        · rintro m4 news h8 tk8 ⟨ws6, ys6, us6, zs6, e6, e6', rfl, hws6, hus6, hys6, hzs6, hr6, hm6⟩ F8 N8
          dsimp only [pbL] at N8
          k_steps
          have hz0 : zs6 = [] := List.eq_nil_of_length_eq_zero hzs6
          subst hz0
          rw [List.append_nil] at hr6
          subst hr6
          refine' TurnEnd.next F8 N8 _ ⟨_, _, _, rfl, hws6, ?tc1, ?tc2⟩ (by k_mem) ?sub3 ?off3
          case sub3 => (dsimp only [pbL]; k_subL)
          case off3 => (dsimp only [pbL]; k_offL)
          case tc1 => (first | exact ot1 (by assumption) | exact ot2 (by assumption) | exact ot3 (by assumption) | exact ot4 (by assumption) | exact ot5 (by assumption) | exact ot6 (by assumption) (by assumption) | exact ot7 (by assumption) (by assumption) | exact ot8 (by assumption) (by assumption) | exact ot9 (by assumption) (by assumption) | exact otC (by assumption) | exact otD (by assumption) | exact otE (by assumption) (by assumption) | exact otF (by assumption) (by assumption) | exact otG (by assumption) (by assumption) | exact otH (by assumption) (by assumption) | exact otA (by assumption) (by assumption) (by assumption) | exact otB (by assumption) (by assumption) (by assumption) | omega)
          case tc2 =>
            have hq : 3 - i = (3 - (i + 1)) + 1 := by (first | exact ot1 (by assumption) | exact ot2 (by assumption) | exact ot3 (by assumption) | exact ot4 (by assumption) | exact ot5 (by assumption) | exact ot6 (by assumption) (by assumption) | exact ot7 (by assumption) (by assumption) | exact ot8 (by assumption) (by assumption) | exact ot9 (by assumption) (by assumption) | exact otC (by assumption) | exact otD (by assumption) | exact otE (by assumption) (by assumption) | exact otF (by assumption) (by assumption) | exact otG (by assumption) (by assumption) | exact otH (by assumption) (by assumption) | exact otA (by assumption) (by assumption) (by assumption) | exact otB (by assumption) (by assumption) (by assumption) | omega)
            rw [hq] at hr
            exact hr
    · rintro m4 news h8 tk8 ⟨ws6, ys6, e6, rfl, hws6, hys6, hr6⟩ F8 N8
      dsimp only [pbL] at N8
      have hr7 : ys6 = turnedL ys := hr6
      clear hr6
      k_steps
      unfold Halt
      rename IsRange _ _ _ _ _ _ _ _ => R9
      rename Fr g' L' _ _ => F9
      rename News g' L' _ _ => N9
      refine compAt_range (news := (L' + 1, d2) :: pbL w.params lx dx pb t1 t2 t3 t4 t5 t6 no inst ws6 e6) 8 (by rfl) R9 (by decide) (by decide) F9 (fun p hp => N9 p (SubL.mem (by dsimp only [pbL]; k_subL) p hp)) (by decide) ?_
      intro g10
      refine turns_inv (TJ5 w (L' + 1, d2) lx dx pb t1 t2 t3 t4 t5 t6 no inst (turnedL ys)) ?_ ?_ 8 0 [] _ rfl ⟨ws6, [], ys6, e6, rfl, .nil, hws6, by simpa using hr7, hys6⟩
      · rintro j v I' oI' C' oC' D' m' ys' news h' tk' E' hj ⟨_, u, rfl⟩ ⟨ws7, a7, b7, e7, rfl, ha7, hb7, hab, hbl⟩ hC' hx' F' N' off' ne'
        obtain ⟨z1, zr, rfl⟩ : ∃ z1 zr, b7 = z1 :: zr := by
          match b7, hbl with
          | [], h => simp at h; (first | exact ot1 (by assumption) | exact ot2 (by assumption) | exact ot3 (by assumption) | exact ot4 (by assumption) | exact ot5 (by assumption) | exact ot6 (by assumption) (by assumption) | exact ot7 (by assumption) (by assumption) | exact ot8 (by assumption) (by assumption) | exact ot9 (by assumption) (by assumption) | exact otC (by assumption) | exact otD (by assumption) | exact otE (by assumption) (by assumption) | exact otF (by assumption) (by assumption) | exact otG (by assumption) (by assumption) | exact otH (by assumption) (by assumption) | exact otA (by assumption) (by assumption) (by assumption) | exact otB (by assumption) (by assumption) (by assumption) | omega)
          | z1 :: zr, _ => exact ⟨_, _, rfl⟩
        obtain ⟨tz1, ws8, rfl, hws8⟩ := hb7.uncons
        have hzl : zr.length + 1 = 8 - j := by simpa using hbl
        have hwl := hws8.length
        have hb1 : ws8.length < 1000 := by (first | exact ot1 (by assumption) | exact ot2 (by assumption) | exact ot3 (by assumption) | exact ot4 (by assumption) | exact ot5 (by assumption) | exact ot6 (by assumption) (by assumption) | exact ot7 (by assumption) (by assumption) | exact ot8 (by assumption) (by assumption) | exact ot9 (by assumption) (by assumption) | exact otC (by assumption) | exact otD (by assumption) | exact otE (by assumption) (by assumption) | exact otF (by assumption) (by assumption) | exact otG (by assumption) (by assumption) | exact otH (by assumption) (by assumption) | exact otA (by assumption) (by assumption) (by assumption) | exact otB (by assumption) (by assumption) (by assumption) | omega)
        dsimp only [pbL] at N' off'
        k_steps
        exact ⟨ws8, a7 ++ [z1], zr, e7 + 1, rfl, ha7.snoc, hws8, by simpa using hab, by (first | exact ot1 (by assumption) | exact ot2 (by assumption) | exact ot3 (by assumption) | exact ot4 (by assumption) | exact ot5 (by assumption) | exact ot6 (by assumption) (by assumption) | exact ot7 (by assumption) (by assumption) | exact ot8 (by assumption) (by assumption) | exact ot9 (by assumption) (by assumption) | exact otC (by assumption) | exact otD (by assumption) | exact otE (by assumption) (by assumption) | exact otF (by assumption) (by assumption) | exact otG (by assumption) (by assumption) | exact otH (by assumption) (by assumption) | exact otA (by assumption) (by assumption) (by assumption) | exact otB (by assumption) (by assumption) (by assumption) | omega)⟩
      · rintro ys' news ⟨ws7, a7, b7, e7, rfl, ha7, hb7, hab, hbl⟩
        have hz0 : b7 = [] := List.eq_nil_of_length_eq_zero hbl
        subst hz0
        cases hb7
        rw [List.append_nil] at hab
        subst hab
        dsimp only [pbL]
        k_steps
        rename News g' L' _ _ => N10
        rename (_ ∧ pb ≠ _ ∧ _) => o10
        refine hret _ _ _ _ ⟨_, ys', e7, ys'.length, rfl, ha7, rfl, fun o ho => ?_⟩ (by assumption) (fun p hp => (by assumption : News h₀ L _ _) p (SubL.mem ?sub4 p hp)) (by assumption)
        case sub4 => ((try dsimp only [pbL]); k_subL)
        refine Classical.byContradiction fun hne => ?_
        have hg := hL _ _ ho (fun q hq => by
          rcases List.mem_cons.mp hq with rfl | hq
          · exact fun h => hne h.symm
          rcases List.mem_cons.mp hq with rfl | hq
          · exact o10.2.1
          rcases List.mem_cons.mp hq with rfl | hq
          · exact o10.2.2.1
          rcases List.mem_cons.mp hq with rfl | hq
          · exact o10.2.2.2
          cases hq)
        rw [(N10 _ (.head _)).2.2] at hg
        cases hg
  · exact ⟨[], [], xs, e, rfl, .nil, hv, rfl⟩
theorem turned_c (w : World) (lx dx pb tl : Addr) (o1 : @LT.lt Nat _ dx lx) (o2 : @LT.lt Nat _ lx pb) (o3 : @Ne Nat tl pb ∧ @Ne Nat tl lx ∧ @Ne Nat tl dx) (t1 t2 t3 t4 t5 t6 : Tok) (no : Int) (inst : Value) (e et : Nat) (vs : List Value) (xs : List Int) (hv : IL vs xs) (hx : xs.length = 8) :
  Ctr 350 3000 w (.call (.ref 195) ⟨[.ref lx, .ref tl], []⟩) [] ((tl, listOf vs.toArray et) :: pbL w.params lx dx pb t1 t2 t3 t4 t5 t6 no inst [] e)
    (fun sz v' n' => ∃ rl vs' e' er, v' = .ref rl ∧ IL vs' (turnedL xs) ∧ n' = (rl, listOf vs'.toArray er) :: pbL w.params lx dx pb t1 t2 t3 t4 t5 t6 no inst [] e' ∧ ∀ o, sz.get? rl = some o → rl = tl) := turned_c_e (w, lx, dx, pb, tl, t1, t2, t3, t4, t5, t6, no, inst, e, et, vs, xs) o1 o2 o3 hv hx
end
end
theorem reset11 : True := by w_top off; trivial
section
-- CIdx
open PySem PySem.W PyProof.Rows PySem.Spec PySem.Calls
noncomputable def signsI : Str := Str.ofString "ab \"\\\n#\t"
theorem EnumEnd.next' {g : Heap} {L : Addr} {s s₃ : Shared} {its : List (Addr × Obj)} {J : (Str → Option Value) → Prop} {R : Result → Shared → Prop} (h : ∃ h' tk' m', s₃ = { s with heap := h', toks := tk' } ∧ Fr g L h' m' ∧ News g L h' its ∧ J m') : EnumEnd g L s its J R .next s₃ := h
theorem EnumEnd.ret' {g : Heap} {L : Addr} {s s₃ : Shared} {its : List (Addr × Obj)} {J : (Str → Option Value) → Prop} {R : Result → Shared → Prop} {v : Value} (h : R (.ok (.ret v)) s₃) : EnumEnd g L s its J R (.ret v) s₃ := h
local macro_rules | `(tactic| walk_at "call type:enumerate") => `(tactic| (k_here; (with_reducible show wpAny _ _ (call _ [Value.str _ _]) _ _ _); (refine Halt.out ?_)))
local macro_rules | `(tactic| walk_at "compareOp Is") => `(tactic| (k_here; (with_reducible show wpAny _ _ (compareOp CmpOp.Is (Value.str _ _) (Value.str _ _)) _ _ _); (refine Halt.out ?_)))
noncomputable def index_c_St (w : World) (j : Nat) (c : Nat) (t : Tok) (u : Nat) : Prop :=
  ∀ (hj : j < 8) (hc : signsI.cps[j]? = some c) (hfirst : ∀ i, i < j → signsI.cps[i]? ≠ some c), CtrT 450 3500 w (.call (.ref 84) ⟨[.str signsI t, .str ⟨#[c]⟩ u], []⟩) (fun tk => 0 < u ∧ u < tk)
    (fun _ v' n' => ∃ k, v' = .int j k ∧ n' = [])
set_option maxRecDepth 100000 in
set_option maxHeartbeats 8000000 in
theorem index_c_e : ∀ x : World × Nat × Nat × Tok × Nat, index_c_St x.1 x.2.1 x.2.2.1 x.2.2.2.1 x.2.2.2.2 := by
  refine byE (ne2 neW (ne2 neI (ne2 neI (ne2 neI neI)))) ?_
  generalize eps _ _ = x9
  generalize x9.1 = w
  generalize x9.2.1 = j
  generalize x9.2.2.1 = c
  generalize x9.2.2.2.1 = t
  generalize x9.2.2.2.2 = u
  unfold index_c_St
  intro hj hc hfirst
  refine CtrT.mkE ?_
  generalize eps _ _ = c9
  dsimp only [CGT]
  generalize c9.p = p
  generalize c9.loose = loose
  generalize c9.mean = mean
  generalize c9.mg = mg
  generalize c9.mb = mb
  generalize c9.gd = gd
  generalize c9.cn = cn
  generalize c9.cs = cs
  generalize c9.aa = aa
  generalize c9.ccd = ccd
  generalize c9.cl = cl'
  generalize c9.outer = outer
  generalize c9.A₀ = A₀
  generalize c9.base = base
  generalize c9.h₀ = h₀
  generalize c9.L = L
  generalize c9.m = m
  generalize c9.s = s
  generalize c9.Q = Q
  generalize c9.E = E
  intro hpre B F X N T hk hret
  k_dflt cell_enter
  rename_i g' L' h1 hL hG9 F1 N1 B1 X1 T1
  revert g' L' h1
  refine curryE ?_
  refine curryE ?_
  refine byE (ne2 (ne2 inferInstance inferInstance) inferInstance) ?_
  generalize (Prod.fst (Prod.fst (eps _ _))) = g'
  generalize (Prod.snd (Prod.fst (eps _ _))) = L'
  generalize (Prod.snd (eps _ _)) = h1
  intro hL hG9 F1 N1 B1 X1 T1
  have hbk : NoneBooked g' := noneBooked X1
  k_unmd
  refine wpAny_execs_cons ?_
  refine wpAny_For ?_
  refine wpAny_toks ?_
  k_steps
  unfold Halt
  refine call_enumerate_str fun h2 he hs hsz hkeep => ?_
  dsimp only at he hs hsz hkeep
  k_steps
  have hty : strIterType signsI = "str_ascii_iterator" := by decide +kernel
  have hn : signsI.cps.size = 8 := by decide +kernel
  rw [hty] at hs
  refine wpAny_pyIter_enum he ?_
  have F2 := F1.grownK hkeep
  have heL : ∀ k : Nat, h1.objs.size + k ≠ L' := fun k e => by have := F1.ns.lt; rw [← e] at this; exact absurd this (Nat.not_lt.mpr (Nat.le_add_right _ _))
  have hgn : ∀ k : Nat, g'.get? (h1.objs.size + k) = none := fun k => by
    cases e : g'.get? (h1.objs.size + k) with
    | none => rfl
    | some o => exact absurd (Heap.lt_size (F1.keep _ _ e)) (Nat.not_lt.mpr (Nat.le_add_right _ _))
  refine sign_loop (J := fun i m => i ≤ j ∧ m (Str.ofString "a") = some (.str signsI t) ∧ m (Str.ofString "b") = some (.str ⟨#[c]⟩ u)) (Nat.succ_ne_self _) ⟨heL 1, heL 0⟩ ⟨hgn 1, hgn 0⟩ he hs F2 ⟨Nat.zero_le _, rfl, rfl⟩ (fun i m h => by rw [hn]; exact Nat.lt_of_le_of_lt h.1 hj) ?_
  rintro i c' T' ti u' m' h tk' o1 o2 hc' ⟨hij, ha, hb⟩ hu' hut hT' F3 N3
  have hu9 : u ≠ u' := Nat.ne_of_lt (Nat.lt_of_lt_of_le hpre.2 (Nat.le_trans (Nat.le_add_right _ _) hu'))
  have hu0 : 0 < u' := Nat.lt_of_lt_of_le (Nat.lt_of_lt_of_le hpre.1 (Nat.le_of_lt hpre.2)) (Nat.le_trans (Nat.le_add_right _ _) hu')
  replace F3 := frL [(Str.ofString "a", .str signsI t), (Str.ofString "b", .str ⟨#[c]⟩ u)] (by intro p hp; rcases List.mem_cons.mp hp with rfl | hp; exact ha; rw [List.mem_singleton.mp hp]; exact hb) F3
  dsimp only [kstB] at F3
  k_steps
  unfold Halt
  refine is_str hu0 hpre.1 (Ne.symm hu9) (Mine.NoneBooked.fr hbk (by assumption)) ?_
  intro bb hbb
  have ret9 : c' = c → i = j := fun e => by
    subst e
    rcases Nat.lt_or_ge i j with h | h
    · exact absurd hc' (hfirst i h)
    · exact Nat.le_antisymm hij h
  cases bb
  · k_steps
    · rename (_ == _) = true => heq
      have hcc : c' = c := by simpa using heq
      obtain rfl := ret9 hcc
      refine EnumEnd.ret' ?_
      dsimp only
      k_steps
      exact hret _ _ _ _ ⟨_, rfl, rfl⟩ (by assumption) (fun _ hq => nomatch hq) (by assumption)
    · rename (_ == _) = false => heq
      have hcc : c' ≠ c := by simpa using heq
      have hij2 : i ≠ j := fun e => by
        rw [e, hc] at hc'
        exact hcc (Option.some.inj hc').symm
      k_steps
      exact EnumEnd.next' ⟨_, _, _, rfl, by assumption, by assumption, Nat.lt_of_le_of_ne hij hij2, rfl, rfl⟩
  · have hcc : c' = c := by simpa using hbb rfl
    obtain rfl := ret9 hcc
    k_steps
    refine EnumEnd.ret' ?_
    dsimp only
    k_steps
    exact hret _ _ _ _ ⟨_, rfl, rfl⟩ (by assumption) (fun _ hq => nomatch hq) (by assumption)
theorem index_c (w : World) (j c : Nat) (hj : j < 8) (hc : signsI.cps[j]? = some c) (hfirst : ∀ i, i < j → signsI.cps[i]? ≠ some c) (t : Tok) (u : Nat) :
  CtrT 450 3500 w (.call (.ref 84) ⟨[.str signsI t, .str ⟨#[c]⟩ u], []⟩) (fun tk => 0 < u ∧ u < tk)
    (fun _ v' n' => ∃ k, v' = .int j k ∧ n' = []) := index_c_e (w, j, c, t, u) hj hc hfirst
end
section
open PySem PySem.W PyProof.Rows PySem.Spec PySem.Calls
-- a comprehension over a text, tokens told
local macro_rules | `(tactic| walk_at "eval ListComp") => `(tactic| (k_here; k_dflt (refine comp_overS (by k_asm) (by with_unfolding_all rfl) (by decide) (by rfl) (by decide) (by rfl) ?_); walk_say "COMPS"))
-- the colours' functions are stopped at; a marked if-expression too
local macro_rules | `(tactic| walk_at "call ref") => `(tactic| (k_here; (with_reducible show wpAny _ _ (call (Value.ref _) [Value.float _ _, Value.float _ _, Value.float _ _]) _ _ _); k_dflt (refine Halt.out ?_)))
local macro_rules | `(tactic| walk_at "eval IfExp") => `(tactic| (k_here; k_dflt (refine Halt.out2 (by assumption) ?_)))
-- the first two of a tuple of three
local macro_rules | `(tactic| walk_at "subscriptTail Name Slice ref ref") => `(tactic| (k_here; (with_reducible show wpAny _ _ (subscriptTail _ (PySem.Expr.Slice _ _ none _) (Value.ref _) (Value.ref _)) _ _ _); k_dflt (refine' slice_two ?F ?N ?l ?_ ?s; (case N => k_asm); (case F => k_asm); (case l => exact isTup_of (by k_asm) (by k_mem)); (case s => with_unfolding_all rfl)); intro D' h' F' N' l1; (try k_lt l1)))
local macro_rules | `(tactic| walk_at "compareOp NotEq ref ref") => `(tactic| (k_here; k_dflt (refine Halt.out ?_)))
-- the counter stays above 0
local macro_rules | `(tactic| walk_at "execs cons") => `(tactic| (k_here; refine gt0 ?_; intro tk htk))
local macro_rules | `(tactic| walk_at "execs nil") => `(tactic| (k_here; refine gt0 ?_; intro tk htk))

section
-- B26
open PySem PySem.W PyProof.Rows PySem.Spec PySem.Calls
theorem dropN {g : Heap} {L : Addr} {h : Heap} {n : List (Addr × Obj)} (_ : News g L h n) : News g L h [] := fun _ hq => nomatch hq
theorem allObj_mono : ∀ {ws : List (Addr × String)} {k k' : List (Addr × Obj) → Prop}, (∀ its, k its → k' its) → AllObj ws k → AllObj ws k'
  | [], _, _, h, x => h _ x
  | _ :: _, _, _, h, x => fun o ho => allObj_mono (fun _ => h _) (x o ho)
/-- places and floats, as enumerate tells them -/
noncomputable def itmsF : Int → List (UInt64 × Tok) → List Itm
  | _, [] => []
  | i, (x, t) :: r => .pair (fun u => .int i u) (.float x t) :: itmsF (i + 1) r
section
variable {prog : Program} {w : World} {A : Around} {E : Value → Shared → Prop} {s : Shared} {env : Env} {h₀ : Heap} {target : Expr} {body : List Stmt} {Q : Flow → Shared → Prop}
theorem pairs_by {ws : List (Addr × String)} {keep : List (Addr × Obj)} (J : Int → List (UInt64 × Tok) → (Str → Option Value) → List (Addr × Obj) → Prop)
    (turn : ∀ i x t0 r m news T t h tk, J i ((x, t0) :: r) m news → IsTup h T #[.int i t, .float x t0] → Fr h₀ env.locals h m → AllObj ws fun its => News h₀ env.locals h (its ++ news) →
      wpAny (model prog w) A (assign target env (.ref T)) (fun _ s₂ => wpAny (model prog w) A (execs body env) (TurnEndW h₀ env.locals { s with heap := h, toks := tk } its (fun m n => SubL keep n ∧ J (i + 1) r m n) Q) E s₂) E { s with heap := h, toks := tk })
    (done : ∀ i m news h tk, J i [] m news → Fr h₀ env.locals h m → News h₀ env.locals h news → Q .next { s with heap := h, toks := tk }) :
    ∀ xs i m news, J i xs m news → ItemsRest prog w A E h₀ env target body Q s ws keep (itmsF i xs) m news
  | [], i, m, news, hJ => fun h tk F N => done i m news h tk hJ F N
  | (x, t0) :: r, i, m, news, hJ => ItemsRest.pair fun T t h tk hT F => allObj_mono (fun _ k N =>
      wpAny_mono (k N) (fun _ _ e => wpAny_mono e (fun _ _ e => e.out fun m' n' hJ' => ⟨hJ'.1, pairs_by J turn done r (i + 1) m' n' hJ'.2⟩) fun _ _ e => e) fun _ _ e => e) (turn i x t0 r m news T t h tk hJ hT F)
end
/-- what is left of a kind to be reckoned -/
noncomputable def restK (l : UInt64) : Int → List (UInt64 × Tok) → Int → Int
  | _, [], k => k
  | i, (x, _) :: r, k => restK l (i + 1) r (bitF x l k i)
noncomputable def KJ (l : UInt64) (tl : Tok) (li : Addr × Obj) (f : Int) (i : Int) (xs : List (UInt64 × Tok)) (m : Str → Option Value) (n : List (Addr × Obj)) : Prop :=
  ∃ k t, m (Str.ofString "kind") = some (.int k t) ∧ m (Str.ofString "light") = some (.float l tl) ∧ n = [li] ∧ restK l i xs k = f ∧ 0 ≤ i ∧ i + xs.length = 3
end
theorem reset12 : True := by w_top off; trivial
section
-- CKind
open PySem PySem.W PyProof.Rows PySem.Spec PySem.Calls
local macro_rules | `(tactic| walk_at "ItemsRest") => `(tactic| refine Halt.out ?_)
local macro_rules | `(tactic| walk_at "call ref") => `(tactic| (k_here; k_dflt ((show wpAny _ _ (call (Value.ref 84) [_, _]) _ _ _); refine Halt.out ?_)))
theorem signs_ne : ∀ j, j < 8 → ∀ i, i < j → signsI.cps[i]? ≠ signsI.cps[j]? := by decide +kernel
noncomputable def colK (lo hi la : Nat) : UInt64 × UInt64 × UInt64 := (hsvR (hue2F lo hi la) (shareF la) (valueF lo)).getD (0, 0, 0)
theorem okKind_some {lo hi la : Nat} (hok : okKind lo hi la = true) : hsvR (hue2F lo hi la) (shareF la) (valueF lo) = some ((colK lo hi la).1, (colK lo hi la).2.1, (colK lo hi la).2.2) ∧ okHls (colK lo hi la).1 (colK lo hi la).2.1 (colK lo hi la).2.2 ∧ okRsv (colK lo hi la).1 (colK lo hi la).2.1 (colK lo hi la).2.2 ∧ (Float64.cmp (hueR (colK lo hi la).1 (colK lo hi la).2.1 (colK lo hi la).2.2) (toldF lo hi la) == some .eq) = true ∧ (Float64.cmp (satR (colK lo hi la).1 (colK lo hi la).2.1 (colK lo hi la).2.2) (shareF la) == some .eq) = true ∧ (Float64.cmp (max3 (colK lo hi la).1 (colK lo hi la).2.1 (colK lo hi la).2.2) (valueF lo) == some .eq) = true ∧ kindF (colK lo hi la).1 (colK lo hi la).2.1 (colK lo hi la).2.2 = kindN lo hi la := by
  unfold okKind at hok
  split at hok
  · rename_i r g b e
    simp only [Bool.and_eq_true] at hok
    have hc : colK lo hi la = (r, g, b) := by unfold colK; rw [e]; rfl
    rw [hc]
    exact ⟨e, @of_decide_eq_true _ (okHlsD r g b) hok.1.1.1.1.1, @of_decide_eq_true _ (okRsvD r g b) hok.1.1.1.1.2, hok.1.1.1.2, hok.1.1.2, hok.1.2, of_decide_eq_true hok.2⟩
  · cases hok
noncomputable def kind_c_St (w : World) (lo : Nat) (hi : Nat) (la : Nat) (c0 : Nat) (c1 : Nat) (c2 : Nat) (t : Tok) : Prop :=
  ∀ (h0 : lo < 8) (h1 : hi < 8) (h2 : la < 8) (e0 : signsI.cps[lo]? = some c0) (e1 : signsI.cps[hi]? = some c1) (e2 : signsI.cps[la]? = some c2) (hok : okKind lo hi la = true) (hasc : ((⟨#[c0, c1, c2]⟩ : Str).cps.all (· < 128)) = true), Ctr 400 2500 w (.call (.ref 183) ⟨[.str ⟨#[c0, c1, c2]⟩ t], []⟩) [] [] (fun _ v' n' => ∃ u, v' = .int (kindN lo hi la) u ∧ n' = [])
set_option maxRecDepth 100000 in
set_option maxHeartbeats 2000000 in
theorem kind_c_e : ∀ x : World × Nat × Nat × Nat × Nat × Nat × Nat × Tok, kind_c_St x.1 x.2.1 x.2.2.1 x.2.2.2.1 x.2.2.2.2.1 x.2.2.2.2.2.1 x.2.2.2.2.2.2.1 x.2.2.2.2.2.2.2 := by
  refine byE (ne2 neW (ne2 neI (ne2 neI (ne2 neI (ne2 neI (ne2 neI (ne2 neI neI))))))) ?_
  generalize eps _ _ = x9
  generalize x9.1 = w
  generalize x9.2.1 = lo
  generalize x9.2.2.1 = hi
  generalize x9.2.2.2.1 = la
  generalize x9.2.2.2.2.1 = c0
  generalize x9.2.2.2.2.2.1 = c1
  generalize x9.2.2.2.2.2.2.1 = c2
  generalize x9.2.2.2.2.2.2.2 = t
  unfold kind_c_St
  intro h0 h1 h2 e0 e1 e2 hok hasc
  obtain ⟨hr, hok1, hok2, hc1, hc2, hc3, hkind⟩ := okKind_some hok
  generalize (colK lo hi la).1 = r at hr hok1 hok2 hc1 hc2 hc3 hkind
  generalize (colK lo hi la).2.1 = g at hr hok1 hok2 hc1 hc2 hc3 hkind
  generalize (colK lo hi la).2.2 = b at hr hok1 hok2 hc1 hc2 hc3 hkind
  refine Ctr.mkE ?_
  generalize eps _ _ = c9
  dsimp only [CG]
  generalize c9.p = p
  generalize c9.loose = loose
  generalize c9.mean = mean
  generalize c9.mg = mg
  generalize c9.mb = mb
  generalize c9.gd = gd
  generalize c9.cn = cn
  generalize c9.cs = cs
  generalize c9.aa = aa
  generalize c9.ccd = ccd
  generalize c9.cl = cl'
  generalize c9.outer = outer
  generalize c9.A₀ = A₀
  generalize c9.base = base
  generalize c9.h₀ = h₀
  generalize c9.L = L
  generalize c9.m = m
  generalize c9.s = s
  generalize c9.Q = Q
  generalize c9.E = E
  intro B F X N I T hk hret
  k_dflt cell_enter
  rename_i g' L' h9 tk1 hL hG F1 B1 X1 T1 l1 o1 d1 N1
  revert g' L' h9 tk1 o1
  refine curryE ?_
  refine curryE ?_
  refine curryE ?_
  refine byE (ne2 (ne2 (ne2 inferInstance inferInstance) inferInstance) inferInstance) ?_
  generalize (Prod.fst (Prod.fst (Prod.fst (eps _ _)))) = g'
  generalize (Prod.snd (Prod.fst (Prod.fst (eps _ _)))) = L'
  generalize (Prod.snd (Prod.fst (eps _ _))) = h9
  generalize (Prod.snd (eps _ _)) = tk1
  intro hL hG F1 B1 X1 T1
  refine byE inferInstance ?_
  generalize (eps _ _) = o1
  intro d1 N1
  rename (Mine.hd.heap_39 w.params).In _ => X1
  have hbk := noneBooked X1
  k_unmd
  k_fold
  k_steps
  rename Fr _ _ _ _ => F9
  rename News _ _ _ _ => N9
  refine ⟨_, _, _, fun i ys => IL ys (([(lo : Int), hi, la] : List Int).take i), rfl, hasc, (by rw [PySem.sizeLine_eq]; show 3 ≤ _; omega), rfl, F9, N9, .nil, ?_, ?_⟩
  · intro i c u I' oI C' oC D' m₂ ys h tk E' hc hu hut hJ hC hx F' N' off ne
    have hi3 : i < 3 := by
      rcases Nat.lt_or_ge i 3 with h | h
      · exact h
      · rw [Array.getElem?_eq_none (by simpa using h)] at hc; cases hc
    k_steps
    unfold Halt
    dsimp only at hu
    have hidx : ∃ j : Nat, j < 8 ∧ signsI.cps[j]? = some c ∧ ∀ kk : Tok, IL (ys ++ [.int j kk]) (([(lo : Int), hi, la] : List Int).take (i + 1)) := by
      rcases (by omega : i = 0 ∨ i = 1 ∨ i = 2) with rfl | rfl | rfl
      · obtain rfl : c0 = c := by simpa using hc
        exact ⟨lo, h0, e0, fun _ => hJ.snoc⟩
      · obtain rfl : c1 = c := by simpa using hc
        exact ⟨hi, h1, e1, fun _ => hJ.snoc⟩
      · obtain rfl : c2 = c := by simpa using hc
        exact ⟨la, h2, e2, fun _ => hJ.snoc⟩
    obtain ⟨j, hj, hcj, hJ'⟩ := hidx
    refine CtrT.use0 (index_c w j c hj hcj (fun k hk => by rw [← hcj]; exact signs_ne j hj k hk) _ u) ⟨by omega, hut⟩ (Nat.le_of_ble_eq_true rfl) (Nat.le_of_ble_eq_true rfl) (by k_asm) (by k_asm) (by k_asm) N' (by k_asm) (by first | rfl | assumption) ?_
    rintro _ _ h' tk' ⟨k, rfl, rfl⟩ F'' N''
    dsimp only [List.nil_append] at N''
    exact LCg.CompEnd.intro F'' N'' _ (fun _ h => h) off trivial ⟨rfl, hJ' _⟩
  · intro ys hJ
    replace hJ : IL ys [(lo : Int), hi, la] := hJ
    obtain ⟨k0, ys0, rfl, hJ0⟩ := hJ.uncons
    obtain ⟨k1, ys1, rfl, hJ1⟩ := hJ0.uncons
    obtain ⟨k2, ys2, rfl, hJ2⟩ := hJ1.uncons
    cases hJ2
    clear hJ hJ0 hJ1
    have mk1 : Mark := rfl
    k_steps
    all_goals try (exfalso; exact absurd (by assumption : Float64.isInf _ = true) (PySem.Flt.quot_fits (by decide) (by first | exact shareN_le _ | exact valN_le _ | (refine Nat.lt_of_lt_of_le (m := 100) (by omega) (by decide +kernel)))))
    clear mk1
    unfold Halt
    rename Fr _ _ _ _ => F1
    rename News _ _ _ _ => N1
    replace N1 := dropN N1
    refine cut (fun v => ∃ x, v = .float (toldF lo hi la) x ∧ 0 < x) F1 N1 ?_ ?_
    · k_steps
      · refine ⟨_, _, rfl, ⟨_, congrArg (Value.float · _) (?_ : _ = toldF lo hi la), by first | assumption | exact Nat.succ_pos _⟩, by assumption, by assumption⟩
        unfold toldF
        rw [if_pos (by assumption)]
        rfl
      · refine ⟨_, _, rfl, ⟨_, congrArg (Value.float · _) (?_ : _ = toldF lo hi la), by first | assumption | exact Nat.succ_pos _⟩, by assumption, by assumption⟩
        unfold toldF
        rw [if_neg (by assumption)]
    clear N1 F1
    rintro _ h2 tk2 ⟨x2, rfl, hx2⟩ F2 N2
    generalize htd : toldF lo hi la = td at hc1 F2
    k_steps
    all_goals try (exfalso; exact absurd (by assumption : 2 ^ 1024 - 2 ^ 970 ≤ (Int.natAbs _)) (Nat.not_le.mpr (modN_lt la)))
    unfold Halt
    rename Fr _ _ _ _ => F3
    rename News _ _ _ _ => N3
    replace N3 := dropN N3
    refine CtrT.use0 (hsv_t w _ _ _ r g b _ _ _ (by first | assumption | exact Nat.succ_pos _) hr) (by first | assumption | exact Nat.succ_pos _) (Nat.le_of_ble_eq_true rfl) (Nat.le_of_ble_eq_true rfl) (by k_asm) F3 (by k_asm) N3 (by k_asm) (by first | rfl | assumption) ?_
    rintro _ _ h4 tk4 ⟨t4, a4, b4, c4, rfl, pa4, pb4, pc4, rfl, hfr⟩ F4 N4
    dsimp only [List.cons_append, List.nil_append] at N4
    k_steps
    unfold Halt
    rename Fr _ _ _ _ => F5
    rename News _ _ _ _ => N5
    replace N5 := dropN N5
    refine CtrT.use0 (hls_t w r g b _ _ rfl rfl hok1 _ _ _ pa4 pb4 pc4) (by first | assumption | exact Nat.succ_pos _) (Nat.le_of_ble_eq_true rfl) (Nat.le_of_ble_eq_true rfl) (by k_asm) F5 (by k_asm) N5 (by k_asm) (by first | rfl | assumption) ?_
    rintro _ _ h6 tk6 ⟨t6, d6, a6, b6, c6, rfl, rfl, hfr6⟩ F6 N6
    dsimp only [List.cons_append, List.nil_append] at N6
    k_steps
    unfold Halt
    rename Fr _ _ _ _ => F7
    rename News _ _ _ _ => N7
    replace N7 := dropN N7
    refine CtrT.use0 (rsv_t w r g b _ _ rfl rfl hok2 _ _ _ pa4 pb4 pc4) (by first | assumption | exact Nat.succ_pos _) (Nat.le_of_ble_eq_true rfl) (Nat.le_of_ble_eq_true rfl) (by k_asm) F7 (by k_asm) N7 (by k_asm) (by first | rfl | assumption) ?_
    rintro _ _ h8 tk8 ⟨t8, a8, b8, c8, rfl, pa8, pb8, pc8, rfl, hfr8⟩ F8 N8
    dsimp only [List.cons_append, List.nil_append] at N8
    k_steps
    unfold Halt
    rename News _ _ _ _ => N9
    refine ne_tup3 (isTup_of N9 (by k_mem)) (isTup_of N9 (by k_mem)) pa8 pb8 pc8 hx2 (by first | assumption | exact Nat.succ_pos _) (by first | assumption | exact Nat.succ_pos _) (Mine.NoneBooked.fr hbk (by assumption)) hc1 hc2 hc3 (by ke_room) ?_
    replace N9 := dropN N9
    have hc1' : ¬ (Float64.cmp (hueR r g b) td != some Ordering.eq) = true := by rw [bne, hc1]; decide
    k_steps
    all_goals first | (exact absurd (by assumption) hc1'; done) | skip
    unfold Halt
    rename_i li _ _ _ ii l9
    refine pairs_by (KJ (lightR r g b) _ _ (kindF r g b)) ?_ ?_ [(r, a4), (g, b4), (b, c4)] 0 _ _ ⟨0, _, rfl, rfl, rfl, rfl, Int.le_refl _, rfl⟩
    · rintro i x t0 rr m2 news T t h tk ⟨k, kt, hmk, hml, rfl, hrest, hi0, hlen⟩ hT F
      refine AllObj.cons fun p1 hp1 => AllObj.cons fun p2 hp2 => AllObj.nil fun N => ?_
      have hi3 : i < 3 := by rw [List.length_cons] at hlen; omega
      replace F := frL [(Str.ofString "kind", .int k kt), (Str.ofString "light", .float _ _)] (by intro p hp; rcases List.mem_cons.mp hp with rfl | hp; exact hmk; rw [List.mem_singleton.mp hp]; exact hml) F
      dsimp only [kstB] at F
      dsimp only [List.cons_append, List.nil_append] at N
      replace F : Fr g' L' h _ := F
      replace N : News g' L' h _ := N
      k_steps
      all_goals
        rename Fr _ _ _ _ => F9
        rename News _ _ _ _ => N9
        refine TurnEndW.next [(li, _)] F9 (fun p hp => N9 p (SubL.mem (by k_subL) p hp)) (fun p hp q hq => ?_) ⟨⟨.head _, trivial⟩, _, _, rfl, rfl, rfl, ?_, Int.le_trans hi0 (Int.le_of_lt (Int.lt_succ _)), by rw [← hlen, List.length_cons]; omega⟩
        rotate_left
        · rw [← hrest]
          show restK _ _ _ _ = restK _ _ _ (bitF _ _ _ _)
          unfold bitF
          first | rw [if_pos (by assumption)] | rw [if_neg (nt (by assumption))]
        · rw [List.mem_singleton.mp hp]
          rcases List.mem_cons.mp hq with rfl | hq
          · exact Nat.ne_of_lt (Nat.lt_succ_of_lt l9)
          · rw [List.mem_singleton.mp hq]; exact Nat.ne_of_lt l9
    · rintro i m2 news h tk ⟨k, kt, hmk, hml, rfl, hrest, hi0, hlen⟩ F N
      replace F := frL [(Str.ofString "kind", .int k kt)] (by intro p hp; rw [List.mem_singleton.mp hp]; exact hmk) F
      dsimp only [kstB] at F
      replace F : Fr g' L' h _ := F
      replace N := dropN N
      replace N : News g' L' h [] := N
      k_steps
      exact hret _ _ _ _ ⟨_, congrArg (Value.int · _) (hrest.trans hkind), rfl⟩ (by assumption) (fun _ hq => nomatch hq) (by assumption)
theorem kind_c (w : World) (lo hi la c0 c1 c2 : Nat) (h0 : lo < 8) (h1 : hi < 8) (h2 : la < 8) (e0 : signsI.cps[lo]? = some c0) (e1 : signsI.cps[hi]? = some c1) (e2 : signsI.cps[la]? = some c2) (hok : okKind lo hi la = true) (hasc : ((⟨#[c0, c1, c2]⟩ : Str).cps.all (· < 128)) = true) (t : Tok) :
  Ctr 400 2500 w (.call (.ref 183) ⟨[.str ⟨#[c0, c1, c2]⟩ t], []⟩) [] [] (fun _ v' n' => ∃ u, v' = .int (kindN lo hi la) u ∧ n' = []) := kind_c_e (w, lo, hi, la, c0, c1, c2, t) h0 h1 h2 e0 e1 e2 hok hasc
end
end
theorem reset13 : True := by w_top off; trivial
section
-- CLexer
open PySem PySem.W PyProof.Rows PySem.Spec PySem.Calls
local macro_rules | `(tactic| walk_at "pyIter str") => `(tactic| (k_here; (with_reducible show wpAny _ _ (pyIter (Value.str _ _)) (fun it s₂ => CompAt _ _ _ _ _ _ _ _ _ _ _ _ it s₂) _ _); k_dflt (refine compAt_str (by rfl) (by k_asm) (by k_asm) (by assumption) ?_)))
/-- what the lexer's making leaves -/
noncomputable def LexR (w : World) (x : Str) (sz : Heap) (v : Value) (led' : List (Addr × Obj)) : Prop :=
  ∃ (a : LX) (t2 : Tok) (e1 e2 : Nat) (l : List (Nat × Tok)) (tps : Array Value), a.Ok ∧ v = .ref a.lx ∧ l.map (·.1) = x.cps.toList ∧ led' = (175, tabObj tps) :: a.led w.params 1 t2 [] e1 (leftV l) e2 ∧ sz.objs.size ≤ a.cl ∧ ∀ q ∈ a.led w.params 1 t2 [] e1 (leftV l) e2, sz.get? q.1 = none
theorem fresh0L {g h h' : Heap} {L : Addr} {q : Addr × Obj} {l led : List (Addr × Obj)} (N : News g L h' l) (hm : q ∈ l) (hG : ∀ b o, h.get? b = some o → (∀ q ∈ led, q.1 ≠ b) → g.get? b = some o) (hne : ∀ r ∈ led, r.1 ≠ q.1) : h.get? q.1 = none := by
  cases e : h.get? q.1 with
  | none => rfl
  | some o' =>
    have := hG q.1 _ e hne
    rw [(N _ hm).2.2] at this
    cases this
theorem left_of : ∀ {l : List (Str × Tok)} {cs : List Nat}, l.map (fun x => x.1) = cs.map (fun c => (⟨#[c]⟩ : Str)) → ∃ l2 : List (Nat × Tok), strValues l = leftV l2 ∧ l2.map (·.1) = cs
  | [], [], _ => ⟨[], rfl, rfl⟩
  | [], _ :: _, h => by cases h
  | _ :: _, [], h => by cases h
  | (x, t) :: l, c :: cs, h => by
    obtain ⟨h1, h2⟩ := List.cons.inj h
    obtain ⟨l2, e1, e2⟩ := left_of h2
    dsimp only at h1
    subst h1
    exact ⟨(c, t) :: l2, by show _ :: strValues l = _ :: leftV l2; rw [e1], by simp [e2]⟩
theorem qual_is (cs : Scope) (L a : Addr) (cd : Value) : (envOfC (Str.ofString "_law_lexer") cs L a cd).qual ++ Str.ofString "<lambda>" = Str.ofString "_law_lexer.<locals>.<lambda>" := by
  show (Str.ofString "_law_lexer" ++ Str.ofString ".<locals>.") ++ Str.ofString "<lambda>" = _
  decide +kernel
theorem lex_end {w : World} {x : Str} {sz h₀ g' h : Heap} {L L' : Addr} {t1 t2 t3 t4 t5 t6 u1 u2 u3 u4 u5 u6 u7 : Tok} {pb lx dx fn cd lf st sd cl sp : Addr} {oc ol : Obj} {tb : Array Value} {o1 : Addr × Obj} {pm ct : Value} {l : List (Str × Tok)}
  (N : News h₀ L h [(pb, listOf #[] 0), (lx, instObj 150 dx), (dx, lexD w.params t1 t2 t3 t4 t5 t6 1 st pb), (fn, lamO cl cd pm ct), (cd, oc), (lf, LCg.lst (strValues l)), o1, (st, instObj 150 sd), (sd, strD w.params u1 u2 u3 u4 u5 u6 u7 sp fn), (cl, ol), (175, tabObj tb)])
  (N8 : News g' L' h [(pb, listOf #[] 0), (lx, instObj 150 dx), (dx, lexD w.params t1 t2 t3 t4 t5 t6 1 st pb), (fn, lamO cl cd pm ct), (cd, oc), (lf, LCg.lst (strValues l)), o1, (st, instObj 150 sd), (sd, strD w.params u1 u2 u3 u4 u5 u6 u7 sp fn), (cl, ol), (175, tabObj tb)])
  (hG : ∀ b o, sz.get? b = some o → (∀ q ∈ [(175, tabObj #[])], q.1 ≠ b) → g'.get? b = some o)
  (vs : Array Value) (tq : Tok) (hcode : oc.data = .fields vs) (hq : vs[1]? = some (.str (Str.ofString "_law_lexer.<locals>.<lambda>") tq)) (hc : ol.data = .cell (some (.ref lf)))
  (hl : l.map (fun x => x.1) = x.cps.toList.map (fun c => (⟨#[c]⟩ : Str)))
  (ord : (@LT.lt Nat _ cl sd ∧ @LT.lt Nat _ sd st ∧ (@Ne Nat st lf ∧ @Ne Nat sd lf ∧ @Ne Nat cl lf ∧ @LT.lt Nat _ st cd) ∧ @LT.lt Nat _ lf cd ∧ @LT.lt Nat _ cd fn ∧ @LT.lt Nat _ fn dx ∧ @LT.lt Nat _ dx lx ∧ @LT.lt Nat _ lx pb) ∧ @LT.lt Nat _ 175 cl ∧ @Ne Nat 175 lf ∧ @LE.le Nat _ sz.objs.size cl) :
  ∃ led', LexR w x sz (.ref lx) led' ∧ News h₀ L h led' := by
  obtain ⟨l2, e1, e2⟩ := left_of hl
  rw [e1] at N N8
  obtain ⟨ord, h175, h175', hsc⟩ := ord
  let a : LX := ⟨lx, dx, pb, st, sd, sp, fn, cd, cl, lf, t1, t3, t4, t5, t6, u1, u2, u3, u4, u5, u6, u7, pm, ct, oc, vs, tq, ol⟩
  replace N : News h₀ L h [(pb, listOf #[] 0), (lx, instObj 150 dx), (dx, lexD w.params t1 t2 t3 t4 t5 t6 1 st pb), (fn, lamO cl cd pm ct), (cd, oc), (lf, listOf (leftV l2).toArray (leftV l2).length), o1, (st, instObj 150 sd), (sd, strD w.params u1 u2 u3 u4 u5 u6 u7 sp fn), (cl, ol), (175, tabObj tb)] := N
  replace N8 : News g' L' h [(pb, listOf #[] 0), (lx, instObj 150 dx), (dx, lexD w.params t1 t2 t3 t4 t5 t6 1 st pb), (fn, lamO cl cd pm ct), (cd, oc), (lf, listOf (leftV l2).toArray (leftV l2).length), o1, (st, instObj 150 sd), (sd, strD w.params u1 u2 u3 u4 u5 u6 u7 sp fn), (cl, ol), (175, tabObj tb)] := N8
  have hs : ∀ q ∈ a.led w.params 1 t2 [] 0 (leftV l2) (leftV l2).length, q ∈ [(pb, listOf #[] 0), (lx, instObj 150 dx), (dx, lexD w.params t1 t2 t3 t4 t5 t6 1 st pb), (fn, lamO cl cd pm ct), (cd, oc), (lf, listOf (leftV l2).toArray (leftV l2).length), o1, (st, instObj 150 sd), (sd, strD w.params u1 u2 u3 u4 u5 u6 u7 sp fn), (cl, ol), (175, tabObj tb)] := SubL.mem (by k_subL)
  have hn : ∀ q ∈ a.led w.params 1 t2 [] 0 (leftV l2) (leftV l2).length, @Ne Nat 175 q.1 := by
    show ∀ q ∈ [_, _, _, _, _, _, _, _, _], _
    simp only [List.forall_mem_cons]
    refine ⟨?_, ?_, ?_, ?_, ?_, ?_, ?_, ?_, ?_, fun _ h => nomatch h⟩ <;> (show @Ne Nat 175 _) <;> (dsimp only [a]) <;> omega
  refine ⟨(175, tabObj tb) :: a.led w.params 1 t2 [] 0 (leftV l2) (leftV l2).length, ⟨a, t2, 0, _, l2, tb, ⟨ord, hcode, hq, hc⟩, rfl, e2, rfl, hsc, fun q hq => fresh0L N8 (hs q hq) hG fun r hr => ?_⟩, fun p hp => ?_⟩
  · rw [List.mem_singleton.mp hr]; exact hn q hq
  · rcases List.mem_cons.mp hp with rfl | hp
    · exact N _ (by k_mem)
    · exact N p (hs p hp)
set_option maxRecDepth 100000 in
set_option maxHeartbeats 8000000 in
theorem lexer_p (w : World) (x : Str) (hx : x.length < 1000) (tk : Tok) (p : Program) (loose : List Str) (mean : ExcName → Option Value) (mg mb : Str → Option Value)
  (gd : Option (List Code)) (cn : Str) (cs : Scope) (a : Addr) (ccd : Value) (cl : List (Str × Addr)) (outer : List Env) (A₀ : Around) (base h₀ : Heap) (L : Addr) (m : Str → Option Value) (s : Shared) (Q E : Value → Shared → Prop)
  (B : Below A₀ base outer h₀) (F : Fr h₀ L s.heap m) (X : (Mine.hd.heap_39 w.params).In h₀) (N : News h₀ L s.heap [(175, tabObj #[])]) (T : Top p loose mean mg mb h₀) (hk : cs.kind = .function) (C : CodeHd base 177 175)
  (hret : ∀ v led' h' tk', LexR w x s.heap v led' → Fr h₀ L h' m → News h₀ L h' led' → Kept [(175, tabObj #[])] s.heap h' → Q v { s with heap := h', toks := tk' }) :
  codeAny (model P0 w) (ktrTop 350 1500 gd cn cs L a ccd cl outer) (.call (.ref 178) ⟨[.str x tk], []⟩) (backTo2 Q E) s := by
  k_dflt cell_enter
  rename_i g' L' h1 tk1 o1 hL hG B1 X1 T1 l1 d1 F1 N1
  have hsz : x.cps.size ≤ sizeLine := by rw [PySem.sizeLine_eq]; show x.length ≤ _; omega
  k_unmd
  k_fold
  k_steps
  refine turns_all (fun i v => ∃ c t, x.cps.toList[i]? = some c ∧ v = Value.str ⟨#[c]⟩ t) ?_ ?_
  · rintro i v I' oI' C' oC' D' m' ys' h' tk' E' hi ⟨c, u, hc, rfl⟩ hC' hx' F' N' off' ne'
    k_steps
    all_goals exact ⟨rfl, c, _, by simpa using hc, rfl⟩
  · intro ys hl hO
    obtain ⟨l, rfl, hl'⟩ := strs_of (g := fun c => ⟨#[c]⟩) (by simpa using hl) hO
    k_steps
    rename Fr h₀ L _ _ => kF9
    rename News h₀ L _ _ => kN9
    rename News g' L' _ _ => kN8
    rename Kept _ _ _ => kK9
    rename _ = some (Value.str (_ ++ Str.ofString "<lambda>") _) => hqq
    rw [qual_is] at kN9 kN8 hqq
    rename (_ ≠ _ ∧ _ ≠ _ ∧ _ ≠ _ ∧ L' + 1 ≠ _ ∧ 175 ≠ _) => hne
    obtain ⟨_, n1, n2, n3, n4⟩ := hne
    have hh := lex_end (x := x) kN9 kN8 hL
    obtain ⟨led', hR, hN⟩ := hh _ _ (by assumption) hqq (by assumption) hl' ⟨⟨by omega, by omega, ⟨n1, n2, n3, by omega⟩, by omega, by omega, by omega, by omega, by omega⟩, by omega, n4, by omega⟩
    exact hret _ led' _ _ hR kF9 hN kK9
theorem lexer_c {w : World} {x : Str} (hx : x.length < 1000) {tk : Tok} {p : Program} {loose : List Str} {mean : ExcName → Option Value} {mg mb : Str → Option Value} {d u : Nat}
  {gd : Option (List Code)} {cn : Str} {cs : Scope} {a : Addr} {ccd : Value} {cl : List (Str × Addr)} {outer : List Env} {A₀ : Around} {base h₀ : Heap} {L : Addr} {m : Str → Option Value} {s : Shared} {Q E : Value → Shared → Prop} {news : List (Addr × Obj)}
  (rest : List (Addr × Obj)) (hd : d ≤ 350) (hu : u ≤ 1500) (B : Below A₀ base outer h₀) (F : Fr h₀ L s.heap m) (X : (Mine.hd.heap_39 w.params).In h₀) (N : News h₀ L s.heap news) (T : Top p loose mean mg mb h₀) (hk : cs.kind = .function) (C : CodeHd base 177 175)
  (hs : (175, tabObj #[]) ∈ news) (hr : ∀ q ∈ rest, q ∈ news) (hne : ∀ q ∈ rest, @Ne Nat 175 q.1)
  (r : ∀ sz v led' h' tk', LexR w x sz v led' → (∀ q ∈ news, sz.get? q.1 = some q.2) → Fr h₀ L h' m → News h₀ L h' (led' ++ rest) → Q v { s with heap := h', toks := tk' }) :
  wpAny (model P0 w) (ktrTop d u gd cn cs L a ccd cl outer) (call (.ref 178) [.str x tk]) Q E s := wpAny_call <|
  lowerC (lexer_p w x hx tk p loose mean mg mb gd cn cs a ccd cl outer A₀ base h₀ L m s Q E B F X (fun q hq => by rw [List.mem_singleton.mp hq]; exact N _ hs) T hk C fun v led' h' tk' hR F' N' k =>
    r _ v led' h' tk' hR (fun q hq => (N q hq).1) F' fun q hq => (List.mem_append.mp hq).elim (N' q) fun hq => k.news (fun p hp => N p (hr p hp)) (fun p hp r hr' => by rw [List.mem_singleton.mp hr']; exact hne p hp) q hq) hd hu
end
section
-- B18D
open PySem PySem.W PySem.Flt PyProof.Rows PySem.Spec PySem.Calls
set_option maxRecDepth 100000
/-- a float is reckoned out before it is used -/
noncomputable def frc {α : Type} (x : UInt64) (k : UInt64 → α) : α := match x.toNat with | 0 => k 0 | n+1 => k (UInt64.ofNat (n+1))
theorem frc_eq {α : Type} (x : UInt64) (k : UInt64 → α) : frc x k = k x := by
  unfold frc
  have h : UInt64.ofNat x.toNat = x := UInt64.ofNat_toNat
  split
  · rename_i e; rw [e] at h; rw [← h]; rfl
  · rename_i e; rw [e] at h; rw [h]
noncomputable def hsvF (h s v : UInt64) : Option (UInt64 × UInt64 × UInt64) :=
  if (Float64.cmp s 0 == some Ordering.eq) = true then some (v, v, v)
  else frc (Float64.mul h 4618441417868443648) fun h6 => if Float64.isFinite h6 = true then
    if (Flt.toInt Float64.truncOf h6).natAbs < 2 ^ 1024 - 2 ^ 970 then
      frc (Float64.sub h6 (Float64.ofInt (Flt.toInt Float64.truncOf h6))) fun f =>
      let i := (Flt.toInt Float64.truncOf h6).fmod 6
      let p := Float64.mul v (Float64.sub 4607182418800017408 s)
      let q := Float64.mul v (Float64.sub 4607182418800017408 (Float64.mul s f))
      let t := Float64.mul v (Float64.sub 4607182418800017408 (Float64.mul s (Float64.sub 4607182418800017408 f)))
      if i = 0 then some (v, t, p) else if i = 1 then some (q, v, p) else if i = 2 then some (p, v, t) else if i = 3 then some (p, q, v) else if i = 4 then some (t, p, v) else if i = 5 then some (v, p, q) else none
    else none
  else none
theorem hsvF_eq (h s v : UInt64) : hsvF h s v = hsvR h s v := by
  unfold hsvF hsvR; simp only [frc_eq]
noncomputable def hueM (x0 x1 x2 mx mn d : UInt64) : UInt64 := if (Float64.cmp mn mx == some Ordering.eq) = true then 0 else (Float64.divmod (frc (Float64.div (if (Float64.cmp x0 mx == some Ordering.eq) = true then frc (Float64.div (Float64.sub mx x2) d) fun u => frc (Float64.div (Float64.sub mx x1) d) fun v => Float64.sub u v
      else if (Float64.cmp x1 mx == some Ordering.eq) = true then frc (Float64.div (Float64.sub mx x0) d) fun u => frc (Float64.div (Float64.sub mx x2) d) fun v => Float64.sub (Float64.add 4611686018427387904 u) v
      else frc (Float64.div (Float64.sub mx x1) d) fun u => frc (Float64.div (Float64.sub mx x0) d) fun v => Float64.sub (Float64.add 4616189618054758400 u) v) 4618441417868443648) id) 4607182418800017408).snd
theorem hueM_eq (x0 x1 x2 : UInt64) : hueM x0 x1 x2 (max3 x0 x1 x2) (min3 x0 x1 x2) (Float64.sub (max3 x0 x1 x2) (min3 x0 x1 x2)) = hueR x0 x1 x2 := by
  unfold hueM hueR; simp only [frc_eq, id]
noncomputable def kindM (r g b l : UInt64) : Int := bitF b l (bitF g l (bitF r l 0 0) 1) 2
noncomputable def okM (lo hi la : Nat) (r g b : UInt64) : Bool :=
  frc (max3 r g b) fun mx => frc (min3 r g b) fun mn => frc (Float64.sub mx mn) fun d => frc (Float64.add mx mn) fun sm =>
  ((Float64.cmp mn mx == some Ordering.eq) || (!Float64.isZero sm && !Float64.isZero (Float64.sub (Float64.sub 4611686018427387904 mx) mn) && !Float64.isZero d && !Float64.isZero mx))
  && (Float64.cmp (hueM r g b mx mn d) (toldF lo hi la) == some .eq) && (Float64.cmp (if (Float64.cmp mn mx == some Ordering.eq) = true then 0 else Float64.div d mx) (shareF la) == some .eq) && (Float64.cmp mx (valueF lo) == some .eq) && frc (Float64.div sm 4611686018427387904) fun l => decide (kindM r g b l = kindN lo hi la)
noncomputable def okF (lo hi la : Nat) : Bool :=
  frc (hue2F lo hi la) fun h => frc (shareF la) fun s => frc (valueF lo) fun v => 
  match hsvF h s v with
  | some (r, g, b) => frc r fun r => frc g fun g => frc b fun b => okM lo hi la r g b
  | none => false
theorem okM_ok (lo hi la : Nat) (r g b : UInt64) (h : okM lo hi la r g b = true) :
    (@decide (okHls r g b) (okHlsD r g b) && @decide (okRsv r g b) (okRsvD r g b) && (Float64.cmp (hueR r g b) (toldF lo hi la) == some .eq) && (Float64.cmp (satR r g b) (shareF la) == some .eq) && (Float64.cmp (max3 r g b) (valueF lo) == some .eq) && decide (kindF r g b = kindN lo hi la)) = true := by
  unfold okM at h
  simp only [frc_eq, hueM_eq, Bool.and_eq_true, Bool.or_eq_true, Bool.not_eq_true', decide_eq_true_eq] at h
  obtain ⟨⟨⟨⟨h1, h2⟩, h3⟩, h4⟩, h5⟩ := h
  simp only [Bool.and_eq_true, decide_eq_true_eq]
  refine ⟨⟨⟨⟨⟨?_, ?_⟩, h2⟩, h3⟩, h4⟩, h5⟩
  · refine h1.elim Or.inl fun h => Or.inr ⟨?_, ?_, ?_⟩
    · rw [h.1.1.1]; decide
    · rw [h.1.1.2]; decide
    · rw [h.1.2]; decide
  · refine h1.elim Or.inl fun h => Or.inr ⟨?_, ?_⟩
    · rw [h.2]; decide
    · rw [h.1.2]; decide
theorem okF_ok (lo hi la : Nat) (h : okF lo hi la = true) : okKind lo hi la = true := by
  unfold okF at h
  simp only [frc_eq, hsvF_eq] at h
  unfold okKind
  revert h
  generalize hsvR (hue2F lo hi la) (shareF la) (valueF lo) = o
  intro h
  match o, h with
  | some (r, g, b), h => exact okM_ok lo hi la r g b h
  | none, h => cases h
theorem okKind_a : ∀ lo, lo < 8 → ∀ la, la < 8 → okF lo 0 la = true := of_decide_eq_true (by kernel_rfl)
theorem okKind_b : ∀ lo, lo < 8 → ∀ la, la < 8 → okF lo 1 la = true := of_decide_eq_true (by kernel_rfl)
theorem okKind_c : ∀ lo, lo < 8 → ∀ la, la < 8 → okF lo 2 la = true := of_decide_eq_true (by kernel_rfl)
theorem okKind_d : ∀ lo, lo < 8 → ∀ la, la < 8 → okF lo 3 la = true := of_decide_eq_true (by kernel_rfl)
theorem okKind_e : ∀ lo, lo < 8 → ∀ la, la < 8 → okF lo 4 la = true := of_decide_eq_true (by kernel_rfl)
theorem okKind_f : ∀ lo, lo < 8 → ∀ la, la < 8 → okF lo 5 la = true := of_decide_eq_true (by kernel_rfl)
theorem okKind_g : ∀ lo, lo < 8 → ∀ la, la < 8 → okF lo 6 la = true := of_decide_eq_true (by kernel_rfl)
theorem okKind_h : ∀ lo, lo < 8 → ∀ la, la < 8 → okF lo 7 la = true := of_decide_eq_true (by kernel_rfl)
theorem okKind_all (lo : Nat) (h0 : lo < 8) (hi : Nat) (h1 : hi < 8) (la : Nat) (h2 : la < 8) : okKind lo hi la = true := by
  match hi, h1 with
  | 0, _ => exact okF_ok _ _ _ (okKind_a lo h0 la h2)
  | 1, _ => exact okF_ok _ _ _ (okKind_b lo h0 la h2)
  | 2, _ => exact okF_ok _ _ _ (okKind_c lo h0 la h2)
  | 3, _ => exact okF_ok _ _ _ (okKind_d lo h0 la h2)
  | 4, _ => exact okF_ok _ _ _ (okKind_e lo h0 la h2)
  | 5, _ => exact okF_ok _ _ _ (okKind_f lo h0 la h2)
  | 6, _ => exact okF_ok _ _ _ (okKind_g lo h0 la h2)
  | 7, _ => exact okF_ok _ _ _ (okKind_h lo h0 la h2)
end
section
-- B23
open PySem PySem.W PyProof.Rows PySem.Spec PySem.Calls
-- a lamp where it lies 
set_option genInjectivity false in
set_option genSizeOf false in
structure Lamp where
  l : Addr
  lo : Nat
  hi : Nat
  la : Nat
  x3 : Int
  x4 : Int
  x5 : Int
  t0 : Tok
  t1 : Tok
  t2 : Tok
  t3 : Tok
  t4 : Tok
  t5 : Tok
noncomputable abbrev Lamp.vs (a : Lamp) : List Value := lampL a.lo a.hi a.la a.x3 a.x4 a.x5 a.t0 a.t1 a.t2 a.t3 a.t4 a.t5
set_option genInjectivity false in
set_option genSizeOf false in
structure Lamp.Ok (a : Lamp) : Prop where
  h0 : a.lo < 8
  h1 : a.hi < 8
  h2 : a.la < 8
  h5 : -1000 ≤ a.x5 ∧ a.x5 ≤ 1000
noncomputable def cpAt (n : Nat) : Nat := signsI.cps.getD n 0
theorem cpAt_get : ∀ n, n < 8 → signsI.cps[n]? = some (cpAt n) := by decide +kernel
theorem cpAt_small : ∀ n, n < 8 → cpAt n < 128 := by decide +kernel
theorem item_cp : ∀ n, n < 8 → Txt.item signs ((n : Nat) : Int) = ⟨#[cpAt n]⟩ := by decide +kernel
noncomputable def Lamp.codes (a : Lamp) : List Nat := [cpAt a.lo, cpAt a.hi, cpAt a.la]
noncomputable def Lamp.word (a : Lamp) : Str := ⟨#[cpAt a.lo, cpAt a.hi, cpAt a.la]⟩
theorem Lamp.word_eq {a : Lamp} (h : a.Ok) : wordT a.lo a.hi a.la = a.word := by
  unfold wordT
  rw [item_cp _ h.h0, item_cp _ h.h1, item_cp _ h.h2]
  rfl
theorem word_of {x : Str} {a : Lamp} (h : x.cps.toList = a.codes) : x = a.word := by
  have : x.cps = #[cpAt a.lo, cpAt a.hi, cpAt a.la] := by
    apply Array.toList_inj.mp
    rw [h]; rfl
  cases x
  simp only at this
  rw [this]; rfl
/-- these words are read, and this is left -/
noncomputable def readsL : List Lamp → List Nat → Option (List Nat)
  | [], l => some l
  | a :: r, l => match lexT l with
    | some (tok, rest) => if tok = a.codes then readsL r rest else none
    | none => none
theorem readsL_cons {a : Lamp} {r : List Lamp} {l rest : List Nat} (h : readsL (a :: r) l = some rest) : ∃ l', lexT l = some (a.codes, l') ∧ readsL r l' = some rest := by
  unfold readsL at h
  split at h
  · rename_i tok l' e
    split at h
    · rename_i e'; subst e'; exact ⟨l', e, h⟩
    · cases h
  · cases h
noncomputable def Lamp.kind (a : Lamp) : Int := kindN a.lo a.hi a.la
noncomputable def tabStep (ts : List Int) (a : Lamp) : List Int := ts.set a.kind.toNat (ts.getD a.kind.toNat 0 + a.x5)
noncomputable def tabOf (row : List Lamp) : List Int := row.foldl tabStep (List.replicate 8 0)
theorem kindN_range (lo hi la : Nat) : 0 ≤ kindN lo hi la ∧ kindN lo hi la < 8 := by
  unfold kindN
  cases nearB lo hi la 0 <;> cases nearB lo hi la 64 <;> cases nearB lo hi la 128 <;> decide
theorem fresh0' {g h h' : Heap} {L D : Addr} {o : Obj} {l led : List (Addr × Obj)} (N : News g L h' l) (hm : (D, o) ∈ l) (hG : ∀ b o, h.get? b = some o → (∀ q ∈ led, q.1 ≠ b) → g.get? b = some o) (hne : ∀ q ∈ led, q.1 ≠ D) : h.get? D = none := by
  cases e : h.get? D with
  | none => rfl
  | some o' =>
    have := hG D _ e hne
    rw [(N _ hm).2.2] at this
    cases this
theorem lexQ_len : ∀ (n : Nat) (acc l tok rest : List Nat), l.length ≤ n → lexQ acc l = some (tok, rest) → rest.length ≤ l.length := by
  intro n
  induction n with
  | zero => intro acc l tok rest hn h; rw [List.eq_nil_of_length_eq_zero (Nat.le_zero.mp hn), lexQ_nil] at h; cases h
  | succ n ih =>
    intro acc l tok rest hn h
    match l, hn, h with
    | [], _, h => rw [lexQ_nil] at h; cases h
    | c :: r, hn, h =>
      rw [lexQ_cons] at h
      simp only [List.length_cons] at hn ⊢
      split at h
      · cases h; omega
      · split at h
        · match r, hn, h with
          | [], _, h => cases h
          | d :: r', hn, h => simp only [List.length_cons] at hn ⊢; have := ih _ _ _ _ (by omega) h; omega
        · have := ih _ _ _ _ (by omega) h; omega
theorem lexB_len : ∀ (n : Nat) (acc l tok rest : List Nat), l.length ≤ n → lexB acc l = some (tok, rest) → rest.length ≤ l.length := by
  intro n
  induction n with
  | zero => intro acc l tok rest hn h; rw [List.eq_nil_of_length_eq_zero (Nat.le_zero.mp hn), lexB_nil] at h; cases h
  | succ n ih =>
    intro acc l tok rest hn h
    match l, hn, h with
    | [], _, h => rw [lexB_nil] at h; cases h
    | c :: r, hn, h =>
      rw [lexB_cons] at h
      simp only [List.length_cons] at hn ⊢
      split at h
      · cases h; omega
      · split at h
        · match r, hn, h with
          | [], _, h => cases h
          | d :: r', hn, h => simp only [List.length_cons] at hn ⊢; have := ih _ _ _ _ (by omega) h; omega
        · have := ih _ _ _ _ (by omega) h; omega
theorem lexT_len : ∀ (n : Nat) (l tok rest : List Nat), l.length ≤ n → lexT l = some (tok, rest) → rest.length ≤ l.length := by
  intro n
  induction n with
  | zero => intro l tok rest hn h; rw [List.eq_nil_of_length_eq_zero (Nat.le_zero.mp hn), lexT.eq_def] at h; cases h; exact Nat.zero_le _
  | succ n ih =>
    intro l tok rest hn h
    match l, hn, h with
    | [], _, h => rw [lexT.eq_def] at h; cases h; exact Nat.zero_le _
    | c :: r, hn, h =>
      rw [lexT_cons] at h
      simp only [List.length_cons] at hn ⊢
      split at h
      · have := ih _ _ _ (by omega) h; omega
      · split at h
        · have := lexQ_len _ _ _ _ _ (Nat.le_refl _) h; omega
        · split at h
          · match r, hn, h with
            | [], _, h => cases h
            | d :: r', hn, h => simp only [List.length_cons] at hn ⊢; have := lexB_len _ _ _ _ _ (Nat.le_refl _) h; omega
          · have := lexB_len _ _ _ _ _ (Nat.le_refl _) h; omega
/-- a call that is told by a contract: the walk stops there -/
theorem haltC {M : Model} {A : Around} {a : Addr} {pos : List Value} {kw : List (Str × Value)} {Q E : Value → Shared → Prop} {s : Shared} (_ : a ∈ ([140, 168, 183, 200, 161, 173, 178, 190, 195, 205] : List Nat)) (h : Halt (wpAny M A (call (.ref a) pos kw) Q E s)) : wpAny M A (call (.ref a) pos kw) Q E s := h
end
section
-- B24
open PySem PySem.W PyProof.Rows PySem.Spec PySem.Calls
theorem isL_of {h₀ h : Heap} {L a : Addr} {vs : List Value} {e : Nat} {news : List (Addr × Obj)} (N : News h₀ L h news) (hm : (a, listOf vs.toArray e) ∈ news) : h.IsList a vs.toArray := ⟨_, (N _ hm).1, rfl, _, rfl⟩
section
variable {prog : Program} {w : World} {A : Around} {E : Value → Shared → Prop} {s : Shared} {h₀ : Heap} {L : Addr} {m : Str → Option Value} {env : Env}
/-- a comprehension, by the turns, that is put into a name -/
theorem assign_over {elt iter : Expr} {x y : Str} {px py : Pos} {scope : Scope} {cl : List (Str × Addr)} {pos spos : Pos} {Q : Flow → Shared → Prop} (_F₀ : Fr h₀ L s.heap m) (hLe : env.locals = L)
    (hsw : swapsWith (.ListComp elt [⟨.Name x px, iter, [], 0⟩] scope pos) (some (.Name y py)) spos.line env = pure true)
    (hclos : closureFor scope env = pure cl) (hcell : ∀ z ∈ scope.names, z.2 ≠ .cell) (hkind : scope.kind = .function)
    (hnames : ∀ z ∈ scope.names, z.2 = .local → scope.names.lookup z.1 = some .local) (hx : scope.names.lookup x = some .local)
    (hy : env.kindOf y = some .local) (hp : (env.scope.kind == .class || (env.scope.kind == .module && env.locals != env.globals)) = false)
    (h : wpAny (model prog w) A (eval iter env) (fun xv s₁ => wpAny (model prog w) A (pyIter xv) (fun it s₂ => CompAt prog w A h₀ L m env elt x scope cl (fun s₂ => LCg.FinA h₀ L m s₂ y Q) it s₂) E s₁) E s)
    (hs : ∀ x, foldedSetIterable iter env x = pure x := by intro _; rfl) :
    wpAny (model prog w) A (exec (.Assign [.Name y py] (.ListComp elt [⟨.Name x px, iter, [], 0⟩] scope pos) spos) env) Q E s := by
  subst hLe
  rw [exec_Assign_Name_used _ _ _ _ hsw]
  refine wpAny_bind (wpAny_standAt (wpAny_bind ?_))
  show wpAny _ A (do let _ ← comprehension (.ListComp elt [⟨.Name x px, iter, [], 0⟩] scope pos) scope env _ (newList []) false (eval iter env) (some (assign (.Name y py) env))) _ _ s
  refine wpAny_bind (wpAny_mono (wpAny_comprehension_free (use := some (assign (.Name y py) env)) (Q := fun _ s' => Q .next s') rfl hs hclos hkind hnames
    (wpAny_mono h (fun xv s₁ h₁ => wpAny_mono h₁ (fun it s₂ h₂ => ?_) fun _ _ e => e) fun _ _ e => e)) (fun _ s' hq => wpAny_pure (wpAny_pure hq)) fun _ _ e => e)
  obtain ⟨I, fp, n, P, St, S, news, rfl, W, hsz, hIo, hSt, hst, hfp, F, N, hIL, hI₀, off, hS, R⟩ := h₂
  refine LCg.block_U W hsz hIo hSt hcell hkind hx hst hfp F N hIL hI₀ off hS R ?_
  intro D C h' tk m' ys news' F' N' o1 hn hC₀ hD₀ hCL hDL hCD offC fin
  show wpAny _ A (assign (.Name y py) env (.ref D)) _ _ _
  refine wpAny_assign_Name (wpAny_storeName_local hy F'.ns (fun h₂ hn₂ hs₂ => ?_) hp)
  have hL₀ : h₀.get? env.locals = none := Heap.get?_none_of_le F'.above
  have F₂ : Fr h₀ env.locals h₂ (fun z => if z = y then some (.ref D) else m z) := ⟨hn₂, fun b o e => hs₂.extBut b o (fun q => by rw [q, hL₀] at e; cases e) (F'.keep b o e), F'.above⟩
  refine ⟨m', hn.sameBut hs₂ hCL, fun h'' hs'' => fin D h'' _ (F₂.change hs'' hCL hC₀) (fun p hp => ?_) o1⟩
  have z : h₂.get? p.1 = some p.2 := hs₂.extBut _ _ (N' p hp).2.1 (N' p hp).1
  refine ⟨hs''.extBut _ _ ?_ z, (N' p hp).2⟩
  rcases List.mem_cons.mp hp with rfl | hp
  · exact Ne.symm hCD
  · exact offC p hp
end
theorem rg0 : ∀ n, n < 13 → Builtin.Range.small 0 ((n : Nat) : Int) 2 = true ∧ Builtin.Range.rangeSize 0 ((n : Nat) : Int) 2 = (((n + 1) / 2 : Nat) : Int) := by decide
theorem rg1 : ∀ n, n < 13 → Builtin.Range.small 1 ((n : Nat) : Int) 2 = true ∧ Builtin.Range.rangeSize 1 ((n : Nat) : Int) 2 = ((n / 2 : Nat) : Int) := by decide
/-- every second, from a on, i of them -/
noncomputable def pick {α : Type} (ls : List α) (a i : Nat) : List α := (List.range i).filterMap fun k => ls[a + 2 * k]?
theorem pick_succ {α : Type} {ls : List α} {a i : Nat} {b : α} (h : ls[a + 2 * i]? = some b) : pick ls a (i + 1) = pick ls a i ++ [b] := by
  unfold pick
  rw [List.range_succ, List.filterMap_append]
  simp [h]
theorem pick_mem {α : Type} {ls : List α} {a i : Nat} {b : α} (h : b ∈ pick ls a i) : b ∈ ls := by
  obtain ⟨k, _, hk⟩ := List.mem_filterMap.mp h
  exact List.mem_of_getElem? hk
end
section
-- B25
open PySem PySem.W PyProof.Rows PySem.Spec PySem.Calls
noncomputable def spellT (x3 : Int) (x : Str) : Str :=
  if x3 = 0 then Str.ofString "\"" ++ innerT (Str.ofString "\"\\") x ++ Str.ofString "\""
  else if x3 = 1 then innerT (Str.ofString "b \"\\\n#\t") x
  else Str.ofString "\"" ++ innerT (Str.ofString "ab \"\\\n#\t") x ++ Str.ofString "\""
theorem spell_c (w : World) (x3 : Int) (h : 0 ≤ x3 ∧ x3 < 3) (x : Str) (hx : x.cps.size ≤ 3) (t t2 : Tok) :
  Ctr 500 5000 w (.call (.ref 173) ⟨[.str x t, .int x3 t2], []⟩) [] [] (fun _ v n' => n' = [] ∧ ∃ t, v = .str (spellT x3 x) t) := by
  rcases (by omega : x3 = 0 ∨ x3 = 1 ∨ x3 = 2) with rfl | rfl | rfl
  · exact spell0_c w x hx t t2
  · exact spell1_c w x hx t t2
  · exact spell2_c w x hx t t2
theorem strs_ofL {α : Type} {g : α → Str} {cs : List α} : ∀ {ys : List Value}, ys.length = cs.length → (∀ (i : Nat) (y : Value), ys[i]? = some y → ∃ c t, cs[i]? = some c ∧ y = Value.str (g c) t) → ∃ l : List (Str × Tok), ys = strValues l ∧ l.map (·.1) = cs.map g := by
  induction cs with
  | nil => intro ys hl _; exact ⟨[], by simpa [strValues] using hl, rfl⟩
  | cons c r ih =>
    intro ys hl hy
    match ys, hl with
    | y :: yr, hl =>
      obtain ⟨c', t, e, hv⟩ := hy 0 y rfl
      simp at e
      subst e
      obtain ⟨l, e1, e2⟩ := ih (ys := yr) (by simpa using hl) fun i z hz => by simpa using hy (i + 1) z (by simpa using hz)
      exact ⟨(g c, t) :: l, by simp [strValues, hv, e1], by simp [e2]⟩
noncomputable def sepS : Str := Str.ofString "\n \t\x0d"
noncomputable def Lamp.text (b : Lamp) : Str := spellT b.x3 b.word ++ Txt.item sepS b.x4
theorem inner_len {wants x : Str} (hx : x.cps.size ≤ 3) : (innerT wants x).length ≤ 6 := by
  have := join0_len (k := 2) (x.cps.toList.map (escT wants)) (by intro t ht; obtain ⟨c, _, rfl⟩ := List.mem_map.mp ht; exact esc_len _ _)
  simp only [List.length_map, Array.length_toList] at this
  unfold innerT
  omega
theorem app_len (a b : Str) : (a ++ b).length = a.length + b.length := by
  show (a.cps ++ b.cps).size = a.cps.size + b.cps.size
  simp
theorem spell_len {x3 : Int} {x : Str} (hx : x.cps.size ≤ 3) : (spellT x3 x).length ≤ 8 := by
  have q : (Str.ofString "\"").length = 1 := by decide +kernel
  unfold spellT
  split
  · rw [app_len, app_len, q]; have := inner_len (wants := Str.ofString "\"\\") hx; omega
  · split
    · have := inner_len (wants := Str.ofString "b \"\\\n#\t") hx; omega
    · rw [app_len, app_len, q]; have := inner_len (wants := Str.ofString "ab \"\\\n#\t") hx; omega
theorem sep_at : ∀ n, n < 4 → Txt.item sepS ((n : Nat) : Int) = ⟨#[sepS.cps.getD n 0]⟩ := by decide +kernel
theorem text_len {b : Lamp} (h4 : 0 ≤ b.x4 ∧ b.x4 < 4) : b.text.length ≤ 9 := by
  unfold Lamp.text
  have e : b.x4 = ((b.x4.toNat : Nat) : Int) := (Int.toNat_of_nonneg h4.1).symm
  rw [app_len, e, sep_at _ (by omega)]
  have : (spellT b.x3 b.word).length ≤ 8 := spell_len (by show 3 ≤ 3; omega)
  show _ + 1 ≤ 9
  omega
theorem item_len {x : Int} (h : 0 ≤ x ∧ x < 4) : (Txt.item (Str.ofString "\n \t\x0d") x).length ≤ 1 := by
  have e : x = ((x.toNat : Nat) : Int) := (Int.toNat_of_nonneg h.1).symm
  rw [e]
  have := sep_at x.toNat (by omega)
  unfold sepS at this
  rw [this]
  exact Nat.le_refl _
end
section
-- M3
open PySem PySem.W PyProof.Rows PySem.Spec PySem.Calls
theorem esc0 : ∀ n, n < 8 → (escT (Str.ofString "\"\\") (cpAt n)).cps.toList = if cpAt n = 34 ∨ cpAt n = 92 then [92, cpAt n] else [cpAt n] := by decide +kernel
theorem esc1 : ∀ n, n < 8 → (escT (Str.ofString "b \"\\\n#\t") (cpAt n)).cps.toList = if cpAt n = 97 then [97] else [92, cpAt n] := by decide +kernel
theorem esc2 : ∀ n, n < 8 → (escT (Str.ofString "ab \"\\\n#\t") (cpAt n)).cps.toList = [92, cpAt n] := by decide +kernel
theorem quo_l : (Str.ofString "\"").cps.toList = [34] := by decide +kernel
theorem sep_l : ∀ n, n < 4 → ∃ c, white c = true ∧ (Txt.item sepS ((n : Nat) : Int)).cps.toList = [c] := by
  intro n h
  exact ⟨((Txt.item sepS ((n : Nat) : Int)).cps.toList).headD 0, by revert n; decide +kernel, by revert n; decide +kernel⟩
theorem app_l (a b : Str) : (a ++ b).cps.toList = a.cps.toList ++ b.cps.toList := by
  show (a.cps ++ b.cps).toList = _
  simp
theorem inner_l (wants : Str) (b : Lamp) : (innerT wants b.word).cps.toList = (escT wants (cpAt b.lo)).cps.toList ++ ((escT wants (cpAt b.hi)).cps.toList ++ (escT wants (cpAt b.la)).cps.toList) := by
  unfold innerT
  rw [join0]
  simp [Lamp.word]
theorem lexQ_lit (acc r : List Nat) {c : Nat} (h : c ≠ 34) (h2 : c ≠ 92) : lexQ acc (c :: r) = lexQ (acc ++ [c]) r := by rw [lexQ_cons, if_neg h, if_neg h2]
theorem lexQ_esc (acc r : List Nat) (c : Nat) : lexQ acc (92 :: c :: r) = lexQ (acc ++ [c]) r := by rw [lexQ_cons, if_neg (by decide), if_pos rfl]
theorem lexB_esc (acc r : List Nat) (c : Nat) : lexB acc (92 :: c :: r) = lexB (acc ++ [c]) r := by rw [lexB_cons, if_neg (by decide), if_pos rfl]
theorem lexQ_0 (acc r : List Nat) {n : Nat} (h : n < 8) : lexQ acc ((escT (Str.ofString "\"\\") (cpAt n)).cps.toList ++ r) = lexQ (acc ++ [cpAt n]) r := by
  rw [esc0 n h]
  split
  · exact lexQ_esc acc r _
  · rename_i h'
    exact lexQ_lit acc r (fun e => h' (.inl e)) (fun e => h' (.inr e))
theorem lexQ_2 (acc r : List Nat) {n : Nat} (h : n < 8) : lexQ acc ((escT (Str.ofString "ab \"\\\n#\t") (cpAt n)).cps.toList ++ r) = lexQ (acc ++ [cpAt n]) r := by
  rw [esc2 n h]
  exact lexQ_esc acc r _
theorem lexB_1 (acc r : List Nat) {n : Nat} (h : n < 8) : lexB acc ((escT (Str.ofString "b \"\\\n#\t") (cpAt n)).cps.toList ++ r) = lexB (acc ++ [cpAt n]) r := by
  rw [esc1 n h]
  split
  · rename_i e
    rw [e]
    show lexB acc (97 :: r) = _
    rw [lexB_cons, if_neg (by decide), if_neg (by decide)]
  · exact lexB_esc acc r _
theorem lexT_1 (r : List Nat) {n : Nat} (h : n < 8) : lexT ((escT (Str.ofString "b \"\\\n#\t") (cpAt n)).cps.toList ++ r) = lexB [cpAt n] r := by
  rw [esc1 n h]
  split
  · rename_i e
    rw [e]
    show lexT (97 :: r) = _
    rw [lexT_cons, if_neg (by decide), if_neg (by decide), if_neg (by decide)]
  · show lexT (92 :: _ :: r) = _
    rw [lexT_cons, if_neg (by decide), if_neg (by decide), if_pos rfl]
theorem lexQ_end (acc r : List Nat) : lexQ acc ([34] ++ r) = some (acc, r) := by
  show lexQ acc (34 :: r) = _
  rw [lexQ_cons, if_pos rfl]
theorem lexB_end (acc r : List Nat) {c : Nat} (h : white c = true) : lexB acc (c :: r) = some (acc, r) := by rw [lexB_cons, if_pos h]
theorem lexT_q (r : List Nat) : lexT ([34] ++ r) = lexQ [] r := by
  show lexT (34 :: r) = _
  rw [lexT_cons, if_neg (by decide), if_pos rfl]
/-- what stands ahead of a word: nothing or a white sign -/
noncomputable def Pre (p : List Nat) : Prop := p = [] ∨ ∃ c, white c = true ∧ p = [c]
theorem Pre.lex {p : List Nat} (h : Pre p) (r : List Nat) : lexT (p ++ r) = lexT r := by
  rcases h with rfl | ⟨c, hc, rfl⟩
  · rfl
  · show lexT (c :: r) = _
    rw [lexT_cons, if_pos hc]
theorem lexT_nil : lexT [] = some ([], []) := by rw [lexT.eq_def]
theorem Pre.done {p : List Nat} (h : Pre p) : lexT p = some ([], []) := by
  have := h.lex []
  rw [List.append_nil] at this
  rw [this, lexT_nil]
theorem lex_word {b : Lamp} (h : b.Ok) (h3 : 0 ≤ b.x3 ∧ b.x3 < 3) (h4 : 0 ≤ b.x4 ∧ b.x4 < 4) : ∃ p, Pre p ∧ ∀ r, lexT (b.text.cps.toList ++ r) = some (b.codes, p ++ r) := by
  obtain ⟨c, hc, hs⟩ := sep_l b.x4.toNat (by omega)
  rw [Int.toNat_of_nonneg h4.1] at hs
  unfold Lamp.text spellT
  split
  · refine ⟨[c], .inr ⟨c, hc, rfl⟩, fun r => ?_⟩
    rw [app_l, app_l, app_l, inner_l, hs, quo_l]
    simp only [List.append_assoc]
    rw [lexT_q, lexQ_0 _ _ h.h0, lexQ_0 _ _ h.h1, lexQ_0 _ _ h.h2, lexQ_end]
    rfl
  · split
    · refine ⟨[], .inl rfl, fun r => ?_⟩
      rw [app_l, inner_l, hs]
      simp only [List.append_assoc]
      rw [lexT_1 _ h.h0, lexB_1 _ _ h.h1, lexB_1 _ _ h.h2]
      show lexB _ (c :: r) = _
      rw [lexB_end _ _ hc]
      rfl
    · refine ⟨[c], .inr ⟨c, hc, rfl⟩, fun r => ?_⟩
      rw [app_l, app_l, app_l, inner_l, hs, quo_l]
      simp only [List.append_assoc]
      rw [lexT_q, lexQ_2 _ _ h.h0, lexQ_2 _ _ h.h1, lexQ_2 _ _ h.h2, lexQ_end]
      rfl
/-- the codes of the text of these lamps -/
noncomputable def codesL (ls : List Lamp) : List Nat := (ls.map fun b => b.text.cps.toList).flatten
theorem reads_all : ∀ (ls : List Lamp) (_ : ∀ b ∈ ls, b.Ok ∧ (0 ≤ b.x3 ∧ b.x3 < 3) ∧ 0 ≤ b.x4 ∧ b.x4 < 4) (p : List Nat), Pre p → ∃ p', Pre p' ∧ ∀ r, readsL ls (p ++ (codesL ls ++ r)) = some (p' ++ r) := by
  intro ls
  induction ls with
  | nil => intro _ p hp; exact ⟨p, hp, fun r => rfl⟩
  | cons b ls ih =>
    intro h p hp
    obtain ⟨h1, h3, h4⟩ := h b (.head _)
    obtain ⟨q, hq, e⟩ := lex_word h1 h3 h4
    obtain ⟨p', hp', e'⟩ := ih (fun c hc => h c (.tail _ hc)) q hq
    refine ⟨p', hp', fun r => ?_⟩
    have e2 : codesL (b :: ls) = b.text.cps.toList ++ codesL ls := rfl
    rw [e2]
    unfold readsL
    rw [hp.lex, List.append_assoc, e]
    simp only [if_true]
    exact e' r
theorem join_codes (ls : List Lamp) : (Txt.join (Str.ofString "") (ls.map Lamp.text)).cps.toList = codesL ls := by
  rw [join0, List.map_map]; rfl
theorem codesL_app (a b : List Lamp) : codesL (a ++ b) = codesL a ++ codesL b := by
  unfold codesL
  rw [List.map_append, List.flatten_append]
end
section
open PySem PySem.W PyProof.Rows PySem.Spec PySem.Calls
-- loops and comprehensions over objects stop here
local macro_rules | `(tactic| walk_at "pyIter ref") => `(tactic| (k_here; (with_reducible show wpAny _ _ (pyIter (Value.ref _)) (fun it s₂ => LoopAtV _ _ _ _ _ _ _ _ _ it s₂) _ _); (refine Halt.out ?_)))
local macro_rules | `(tactic| walk_at "pyIter ref") => `(tactic| (k_here; (with_reducible show wpAny _ _ (pyIter (Value.ref _)) (fun it s₂ => CompAt _ _ _ _ _ _ _ _ _ _ _ _ it s₂) _ _); (refine Halt.out ?_)))
-- a comprehension over a list that is put into a name: stops at its source
local macro_rules | `(tactic| walk_at "exec Assign cons ListComp") => `(tactic| (k_here; k_dflt (refine LCg.Assign_ListComp_U (F₀ := by k_asm) (by rfl) (by with_unfolding_all rfl) (by with_unfolding_all rfl) (by decide) (by rfl) (by decide) (by rfl) (by rfl) (by rfl) ?_)))
local macro_rules | `(tactic| walk_at "CompSrc") => `(tactic| (k_here; (refine Halt.out ?_)))

theorem reset14 : True := by w_top off; trivial
section
-- CNear
open PySem PySem.W PyProof.Rows PySem.Spec PySem.Calls
noncomputable def wayI (x0 x1 c : Int) : Int := if 3 * (x0 + 8 * x1) - c < 0 then -(3 * (x0 + 8 * x1) - c) else 3 * (x0 + 8 * x1) - c
noncomputable def waysL (x0 x1 : Int) : List Int := [wayI x0 x1 0, wayI x0 x1 64, wayI x0 x1 128]
noncomputable def nearV (x0 x1 x2 : Int) : List Bool := (waysL x0 x1).map fun y => decide (1 < x2) && decide ((if 192 - y < y then 192 - y else y) < 48)
theorem wayI_of {x0 x1 : Int} {i : Nat} {c : Int} (h : ([0, 64, 128] : List Int)[i]? = some c) : (waysL x0 x1).take (i + 1) = (waysL x0 x1).take i ++ [wayI x0 x1 c] := by
  match i, h with
  | 0, h => simp at h; subst h; rfl
  | 1, h => simp at h; subst h; rfl
  | 2, h => simp at h; subst h; rfl
  | n + 3, h => simp at h
noncomputable def near_c_St (w : World) (x0 : Int) (x1 : Int) (x2 : Int) (x3 : Int) (x4 : Int) (x5 : Int) (t0 : Tok) (t1 : Tok) (t2 : Tok) (t3 : Tok) (t4 : Tok) (t5 : Tok) (l : Addr) : Prop :=
  Ctr 400 3000 w (.call (.ref 200) ⟨[.ref l], []⟩) [(l, listOf (lampL x0 x1 x2 x3 x4 x5 t0 t1 t2 t3 t4 t5).toArray 0)] [] (fun sz v n' => ∃ r e, v = .ref r ∧ n' = [(r, listOf ((nearV x0 x1 x2).map Value.bool).toArray e)] ∧ sz.get? r = none)
set_option maxRecDepth 100000 in
set_option maxHeartbeats 8000000 in
theorem near_c_e : ∀ x : World × Int × Int × Int × Int × Int × Int × Tok × Tok × Tok × Tok × Tok × Tok × Addr, near_c_St x.1 x.2.1 x.2.2.1 x.2.2.2.1 x.2.2.2.2.1 x.2.2.2.2.2.1 x.2.2.2.2.2.2.1 x.2.2.2.2.2.2.2.1 x.2.2.2.2.2.2.2.2.1 x.2.2.2.2.2.2.2.2.2.1 x.2.2.2.2.2.2.2.2.2.2.1 x.2.2.2.2.2.2.2.2.2.2.2.1 x.2.2.2.2.2.2.2.2.2.2.2.2.1 x.2.2.2.2.2.2.2.2.2.2.2.2.2 := by
  refine byE (ne2 neW (ne2 neI (ne2 neI (ne2 neI (ne2 neI (ne2 neI (ne2 neI (ne2 neI (ne2 neI (ne2 neI (ne2 neI (ne2 neI (ne2 neI neI))))))))))))) ?_
  generalize eps _ _ = x9
  generalize x9.1 = w
  generalize x9.2.1 = x0
  generalize x9.2.2.1 = x1
  generalize x9.2.2.2.1 = x2
  generalize x9.2.2.2.2.1 = x3
  generalize x9.2.2.2.2.2.1 = x4
  generalize x9.2.2.2.2.2.2.1 = x5
  generalize x9.2.2.2.2.2.2.2.1 = t0
  generalize x9.2.2.2.2.2.2.2.2.1 = t1
  generalize x9.2.2.2.2.2.2.2.2.2.1 = t2
  generalize x9.2.2.2.2.2.2.2.2.2.2.1 = t3
  generalize x9.2.2.2.2.2.2.2.2.2.2.2.1 = t4
  generalize x9.2.2.2.2.2.2.2.2.2.2.2.2.1 = t5
  generalize x9.2.2.2.2.2.2.2.2.2.2.2.2.2 = l
  unfold near_c_St
  refine Ctr.mkE ?_
  generalize eps _ _ = c9
  dsimp only [CG]
  generalize c9.p = p
  generalize c9.loose = loose
  generalize c9.mean = mean
  generalize c9.mg = mg
  generalize c9.mb = mb
  generalize c9.gd = gd
  generalize c9.cn = cn
  generalize c9.cs = cs
  generalize c9.aa = aa
  generalize c9.ccd = ccd
  generalize c9.cl = cl'
  generalize c9.outer = outer
  generalize c9.A₀ = A₀
  generalize c9.base = base
  generalize c9.h₀ = h₀
  generalize c9.L = L
  generalize c9.m = m
  generalize c9.s = s
  generalize c9.Q = Q
  generalize c9.E = E
  intro B F X N I T hk hret
  k_dflt cell_enter
  rename_i g' L' h1 tk1 hL hG F1 B1 X1 T1 l1 c1 d1 N1
  revert g' L' h1 tk1 c1
  refine curryE ?_
  refine curryE ?_
  refine curryE ?_
  refine byE (ne2 (ne2 (ne2 inferInstance inferInstance) inferInstance) inferInstance) ?_
  generalize (Prod.fst (Prod.fst (Prod.fst (eps _ _)))) = g'
  generalize (Prod.snd (Prod.fst (Prod.fst (eps _ _)))) = L'
  generalize (Prod.snd (Prod.fst (eps _ _))) = h1
  generalize (Prod.snd (eps _ _)) = tk1
  intro hL hG F1 B1 X1 T1
  refine byE inferInstance ?_
  generalize (eps _ _) = c1
  intro d1 N1
  have hl : g'.IsList l [Value.int x0 t0, .int x1 t1, .int x2 t2, .int x3 t3, .int x4 t4, .int x5 t5].toArray := ⟨_, hG _ _ (I _ (.head _)).1 (fun _ h => nomatch h), rfl, _, rfl⟩
  k_unmd
  k_fold
  k_steps
  unfold Halt
  rename Fr _ _ _ _ => F2
  rename News _ _ _ _ => N2
  refine LCg.CompSrc.ledger (by rfl) F2 N2 (by k_mem) (by rw [PySem.sizeLine_eq]; show 3 ≤ _; omega) ?_
  intro g3
  refine turns_inv (fun i ys news => IL ys ((waysL x0 x1).take i) ∧ news = _) ?_ ?_ 3 0 [] _ rfl ⟨.nil, rfl⟩
  · rintro i v I' oI' C' oC' D' m' ys' news h' tk' E' hi hv ⟨hys, rfl⟩ hC' hx' F' N' off' ne'
    obtain ⟨c, tc, rfl, hc⟩ : ∃ c tc, v = .int c tc ∧ ([0, 64, 128] : List Int)[i]? = some c := by
      match i, hv with
      | 0, h => simp at h; exact ⟨_, _, by simpa using h.symm, rfl⟩
      | 1, h => simp at h; exact ⟨_, _, by simpa using h.symm, rfl⟩
      | 2, h => simp at h; exact ⟨_, _, by simpa using h.symm, rfl⟩
      | n + 3, h => simp at h
    k_steps
    rw [wayI_of hc]
    exact hys.snoc
  · rintro ys news ⟨hys, rfl⟩
    obtain ⟨k0, ys0, rfl, hJ0⟩ := hys.uncons
    obtain ⟨k1, ys1, rfl, hJ1⟩ := hJ0.uncons
    obtain ⟨k2, ys2, rfl, hJ2⟩ := hJ1.uncons
    cases hJ2
    k_steps
    unfold Halt
    rename Fr _ _ _ _ => F5
    rename News _ _ _ _ => N5
    refine compAt_listN (vs := [_, _, _]) (by rfl) F5 N5 (by k_mem) (by rw [PySem.sizeLine_eq]; show 3 ≤ _; omega) ?_
    intro g6
    refine turns_inv (fun i ys news => ys = ((nearV x0 x1 x2).map Value.bool).take i ∧ news = _) ?_ ?_ 3 0 [] _ rfl ⟨rfl, rfl⟩
    · rintro i v I' oI' C' oC' D' m' ys' news h' tk' E' hi hv ⟨hys, rfl⟩ hC' hx' F' N' off' ne'
      obtain ⟨c, tc, rfl, hc⟩ : ∃ c tc, v = .int c tc ∧ (waysL x0 x1)[i]? = some c := by
        match i, hv with
        | 0, h => simp at h; exact ⟨_, _, by simpa using h.symm, rfl⟩
        | 1, h => simp at h; exact ⟨_, _, by simpa using h.symm, rfl⟩
        | 2, h => simp at h; exact ⟨_, _, by simpa using h.symm, rfl⟩
        | n + 3, h => simp at h
      k_steps
      all_goals
        rename Fr _ _ _ _ => F9
        rename News _ _ _ _ => N9
        refine LCg.CompEnd.intro F9 N9 _ (fun _ h => h) (by simp only [LCg.Off3, and_true] at off' ⊢; exact off') (by k_mem) ⟨?_, rfl⟩
        rw [hys, List.take_add_one, List.getElem?_map]
        unfold nearV
        rw [List.getElem?_map, hc]
      all_goals first | (rename 1 < x2 => hx2; simp only [Option.map_some, Option.toList_some, decide_eq_true hx2, Bool.true_and]; done) | (rename ¬ 1 < x2 => hx2; simp only [Option.map_some, Option.toList_some, decide_eq_false hx2, Bool.false_and]; done)
    · rintro ys news ⟨hys, rfl⟩
      have hys' : ys = (nearV x0 x1 x2).map Value.bool := hys
      clear hys
      subst hys'
      k_steps
      exact hret _ _ _ _ ⟨_, _, rfl, rfl, fresh0 (by assumption) (.head _) hG⟩ (by assumption) (fun p hp => (by assumption : News h₀ L _ _) p (SubL.mem (by k_subL) p hp)) (by assumption)
theorem near_c (w : World) (x0 x1 x2 x3 x4 x5 : Int) (t0 t1 t2 t3 t4 t5 : Tok) (l : Addr) :
  Ctr 400 3000 w (.call (.ref 200) ⟨[.ref l], []⟩) [(l, listOf (lampL x0 x1 x2 x3 x4 x5 t0 t1 t2 t3 t4 t5).toArray 0)] [] (fun sz v n' => ∃ r e, v = .ref r ∧ n' = [(r, listOf ((nearV x0 x1 x2).map Value.bool).toArray e)] ∧ sz.get? r = none) := near_c_e (w, x0, x1, x2, x3, x4, x5, t0, t1, t2, t3, t4, t5, l) 
end
section
open PySem PySem.W PyProof.Rows PySem.Spec PySem.Calls
-- the calls that are told by contracts are stopped at
local macro_rules | `(tactic| walk_at "call ref") => `(tactic| (k_here; k_dflt (refine haltC (by decide) ?_)))

theorem reset15 : True := by w_top off; trivial
section
-- CTable
open PySem PySem.W PyProof.Rows PySem.Spec PySem.Calls
noncomputable def TabJ (w : World) (a : LX) (tl : Addr) (no : Int) (e1 : Nat) (l0 : List (Nat × Tok)) (rest : List Nat) (all : List Int) (row0 : List Lamp) (r : List Value) (m : Str → Option Value) (n : List (Addr × Obj)) : Prop :=
  ∃ (row : List Lamp) (l : List (Nat × Tok)) (no' : Int) (t2 : Tok) (vs : List Value) (et e2 : Nat) (ts : List Int), r = row.map (fun a => .ref a.l) ∧ (∀ b ∈ row, b ∈ row0) ∧ n = (tl, listOf vs.toArray et) :: a.led w.params no' t2 [] e1 (leftV l) e2 ∧ l.length ≤ l0.length ∧ no' = no + nls l0 - nls l ∧
    readsL row (l.map (·.1)) = some rest ∧ IntsAre vs ts ∧ ts.length = 8 ∧ row.foldl tabStep ts = all ∧ m (Str.ofString "table") = some (.ref tl) ∧ m (Str.ofString "lexer") = some (.ref a.lx)
noncomputable def table_c_St (w : World) (a : LX) (no : Int) (t2 : Tok) (e1 : Nat) (l : List (Nat × Tok)) (e2 : Nat) (rl : Addr) (er : Nat) (row : List Lamp) (rest : List Nat) : Prop :=
  ∀ (ok : a.Ok) (hl : l.length < 10000) (hrow : ∀ b ∈ row, b.Ok) (hread : readsL row (l.map (·.1)) = some rest), Ctr 350 1500 w (.call (.ref 190) ⟨[.ref a.lx, .ref rl], []⟩) ((rl, listOf (row.map fun b => Value.ref b.l).toArray er) :: row.map fun b => (b.l, listOf b.vs.toArray 0)) (a.led w.params no t2 [] e1 (leftV l) e2)
    (fun sz v n' => ∃ tl vs et no' t2' l' e2', v = .ref tl ∧ IL vs (tabOf row) ∧ l'.map (·.1) = rest ∧ no' = no + nls l - nls l' ∧ n' = (tl, listOf vs.toArray et) :: a.led w.params no' t2' [] e1 (leftV l') e2' ∧ sz.get? tl = none)
set_option maxRecDepth 100000 in
set_option maxHeartbeats 8000000 in
theorem table_c_e : ∀ x : World × LX × Int × Tok × Nat × List (Nat × Tok) × Nat × Addr × Nat × List Lamp × List Nat, table_c_St x.1 x.2.1 x.2.2.1 x.2.2.2.1 x.2.2.2.2.1 x.2.2.2.2.2.1 x.2.2.2.2.2.2.1 x.2.2.2.2.2.2.2.1 x.2.2.2.2.2.2.2.2.1 x.2.2.2.2.2.2.2.2.2.1 x.2.2.2.2.2.2.2.2.2.2 := by
  refine byE (ne2 neW (ne2 neL (ne2 neI (ne2 neI (ne2 neI (ne2 neI (ne2 neI (ne2 neI (ne2 neI (ne2 neI neI)))))))))) ?_
  generalize eps _ _ = x9
  generalize x9.1 = w
  generalize x9.2.1 = a
  generalize x9.2.2.1 = no
  generalize x9.2.2.2.1 = t2
  generalize x9.2.2.2.2.1 = e1
  generalize x9.2.2.2.2.2.1 = l
  generalize x9.2.2.2.2.2.2.1 = e2
  generalize x9.2.2.2.2.2.2.2.1 = rl
  generalize x9.2.2.2.2.2.2.2.2.1 = er
  generalize x9.2.2.2.2.2.2.2.2.2.1 = row
  generalize x9.2.2.2.2.2.2.2.2.2.2 = rest
  unfold table_c_St
  intro ok hl hrow hread
  have ok' := ok
  obtain ⟨⟨o1, o2, o3, o4, o5, o6, o7, o8⟩, hcode, hqual, hcell⟩ := ok
  dsimp only [LX.led] at *
  refine Ctr.mkE ?_
  generalize eps _ _ = c9
  dsimp only [CG]
  generalize c9.p = p
  generalize c9.loose = loose
  generalize c9.mean = mean
  generalize c9.mg = mg
  generalize c9.mb = mb
  generalize c9.gd = gd
  generalize c9.cn = cn
  generalize c9.cs = cs
  generalize c9.aa = aa
  generalize c9.ccd = ccd
  generalize c9.cl = cl'
  generalize c9.outer = outer
  generalize c9.A₀ = A₀
  generalize c9.base = base
  generalize c9.h₀ = h₀
  generalize c9.L = L
  generalize c9.m = m
  generalize c9.s = s
  generalize c9.Q = Q
  generalize c9.E = E
  intro B F X N I T hk hret
  k_dflt cell_enter
  rename_i g' L' h1 hL hG F1 N1 B1 X1 T1
  revert g' L' h1
  refine curryE ?_
  refine curryE ?_
  refine byE (ne2 (ne2 inferInstance inferInstance) inferInstance) ?_
  generalize (Prod.fst (Prod.fst (eps _ _))) = g'
  generalize (Prod.snd (Prod.fst (eps _ _))) = L'
  generalize (Prod.snd (eps _ _)) = h1
  intro hL hG F1 N1 B1 X1 T1
  have hrl : g'.IsList rl (row.map fun b => Value.ref b.l).toArray := ⟨_, hG _ _ (I _ (.head _)).1 (I _ (.head _)).2, rfl, _, rfl⟩
  have hlamp : ∀ b ∈ row, g'.get? b.l = some (listOf b.vs.toArray 0) := fun b hb => hG _ _ (I _ (.tail _ (List.mem_map_of_mem (f := fun b : Lamp => (b.l, listOf b.vs.toArray 0)) hb))).1 (I _ (.tail _ (List.mem_map_of_mem (f := fun b : Lamp => (b.l, listOf b.vs.toArray 0)) hb))).2
  k_unmd
  k_fold
  k_steps
  unfold Halt
  rename Fr _ _ _ _ => F2
  rename News _ _ _ _ => N2
  rename (@LT.lt Nat _ _ _ ∧ @LT.lt Nat _ a.pb _ ∧ _) => l0
  rename_i tl _h1 iL _n1 _s1 _e1 _e2 _e3 _h2
  with_unfolding_all refine iter_listH (by rfl) F2 (news := (tl, listOf (List.replicate (Int.toNat 8) [Value.int 0 _]).flatten.toArray 0) :: a.led w.params no t2 [] e1 (leftV l) e2) (fun p hp => N2 p (SubL.mem (by k_subL) p hp)) hrl ?_
  intro I1 l1
  dsimp only [LX.led] at l1
  k_lt l1
  clear N2 F2
  refine list_byH (TabJ w a tl no e1 l rest (tabOf row) row) ?_ ?_ _ _ _ ?_
  · rintro v r m' news h tk it ⟨row', l', no', t2', vs, et, e2', ts, hr, hsub, rfl, hll, hno, hrd, hvs, hts, hall, hm1, hm2⟩ F3 N3 hit
    obtain ⟨b, row'', rfl, rfl, rfl⟩ : ∃ b row'', row' = b :: row'' ∧ v = .ref b.l ∧ r = row''.map (fun a => .ref a.l) := by
      match row', hr with
      | [], hr => cases hr
      | b :: row'', hr => obtain ⟨h1, h2⟩ := List.cons.inj hr; exact ⟨b, row'', rfl, h1, h2⟩
    have hb := hrow b (hsub b (.head _))
    have hbl := hlamp b (hsub b (.head _))
    obtain ⟨l'', hlex, hrd'⟩ := readsL_cons hrd
    dsimp only [LX.led] at N3
    replace F3 := frX [(Str.ofString "table", .ref _), (Str.ofString "lexer", .ref _)] (by intro p hp; rcases List.mem_cons.mp hp with rfl | hp; exact hm1; rw [List.mem_singleton.mp hp]; exact hm2) F3
    dsimp only [kstB] at F3
    k_steps
    unfold Halt
    rename Fr _ _ _ _ => F4
    rename News _ _ _ _ => N4
    refine Ctr.use (get_c w a ok' no' t2' e1 l' (by omega) e2' b.codes l'' hlex) [(I1, it), (tl, listOf vs.toArray et)] (Nat.le_of_ble_eq_true rfl) (Nat.le_of_ble_eq_true rfl) (by k_asm) F4 (by k_asm) N4 (by k_asm) (by first | rfl | assumption) (SubL.mem (by dsimp only [LX.led]; k_subL)) (SubL.mem (by k_subL)) (by dsimp only [LX.led]; exact List.forall_mem_cons.mpr ⟨by k_all, List.forall_mem_cons.mpr ⟨by k_all, List.forall_mem_nil _⟩⟩) (fun _ hq => nomatch hq) ?_
    rintro sz _ _ h5 tk5 ⟨x, no3, t23, e23, l3, t, rfl, hx, hl3, hno3, rfl⟩ hsz F5 N5
    obtain rfl := word_of hx
    dsimp only [LX.led, List.cons_append, List.nil_append] at N5
    k_steps
    unfold Halt
    rename Fr _ _ _ _ => F6
    rename News _ _ _ _ => N6
    refine Ctr.use0 (word_c w b.lo b.hi b.la b.x3 b.x4 b.x5 (by have := hb.h0; omega) (by have := hb.h1; omega) (by have := hb.h2; omega) b.t0 b.t1 b.t2 b.t3 b.t4 b.t5 b.l) (Nat.le_of_ble_eq_true rfl) (Nat.le_of_ble_eq_true rfl) (by k_asm) F6 (by k_asm) N6 (by k_asm) (by first | rfl | assumption) (fun q hq => by rw [List.mem_singleton.mp hq]; exact F6.keep _ _ hbl) ?_
    rintro sz7 _ _ h7 tk7 ⟨rfl, t7, rfl⟩ hsz7 F7 N7
    rw [Lamp.word_eq hb]
    dsimp only [List.nil_append] at N7
    k_steps
    all_goals first | (exfalso; rename (b.word != b.word) = true => hq; rw [bne_self_eq_false] at hq; exact absurd hq (by decide)) | skip
    rename (b.word != b.word) = false => hq
    clear hq hsz hsz7
    unfold Halt
    refine Ctr.use0 (kind_c w b.lo b.hi b.la (cpAt b.lo) (cpAt b.hi) (cpAt b.la) hb.h0 hb.h1 hb.h2 (cpAt_get _ hb.h0) (cpAt_get _ hb.h1) (cpAt_get _ hb.h2) (okKind_all _ hb.h0 _ hb.h1 _ hb.h2) (by simp [cpAt_small _ hb.h0, cpAt_small _ hb.h1, cpAt_small _ hb.h2]) t) (Nat.le_of_ble_eq_true rfl) (Nat.le_of_ble_eq_true rfl) (by k_asm) F7 (by k_asm) N7 (by k_asm) (by first | rfl | assumption) (fun _ hq => nomatch hq) ?_
    rintro sz8 _ _ h8 tk8 ⟨u8, rfl, rfl⟩ hsz8 F8 N8
    clear hsz8
    dsimp only [List.nil_append] at N8
    have hk0 := (kindN_range b.lo b.hi b.la).1
    have hk8 := (kindN_range b.lo b.hi b.la).2
    generalize hkd : kindN b.lo b.hi b.la = kd at hk0 hk8 F8 ⊢
    have hkt : kd < ts.length := by omega
    have hbl' : g'.IsList b.l [Value.int b.lo b.t0, .int b.hi b.t1, .int b.la b.t2, .int b.x3 b.t3, .int b.x4 b.t4, .int b.x5 b.t5].toArray := ⟨_, hbl, rfl, _, rfl⟩
    k_steps
    rename Fr g' L' _ _ => kF9
    rename News g' L' _ _ => kN9
    have hlen := lexT_len _ _ _ _ (Nat.le_refl _) hlex
    rw [← hl3, List.length_map, List.length_map] at hlen
    refine TurnEnd.next kF9 kN9 ((tl, listOf _ et) :: a.led w.params no3 t23 [] e1 (leftV l3) e23) ⟨row'', l3, no3, t23, _, et, e23, ts.set kd.toNat (ts.getD kd.toNat 0 + b.x5), rfl, fun c hc => hsub c (.tail _ hc), rfl, by omega, by omega, by rw [hl3]; exact hrd', ints_set hvs _, by rw [List.length_set]; exact hts, ?_, rfl, rfl⟩ (by k_mem) (by dsimp only [LX.led]; k_subL) (by dsimp only [LX.led]; k_offL)
    rw [← hall]
    show _ = List.foldl tabStep (tabStep ts b) row''
    unfold tabStep Lamp.kind
    rw [hkd]
  · rintro m' news h tk ⟨row', l', no', t2', vs, et, e2', ts, hr, hsub, rfl, hll, hno, hrd, hvs, hts, hall, hm1, hm2⟩ F3 N3
    obtain rfl : row' = [] := by cases row' with | nil => rfl | cons _ _ => cases hr
    dsimp only [LX.led] at N3
    replace F3 := frL [(Str.ofString "table", .ref _), (Str.ofString "lexer", .ref _)] (by intro p hp; rcases List.mem_cons.mp hp with rfl | hp; exact hm1; rw [List.mem_singleton.mp hp]; exact hm2) F3
    dsimp only [kstB] at F3
    k_steps
    rename News h₀ L _ _ => N9
    have hrest : l'.map (·.1) = rest := by simpa [readsL] using hrd
    have hall' : ts = tabOf row := hall
    subst hall'
    exact hret _ _ _ _ ⟨tl, vs, et, no', t2', l', e2', rfl, IL.of_ints hvs, hrest, hno, rfl, fresh0' N3 (.head _) hG (by k_all)⟩ (by assumption) N9 (by assumption)
  · exact ⟨row, l, no, t2, _, 0, e2, _, rfl, fun _ h => h, rfl, Nat.le_refl _, by omega, hread, iL, rfl, rfl, rfl, rfl⟩
theorem table_c (w : World) (a : LX) (ok : a.Ok) (no : Int) (t2 : Tok) (e1 : Nat) (l : List (Nat × Tok)) (hl : l.length < 10000) (e2 : Nat) (rl : Addr) (er : Nat) (row : List Lamp) (hrow : ∀ b ∈ row, b.Ok) (rest : List Nat) (hread : readsL row (l.map (·.1)) = some rest) :
  Ctr 350 1500 w (.call (.ref 190) ⟨[.ref a.lx, .ref rl], []⟩) ((rl, listOf (row.map fun b => Value.ref b.l).toArray er) :: row.map fun b => (b.l, listOf b.vs.toArray 0)) (a.led w.params no t2 [] e1 (leftV l) e2)
    (fun sz v n' => ∃ tl vs et no' t2' l' e2', v = .ref tl ∧ IL vs (tabOf row) ∧ l'.map (·.1) = rest ∧ no' = no + nls l - nls l' ∧ n' = (tl, listOf vs.toArray et) :: a.led w.params no' t2' [] e1 (leftV l') e2' ∧ sz.get? tl = none) := table_c_e (w, a, no, t2, e1, l, e2, rl, er, row, rest) ok hl hrow hread
end
section
open PySem PySem.W PyProof.Rows PySem.Spec PySem.Calls
local macro_rules | `(tactic| walk_at "pyIter ref") => `(tactic| (k_here; (with_reducible show wpAny _ _ (pyIter (Value.ref _)) (fun it s₂ => TurnsAt _ _ _ _ _ _ _ _ _ it s₂) _ _); (refine Halt.out ?_)))
local macro_rules | `(tactic| walk_at "CompSrcT") => `(tactic| (k_here; (refine Halt.out ?_)))
local macro_rules | `(tactic| k_all) => `(tactic| assumption)
local macro_rules | `(tactic| walk_at "eval ListComp") => `(tactic| (k_here; (with_reducible show wpAny _ _ (eval (PySem.Expr.ListComp _ [⟨_, _, [_], _⟩] _ _) _) _ _ _); k_dflt (refine LCt.ListComp_T (F₀ := by k_asm) (by with_unfolding_all rfl) (by decide) (by rfl) (by decide) (by rfl) ?_)))

theorem reset16 : True := by w_top off; trivial
section
-- CCross
open PySem PySem.W PyProof.Rows PySem.Spec PySem.Calls
noncomputable def Lamp.ob (a : Lamp) : Addr × Obj := (a.l, listOf a.vs.toArray 0)
-- a pair of the far row: how near the parts are, and the weight 
set_option genInjectivity false in
set_option genSizeOf false in
structure FarE where
  T : Addr
  r : Addr
  e : Nat
  t : Tok
  b : Lamp
noncomputable def Lamp.near (b : Lamp) : List Bool := nearV b.lo b.hi b.la
noncomputable def FarE.o1 (f : FarE) : Addr × Obj := (f.T, tupO #[.ref f.r, .int f.b.x5 f.t])
noncomputable def FarE.o2 (f : FarE) : Addr × Obj := (f.r, listOf (f.b.near.map Value.bool).toArray f.e)
noncomputable def farOs (fs : List FarE) : List (Addr × Obj) := fs.map FarE.o1 ++ fs.map FarE.o2
theorem allLt_mem {d : Addr} {l : List (Addr × Obj)} {p : Addr × Obj} (h : AllLt d l) (hp : p ∈ l) : @LT.lt Nat _ p.1 d := by
  induction l with
  | nil => cases hp
  | cons q r ih => rcases List.mem_cons.mp hp with rfl | hp; exact h.1; exact ih h.2 hp
theorem off1_mem {D : Addr} {l : List (Addr × Obj)} {p : Addr × Obj} (h : LCg.Off1 D l) (hp : p ∈ l) : @Ne Nat p.1 D := by
  induction l with
  | nil => cases hp
  | cons q r ih => rcases List.mem_cons.mp hp with rfl | hp; exact h.1; exact ih h.2 hp
theorem farOs_mem {fs : List FarE} {f : FarE} (h : f ∈ fs) : f.o1 ∈ farOs fs ∧ f.o2 ∈ farOs fs := ⟨List.mem_append_left _ (List.mem_map_of_mem h), List.mem_append_right _ (List.mem_map_of_mem h)⟩
theorem farOs_snoc {fs : List FarE} {f : FarE} {base : List (Addr × Obj)} {p : Addr × Obj} (h : p ∈ farOs (fs ++ [f]) ++ base) : p ∈ farOs fs ++ base ∨ p = f.o1 ∨ p = f.o2 := by
  simp only [farOs, List.map_append, List.mem_append, List.map_cons, List.map_nil, List.mem_singleton] at h ⊢
  rcases h with ((h | h) | (h | h)) | h
  · exact .inl (.inl (.inl h))
  · exact .inr (.inl h)
  · exact .inl (.inl (.inr h))
  · exact .inr (.inr h)
  · exact .inl (.inr h)
noncomputable def diffN (p q : List Bool) : Nat := (if p.getD 0 false != q.getD 0 false then 1 else 0) + (if p.getD 1 false != q.getD 1 false then 2 else 0) + (if p.getD 2 false != q.getD 2 false then 4 else 0)
noncomputable def crossStep1 (b : Lamp) (due : List Int) (f : Lamp) : List Int := due.set (diffN b.near f.near) (due.getD (diffN b.near f.near) 0 + b.x5 * f.x5)
noncomputable def crossStep (others : List Lamp) (due : List Int) (b : Lamp) : List Int := others.foldl (crossStep1 b) due
noncomputable def crossedL (ones others : List Lamp) : List Int := ones.foldl (crossStep others) (List.replicate 8 0)
noncomputable def CrJ1 (fs : List FarE) (X : List (Addr × Obj)) (du fl L' : Addr) (all : List Int) (ones : List Lamp) (r : List Value) (m : Str → Option Value) (n : List (Addr × Obj)) : Prop :=
  ∃ (row : List Lamp) (vs : List Value) (e : Nat) (p1 p2 : Obj) (ds : List Int), r = row.map (fun a => .ref a.l) ∧ (∀ b ∈ row, b ∈ ones) ∧ n = (du, listOf vs.toArray e) :: (L' + 1 + 1, p1) :: (L' + 1, p2) :: (fl, LCg.lst (fs.map fun f => Value.ref f.T)) :: X ∧
    (∃ v, p1.data = .cell v) ∧ (∃ v, p2.data = .cell v) ∧ IntsAre vs ds ∧ ds.length = 8 ∧ row.foldl (crossStep (fs.map FarE.b)) ds = all ∧ m (Str.ofString "due") = some (.ref du) ∧ m (Str.ofString "far") = some (.ref fl)
noncomputable def CrJ2 (fs : List FarE) (X : List (Addr × Obj)) (b : Lamp) (oR oI : Addr × Obj) (oh : Obj) (du fl L' : Addr) (all : List Int) (r : List Value) (m : Str → Option Value) (n : List (Addr × Obj)) : Prop :=
  ∃ (gs : List FarE) (vs : List Value) (e : Nat) (p1 : Obj) (ds : List Int), r = gs.map (fun f => .ref f.T) ∧ (∀ f ∈ gs, f ∈ fs) ∧ n = oR :: oI :: (du, listOf vs.toArray e) :: (L' + 1 + 1, p1) :: (L' + 1, oh) :: (fl, LCg.lst (fs.map fun f => Value.ref f.T)) :: X ∧
    (∃ v, p1.data = .cell v) ∧ IntsAre vs ds ∧ ds.length = 8 ∧ (gs.map FarE.b).foldl (crossStep1 b) ds = all ∧ m (Str.ofString "due") = some (.ref du) ∧ m (Str.ofString "far") = some (.ref fl) ∧ m (Str.ofString "lamp") = some (.ref b.l)
noncomputable def pwAt (d : Bool) (x : Int) : List Int := if d = true then [x] else []
noncomputable def pws (d0 d1 d2 : Bool) : Nat → List Int
  | 0 => []
  | 1 => pwAt d0 1
  | 2 => pwAt d0 1 ++ pwAt d1 2
  | _ => pwAt d0 1 ++ pwAt d1 2 ++ pwAt d2 4
theorem pwAt_yes {d : Bool} {x : Int} (h : d = true) : pwAt d x = [x] := if_pos h
theorem pwAt_no {d : Bool} {x : Int} (h : d = false) : pwAt d x = [] := if_neg (by rw [h]; decide)
theorem ia_snoc {vs : List Value} {ns : List Int} {x : Int} {t : Tok} (h : IntsAre vs ns) : IntsAre (vs ++ [.int x t]) (ns ++ [x]) := (IL.of_ints h).snoc.ints
theorem pws_sum (d0 d1 d2 : Bool) : 0 ≤ (pws d0 d1 d2 (0 + 3)).sum ∧ (pws d0 d1 d2 (0 + 3)).sum < 8 ∧ (pws d0 d1 d2 (0 + 3)).sum.toNat = (if d0 then 1 else 0) + (if d1 then 2 else 0) + (if d2 then 4 else 0) := by
  cases d0 <;> cases d1 <;> cases d2 <;> decide
theorem TurnEnd.next2 {h₀ : Heap} {L I : Addr} {it : Obj} {J : (Str → Option Value) → List (Addr × Obj) → Prop} {Q : Flow → Shared → Prop} {s₁ : Shared} {h' : Heap} {tk : Nat} {m' : Str → Option Value} {all : List (Addr × Obj)} (F : Fr h₀ L h' m') (N : News h₀ L h' all) (news' : List (Addr × Obj))
    (r : J m' news') (hI : (I, it) ∈ all) (sub : ∀ p ∈ news', p ∈ all) (off : ∀ p ∈ news', @Ne Nat p.1 I) : TurnEnd h₀ L s₁ I it J Q .next { s₁ with heap := h', toks := tk } :=
  UnrEnd.intro F N news' (fun p hp => by
    rcases List.mem_cons.mp hp with rfl | hp
    · exact hI
    · exact sub p hp) off r
noncomputable def crossed_c_St (w : World) (la : Addr) (lb : Addr) (ea : Nat) (eb : Nat) (ones : List Lamp) (others : List Lamp) : Prop :=
  ∀ (hones : ∀ b ∈ ones, b.Ok) (hob : others.length ≤ 1000), Ctr 350 1500 w (.call (.ref 205) ⟨[.ref la, .ref lb], []⟩) ((la, listOf (ones.map fun b => Value.ref b.l).toArray ea) :: (lb, listOf (others.map fun b => Value.ref b.l).toArray eb) :: (ones ++ others).map Lamp.ob) []
    (fun sz v n' => ∃ dl vs e, v = .ref dl ∧ IL vs (crossedL ones others) ∧ n' = [(dl, listOf vs.toArray e)] ∧ sz.get? dl = none)
set_option maxRecDepth 100000 in
set_option maxHeartbeats 8000000 in
theorem crossed_c_e : ∀ x : World × Addr × Addr × Nat × Nat × List Lamp × List Lamp, crossed_c_St x.1 x.2.1 x.2.2.1 x.2.2.2.1 x.2.2.2.2.1 x.2.2.2.2.2.1 x.2.2.2.2.2.2 := by
  refine byE (ne2 neW (ne2 neI (ne2 neI (ne2 neI (ne2 neI (ne2 neI neI)))))) ?_
  generalize eps _ _ = x9
  generalize x9.1 = w
  generalize x9.2.1 = la
  generalize x9.2.2.1 = lb
  generalize x9.2.2.2.1 = ea
  generalize x9.2.2.2.2.1 = eb
  generalize x9.2.2.2.2.2.1 = ones
  generalize x9.2.2.2.2.2.2 = others
  unfold crossed_c_St
  intro hones hob
  refine Ctr.mkE ?_
  generalize eps _ _ = c9
  dsimp only [CG]
  generalize c9.p = p
  generalize c9.loose = loose
  generalize c9.mean = mean
  generalize c9.mg = mg
  generalize c9.mb = mb
  generalize c9.gd = gd
  generalize c9.cn = cn
  generalize c9.cs = cs
  generalize c9.aa = aa
  generalize c9.ccd = ccd
  generalize c9.cl = cl'
  generalize c9.outer = outer
  generalize c9.A₀ = A₀
  generalize c9.base = base
  generalize c9.h₀ = h₀
  generalize c9.L = L
  generalize c9.m = m
  generalize c9.s = s
  generalize c9.Q = Q
  generalize c9.E = E
  intro B F X N I T hk hret
  k_dflt cell_enter
  rename_i g' L' h1 tk1 hL hG F1 B1 X1 T1 l1 o1 o2 d1 d2 N1
  revert g' L' h1 tk1 o1 o2
  refine curryE ?_
  refine curryE ?_
  refine curryE ?_
  refine byE (ne2 (ne2 (ne2 inferInstance inferInstance) inferInstance) inferInstance) ?_
  generalize (Prod.fst (Prod.fst (Prod.fst (eps _ _)))) = g'
  generalize (Prod.snd (Prod.fst (Prod.fst (eps _ _)))) = L'
  generalize (Prod.snd (Prod.fst (eps _ _))) = h1
  generalize (Prod.snd (eps _ _)) = tk1
  intro hL hG F1 B1 X1 T1
  refine curryE ?_
  refine byE (ne2 inferInstance inferInstance) ?_
  generalize (Prod.fst (eps _ _)) = o1
  generalize (Prod.snd (eps _ _)) = o2
  intro d1 d2 N1
  have hla : g'.IsList la (ones.map fun b => Value.ref b.l).toArray := ⟨_, hG _ _ (I _ (.head _)).1 (I _ (.head _)).2, rfl, _, rfl⟩
  have hlb : g'.IsList lb (others.map fun b => Value.ref b.l).toArray := ⟨_, hG _ _ (I _ (.tail _ (.head _))).1 (I _ (.tail _ (.head _))).2, rfl, _, rfl⟩
  have hlamp : ∀ b ∈ ones ++ others, g'.get? b.l = some (listOf b.vs.toArray 0) := fun b hb => hG _ _ (I _ (.tail _ (.tail _ (List.mem_map_of_mem (f := Lamp.ob) hb)))).1 (I _ (.tail _ (.tail _ (List.mem_map_of_mem (f := Lamp.ob) hb)))).2
  k_unmd
  k_fold
  k_steps
  unfold Halt
  rename Fr _ _ _ _ => F2
  rename News _ _ _ _ => N2
  rename_i du _h1 iL _n1 _s1 _e1 _e2 _e3 l2 _h2
  refine LCg.CompSrc.base (by rfl) F2 (news := [(du, listOf (List.replicate (Int.toNat 8) [Value.int 0 tk1]).flatten.toArray 0), (L' + 1 + 1, o1), (L' + 1, o2)]) (fun p hp => N2 p (SubL.mem (by k_subL) p hp)) hlb (by rw [PySem.sizeLine_eq]; simp; omega) ?_
  intro g3
  clear N2 F2
  refine turns_inv (fun i ys news => ∃ fs : List FarE, fs.map FarE.b = others.take i ∧ ys = fs.map (fun f => Value.ref f.T) ∧ (∀ p ∈ farOs fs, @Ne Nat p.1 du ∧ @Ne Nat p.1 (L' + 1 + 1) ∧ @Ne Nat p.1 (L' + 1)) ∧ news = farOs fs ++ [(du, listOf (List.replicate (Int.toNat 8) [Value.int 0 tk1]).flatten.toArray 0), (L' + 1 + 1, o1), (L' + 1, o2)]) ?_ ?_ _ 0 [] _ (Nat.zero_add _) ⟨[], rfl, rfl, (fun _ h => nomatch h), rfl⟩
  · rintro i v I' oI' C' oC' D' m' ys' news' h' tk' E' hi hv ⟨fs, hfs, rfl, hfn, hnews⟩ hC' hx' F' N' off' ne'
    obtain ⟨b, hb, rfl⟩ : ∃ b, others[i]? = some b ∧ v = .ref b.l := by
      simp only [List.getElem?_toArray, List.getElem?_map] at hv
      cases e : others[i]? with
      | none => rw [e] at hv; cases hv
      | some b => rw [e] at hv; exact ⟨b, rfl, (Option.some.inj hv).symm⟩
    have hbm : b ∈ ones ++ others := List.mem_append_right _ (List.mem_of_getElem? hb)
    have hbl := hlamp b hbm
    have hbl' : g'.IsList b.l [Value.int b.lo b.t0, .int b.hi b.t1, .int b.la b.t2, .int b.x3 b.t3, .int b.x4 b.t4, .int b.x5 b.t5].toArray := ⟨_, hbl, rfl, _, rfl⟩
    k_steps
    unfold Halt
    rename Fr _ _ _ _ => F4
    rename News _ _ _ _ => N4
    refine Ctr.use0 (near_c w b.lo b.hi b.la b.x3 b.x4 b.x5 b.t0 b.t1 b.t2 b.t3 b.t4 b.t5 b.l) (Nat.le_of_ble_eq_true rfl) (Nat.le_of_ble_eq_true rfl) (by k_asm) F4 (by k_asm) N4 (by k_asm) (by first | rfl | assumption) (fun q hq => by rw [List.mem_singleton.mp hq]; exact F4.keep _ _ hbl) ?_
    rintro sz5 _ _ h5 tk5 ⟨r5, e5, rfl, rfl, hfr⟩ hsz5 F5 N5
    dsimp only [List.cons_append, List.nil_append] at N5
    k_steps
    rename Fr _ _ _ _ => F6
    rename News _ _ _ _ => N6
    rename (@LT.lt Nat _ r5 _ ∧ _) => l6
    have rne : ∀ q ∈ (I', oI') :: (C', oC') :: (D', LCg.lst (List.map (fun f : FarE => Value.ref f.T) fs)) :: news', q.1 ≠ r5 := fun q hq e => by
      have := hsz5 q hq
      rw [e, hfr] at this; cases this
    refine LCg.CompEnd.intro F6 N6 (farOs (fs ++ [⟨_, r5, e5, b.t5, b⟩]) ++ [(du, listOf (List.replicate (Int.toNat 8) [Value.int 0 tk1]).flatten.toArray 0), (L' + 1 + 1, o1), (L' + 1, o2)]) ?_ (LCg.Off3.of ?_) (.inl hlb) ⟨fs ++ [⟨_, r5, e5, b.t5, b⟩], by rw [List.map_append, hfs, List.take_add_one, hb]; rfl, by rw [List.map_append]; rfl, ?_, rfl⟩
    · intro p hp
      rcases List.mem_cons.mp hp with rfl | hp
      · exact .tail _ (.tail _ (.head _))
      rcases List.mem_cons.mp hp with rfl | hp
      · exact .tail _ (.tail _ (.tail _ (.head _)))
      rcases List.mem_cons.mp hp with rfl | hp
      · exact .tail _ (.tail _ (.tail _ (.tail _ (.head _))))
      have : p ∈ farOs fs ++ [(du, listOf (List.replicate (Int.toNat 8) [Value.int 0 tk1]).flatten.toArray 0), (L' + 1 + 1, o1), (L' + 1, o2)] ∨ p = FarE.o1 ⟨_, r5, e5, b.t5, b⟩ ∨ p = FarE.o2 ⟨_, r5, e5, b.t5, b⟩ := farOs_snoc hp
      rcases this with h | rfl | rfl
      · rw [← hnews] at h; exact .tail _ (.tail _ (.tail _ (.tail _ (.tail _ h))))
      · exact .head _
      · exact .tail _ (.head _)
    · intro p hp
      have : p ∈ farOs fs ++ [(du, listOf (List.replicate (Int.toNat 8) [Value.int 0 tk1]).flatten.toArray 0), (L' + 1 + 1, o1), (L' + 1, o2)] ∨ p = FarE.o1 ⟨_, r5, e5, b.t5, b⟩ ∨ p = FarE.o2 ⟨_, r5, e5, b.t5, b⟩ := farOs_snoc hp
      rcases this with h | rfl | rfl
      · rw [← hnews] at h; exact off'.mem p h
      · dsimp only [FarE.o1]
        exact ⟨Ne.symm (Nat.ne_of_lt l6.2.1), Ne.symm (Nat.ne_of_lt l6.2.2.1), Ne.symm (Nat.ne_of_lt l6.2.2.2.1)⟩
      · exact ⟨Ne.symm (rne _ (.head _)), Ne.symm (rne _ (.tail _ (.head _))), Ne.symm (rne _ (.tail _ (.tail _ (.head _))))⟩
    · intro p hp
      have hin : ∀ q ∈ [(du, listOf (List.replicate (Int.toNat 8) [Value.int 0 tk1]).flatten.toArray 0), (L' + 1 + 1, o1), (L' + 1, o2)], q ∈ news' := fun q hq => by rw [hnews]; exact List.mem_append_right _ hq
      have : p ∈ farOs fs ++ [] ∨ p = FarE.o1 ⟨_, r5, e5, b.t5, b⟩ ∨ p = FarE.o2 ⟨_, r5, e5, b.t5, b⟩ := farOs_snoc (by rw [List.append_nil]; exact hp)
      rcases this with h | rfl | rfl
      · rw [List.append_nil] at h; exact hfn p h
      · dsimp only [FarE.o1]
        exact ⟨Ne.symm (Nat.ne_of_lt (allLt_mem l6.2.2.2.2 (hin _ (.head _)))), Ne.symm (Nat.ne_of_lt (allLt_mem l6.2.2.2.2 (hin _ (.tail _ (.head _))))), Ne.symm (Nat.ne_of_lt (allLt_mem l6.2.2.2.2 (hin _ (.tail _ (.tail _ (.head _))))))⟩
      · have k := fun q hq => rne q (.tail _ (.tail _ (.tail _ (hin q hq))))
        exact ⟨Ne.symm (k _ (.head _)), Ne.symm (k _ (.tail _ (.head _))), Ne.symm (k _ (.tail _ (.tail _ (.head _))))⟩
  · rintro ys news ⟨fs, hfs, rfl, hfn, rfl⟩
    have hfs' : fs.map FarE.b = others := by rw [hfs]; simp
    k_steps
    rename Fr _ _ _ _ => F7
    with_unfolding_all refine' For_invVF F7 ?fk1 ?fk2 ?_
    case fk1 => exact rfl
    case fk2 => exact rfl
    k_steps
    unfold Halt
    rename News _ _ _ _ => N7
    rename_i fl _h3 _tk3 ofl
    have hX : ∀ p ∈ farOs fs, @Ne Nat p.1 du ∧ @Ne Nat p.1 (L' + 1 + 1) ∧ @Ne Nat p.1 (L' + 1) ∧ @Ne Nat p.1 fl := fun p hp => ⟨(hfn p hp).1, (hfn p hp).2.1, (hfn p hp).2.2, off1_mem ofl (List.mem_append_left _ hp)⟩
    have hfl1 : @Ne Nat du fl := off1_mem ofl (List.mem_append_right _ (.head _))
    have hfl2 : @Ne Nat (L' + 1 + 1) fl := off1_mem ofl (List.mem_append_right _ (.tail _ (.head _)))
    have hfl3 : @Ne Nat (L' + 1) fl := off1_mem ofl (List.mem_append_right _ (.tail _ (.tail _ (.head _))))
    have hX1 : ∀ p ∈ farOs fs, @Ne Nat p.1 du := fun p hp => (hX p hp).1
    have hX2 : ∀ p ∈ farOs fs, @Ne Nat p.1 (L' + 1 + 1) := fun p hp => (hX p hp).2.1
    have hX3 : ∀ p ∈ farOs fs, @Ne Nat p.1 (L' + 1) := fun p hp => (hX p hp).2.2.1
    have hXm : ∀ f ∈ fs, f.o1 ∈ farOs fs ∧ f.o2 ∈ farOs fs := fun f hf => farOs_mem hf
    clear ofl
    generalize farOs fs = X at hX hXm hX1 hX2 hX3 N7
    with_unfolding_all refine iter_listH (by rfl) F7 (news := (du, listOf (List.replicate (Int.toNat 8) [Value.int 0 tk1]).flatten.toArray 0) :: (L' + 1 + 1, o1) :: (L' + 1, o2) :: (fl, LCg.lst (fs.map fun f => Value.ref f.T)) :: X) ?_ hla ?_
    · intro p hp
      rcases List.mem_cons.mp hp with rfl | hp
      · exact N7 _ (.tail _ (List.mem_append_right _ (.head _)))
      rcases List.mem_cons.mp hp with rfl | hp
      · exact N7 _ (.tail _ (List.mem_append_right _ (.tail _ (.head _))))
      rcases List.mem_cons.mp hp with rfl | hp
      · exact N7 _ (.tail _ (List.mem_append_right _ (.tail _ (.tail _ (.head _)))))
      rcases List.mem_cons.mp hp with rfl | hp
      · exact N7 _ (.head _)
      · exact N7 _ (.tail _ (List.mem_append_left _ hp))
    intro I1 l8
    k_lt l8
    have hXI : ∀ p ∈ X, @LT.lt Nat _ p.1 I1 := fun p hp => allLt_mem l8.2.2.2.2 hp
    clear N7 F7
    refine list_byH (CrJ1 fs X du fl L' (crossedL ones others) ones) ?_ ?_ _ _ _ ?_
    · rintro v r m' news h tk it ⟨onesR, vs, e, p1, p2, ds, hr, hsub, rfl, ⟨c1, hp1⟩, ⟨c2, hp2⟩, hds, hdl, hall, hm1, hm2⟩ F8 N8 hit
      obtain ⟨b, row'', rfl, rfl, rfl⟩ : ∃ b row'', onesR = b :: row'' ∧ v = .ref b.l ∧ r = row''.map (fun a => .ref a.l) := by
        match onesR, hr with
        | [], hr => cases hr
        | b :: row'', hr => obtain ⟨h1, h2⟩ := List.cons.inj hr; exact ⟨b, row'', rfl, h1, h2⟩
      obtain ⟨hx5, hx5'⟩ := (hones b (hsub b (.head _))).h5
      have hbm : b ∈ ones ++ others := List.mem_append_left _ (hsub b (.head _))
      have hbl := hlamp b hbm
      have hbl' : g'.IsList b.l [Value.int b.lo b.t0, .int b.hi b.t1, .int b.la b.t2, .int b.x3 b.t3, .int b.x4 b.t4, .int b.x5 b.t5].toArray := ⟨_, hbl, rfl, _, rfl⟩
      replace F8 := frX [(Str.ofString "due", .ref _), (Str.ofString "far", .ref _)] (by intro p hp; rcases List.mem_cons.mp hp with rfl | hp; exact hm1; rw [List.mem_singleton.mp hp]; exact hm2) F8
      dsimp only [kstB] at F8
      k_steps
      unfold Halt
      rename Fr _ _ _ _ => F9
      rename News _ _ _ _ => N9
      refine Ctr.use0 (near_c w b.lo b.hi b.la b.x3 b.x4 b.x5 b.t0 b.t1 b.t2 b.t3 b.t4 b.t5 b.l) (Nat.le_of_ble_eq_true rfl) (Nat.le_of_ble_eq_true rfl) (by k_asm) F9 (by k_asm) N9 (by k_asm) (by first | rfl | assumption) (fun q hq => by rw [List.mem_singleton.mp hq]; exact F9.keep _ _ hbl) ?_
      rintro sz10 _ _ h10 tk10 ⟨rh, eh, rfl, rfl, hfr10⟩ hsz10 F10 N10
      dsimp only [List.cons_append, List.nil_append] at N10
      have rne : ∀ q ∈ (I1, it) :: (du, listOf vs.toArray e) :: (L' + 1 + 1, p1) :: (L' + 1, p2) :: (fl, LCg.lst (fs.map fun f => Value.ref f.T)) :: X, @Ne Nat q.1 rh := fun q hq e => by
        have := hsz10 q hq
        have e' : q.1 = rh := e
        rw [e', hfr10] at this; cases this
      have r1 := rne _ (.head _)
      have r2 := rne _ (.tail _ (.head _))
      have r3 := rne _ (.tail _ (.tail _ (.head _)))
      have r4 := rne _ (.tail _ (.tail _ (.tail _ (.head _))))
      have r5 := rne _ (.tail _ (.tail _ (.tail _ (.tail _ (.head _)))))
      have rX : ∀ p ∈ X, @Ne Nat p.1 rh := fun p hp => rne p (.tail _ (.tail _ (.tail _ (.tail _ (.tail _ hp)))))
      clear hsz10
      dsimp only at r1 r2 r3 r4 r5
      have l9 := l2.2
      k_steps
      rename Fr _ _ _ _ => F11
      rename News _ _ _ _ => N11
      rename_i h11 oh d11
      replace N11 : News g' L' h11 ((rh, listOf (b.near.map Value.bool).toArray eh) :: (I1, it) :: (du, listOf vs.toArray e) :: (L' + 1 + 1, p1) :: (L' + 1, oh) :: (fl, LCg.lst (fs.map fun f => Value.ref f.T)) :: X) := N11
      with_unfolding_all refine For_turns F11 ?_
      k_steps
      unfold Halt
      with_unfolding_all refine iter_listTurns (lo := LCg.lst (fs.map fun f : FarE => Value.ref f.T)) (vs := fs.map fun f : FarE => Value.ref f.T) (by rfl) F11 (news := (rh, listOf (b.near.map Value.bool).toArray eh) :: (I1, it) :: (du, listOf vs.toArray e) :: (L' + 1 + 1, p1) :: (L' + 1, oh) :: (fl, LCg.lst (fs.map fun f : FarE => Value.ref f.T)) :: X) N11 (.tail _ (.tail _ (.tail _ (.tail _ (.tail _ (.head _)))))) (by rfl) (by rfl) ?_
      intro I2 l10
      k_lt l10
      have hXI2 : ∀ p ∈ X, @Ne Nat p.1 I2 := fun p hp => Nat.ne_of_lt (allLt_mem l10.2.2.2.2.2.2 hp)
      clear N11 F11
      refine vals_by (CrJ2 fs X b (rh, listOf (b.near.map Value.bool).toArray eh) (I1, it) oh du fl L' (crossStep (fs.map FarE.b) ds b)) ?_ ?_ _ _ _ ?_
      · rintro v r m2 news h tk it2 ⟨gs, vs2, e2, p12, ds2, hr2, hsub2, rfl, ⟨c12, hp12⟩, hds2, hdl2, hall2, hm21, hm22, hm23⟩ F12 hit2 N12
        obtain ⟨f, gs', rfl, rfl, rfl⟩ : ∃ f gs', gs = f :: gs' ∧ v = .ref f.T ∧ r = gs'.map (fun f => .ref f.T) := by
          match gs, hr2 with
          | [], hr => cases hr
          | b :: row'', hr => obtain ⟨h1, h2⟩ := List.cons.inj hr; exact ⟨b, row'', rfl, h1, h2⟩
        have hfm := hXm f (hsub2 f (.head _))
        obtain ⟨q0, q1, q2, hq⟩ : ∃ q0 q1 q2, b.near = [q0, q1, q2] := ⟨_, _, _, rfl⟩
        obtain ⟨y0, y1, y2, hy⟩ : ∃ y0 y1 y2, f.b.near = [y0, y1, y2] := ⟨_, _, _, rfl⟩
        have a1 := hX1 _ hfm.1
        have a2 := hX2 _ hfm.1
        have a3 := hX3 _ hfm.1
        have a4 := hX1 _ hfm.2
        have a5 := hX2 _ hfm.2
        have a6 := hX3 _ hfm.2
        have a7 := hXI2 _ hfm.1
        have a8 := hXI2 _ hfm.2
        have N13 : News g' L' h ((f.T, tupO #[.ref f.r, .int f.b.x5 f.t]) :: (f.r, listOf [Value.bool y0, .bool y1, .bool y2].toArray f.e) :: (I2, it2) :: (rh, listOf [Value.bool q0, .bool q1, .bool q2].toArray eh) :: (I1, it) :: (du, listOf vs2.toArray e2) :: (L' + 1 + 1, p12) :: (L' + 1, oh) :: (fl, LCg.lst (fs.map fun f => Value.ref f.T)) :: X) := by
          have hy' : (f.r, listOf [Value.bool y0, .bool y1, .bool y2].toArray f.e) = f.o2 := by unfold FarE.o2; rw [hy]; rfl
          rw [hq] at N12
          intro p hp
          rcases List.mem_cons.mp hp with rfl | hp
          · exact N12 _ (.tail _ (.tail _ (.tail _ (.tail _ (.tail _ (.tail _ (.tail _ hfm.1)))))))
          rcases List.mem_cons.mp hp with rfl | hp
          · rw [hy']; exact N12 _ (.tail _ (.tail _ (.tail _ (.tail _ (.tail _ (.tail _ (.tail _ hfm.2)))))))
          · exact N12 _ hp
        clear N12
        dsimp only [FarE.o1, FarE.o2] at a1 a2 a3 a4 a5 a6 a7 a8
        replace F12 := frL [(Str.ofString "due", .ref _), (Str.ofString "far", .ref _), (Str.ofString "lamp", .ref _)] (by intro p hp; rcases List.mem_cons.mp hp with rfl | hp; exact hm21; rcases List.mem_cons.mp hp with rfl | hp; exact hm22; rw [List.mem_singleton.mp hp]; exact hm23) F12
        dsimp only [kstB] at F12
        k_steps
        unfold Halt
        rename IsRange _ _ _ _ _ _ _ _ => R14
        rename Fr g' L' _ _ => F14
        rename News g' L' _ _ => N14
        rename_i _ o12 d12 _ _ _ _ _ _ _ _
        refine LCt.CompSrcT.range (n := 3) (by rfl) F14 N14 R14 (by decide) (by decide) (by rw [PySem.sizeLine_eq]; omega) ?_
        intro g15
        clear F14 N14 R14
        refine turnsT_inv (fun i ys news => IntsAre ys (pws (q0 != y0) (q1 != y1) (q2 != y2) i) ∧ news = _) ?_ ?_ 3 0 [] _ rfl ⟨.nil, rfl⟩
        · rintro i v I' oI' C' oC' D' m' ys' news' h' tk' E' hi ⟨u, hv⟩ ⟨hys, rfl⟩ hC' hx' F' N' off' ne'
          rcases (by omega : i = 0 ∨ i = 1 ∨ i = 2) with rfl | rfl | rfl
          · obtain rfl : v = .int 0 u := hv
            k_steps
            all_goals
              rename Fr g' L' _ _ => F16
              rename News g' L' _ _ => N16
              refine LCg.CompEnd.intro F16 N16 _ (fun _ h => h) (by simp only [LCg.Off3, and_true] at off' ⊢; exact off') trivial ⟨?_, rfl⟩
            · show IntsAre _ (pwAt _ 1); rw [pwAt_yes (by assumption)]; exact ia_snoc (ns := []) hys
            · show IntsAre _ (pwAt _ 1); rw [pwAt_no (by assumption)]; exact hys
          · obtain rfl : v = .int 1 u := hv
            k_steps
            all_goals
              rename Fr g' L' _ _ => F16
              rename News g' L' _ _ => N16
              refine LCg.CompEnd.intro F16 N16 _ (fun _ h => h) (by simp only [LCg.Off3, and_true] at off' ⊢; exact off') trivial ⟨?_, rfl⟩
            · show IntsAre _ (pwAt _ 1 ++ pwAt _ 2); rw [pwAt_yes (d := q1 != y1) (by assumption)]; exact ia_snoc hys
            · show IntsAre _ (pwAt _ 1 ++ pwAt _ 2); rw [pwAt_no (d := q1 != y1) (by assumption), List.append_nil]; exact hys
          · obtain rfl : v = .int 2 u := hv
            k_steps
            all_goals
              rename Fr g' L' _ _ => F16
              rename News g' L' _ _ => N16
              refine LCg.CompEnd.intro F16 N16 _ (fun _ h => h) (by simp only [LCg.Off3, and_true] at off' ⊢; exact off') trivial ⟨?_, rfl⟩
            · show IntsAre _ (pwAt _ 1 ++ pwAt _ 2 ++ pwAt _ 4); rw [pwAt_yes (d := q2 != y2) (by assumption)]; exact ia_snoc hys
            · show IntsAre _ (pwAt _ 1 ++ pwAt _ 2 ++ pwAt _ 4); rw [pwAt_no (d := q2 != y2) (by assumption), List.append_nil]; exact hys
        · rintro ys news ⟨hys, rfl⟩
          obtain ⟨hk0, hk8, hkd⟩ := pws_sum (q0 != y0) (q1 != y1) (q2 != y2)
          have hkt : (pws (q0 != y0) (q1 != y1) (q2 != y2) (0 + 3)).sum < ds2.length := by omega
          k_steps
          rename Fr g' L' _ _ => F17
          rename News g' L' _ _ => N17
          rename IntsAre (vs2.set _ _) _ => hi17
          have hkk : diffN b.near f.b.near = (pws (q0 != y0) (q1 != y1) (q2 != y2) (0 + 3)).sum.toNat := by rw [hkd, hq, hy]; rfl
          have hst : crossStep1 b ds2 f.b = ds2.set (pws (q0 != y0) (q1 != y1) (q2 != y2) (0 + 3)).sum.toNat (ds2.getD (pws (q0 != y0) (q1 != y1) (q2 != y2) (0 + 3)).sum.toNat 0 + b.x5 * f.b.x5) := by unfold crossStep1; rw [hkk]
          have hqq : (rh, listOf (b.near.map Value.bool).toArray eh) = (rh, listOf [Value.bool q0, .bool q1, .bool q2].toArray eh) := by rw [hq]; rfl
          refine TurnEndW.next _ F17 (by rw [hqq]; exact fun p hp => N17 p (.tail _ (.tail _ (.tail _ hp)))) (fun p hp q hq9 => by rw [List.mem_singleton.mp hq9]; exact Nat.ne_of_lt (allLt_mem (by exact l10) hp)) ⟨⟨.tail _ (.tail _ (.tail _ (.tail _ (.tail _ (.head _))))), trivial⟩, gs', _, e2, _, _, rfl, fun c hc => hsub2 c (.tail _ hc), rfl, ⟨_, by assumption⟩, hi17, by rw [List.length_set]; exact hdl2, ?_, rfl, rfl, rfl⟩
          rw [← hall2, ← hst]
          rfl
      · rintro m2 news h tk ⟨gs, vs2, e2, p12, ds2, hr2, hsub2, rfl, ⟨c12, hp12⟩, hds2, hdl2, hall2, hm21, hm22, hm23⟩ F12 N12
        obtain rfl : gs = [] := by cases gs with | nil => rfl | cons _ _ => cases hr2
        have hall3 : ds2 = crossStep (fs.map FarE.b) ds b := hall2
        k_steps
        have l8' : AllLt I1 ((du, listOf vs2.toArray e2) :: (L' + 1 + 1, p12) :: (L' + 1, oh) :: (fl, LCg.lst (fs.map fun f : FarE => Value.ref f.T)) :: X) := l8
        refine TurnEnd.next2 F12 N12 ((du, listOf vs2.toArray e2) :: (L' + 1 + 1, p12) :: (L' + 1, oh) :: (fl, LCg.lst (fs.map fun f : FarE => Value.ref f.T)) :: X) ⟨row'', vs2, e2, p12, oh, ds2, rfl, fun c hc => hsub c (.tail _ hc), rfl, ⟨_, hp12⟩, ⟨_, d11⟩, hds2, hdl2, by rw [← hall, hall3]; rfl, hm21, hm22⟩ (.tail _ (.head _)) (fun p hp => .tail _ (.tail _ hp)) (fun p hp => Nat.ne_of_lt (allLt_mem l8' hp))
      · exact ⟨fs, vs, e, p1, ds, rfl, fun _ h => h, rfl, ⟨_, hp1⟩, hds, hdl, rfl, rfl, rfl, rfl⟩
    · rintro m' news h tk ⟨onesR, vs, e, p1, p2, ds, hr, hsub, rfl, ⟨c1, hp1⟩, ⟨c2, hp2⟩, hds, hdl, hall, hm1, hm2⟩ F8 N8
      obtain rfl : onesR = [] := by cases onesR with | nil => rfl | cons _ _ => cases hr
      have hall' : ds = crossedL ones others := hall
      subst hall'
      replace F8 := frL [(Str.ofString "due", .ref _), (Str.ofString "far", .ref _)] (by intro p hp; rcases List.mem_cons.mp hp with rfl | hp; exact hm1; rw [List.mem_singleton.mp hp]; exact hm2) F8
      dsimp only [kstB] at F8
      k_steps
      rename News h₀ L _ _ => N9
      exact hret _ _ _ _ ⟨du, vs, e, rfl, IL.of_ints hds, rfl, fresh0 N8 (.head _) hG⟩ (by assumption) (fun p hp => N9 p (by rw [List.mem_singleton.mp hp]; exact .head _)) (by assumption)
    · exact ⟨ones, _, 0, o1, o2, _, rfl, fun _ h => h, rfl, ⟨_, d1⟩, ⟨_, d2⟩, iL, rfl, by rw [hfs']; rfl, rfl, rfl⟩
theorem crossed_c (w : World) (la lb : Addr) (ea eb : Nat) (ones others : List Lamp) (hones : ∀ b ∈ ones, b.Ok) (hob : others.length ≤ 1000) :
  Ctr 350 1500 w (.call (.ref 205) ⟨[.ref la, .ref lb], []⟩) ((la, listOf (ones.map fun b => Value.ref b.l).toArray ea) :: (lb, listOf (others.map fun b => Value.ref b.l).toArray eb) :: (ones ++ others).map Lamp.ob) []
    (fun sz v n' => ∃ dl vs e, v = .ref dl ∧ IL vs (crossedL ones others) ∧ n' = [(dl, listOf vs.toArray e)] ∧ sz.get? dl = none) := crossed_c_e (w, la, lb, ea, eb, ones, others) hones hob
end
theorem reset17 : True := by w_top off; trivial
section
-- CLamp
open PySem PySem.W PyProof.Rows PySem.Spec PySem.Calls
noncomputable def numN (x : Int) : Int := x.fmod (10 ^ Int.toNat 12)
structure Lamp.Is (b : Lamp) (x : Int) : Prop where
  e0 : (b.lo : Int) = (numN x).fmod 8
  e1 : (b.hi : Int) = ((numN x).fdiv 8).fmod 8
  e2 : (b.la : Int) = ((numN x).fdiv 64).fmod 8
  e3 : b.x3 = ((numN x).fdiv 512).fmod 3
  e4 : b.x4 = ((numN x).fdiv 1536).fmod 4
  e5 : b.x5 = ((numN x).fdiv 6144).fmod 1999 - 999
theorem fm (x : Int) {n : Int} (h : 0 < n) : 0 ≤ x.fmod n ∧ x.fmod n < n := ⟨Int.fmod_nonneg_of_pos _ h, Int.fmod_lt_of_pos _ h⟩
theorem Lamp.Is.ok {b : Lamp} {x : Int} (h : b.Is x) : b.Ok := by
  have a0 := fm (numN x) (n := 8) (by decide)
  have a1 := fm ((numN x).fdiv 8) (n := 8) (by decide)
  have a2 := fm ((numN x).fdiv 64) (n := 8) (by decide)
  have a5 := fm ((numN x).fdiv 6144) (n := 1999) (by decide)
  rw [← h.e0] at a0; rw [← h.e1] at a1; rw [← h.e2] at a2
  have e5 := h.e5
  exact ⟨by omega, by omega, by omega, by omega, by omega⟩
theorem Lamp.Is.b3 {b : Lamp} {x : Int} (h : b.Is x) : 0 ≤ b.x3 ∧ b.x3 < 3 := by rw [h.e3]; exact fm _ (by decide)
theorem Lamp.Is.b4 {b : Lamp} {x : Int} (h : b.Is x) : 0 ≤ b.x4 ∧ b.x4 < 4 := by rw [h.e4]; exact fm _ (by decide)
noncomputable def lamp_c_St (w : World) (x : Int) (t : Tok) : Prop :=
  Ctr 400 3000 w (.call (.ref 161) ⟨[.int x t], []⟩) [] [] (fun sz v n' => ∃ b : Lamp, v = .ref b.l ∧ b.Is x ∧ n' = [b.ob] ∧ sz.get? b.l = none)
set_option maxRecDepth 100000 in
set_option maxHeartbeats 8000000 in
theorem lamp_c_e : ∀ x : World × Int × Tok, lamp_c_St x.1 x.2.1 x.2.2 := by
  refine byE (ne2 neW (ne2 neI neI)) ?_
  generalize eps _ _ = x9
  generalize x9.1 = w
  generalize x9.2.1 = x
  generalize x9.2.2 = t
  unfold lamp_c_St
  refine Ctr.mkE ?_
  generalize eps _ _ = c9
  dsimp only [CG]
  generalize c9.p = p
  generalize c9.loose = loose
  generalize c9.mean = mean
  generalize c9.mg = mg
  generalize c9.mb = mb
  generalize c9.gd = gd
  generalize c9.cn = cn
  generalize c9.cs = cs
  generalize c9.aa = aa
  generalize c9.ccd = ccd
  generalize c9.cl = cl'
  generalize c9.outer = outer
  generalize c9.A₀ = A₀
  generalize c9.base = base
  generalize c9.h₀ = h₀
  generalize c9.L = L
  generalize c9.m = m
  generalize c9.s = s
  generalize c9.Q = Q
  generalize c9.E = E
  intro B F X N I T hk hret
  k_dflt cell_enter
  rename_i g' L' h1 hL hG F1 N1 B1 X1 T1
  revert g' L' h1
  refine curryE ?_
  refine curryE ?_
  refine byE (ne2 (ne2 inferInstance inferInstance) inferInstance) ?_
  generalize (Prod.fst (Prod.fst (eps _ _))) = g'
  generalize (Prod.snd (Prod.fst (eps _ _))) = L'
  generalize (Prod.snd (eps _ _)) = h1
  intro hL hG F1 N1 B1 X1 T1
  k_unmd
  k_fold
  k_steps
  rename News h₀ L _ _ => N9
  rename News g' L' _ _ => N8
  have q0 : (((numN x).fmod 8).toNat : Int) = (numN x).fmod 8 := Int.toNat_of_nonneg (fm _ (by decide)).1
  have q1 : ((((numN x).fdiv 8).fmod 8).toNat : Int) = ((numN x).fdiv 8).fmod 8 := Int.toNat_of_nonneg (fm _ (by decide)).1
  have q2 : ((((numN x).fdiv 64).fmod 8).toNat : Int) = ((numN x).fdiv 64).fmod 8 := Int.toNat_of_nonneg (fm _ (by decide)).1
  have key : ∀ (T0 T1 T2 T3 T4 T5 : Tok) (l : Addr) (h : Heap) (tk : Nat), News h₀ L h [(l, listOf #[Value.int ((numN x).fmod 8) T0, .int (((numN x).fdiv 8).fmod 8) T1, .int (((numN x).fdiv 64).fmod 8) T2, .int (((numN x).fdiv 512).fmod 3) T3, .int (((numN x).fdiv 1536).fmod 4) T4, .int (((numN x).fdiv 6144).fmod 1999 - 999) T5] 0)] → g'.get? l = none → Fr h₀ L h m → Kept [] s.heap h → Q (.ref l) { s with heap := h, toks := tk } := by
    intro T0 T1 T2 T3 T4 T5 l h tk N9 hl F9 K9
    refine hret (.ref l) [Lamp.ob ⟨l, ((numN x).fmod 8).toNat, (((numN x).fdiv 8).fmod 8).toNat, (((numN x).fdiv 64).fmod 8).toNat, ((numN x).fdiv 512).fmod 3, ((numN x).fdiv 1536).fmod 4, ((numN x).fdiv 6144).fmod 1999 - 999, T0, T1, T2, T3, T4, T5⟩] _ _ ⟨_, rfl, ⟨q0, q1, q2, rfl, rfl, rfl⟩, rfl, ?_⟩ F9 ?_ K9
    · cases e : s.heap.get? l with
      | none => rfl
      | some o =>
        have := hG _ _ e (fun _ hq => nomatch hq)
        rw [hl] at this; cases this
    · unfold Lamp.ob Lamp.vs lampL
      dsimp only
      rw [q0, q1, q2]
      exact N9
  exact key _ _ _ _ _ _ _ _ _ N9 (N8 _ (.head _)).2.2 (by assumption) (by assumption)
theorem lamp_c (w : World) (x : Int) (t : Tok) :
  Ctr 400 3000 w (.call (.ref 161) ⟨[.int x t], []⟩) [] [] (fun sz v n' => ∃ b : Lamp, v = .ref b.l ∧ b.Is x ∧ n' = [b.ob] ∧ sz.get? b.l = none) := lamp_c_e (w, x, t) 
end
section
-- WH
open PySem PySem.W PyProof.Rows PySem.Spec PySem.Calls
theorem wh0 (a0 a1 a2 a3 a4 a5 a6 a7 b0 b1 b2 b3 b4 b5 b6 b7 : Int) : (a0 + a1 + a2 + a3 + a4 + a5 + a6 + a7) * (b0 + b1 + b2 + b3 + b4 + b5 + b6 + b7) + (a0 - a1 + a2 - a3 + a4 - a5 + a6 - a7) * (b0 - b1 + b2 - b3 + b4 - b5 + b6 - b7) + (a0 + a1 - a2 - a3 + a4 + a5 - a6 - a7) * (b0 + b1 - b2 - b3 + b4 + b5 - b6 - b7) + (a0 - a1 - a2 + a3 + a4 - a5 - a6 + a7) * (b0 - b1 - b2 + b3 + b4 - b5 - b6 + b7) + (a0 + a1 + a2 + a3 - a4 - a5 - a6 - a7) * (b0 + b1 + b2 + b3 - b4 - b5 - b6 - b7) + (a0 - a1 + a2 - a3 - a4 + a5 - a6 + a7) * (b0 - b1 + b2 - b3 - b4 + b5 - b6 + b7) + (a0 + a1 - a2 - a3 - a4 - a5 + a6 + a7) * (b0 + b1 - b2 - b3 - b4 - b5 + b6 + b7) + (a0 - a1 - a2 + a3 - a4 + a5 + a6 - a7) * (b0 - b1 - b2 + b3 - b4 + b5 + b6 - b7) = (a0 * b0 + a1 * b1 + a2 * b2 + a3 * b3 + a4 * b4 + a5 * b5 + a6 * b6 + a7 * b7) * 8 := by grind
theorem wh1 (a0 a1 a2 a3 a4 a5 a6 a7 b0 b1 b2 b3 b4 b5 b6 b7 : Int) : (a0 + a1 + a2 + a3 + a4 + a5 + a6 + a7) * (b0 + b1 + b2 + b3 + b4 + b5 + b6 + b7) - (a0 - a1 + a2 - a3 + a4 - a5 + a6 - a7) * (b0 - b1 + b2 - b3 + b4 - b5 + b6 - b7) + (a0 + a1 - a2 - a3 + a4 + a5 - a6 - a7) * (b0 + b1 - b2 - b3 + b4 + b5 - b6 - b7) - (a0 - a1 - a2 + a3 + a4 - a5 - a6 + a7) * (b0 - b1 - b2 + b3 + b4 - b5 - b6 + b7) + (a0 + a1 + a2 + a3 - a4 - a5 - a6 - a7) * (b0 + b1 + b2 + b3 - b4 - b5 - b6 - b7) - (a0 - a1 + a2 - a3 - a4 + a5 - a6 + a7) * (b0 - b1 + b2 - b3 - b4 + b5 - b6 + b7) + (a0 + a1 - a2 - a3 - a4 - a5 + a6 + a7) * (b0 + b1 - b2 - b3 - b4 - b5 + b6 + b7) - (a0 - a1 - a2 + a3 - a4 + a5 + a6 - a7) * (b0 - b1 - b2 + b3 - b4 + b5 + b6 - b7) = (a0 * b1 + a1 * b0 + a2 * b3 + a3 * b2 + a4 * b5 + a5 * b4 + a6 * b7 + a7 * b6) * 8 := by grind
theorem wh2 (a0 a1 a2 a3 a4 a5 a6 a7 b0 b1 b2 b3 b4 b5 b6 b7 : Int) : (a0 + a1 + a2 + a3 + a4 + a5 + a6 + a7) * (b0 + b1 + b2 + b3 + b4 + b5 + b6 + b7) + (a0 - a1 + a2 - a3 + a4 - a5 + a6 - a7) * (b0 - b1 + b2 - b3 + b4 - b5 + b6 - b7) - (a0 + a1 - a2 - a3 + a4 + a5 - a6 - a7) * (b0 + b1 - b2 - b3 + b4 + b5 - b6 - b7) - (a0 - a1 - a2 + a3 + a4 - a5 - a6 + a7) * (b0 - b1 - b2 + b3 + b4 - b5 - b6 + b7) + (a0 + a1 + a2 + a3 - a4 - a5 - a6 - a7) * (b0 + b1 + b2 + b3 - b4 - b5 - b6 - b7) + (a0 - a1 + a2 - a3 - a4 + a5 - a6 + a7) * (b0 - b1 + b2 - b3 - b4 + b5 - b6 + b7) - (a0 + a1 - a2 - a3 - a4 - a5 + a6 + a7) * (b0 + b1 - b2 - b3 - b4 - b5 + b6 + b7) - (a0 - a1 - a2 + a3 - a4 + a5 + a6 - a7) * (b0 - b1 - b2 + b3 - b4 + b5 + b6 - b7) = (a0 * b2 + a1 * b3 + a2 * b0 + a3 * b1 + a4 * b6 + a5 * b7 + a6 * b4 + a7 * b5) * 8 := by grind
theorem wh3 (a0 a1 a2 a3 a4 a5 a6 a7 b0 b1 b2 b3 b4 b5 b6 b7 : Int) : (a0 + a1 + a2 + a3 + a4 + a5 + a6 + a7) * (b0 + b1 + b2 + b3 + b4 + b5 + b6 + b7) - (a0 - a1 + a2 - a3 + a4 - a5 + a6 - a7) * (b0 - b1 + b2 - b3 + b4 - b5 + b6 - b7) - (a0 + a1 - a2 - a3 + a4 + a5 - a6 - a7) * (b0 + b1 - b2 - b3 + b4 + b5 - b6 - b7) + (a0 - a1 - a2 + a3 + a4 - a5 - a6 + a7) * (b0 - b1 - b2 + b3 + b4 - b5 - b6 + b7) + (a0 + a1 + a2 + a3 - a4 - a5 - a6 - a7) * (b0 + b1 + b2 + b3 - b4 - b5 - b6 - b7) - (a0 - a1 + a2 - a3 - a4 + a5 - a6 + a7) * (b0 - b1 + b2 - b3 - b4 + b5 - b6 + b7) - (a0 + a1 - a2 - a3 - a4 - a5 + a6 + a7) * (b0 + b1 - b2 - b3 - b4 - b5 + b6 + b7) + (a0 - a1 - a2 + a3 - a4 + a5 + a6 - a7) * (b0 - b1 - b2 + b3 - b4 + b5 + b6 - b7) = (a0 * b3 + a1 * b2 + a2 * b1 + a3 * b0 + a4 * b7 + a5 * b6 + a6 * b5 + a7 * b4) * 8 := by grind
theorem wh4 (a0 a1 a2 a3 a4 a5 a6 a7 b0 b1 b2 b3 b4 b5 b6 b7 : Int) : (a0 + a1 + a2 + a3 + a4 + a5 + a6 + a7) * (b0 + b1 + b2 + b3 + b4 + b5 + b6 + b7) + (a0 - a1 + a2 - a3 + a4 - a5 + a6 - a7) * (b0 - b1 + b2 - b3 + b4 - b5 + b6 - b7) + (a0 + a1 - a2 - a3 + a4 + a5 - a6 - a7) * (b0 + b1 - b2 - b3 + b4 + b5 - b6 - b7) + (a0 - a1 - a2 + a3 + a4 - a5 - a6 + a7) * (b0 - b1 - b2 + b3 + b4 - b5 - b6 + b7) - (a0 + a1 + a2 + a3 - a4 - a5 - a6 - a7) * (b0 + b1 + b2 + b3 - b4 - b5 - b6 - b7) - (a0 - a1 + a2 - a3 - a4 + a5 - a6 + a7) * (b0 - b1 + b2 - b3 - b4 + b5 - b6 + b7) - (a0 + a1 - a2 - a3 - a4 - a5 + a6 + a7) * (b0 + b1 - b2 - b3 - b4 - b5 + b6 + b7) - (a0 - a1 - a2 + a3 - a4 + a5 + a6 - a7) * (b0 - b1 - b2 + b3 - b4 + b5 + b6 - b7) = (a0 * b4 + a1 * b5 + a2 * b6 + a3 * b7 + a4 * b0 + a5 * b1 + a6 * b2 + a7 * b3) * 8 := by grind
theorem wh5 (a0 a1 a2 a3 a4 a5 a6 a7 b0 b1 b2 b3 b4 b5 b6 b7 : Int) : (a0 + a1 + a2 + a3 + a4 + a5 + a6 + a7) * (b0 + b1 + b2 + b3 + b4 + b5 + b6 + b7) - (a0 - a1 + a2 - a3 + a4 - a5 + a6 - a7) * (b0 - b1 + b2 - b3 + b4 - b5 + b6 - b7) + (a0 + a1 - a2 - a3 + a4 + a5 - a6 - a7) * (b0 + b1 - b2 - b3 + b4 + b5 - b6 - b7) - (a0 - a1 - a2 + a3 + a4 - a5 - a6 + a7) * (b0 - b1 - b2 + b3 + b4 - b5 - b6 + b7) - (a0 + a1 + a2 + a3 - a4 - a5 - a6 - a7) * (b0 + b1 + b2 + b3 - b4 - b5 - b6 - b7) + (a0 - a1 + a2 - a3 - a4 + a5 - a6 + a7) * (b0 - b1 + b2 - b3 - b4 + b5 - b6 + b7) - (a0 + a1 - a2 - a3 - a4 - a5 + a6 + a7) * (b0 + b1 - b2 - b3 - b4 - b5 + b6 + b7) + (a0 - a1 - a2 + a3 - a4 + a5 + a6 - a7) * (b0 - b1 - b2 + b3 - b4 + b5 + b6 - b7) = (a0 * b5 + a1 * b4 + a2 * b7 + a3 * b6 + a4 * b1 + a5 * b0 + a6 * b3 + a7 * b2) * 8 := by grind
theorem wh6 (a0 a1 a2 a3 a4 a5 a6 a7 b0 b1 b2 b3 b4 b5 b6 b7 : Int) : (a0 + a1 + a2 + a3 + a4 + a5 + a6 + a7) * (b0 + b1 + b2 + b3 + b4 + b5 + b6 + b7) + (a0 - a1 + a2 - a3 + a4 - a5 + a6 - a7) * (b0 - b1 + b2 - b3 + b4 - b5 + b6 - b7) - (a0 + a1 - a2 - a3 + a4 + a5 - a6 - a7) * (b0 + b1 - b2 - b3 + b4 + b5 - b6 - b7) - (a0 - a1 - a2 + a3 + a4 - a5 - a6 + a7) * (b0 - b1 - b2 + b3 + b4 - b5 - b6 + b7) - (a0 + a1 + a2 + a3 - a4 - a5 - a6 - a7) * (b0 + b1 + b2 + b3 - b4 - b5 - b6 - b7) - (a0 - a1 + a2 - a3 - a4 + a5 - a6 + a7) * (b0 - b1 + b2 - b3 - b4 + b5 - b6 + b7) + (a0 + a1 - a2 - a3 - a4 - a5 + a6 + a7) * (b0 + b1 - b2 - b3 - b4 - b5 + b6 + b7) + (a0 - a1 - a2 + a3 - a4 + a5 + a6 - a7) * (b0 - b1 - b2 + b3 - b4 + b5 + b6 - b7) = (a0 * b6 + a1 * b7 + a2 * b4 + a3 * b5 + a4 * b2 + a5 * b3 + a6 * b0 + a7 * b1) * 8 := by grind
theorem wh7 (a0 a1 a2 a3 a4 a5 a6 a7 b0 b1 b2 b3 b4 b5 b6 b7 : Int) : (a0 + a1 + a2 + a3 + a4 + a5 + a6 + a7) * (b0 + b1 + b2 + b3 + b4 + b5 + b6 + b7) - (a0 - a1 + a2 - a3 + a4 - a5 + a6 - a7) * (b0 - b1 + b2 - b3 + b4 - b5 + b6 - b7) - (a0 + a1 - a2 - a3 + a4 + a5 - a6 - a7) * (b0 + b1 - b2 - b3 + b4 + b5 - b6 - b7) + (a0 - a1 - a2 + a3 + a4 - a5 - a6 + a7) * (b0 - b1 - b2 + b3 + b4 - b5 - b6 + b7) - (a0 + a1 + a2 + a3 - a4 - a5 - a6 - a7) * (b0 + b1 + b2 + b3 - b4 - b5 - b6 - b7) + (a0 - a1 + a2 - a3 - a4 + a5 - a6 + a7) * (b0 - b1 + b2 - b3 - b4 + b5 - b6 + b7) + (a0 + a1 - a2 - a3 - a4 - a5 + a6 + a7) * (b0 + b1 - b2 - b3 - b4 - b5 + b6 + b7) - (a0 - a1 - a2 + a3 - a4 + a5 + a6 - a7) * (b0 - b1 - b2 + b3 - b4 + b5 + b6 - b7) = (a0 * b7 + a1 * b6 + a2 * b5 + a3 * b4 + a4 * b3 + a5 * b2 + a6 * b1 + a7 * b0) * 8 := by grind
theorem turned8 (a0 a1 a2 a3 a4 a5 a6 a7 : Int) : turnedL [a0, a1, a2, a3, a4, a5, a6, a7] = [a0 + a1 + a2 + a3 + a4 + a5 + a6 + a7, a0 - a1 + a2 - a3 + a4 - a5 + a6 - a7, a0 + a1 - a2 - a3 + a4 + a5 - a6 - a7, a0 - a1 - a2 + a3 + a4 - a5 - a6 + a7, a0 + a1 + a2 + a3 - a4 - a5 - a6 - a7, a0 - a1 + a2 - a3 - a4 + a5 - a6 + a7, a0 + a1 - a2 - a3 - a4 - a5 + a6 + a7, a0 - a1 - a2 + a3 - a4 + a5 + a6 - a7] := by
  simp only [turnedL, roundsN, roundL, rnd, List.nil_append, List.cons_append]
  simp only [List.cons.injEq, and_true]
  refine ⟨?_, ?_, ?_, ?_, ?_, ?_, ?_, ?_⟩ <;> omega
end
section
-- M1
open PySem PySem.W PyProof.Rows PySem.Spec PySem.Calls
noncomputable def F2L (f : Nat → Int) : List Int := [f 0, f 1, f 2, f 3, f 4, f 5, f 6, f 7]
theorem F2L_set (f : Nat → Int) (v : Int) : ∀ k, k < 8 → (F2L f).set k v = F2L (fun j => if j = k then v else f j) := by
  intro k hk
  rcases (by omega : k = 0 ∨ k = 1 ∨ k = 2 ∨ k = 3 ∨ k = 4 ∨ k = 5 ∨ k = 6 ∨ k = 7) with rfl | rfl | rfl | rfl | rfl | rfl | rfl | rfl <;> rfl
theorem F2L_get (f : Nat → Int) : ∀ k, k < 8 → (F2L f).getD k 0 = f k := by
  intro k hk
  rcases (by omega : k = 0 ∨ k = 1 ∨ k = 2 ∨ k = 3 ∨ k = 4 ∨ k = 5 ∨ k = 6 ∨ k = 7) with rfl | rfl | rfl | rfl | rfl | rfl | rfl | rfl <;> rfl
theorem F2L_congr {f g : Nat → Int} (h : ∀ k, k < 8 → f k = g k) : F2L f = F2L g := by
  unfold F2L
  rw [h 0 (by decide), h 1 (by decide), h 2 (by decide), h 3 (by decide), h 4 (by decide), h 5 (by decide), h 6 (by decide), h 7 (by decide)]
noncomputable def Lamp.kn (a : Lamp) : Nat := a.kind.toNat
theorem Lamp.kn_lt (a : Lamp) : a.kn < 8 := by
  have := kindN_range a.lo a.hi a.la
  unfold Lamp.kn Lamp.kind
  omega
/-- the weights of a kind -/
noncomputable def sumK : List Lamp → Nat → Int
  | [], _ => 0
  | a :: r, k => (if k = a.kn then a.x5 else 0) + sumK r k
theorem tab_fold (row : List Lamp) : ∀ f, row.foldl tabStep (F2L f) = F2L (fun k => f k + sumK row k) := by
  induction row with
  | nil => intro f; simp [sumK]
  | cons a r ih =>
    intro f
    show r.foldl tabStep (tabStep (F2L f) a) = _
    have e : tabStep (F2L f) a = F2L (fun k => f k + (if k = a.kn then a.x5 else 0)) := by
      show (F2L f).set a.kn ((F2L f).getD a.kn 0 + a.x5) = _
      rw [F2L_get _ _ (Lamp.kn_lt a), F2L_set _ _ _ (Lamp.kn_lt a)]
      refine F2L_congr fun k _ => ?_
      show (if k = a.kn then f a.kn + a.x5 else f k) = _
      by_cases h : k = a.kn
      · simp [h]
      · simp [h]
    rw [e, ih]
    refine F2L_congr fun k _ => ?_
    simp only [sumK]
    omega
theorem tabOf_eq (row : List Lamp) : tabOf row = F2L (sumK row) := by
  have := tab_fold row (fun _ => 0)
  show row.foldl tabStep (F2L fun _ => 0) = _
  rw [this]
  refine F2L_congr fun k _ => ?_
  omega
noncomputable def crossK : List Lamp → List Lamp → Nat → Int
  | [], _, _ => 0
  | b :: r, o, m => b.x5 * sumK o (b.kn ^^^ m) + crossK r o m
theorem cross_fold1 (b : Lamp) (hd : ∀ f : Lamp, diffN b.near f.near = b.kn ^^^ f.kn) (o : List Lamp) : ∀ f, o.foldl (crossStep1 b) (F2L f) = F2L (fun m => f m + b.x5 * sumK o (b.kn ^^^ m)) := by
  induction o with
  | nil => intro f; simp [sumK]
  | cons a r ih =>
    intro f
    show r.foldl (crossStep1 b) (crossStep1 b (F2L f) a) = _
    have hlt : b.kn ^^^ a.kn < 8 := Nat.xor_lt_two_pow (n := 3) (Lamp.kn_lt b) (Lamp.kn_lt a)
    have e : crossStep1 b (F2L f) a = F2L (fun k => f k + (if k = b.kn ^^^ a.kn then b.x5 * a.x5 else 0)) := by
      unfold crossStep1
      rw [hd, F2L_get _ _ hlt, F2L_set _ _ _ hlt]
      refine F2L_congr fun k _ => ?_
      by_cases h : k = b.kn ^^^ a.kn
      · simp [h]
      · simp [h]
    rw [e, ih]
    refine F2L_congr fun k _ => ?_
    simp only [sumK]
    have hk : (k = b.kn ^^^ a.kn) ↔ (b.kn ^^^ k = a.kn) := by
      constructor
      · intro h; rw [h, ← Nat.xor_assoc, Nat.xor_self, Nat.zero_xor]
      · intro h; rw [← h, ← Nat.xor_assoc, Nat.xor_self, Nat.zero_xor]
    by_cases h : k = b.kn ^^^ a.kn
    · rw [if_pos h, if_pos (hk.mp h), Int.mul_add]; omega
    · rw [if_neg h, if_neg (fun z => h (hk.mpr z)), Int.mul_add]; omega
theorem cross_eq (ones others : List Lamp) (hd : ∀ b f : Lamp, diffN b.near f.near = b.kn ^^^ f.kn) : crossedL ones others = F2L (crossK ones others) := by
  have key : ∀ (ones : List Lamp) f, ones.foldl (crossStep others) (F2L f) = F2L (fun m => f m + crossK ones others m) := by
    intro ones
    induction ones with
    | nil => intro f; simp [crossK]
    | cons b r ih =>
      intro f
      show r.foldl (crossStep others) (others.foldl (crossStep1 b) (F2L f)) = _
      rw [cross_fold1 b (hd b), ih]
      refine F2L_congr fun k _ => ?_
      simp only [crossK]
      omega
  have := key ones (fun _ => 0)
  show ones.foldl (crossStep others) (F2L fun _ => 0) = _
  rw [this]
  refine F2L_congr fun k _ => ?_
  omega
noncomputable def sum8 (f : Nat → Int) : Int := f 0 + f 1 + f 2 + f 3 + f 4 + f 5 + f 6 + f 7
theorem sum8_add (f g : Nat → Int) : sum8 (fun k => f k + g k) = sum8 f + sum8 g := by simp only [sum8]; omega
theorem sum8_pick (f : Nat → Int) : ∀ k, k < 8 → sum8 (fun j => if j = k then f j else 0) = f k := by
  intro k hk
  rcases (by omega : k = 0 ∨ k = 1 ∨ k = 2 ∨ k = 3 ∨ k = 4 ∨ k = 5 ∨ k = 6 ∨ k = 7) with rfl | rfl | rfl | rfl | rfl | rfl | rfl | rfl <;> simp [sum8]
theorem conv_eq (others : List Lamp) (m : Nat) : ∀ ones : List Lamp, sum8 (fun k => sumK ones k * sumK others (k ^^^ m)) = crossK ones others m := by
  intro ones
  induction ones with
  | nil => simp [sumK, crossK, sum8]
  | cons b r ih =>
    have e : (fun k => sumK (b :: r) k * sumK others (k ^^^ m)) = fun k => (if k = b.kn then b.x5 * sumK others (k ^^^ m) else 0) + sumK r k * sumK others (k ^^^ m) := by
      funext k
      simp only [sumK]
      by_cases h : k = b.kn
      · rw [if_pos h, if_pos h, Int.add_mul]
      · rw [if_neg h, if_neg h, Int.add_mul, Int.zero_mul]
    rw [e, sum8_add, sum8_pick _ _ (Lamp.kn_lt b), ih]
    rfl
noncomputable def mulL (xs ys : List Int) : List Int := F2L fun k => xs.getD k 0 * ys.getD k 0
theorem walsh (f g : Nat → Int) : turnedL (mulL (turnedL (F2L f)) (turnedL (F2L g))) = F2L fun m => sum8 (fun k => f k * g (k ^^^ m)) * 8 := by
  unfold F2L
  rw [turned8, turned8]
  unfold mulL F2L
  simp only [List.getD_cons_zero, List.getD_cons_succ]
  rw [turned8, wh0, wh1, wh2, wh3, wh4, wh5, wh6, wh7]
  rfl
theorem law_math (ones others : List Lamp) (hd : ∀ b f : Lamp, diffN b.near f.near = b.kn ^^^ f.kn) :
    turnedL (mulL (turnedL (tabOf ones)) (turnedL (tabOf others))) = (crossedL ones others).map (· * 8) := by
  rw [tabOf_eq, tabOf_eq, walsh, cross_eq _ _ hd]
  have : (fun m => sum8 (fun k => sumK ones k * sumK others (k ^^^ m)) * 8) = fun m => crossK ones others m * 8 := by
    funext m; rw [conv_eq]
  rw [this]
  rfl
end
section
-- M2
open PySem PySem.W PyProof.Rows PySem.Spec PySem.Calls
theorem near_bit (lo hi la : Nat) (c : Int) : (decide ((1 : Int) < (la : Int)) && decide ((if 192 - wayI lo hi c < wayI lo hi c then 192 - wayI lo hi c else wayI lo hi c) < 48)) = nearB lo hi la c := by
  unfold nearB wayN wayI
  have h1 : decide ((1 : Int) < (la : Int)) = decide (1 < la) := decide_eq_decide.mpr (by omega)
  rw [h1]
  congr 1
  refine decide_eq_decide.mpr ?_
  dsimp only
  generalize 3 * ((lo : Int) + 8 * (hi : Int)) - c = z
  have hm : ∀ a b : Int, min a b = if a ≤ b then a else b := fun a b => by rw [Int.min_def]
  rw [hm]
  by_cases hz : z < 0
  · rw [if_pos hz]
    constructor <;> (intro h; split at h <;> split <;> omega)
  · rw [if_neg hz]
    constructor <;> (intro h; split at h <;> split <;> omega)
theorem near_is (b : Lamp) : b.near = [nearB b.lo b.hi b.la 0, nearB b.lo b.hi b.la 64, nearB b.lo b.hi b.la 128] := by
  rw [← near_bit b.lo b.hi b.la 0, ← near_bit b.lo b.hi b.la 64, ← near_bit b.lo b.hi b.la 128]
  rfl
theorem diff_is (b f : Lamp) : diffN b.near f.near = b.kind.toNat ^^^ f.kind.toNat := by
  rw [near_is, near_is]
  unfold Lamp.kind kindN
  cases nearB b.lo b.hi b.la 0 <;> cases nearB b.lo b.hi b.la 64 <;> cases nearB b.lo b.hi b.la 128 <;> cases nearB f.lo f.hi f.la 0 <;> cases nearB f.lo f.hi f.la 64 <;> cases nearB f.lo f.hi f.la 128 <;> rfl
end
section
-- CUse
open PySem PySem.W PyProof.Rows PySem.Spec PySem.Calls
theorem tabOf_len (row : List Lamp) : (tabOf row).length = 8 := by
  unfold tabOf
  have : ∀ (row : List Lamp) (ts : List Int), (row.foldl tabStep ts).length = ts.length := by
    intro row
    induction row with
    | nil => intro ts; rfl
    | cons b r ih => intro ts; rw [List.foldl_cons, ih]; unfold tabStep; rw [List.length_set]
  rw [this]; rfl
/-- two addresses part, not for omega's eyes -/
noncomputable def NeA (a b : Addr) : Prop := @Ne Nat a b
theorem NeA.ne {a b : Addr} (h : NeA a b) : a ≠ b := h
theorem NeA.ne' {a b : Addr} (h : NeA b a) : a ≠ b := Ne.symm h
/-- an address that is none of the lexer's -/
noncomputable def LX.Off (a : LX) (p : Addr) : Prop := @Ne Nat a.pb p ∧ @Ne Nat a.lx p ∧ @Ne Nat a.dx p ∧ @Ne Nat a.fn p ∧ @Ne Nat a.cd p ∧ @Ne Nat a.lf p ∧ @Ne Nat a.st p ∧ @Ne Nat a.sd p ∧ @Ne Nat a.cl p
theorem LX.Off.neA {a : LX} {p : Addr} (h : a.Off p) : NeA a.pb p ∧ NeA a.lx p ∧ NeA a.dx p ∧ NeA a.fn p ∧ NeA a.cd p ∧ NeA a.lf p ∧ NeA a.st p ∧ NeA a.sd p ∧ NeA a.cl p := h
theorem neA_all {l : List (Addr × Obj)} {p : Addr} (h : ∀ q ∈ l, @Ne Nat q.1 p) : ∀ q ∈ l, NeA q.1 p := h
theorem LX.Off.led {a : LX} {p : Addr} (h : a.Off p) {P : Params} {no : Int} {t2 : Tok} {bk : List Value} {e1 : Nat} {lv : List Value} {e2 : Nat} : ∀ r ∈ a.led P no t2 bk e1 lv e2, r.1 ≠ p := by
  obtain ⟨h1, h2, h3, h4, h5, h6, h7, h8, h9⟩ := h
  show ∀ r ∈ [_, _, _, _, _, _, _, _, _], _
  simp only [List.forall_mem_cons]
  exact ⟨h1, h2, h3, h4, h5, h6, h7, h8, h9, fun _ h => nomatch h⟩
theorem LX.Off.of_led {a : LX} {p : Addr} {P : Params} {no : Int} {t2 : Tok} {bk : List Value} {e1 : Nat} {lv : List Value} {e2 : Nat} (h : ∀ r ∈ a.led P no t2 bk e1 lv e2, r.1 ≠ p) : a.Off p := by
  have h' : ∀ r ∈ [_, _, _, _, _, _, _, _, _], _ := h
  simp only [List.forall_mem_cons] at h'
  obtain ⟨h1, h2, h3, h4, h5, h6, h7, h8, h9, _⟩ := h'
  exact ⟨h1, h2, h3, h4, h5, h6, h7, h8, h9⟩
theorem LX.Off.low {a : LX} (ok : a.Ok) {p : Addr} (h : @LT.lt Nat _ p a.cl ∧ @Ne Nat p a.lf) : a.Off p := by
  obtain ⟨q1, q2, q3, q4, q5, q6, q7, q8⟩ := ok.ord
  obtain ⟨h1, h2⟩ := h
  refine ⟨?_, ?_, ?_, ?_, ?_, ?_, ?_, ?_, ?_⟩ <;> omega
section
variable {w : World} {p : Program} {loose : List Str} {mean : ExcName → Option Value} {mg mb : Str → Option Value} {d u : Nat} {gd : Option (List Code)} {cn : Str} {cs : Scope} {aa : Addr} {ccd : Value} {cl : List (Str × Addr)} {outer : List Env} {A₀ : Around} {base h₀ : Heap} {L : Addr} {m : Str → Option Value} {s : Shared} {Q E : Value → Shared → Prop}
theorem table_u {a : LX} (ok : a.Ok) (rest : List (Addr × Obj)) {no : Int} {t2 : Tok} {e1 : Nat} {l : List (Nat × Tok)} {e2 : Nat} {rl : Addr} (er : Nat) (row : List Lamp) (hrow : ∀ b ∈ row, b.Ok) (back : List Nat) (hread : readsL row (l.map (·.1)) = some back) (hl : l.length < 10000)
    (hrl : (rl, listOf (row.map fun b : Lamp => Value.ref b.l).toArray er) ∈ rest) (hob : ∀ b ∈ row, b.ob ∈ rest) (hoff : ∀ q ∈ rest, a.Off q.1) (hd : d ≤ 350) (hu : u ≤ 1500) (B : Below A₀ base outer h₀) (F : Fr h₀ L s.heap m) (X : (Mine.hd.heap_39 w.params).In h₀)
    (N : News h₀ L s.heap (a.led w.params no t2 [] e1 (leftV l) e2 ++ rest)) (T : Top p loose mean mg mb h₀) (hk : cs.kind = .function)
    (r : ∀ tl vs et no' t2' l' e2' h' tk', IL vs (tabOf row) → l'.map (·.1) = back → no' = no + nls l - nls l' → a.Off tl → (∀ q ∈ rest, @Ne Nat q.1 tl) → Fr h₀ L h' m → News h₀ L h' ((tl, listOf vs.toArray et) :: (a.led w.params no' t2' [] e1 (leftV l') e2' ++ rest)) → Q (.ref tl) { s with heap := h', toks := tk' }) :
    wpAny (model P0 w) (ktrTop d u gd cn cs L aa ccd cl outer) (call (.ref 190) [.ref a.lx, .ref rl]) Q E s := by
  refine Ctr.use (table_c w a ok no t2 e1 l hl e2 rl er row hrow back hread) rest hd hu B F X N T hk (fun q hq => List.mem_append_left _ hq) (fun q hq => List.mem_append_right _ hq) (fun q hq => (hoff q hq).led) ?_ ?_
  · intro q hq
    rcases List.mem_cons.mp hq with rfl | hq
    · exact ⟨(N _ (List.mem_append_right _ hrl)).1, (hoff _ hrl).led⟩
    obtain ⟨b, hb, rfl⟩ := List.mem_map.mp hq
    exact ⟨(N _ (List.mem_append_right _ (hob b hb))).1, (hoff _ (hob b hb)).led⟩
  rintro sz _ _ h' tk' ⟨tl, vs, et, no', t2', l', e2', rfl, hvs, hl', hno, rfl, htl⟩ hsz F' N'
  have key : ∀ q ∈ a.led w.params no t2 [] e1 (leftV l) e2 ++ rest, @Ne Nat q.1 tl := fun q hq e => by
    have := hsz q hq
    rw [show q.1 = tl from e, htl] at this; cases this
  exact r _ _ _ _ _ _ _ _ _ hvs hl' hno (.of_led fun r hr => key r (List.mem_append_left _ hr)) (fun q hq => key q (List.mem_append_right _ hq)) F' N'
theorem get_u {a : LX} (ok : a.Ok) (rest : List (Addr × Obj)) {no : Int} {t2 : Tok} {e1 : Nat} {l : List (Nat × Tok)} {e2 : Nat} (tok back : List Nat) (hlex : lexT (l.map (·.1)) = some (tok, back)) (hl : l.length < 10000)
    (hoff : ∀ q ∈ rest, a.Off q.1) (hd : d ≤ 550) (hu : u ≤ 5500) (B : Below A₀ base outer h₀) (F : Fr h₀ L s.heap m) (X : (Mine.hd.heap_39 w.params).In h₀)
    (N : News h₀ L s.heap (a.led w.params no t2 [] e1 (leftV l) e2 ++ rest)) (T : Top p loose mean mg mb h₀) (hk : cs.kind = .function)
    (r : ∀ x t no' t2' l' e2' h' tk', x.cps.toList = tok → l'.map (·.1) = back → no' = no + nls l - nls l' → Fr h₀ L h' m → News h₀ L h' (a.led w.params no' t2' [] e1 (leftV l') e2' ++ rest) → Q (.str x t) { s with heap := h', toks := tk' }) :
    wpAny (model P0 w) (ktrTop d u gd cn cs L aa ccd cl outer) (call (.ref 140) [.ref a.lx]) Q E s := by
  refine Ctr.use (get_c w a ok no t2 e1 l (by omega) e2 tok back hlex) rest hd hu B F X N T hk (fun q hq => List.mem_append_left _ hq) (fun q hq => List.mem_append_right _ hq) (fun q hq => (hoff q hq).led) (fun _ hq => nomatch hq) ?_
  rintro sz _ _ h' tk' ⟨x, no', t2', e2', l', t, rfl, hx, hl', hno, rfl⟩ hsz F' N'
  exact r _ _ _ _ _ _ _ _ hx hl' hno F' N'
theorem turned_u {a : LX} (ok : a.Ok) (rest : List (Addr × Obj)) {no : Int} {t2 : Tok} {e1 : Nat} {lv : List Value} {e2 : Nat} {tl : Addr} {vs : List Value} {et : Nat} (xs : List Int) (hvs : IL vs xs) (hx : xs.length = 8)
    (htl : a.Off tl) (hrt : ∀ q ∈ rest, @Ne Nat q.1 tl) (hoff : ∀ q ∈ rest, a.Off q.1) (hd : d ≤ 350) (hu : u ≤ 3000) (B : Below A₀ base outer h₀) (F : Fr h₀ L s.heap m) (X : (Mine.hd.heap_39 w.params).In h₀)
    (N : News h₀ L s.heap ((tl, listOf vs.toArray et) :: (a.led w.params no t2 [] e1 lv e2 ++ rest))) (T : Top p loose mean mg mb h₀) (hk : cs.kind = .function)
    (r : ∀ rl vs' e1' er h' tk', IL vs' (turnedL xs) → a.Off rl → (∀ q ∈ rest, @Ne Nat q.1 rl) → Fr h₀ L h' m → News h₀ L h' ((rl, listOf vs'.toArray er) :: (a.led w.params no t2 [] e1' lv e2 ++ rest)) → Q (.ref rl) { s with heap := h', toks := tk' }) :
    wpAny (model P0 w) (ktrTop d u gd cn cs L aa ccd cl outer) (call (.ref 195) [.ref a.lx, .ref tl]) Q E s := by
  obtain ⟨h1, h2, h3, h4, h5, h6, h7, h8, h9⟩ := htl
  obtain ⟨q1, q2, q3, q4, q5, q6, q7, q8⟩ := ok.ord
  refine Ctr.use (turned_c w a.lx a.dx a.pb tl q7 q8 ⟨Ne.symm h1, Ne.symm h2, Ne.symm h3⟩ a.t1 t2 a.t3 a.t4 a.t5 a.t6 no (.ref a.st) e1 et vs xs hvs hx)
    ((a.fn, lamO a.cl a.cd a.pm a.ct) :: (a.cd, a.oc) :: (a.lf, listOf lv.toArray e2) :: (a.st, instObj 150 a.sd) :: (a.sd, strD w.params a.u1 a.u2 a.u3 a.u4 a.u5 a.u6 a.u7 a.sp a.fn) :: (a.cl, a.ol) :: rest) hd hu B F X N T hk ?_ ?_ ?_ (fun _ hq => nomatch hq) ?_
  · intro q hq
    exact List.mem_append_left (bs := (a.fn, lamO a.cl a.cd a.pm a.ct) :: (a.cd, a.oc) :: (a.lf, listOf lv.toArray e2) :: (a.st, instObj 150 a.sd) :: (a.sd, strD w.params a.u1 a.u2 a.u3 a.u4 a.u5 a.u6 a.u7 a.sp a.fn) :: (a.cl, a.ol) :: rest) hq
  · intro q hq
    exact List.mem_append_right [_, _, _, _] hq
  · have key : ∀ p : Addr, @Ne Nat tl p → @Ne Nat a.pb p → @Ne Nat a.lx p → @Ne Nat a.dx p → ∀ r ∈ [(tl, listOf vs.toArray et), (a.pb, listOf ([] : List Value).toArray e1), (a.lx, instObj 150 a.dx), (a.dx, lexE w.params a.t1 t2 a.t3 a.t4 a.t5 a.t6 no (.ref a.st) a.pb)], r.1 ≠ p := by
      intro p k1 k2 k3 k4
      simp only [List.forall_mem_cons]
      exact ⟨k1, k2, k3, k4, fun _ h => nomatch h⟩
    intro q hq
    rcases List.mem_cons.mp hq with rfl | hq
    · exact key _ (Ne.symm h4) (by dsimp only; omega) (by dsimp only; omega) (by dsimp only; omega)
    rcases List.mem_cons.mp hq with rfl | hq
    · exact key _ (Ne.symm h5) (by dsimp only; omega) (by dsimp only; omega) (by dsimp only; omega)
    rcases List.mem_cons.mp hq with rfl | hq
    · exact key _ (Ne.symm h6) (by dsimp only; omega) (by dsimp only; omega) (by dsimp only; omega)
    rcases List.mem_cons.mp hq with rfl | hq
    · exact key _ (Ne.symm h7) (by dsimp only; omega) (by dsimp only; omega) (by dsimp only; omega)
    rcases List.mem_cons.mp hq with rfl | hq
    · exact key _ (Ne.symm h8) (by dsimp only; omega) (by dsimp only; omega) (by dsimp only; omega)
    rcases List.mem_cons.mp hq with rfl | hq
    · exact key _ (Ne.symm h9) (by dsimp only; omega) (by dsimp only; omega) (by dsimp only; omega)
    obtain ⟨g1, g2, g3, _⟩ := hoff q hq
    exact key _ (Ne.symm (hrt q hq)) g1 g2 g3
  · rintro sz _ _ h' tk' ⟨rl, vs', e', er, rfl, hvs', rfl, hfr⟩ hsz F' N'
    have key : ∀ q ∈ (a.led w.params no t2 [] e1 lv e2 ++ rest), @Ne Nat q.1 tl → @Ne Nat q.1 rl := fun q hq hq' e => by
      have := hsz q (.tail _ hq)
      rw [show q.1 = rl from e] at this
      exact hq' (e.trans (hfr _ this))
    exact r _ _ _ _ _ _ hvs' (.of_led fun r hr => key r (List.mem_append_left _ hr) (LX.Off.led ⟨h1, h2, h3, h4, h5, h6, h7, h8, h9⟩ r hr)) (fun q hq => key q (List.mem_append_right _ hq) (hrt q hq)) F' N'
end
end
section
-- M4
open PySem PySem.W PyProof.Rows PySem.Spec PySem.Calls
theorem IL.at : ∀ {vs : List Value} {xs : List Int}, IL vs xs → ∀ {k : Nat}, k < xs.length → ∃ t, vs[k]? = some (.int (xs.getD k 0) t)
  | _, _, .nil, _, h => absurd h (Nat.not_lt_zero _)
  | _, _, .cons (t := t) _, 0, _ => ⟨t, rfl⟩
  | _, _, .cons h, k + 1, hk => by
    obtain ⟨t, e⟩ := IL.at h (k := k) (by simpa using hk)
    exact ⟨t, by simpa using e⟩
theorem IL.of_at : ∀ (n : Nat) (f : Nat → Int) {ys : List Value}, ys.length = n → (∀ (i : Nat) (y : Value), ys[i]? = some y → ∃ t, y = .int (f i) t) → IL ys ((List.range n).map f) := by
  intro n
  induction n with
  | zero => intro f ys h _; rw [List.eq_nil_of_length_eq_zero h]; exact .nil
  | succ n ih =>
    intro f ys h hy
    match ys, h with
    | y :: r, h =>
      obtain ⟨t, rfl⟩ := hy 0 y rfl
      rw [List.range_succ_eq_map, List.map_cons, List.map_map]
      exact .cons (ih (f ∘ (· + 1)) (by simpa using h) fun i z hz => hy (i + 1) z (by simpa using hz))
theorem IL.of_at8 (f : Nat → Int) {ys : List Value} (h : ys.length = 8) (hy : ∀ (i : Nat) (y : Value), ys[i]? = some y → ∃ t, y = .int (f i) t) : IL ys (F2L f) := IL.of_at 8 f h hy
noncomputable def Bnd (k : Int) (xs : List Int) : Prop := ∀ x ∈ xs, -k ≤ x ∧ x ≤ k
theorem mem_set {xs : List Int} : ∀ {n : Nat} {v x : Int}, x ∈ xs.set n v → x = v ∨ x ∈ xs := by
  induction xs with
  | nil => intro n v x h; simp at h
  | cons y r ih =>
    intro n v x h
    cases n with
    | zero => rcases List.mem_cons.mp h with h | h; exact .inl h; exact .inr (.tail _ h)
    | succ n =>
      rcases List.mem_cons.mp h with h | h
      · exact .inr (h ▸ .head _)
      · rcases ih h with h | h
        · exact .inl h
        · exact .inr (.tail _ h)
theorem getD_bnd {k : Int} (hk : 0 ≤ k) {xs : List Int} (h : Bnd k xs) (n : Nat) : -k ≤ xs.getD n 0 ∧ xs.getD n 0 ≤ k := by
  rw [List.getD_eq_getElem?_getD]
  cases e : xs[n]? with
  | none => simp; omega
  | some x => exact h x (List.mem_of_getElem? e)
theorem step_bnd {k : Int} (hk : 0 ≤ k) {ts : List Int} {b : Lamp} (hb : b.Ok) (h : Bnd k ts) : Bnd (k + 1000) (tabStep ts b) := by
  intro x hx
  rcases mem_set hx with rfl | hx
  · have := getD_bnd hk h b.kind.toNat
    have := hb.h5
    omega
  · have := h x hx; omega
theorem fold_bnd : ∀ (row : List Lamp) (_ : ∀ b ∈ row, b.Ok) (k : Int) (_ : 0 ≤ k) (ts : List Int) (_ : Bnd k ts), Bnd (k + row.length * 1000) (row.foldl tabStep ts) := by
  intro row
  induction row with
  | nil => intro _ k _ ts h; simpa using h
  | cons b r ih =>
    intro hr k hk ts h
    have := ih (fun c hc => hr c (.tail _ hc)) (k + 1000) (by omega) _ (step_bnd hk (hr b (.head _)) h)
    rw [List.foldl_cons]
    intro x hx
    have := this x hx
    simp only [List.length_cons]
    omega
theorem tab_bnd {row : List Lamp} (h : ∀ b ∈ row, b.Ok) (hl : row.length ≤ 12) : Bnd 12000 (tabOf row) := by
  have := fold_bnd row h 0 (by decide) (List.replicate 8 0) (by intro x hx; rw [List.eq_of_mem_replicate hx]; decide)
  intro x hx
  have := this x hx
  omega
theorem eight {xs : List Int} (h : xs.length = 8) : ∃ a b c d e f g i, xs = [a, b, c, d, e, f, g, i] := by
  match xs, h with
  | [a, b, c, d, e, f, g, i], _ => exact ⟨a, b, c, d, e, f, g, i, rfl⟩
theorem turned_len {xs : List Int} (h : xs.length = 8) : (turnedL xs).length = 8 := by
  obtain ⟨a, b, c, d, e, f, g, i, rfl⟩ := eight h
  rw [turned8]; rfl
theorem bnA {x y k n : Int} (e : n = k + 12000) (h : -k ≤ x ∧ x ≤ k) (g : -12000 ≤ y ∧ y ≤ 12000) : -n ≤ x + y ∧ x + y ≤ n := by omega
theorem bnS {x y k n : Int} (e : n = k + 12000) (h : -k ≤ x ∧ x ≤ k) (g : -12000 ≤ y ∧ y ≤ 12000) : -n ≤ x - y ∧ x - y ≤ n := by omega
theorem turned_bnd {xs : List Int} (h : xs.length = 8) (hb : Bnd 12000 xs) : Bnd 96000 (turnedL xs) := by
  obtain ⟨a, b, c, d, e, f, g, i, rfl⟩ := eight h
  simp only [Bnd, List.forall_mem_cons] at hb
  obtain ⟨h0, h1, h2, h3, h4, h5, h6, h7, _⟩ := hb
  rw [turned8]
  simp only [Bnd, List.forall_mem_cons]
  refine ⟨?_, ?_, ?_, ?_, ?_, ?_, ?_, ?_, fun _ h => nomatch h⟩ <;>
    ((first | refine bnA (k := 84000) (n := 96000) rfl ?_ (by assumption) | refine bnS (k := 84000) (n := 96000) rfl ?_ (by assumption)); (first | refine bnA (k := 72000) (n := 84000) rfl ?_ (by assumption) | refine bnS (k := 72000) (n := 84000) rfl ?_ (by assumption)); (first | refine bnA (k := 60000) (n := 72000) rfl ?_ (by assumption) | refine bnS (k := 60000) (n := 72000) rfl ?_ (by assumption)); (first | refine bnA (k := 48000) (n := 60000) rfl ?_ (by assumption) | refine bnS (k := 48000) (n := 60000) rfl ?_ (by assumption)); (first | refine bnA (k := 36000) (n := 48000) rfl ?_ (by assumption) | refine bnS (k := 36000) (n := 48000) rfl ?_ (by assumption)); (first | refine bnA (k := 24000) (n := 36000) rfl ?_ (by assumption) | refine bnS (k := 24000) (n := 36000) rfl ?_ (by assumption)); (first | refine bnA (k := 12000) (n := 24000) rfl ?_ (by assumption) | refine bnS (k := 12000) (n := 24000) rfl ?_ (by assumption)); assumption)
theorem abs_bnd {a : Int} {k : Nat} : a.natAbs ≤ k → -(k : Int) ≤ a ∧ a ≤ k := by omega
theorem bnd_abs {a : Int} {k : Nat} : -(k : Int) ≤ a ∧ a ≤ k → a.natAbs ≤ k := by omega
theorem mul_bnd {a b : Int} (ha : -96000 ≤ a ∧ a ≤ 96000) (hb : -96000 ≤ b ∧ b ≤ 96000) : -9216000000 ≤ a * b ∧ a * b ≤ 9216000000 :=
  abs_bnd (k := 9216000000) (by rw [Int.natAbs_mul]; exact Nat.mul_le_mul (bnd_abs (k := 96000) ha) (bnd_abs (k := 96000) hb))
end
section
open PySem PySem.W PyProof.Rows PySem.Spec PySem.Calls
local macro_rules | `(tactic| walk_at "call builtin:len") => `(tactic| (k_here; (with_reducible show wpAny _ _ (call (Value.builtin "len") [Value.ref _]) _ _ _); k_dflt (refine len_list (isL_of (by k_asm) (by k_mem)) (by first | assumption | (simp only [List.size_toArray, List.length_map]; omega)) ?_)))
local macro_rules | `(tactic| walk_at "exec Assign cons ListComp") => `(tactic| (k_here; k_dflt (refine assign_over (by k_asm) (by rfl) (by with_unfolding_all rfl) (by with_unfolding_all rfl) (by decide) (by rfl) (by decide) (by rfl) (by rfl) (by rfl) ?_)))
local macro_rules | `(tactic| walk_at "binaryOp Add ref ref") => `(tactic| (k_here; k_dflt (refine Halt.out2 (by assumption) ?_)))
local macro_rules | `(tactic| walk_at "subscriptTail") => `(tactic| (k_here; (with_reducible show wpAny _ _ (subscriptTail _ _ (Value.ref _) (Value.int _ _)) _ _ _); k_dflt (refine' item_l ?k1 ?k2 ?k3 ?k4 ?_ ?k6; (case k1 => exact isL_of (by k_asm) (by k_mem)); (case k4 => assumption); (case k2 => omega); (case k3 => omega); (case k6 => with_unfolding_all rfl); k_whole)))
-- one of four signs at a place that is reckoned
local macro_rules | `(tactic| walk_at "subscriptTail") => `(tactic| (k_here; (with_reducible show wpAny _ _ (subscriptTail _ _ (Value.str _ _) (Value.int _ _)) _ _ _); (refine item_str (fitsSsize_of (N := 9223372036854775808) (by omega) (by omega) (Int.le_refl _)) (by (refine Int.le_trans (by decide : -((PySem.Str.length _ : Nat) : Int) ≤ 0) ?_; omega)) (by (refine Int.lt_of_lt_of_le ?_ (by decide : (4 : Int) ≤ ((PySem.Str.length _ : Nat) : Int)); omega)) ?_; intro _)))
-- two lists compared stop here
local macro_rules | `(tactic| walk_at "compareOp Eq ref ref") => `(tactic| (k_here; (with_reducible show wpAny _ _ (compareOp CmpOp.Eq (Value.ref _) (Value.ref _)) _ _ _); (refine Halt.out ?_)))
local macro_rules | `(tactic| walk_at "compareOp NotEq ref ref") => `(tactic| (k_here; (with_reducible show wpAny _ _ (compareOp CmpOp.NotEq (Value.ref _) (Value.ref _)) _ _ _); (refine Halt.out ?_)))
local macro_rules | `(tactic| k_ne) => `(tactic| ((try dsimp only); first | (refine NeA.ne ?_; assumption) | (refine NeA.ne' ?_; assumption)))
-- a fragment stands in the heap: by the facts as they are
local macro_rules | `(tactic| k_in) => `(tactic| with_reducible first | assumption | exact Frag.In.keeps (by assumption) (Fr.keep (by assumption)))

local macro_rules | `(tactic| walk_at "compareOp Eq int int") => `(tactic| (k_here; (with_reducible show wpAny _ _ (compareOp CmpOp.Eq (Value.int _ _) (Value.int (1 + Txt.count _ _) _)) _ _ _); (refine Halt.out ?_)))
theorem reset18 : True := by w_top off; trivial
section
-- PLaw
open PySem PySem.W PyProof.Rows PySem.Spec PySem.Calls
inductive LA : List Lamp → List Int → Prop
  | nil : LA [] []
  | cons {b : Lamp} {x : Int} {ls : List Lamp} {xs : List Int} : b.Is x → LA ls xs → LA (b :: ls) (x :: xs)
theorem LA.snoc {ls : List Lamp} {xs : List Int} {b : Lamp} {x : Int} (h : LA ls xs) (hb : b.Is x) : LA (ls ++ [b]) (xs ++ [x]) := by
  induction h with
  | nil => exact .cons hb .nil
  | cons h1 _ ih => exact .cons h1 ih
theorem LA.length {ls : List Lamp} {xs : List Int} (h : LA ls xs) : ls.length = xs.length := by
  induction h with
  | nil => rfl
  | cons _ _ ih => simp [ih]
theorem LA.is {ls : List Lamp} {xs : List Int} (h : LA ls xs) : ∀ b ∈ ls, ∃ x, b.Is x := by
  induction h with
  | nil => intro b hb; cases hb
  | cons h1 _ ih => intro b hb; rcases List.mem_cons.mp hb with rfl | hb; exact ⟨_, h1⟩; exact ih b hb
theorem ints_at {vs : List Value} {xs : List Int} (h : IntsAre vs xs) : ∀ {i : Nat} {v : Value}, vs[i]? = some v → ∃ x t, xs[i]? = some x ∧ v = .int x t := by
  induction h with
  | nil => intro i v h; simp at h
  | cons n t _ ih =>
    intro i v h
    cases i with
    | zero => simp at h; exact ⟨n, t, rfl, h.symm⟩
    | succ i => simp at h; simpa using ih h
theorem reads_two {h : Heap} {a : Addr} {x y : Str} {t u : Tok} (hl : h.IsList a [Value.str x t, Value.str y u].toArray) : Reads h (.ref a) (.list [.str x, .str y]) [a] := by
  obtain ⟨o, ho, hc, n, hd⟩ := hl
  exact Reads.list ho hc hd (by simpa using ReadsAll.cons (Reads.str (h := h) x t) (ReadsAll.cons (Reads.str (h := h) y u) .nil))
theorem str_nil' {x : Str} (h : x.cps.toList = []) : x = Str.ofString "" := by
  have e : x.cps = (Str.ofString "").cps := by
    apply Array.toList_inj.mp
    rw [h, empty_cps]
  cases x
  simp only at e
  rw [e]
theorem two_same : PySem.Spec.same (.list [.str (Str.ofString ""), .str (Str.ofString "")]) (.list [.str (Str.ofString ""), .str (Str.ofString "")]) = true := by
  simp [PySem.Spec.same, PySem.Spec.sameAll]
theorem two_eq {prog : Program} {w : World} {A : Around} {E Q : Value → Shared → Prop} {s : Shared} {a b : Addr} {t u t' u' : Tok} (hl : s.heap.IsList a [Value.str (Str.ofString "") t, Value.str (Str.ofString "") u].toArray) (hl' : s.heap.IsList b [Value.str (Str.ofString "") t', Value.str (Str.ofString "") u'].toArray) (hu : A.units + 64 < cLine)
    (h : Q (.bool true) s) : wpAny (model prog w) A (compareOp .Eq (.ref a) (.ref b)) Q E s :=
  PyProof.Rows.eq_dataH_same (reads_two hl) (reads_two hl') (by decide +kernel) (by decide +kernel) hu (by decide +kernel) (by rw [two_same]; exact h)
theorem cnt_is (c : Nat) : ∀ l : List Nat, cnt c l = ((l.count c : Nat) : Int) := by
  intro l
  induction l with
  | nil => rfl
  | cons x r ih =>
    rw [List.count_cons, cnt_cons, ih]
    by_cases h : x = c
    · subst h; rw [if_pos rfl, if_pos (by simp)]; omega
    · rw [if_neg h, if_neg (by simpa using h)]; omega
set_option maxRecDepth 100000 in
set_option maxHeartbeats 8000000 in
theorem law_p : PySem.Challenge.rw_sw0029_01.Holds := by
  w_on
  refine holds_law hd.said fun said => ?_
  refine holds_open (r := PySem.Challenge.rw_sw0029_01.row) (q := hd.view_39) (loose := []) (Xt := fun s => xlAt hd.view_39 [] s && recOk (RowW.records PySem.Challenge.rw_sw0029_01.row.toRowW) s) (XP := XL hd.view_39 []) (Yf := Hook.obs (kmHook hd.heap_39 [2, 3, 15, 17, 18, 20, 21, 22, 24, 25, 27, 28, 29, 31, 32, 34, 35, 36, 38, 39, 41, 42, 43, 45, 46, 48, 49, 50, 52, 53, 55, 56, 57, 59, 60, 62, 63, 64, 66, 67, 69, 70, 71, 73, 74, 76, 77, 78, 80, 81, 83, 84, 85, 87, 88, 90, 91, 92, 94, 95, 97, 98, 99, 101, 102, 104, 105, 106, 108, 109, 111, 112, 120, 122, 123, 125, 126, 127, 129, 130, 132, 133, 134, 136, 137, 139, 140, 141, 143, 144, 146, 147, 148, 149, 150, 151, 152, 155, 157, 158, 160, 161, 162, 164, 165, 167, 168, 169, 172, 173, 174, 177, 178, 179, 182, 183, 184, 186, 187, 189, 190, 191, 194, 195, 196, 199, 200, 201, 204, 205, 206, 209, 210] hd.adr [175])) (Ya := Hook.val (kmHook hd.heap_39 [2, 3, 15, 17, 18, 20, 21, 22, 24, 25, 27, 28, 29, 31, 32, 34, 35, 36, 38, 39, 41, 42, 43, 45, 46, 48, 49, 50, 52, 53, 55, 56, 57, 59, 60, 62, 63, 64, 66, 67, 69, 70, 71, 73, 74, 76, 77, 78, 80, 81, 83, 84, 85, 87, 88, 90, 91, 92, 94, 95, 97, 98, 99, 101, 102, 104, 105, 106, 108, 109, 111, 112, 120, 122, 123, 125, 126, 127, 129, 130, 132, 133, 134, 136, 137, 139, 140, 141, 143, 144, 146, 147, 148, 149, 150, 151, 152, 155, 157, 158, 160, 161, 162, 164, 165, 167, 168, 169, 172, 173, 174, 177, 178, 179, 182, 183, 184, 186, 187, 189, 190, 191, 194, 195, 196, 199, 200, 201, 204, 205, 206, 209, 210] hd.adr [175])) (YP := Hook.says (kmHook hd.heap_39 [2, 3, 15, 17, 18, 20, 21, 22, 24, 25, 27, 28, 29, 31, 32, 34, 35, 36, 38, 39, 41, 42, 43, 45, 46, 48, 49, 50, 52, 53, 55, 56, 57, 59, 60, 62, 63, 64, 66, 67, 69, 70, 71, 73, 74, 76, 77, 78, 80, 81, 83, 84, 85, 87, 88, 90, 91, 92, 94, 95, 97, 98, 99, 101, 102, 104, 105, 106, 108, 109, 111, 112, 120, 122, 123, 125, 126, 127, 129, 130, 132, 133, 134, 136, 137, 139, 140, 141, 143, 144, 146, 147, 148, 149, 150, 151, 152, 155, 157, 158, 160, 161, 162, 164, 165, 167, 168, 169, 172, 173, 174, 177, 178, 179, 182, 183, 184, 186, 187, 189, 190, 191, 194, 195, 196, 199, 200, 201, 204, 205, 206, 209, 210] hd.adr [175])) (N := 2296) hd.left (Hook.of (kmHook hd.heap_39 [2, 3, 15, 17, 18, 20, 21, 22, 24, 25, 27, 28, 29, 31, 32, 34, 35, 36, 38, 39, 41, 42, 43, 45, 46, 48, 49, 50, 52, 53, 55, 56, 57, 59, 60, 62, 63, 64, 66, 67, 69, 70, 71, 73, 74, 76, 77, 78, 80, 81, 83, 84, 85, 87, 88, 90, 91, 92, 94, 95, 97, 98, 99, 101, 102, 104, 105, 106, 108, 109, 111, 112, 120, 122, 123, 125, 126, 127, 129, 130, 132, 133, 134, 136, 137, 139, 140, 141, 143, 144, 146, 147, 148, 149, 150, 151, 152, 155, 157, 158, 160, 161, 162, 164, 165, 167, 168, 169, 172, 173, 174, 177, 178, 179, 182, 183, 184, 186, 187, 189, 190, 191, 194, 195, 196, 199, 200, 201, 204, 205, 206, 209, 210] hd.adr [175])) (Hook.keeps (kmHook hd.heap_39 [2, 3, 15, 17, 18, 20, 21, 22, 24, 25, 27, 28, 29, 31, 32, 34, 35, 36, 38, 39, 41, 42, 43, 45, 46, 48, 49, 50, 52, 53, 55, 56, 57, 59, 60, 62, 63, 64, 66, 67, 69, 70, 71, 73, 74, 76, 77, 78, 80, 81, 83, 84, 85, 87, 88, 90, 91, 92, 94, 95, 97, 98, 99, 101, 102, 104, 105, 106, 108, 109, 111, 112, 120, 122, 123, 125, 126, 127, 129, 130, 132, 133, 134, 136, 137, 139, 140, 141, 143, 144, 146, 147, 148, 149, 150, 151, 152, 155, 157, 158, 160, 161, 162, 164, 165, 167, 168, 169, 172, 173, 174, 177, 178, 179, 182, 183, 184, 186, 187, 189, 190, 191, 194, 195, 196, 199, 200, 201, 204, 205, 206, 209, 210] hd.adr [175])) (fun s e => xl_of s (Bool.and_eq_true_iff.mp e).1) XL.keeps (by rfl) (by rfl) (by rfl) (fun s e => recFacts_of (Bool.and_eq_true_iff.mp e).2) (by rfl) (by assumption) (by decide +kernel) ⟨rfl, rfl, rfl, rfl, rfl, by decide +kernel⟩ ?hw ?hc
  case hw => w_witness2
  k_go0
  rename Hook.says _ _ _ => Y0
  clear Y0 said
  all_goals try k_fold
  k_steps
  rename World => w
  rename List Int => ns
  rename Shared => s1
  unfold Halt
  rename Fr _ _ _ _ => F1
  rename News _ _ _ _ => N1
  rename IntsAre _ (_ ++ _) => hI1
  rename_i o1 o2 o3 d1 d2 d3 CA X1 T1 B1 l0 _ _ l1 _ _ _ _ _ _ l2 D1 ws1 h1 l3
  have hlx : ws1.length ≤ 12 := by rw [hI1.length]; simp; omega
  generalize hxs : [6168898, 6127756, 6185374, 6167151] ++ List.take 8 ns = xs at hI1
  generalize ghostOf s1.heap [(177, 175)] = G at *
  refine compAt_listN (vs := ws1) (by rfl) F1 (news := [(D1, listOf ws1.toArray 0), (s1.heap.objs.size + 1 + 1 + 1, o1), (s1.heap.objs.size + 1 + 1, o2), (s1.heap.objs.size + 1, o3), (175, tabObj #[])]) (fun p hp => N1 p (SubL.mem (by k_subL) p hp)) (.head _) (by rw [PySem.sizeLine_eq]; omega) ?_
  intro g2
  clear N1 F1
  refine turns_inv (fun i ys news => ∃ ls : List Lamp, LA ls (xs.take i) ∧ ys = ls.map (fun b => Value.ref b.l) ∧ (∀ b ∈ ls, @Ne Nat b.l (s1.heap.objs.size + 1 + 1 + 1) ∧ @Ne Nat b.l (s1.heap.objs.size + 1 + 1) ∧ @Ne Nat b.l (s1.heap.objs.size + 1) ∧ @Ne Nat b.l 175) ∧
    news = (D1, listOf ws1.toArray 0) :: (s1.heap.objs.size + 1 + 1 + 1, o1) :: (s1.heap.objs.size + 1 + 1, o2) :: (s1.heap.objs.size + 1, o3) :: (175, tabObj #[]) :: ls.map Lamp.ob) ?_ ?_ _ 0 [] _ (Nat.zero_add _) ⟨[], by rw [List.take_zero]; exact .nil, rfl, (fun _ h => nomatch h), rfl⟩
  · rintro i v I' oI' C' oC' D' m' ys' news' h' tk' E' hi hv ⟨ls, hla, rfl, hne, hnews⟩ hC' hx' F' N' off' ne'
    obtain ⟨x, tx, hx, rfl⟩ := ints_at hI1 hv
    have hin : ∀ q ∈ [(D1, listOf ws1.toArray 0), (s1.heap.objs.size + 1 + 1 + 1, o1), (s1.heap.objs.size + 1 + 1, o2), (s1.heap.objs.size + 1, o3), (175, tabObj #[])], q ∈ news' := fun q hq => by rw [hnews]; exact List.mem_append_left (bs := ls.map Lamp.ob) hq
    k_steps
    unfold Halt
    refine Ctr.use0 (lamp_c w x tx) (Nat.le_of_ble_eq_true rfl) (Nat.le_of_ble_eq_true rfl) (by k_asm) F' (by k_asm) N' (by k_asm) (by first | rfl | assumption) (fun _ hq => nomatch hq) ?_
    rintro sz5 _ _ h5 tk5 ⟨b, rfl, hb, rfl, hfr⟩ hsz5 F5 N5
    have rne : ∀ q ∈ (I', oI') :: (C', oC') :: (D', LCg.lst (List.map (fun f : Lamp => Value.ref f.l) ls)) :: news', @Ne Nat q.1 b.l := fun q hq e => by
      have := hsz5 q hq
      have e' : q.1 = b.l := e
      rw [e', hfr] at this; cases this
    have hap : (D1, listOf ws1.toArray 0) :: (s1.heap.objs.size + 1 + 1 + 1, o1) :: (s1.heap.objs.size + 1 + 1, o2) :: (s1.heap.objs.size + 1, o3) :: (175, tabObj #[]) :: (ls ++ [b]).map Lamp.ob = news' ++ [b.ob] := by rw [hnews, List.map_append]; rfl
    refine LCg.CompEnd.intro F5 N5 ((D1, listOf ws1.toArray 0) :: (s1.heap.objs.size + 1 + 1 + 1, o1) :: (s1.heap.objs.size + 1 + 1, o2) :: (s1.heap.objs.size + 1, o3) :: (175, tabObj #[]) :: (ls ++ [b]).map Lamp.ob) ?_ (LCg.Off3.of ?_) (.head _) ⟨ls ++ [b], by rw [List.take_add_one, hx]; exact hla.snoc hb, by rw [List.map_append]; rfl, ?_, rfl⟩
    · intro p hp
      rw [hap] at hp
      rcases List.mem_cons.mp hp with rfl | hp
      · exact .tail _ (.head _)
      rcases List.mem_cons.mp hp with rfl | hp
      · exact .tail _ (.tail _ (.head _))
      rcases List.mem_cons.mp hp with rfl | hp
      · exact .tail _ (.tail _ (.tail _ (.head _)))
      rcases List.mem_append.mp hp with hp | hp
      · exact .tail _ (.tail _ (.tail _ (.tail _ hp)))
      · rw [List.mem_singleton.mp hp]; exact .head _
    · intro p hp
      rw [hap] at hp
      rcases List.mem_append.mp hp with hp | hp
      · exact off'.mem p hp
      · rw [List.mem_singleton.mp hp]
        exact ⟨Ne.symm (rne _ (.head _)), Ne.symm (rne _ (.tail _ (.head _))), Ne.symm (rne _ (.tail _ (.tail _ (.head _))))⟩
    · intro c hc
      rcases List.mem_append.mp hc with hc | hc
      · exact hne c hc
      · rw [List.mem_singleton.mp hc]
        have k := fun q hq => rne q (.tail _ (.tail _ (.tail _ (hin q hq))))
        exact ⟨Ne.symm (k _ (.tail _ (.head _))), Ne.symm (k _ (.tail _ (.tail _ (.head _)))), Ne.symm (k _ (.tail _ (.tail _ (.tail _ (.head _))))), Ne.symm (k _ (.tail _ (.tail _ (.tail _ (.tail _ (.head _))))))⟩
  · rintro ys news ⟨ls, hla, rfl, hne, rfl⟩
    have hla' : LA ls xs := by
      have e : ws1.length = xs.length := hI1.length
      rw [e, List.take_length] at hla; exact hla
    clear hla
    have hX1 : ∀ p ∈ ls.map Lamp.ob, @Ne Nat p.1 (s1.heap.objs.size + 1 + 1 + 1) := fun p hp => by obtain ⟨b, hb, rfl⟩ := List.mem_map.mp hp; exact (hne b hb).1
    have hX2 : ∀ p ∈ ls.map Lamp.ob, @Ne Nat p.1 (s1.heap.objs.size + 1 + 1) := fun p hp => by obtain ⟨b, hb, rfl⟩ := List.mem_map.mp hp; exact (hne b hb).2.1
    have hX3 : ∀ p ∈ ls.map Lamp.ob, @Ne Nat p.1 (s1.heap.objs.size + 1) := fun p hp => by obtain ⟨b, hb, rfl⟩ := List.mem_map.mp hp; exact (hne b hb).2.2.1
    have hX4 : ∀ p ∈ ls.map Lamp.ob, @Ne Nat p.1 175 := fun p hp => by obtain ⟨b, hb, rfl⟩ := List.mem_map.mp hp; exact (hne b hb).2.2.2
    have hXm : ∀ b ∈ ls, b.ob ∈ ls.map Lamp.ob := fun b hb => List.mem_map_of_mem hb
    generalize ls.map Lamp.ob = X at *
    have hll : ls.length ≤ 12 := by rw [hla'.length, ← hI1.length]; exact hlx
    k_steps
    unfold Halt
    rename IsRange _ _ _ _ _ _ _ _ => R2
    rename Fr G _ _ _ => F2
    rename News G _ _ _ => N2
    rename_i ll _ _ ol _ oc1 _ _ dc1 _ _ _ _ _ _
    have hsz : (List.map (fun b : Lamp => Value.ref b.l) ls).toArray.size = ls.length := by simp
    rw [hsz] at R2
    obtain ⟨lo1, lo2, lo3, lo4, lo5, lo6⟩ := ol
    have hlamps := dc1
    refine compAt_range (news := (ll, LCg.lst (ls.map fun b : Lamp => Value.ref b.l)) :: (s1.heap.objs.size + 1 + 1 + 1, o1) :: (s1.heap.objs.size + 1 + 1, o2) :: (s1.heap.objs.size + 1, oc1) :: (175, tabObj #[]) :: X) ((ls.length + 1) / 2) (by rfl) R2 (rg0 _ (by omega)).1 (rg0 _ (by omega)).2 F2 ?_ (by rw [PySem.sizeLine_eq]; omega) ?_
    · intro p hp
      rcases List.mem_cons.mp hp with rfl | hp
      · exact N2 _ (by k_mem)
      rcases List.mem_cons.mp hp with rfl | hp
      · exact N2 _ (by k_mem)
      rcases List.mem_cons.mp hp with rfl | hp
      · exact N2 _ (by k_mem)
      rcases List.mem_cons.mp hp with rfl | hp
      · exact N2 _ (by k_mem)
      rcases List.mem_cons.mp hp with rfl | hp
      · exact N2 _ (by k_mem)
      · exact N2 _ (.tail _ (.tail _ (.tail _ (.tail _ (.tail _ (.tail _ hp))))))
    intro g3
    clear N2 F2 R2
    refine turns_inv (fun i ys news => ys = (pick ls 0 i).map (fun b => Value.ref b.l) ∧ news = _) ?_ ?_ _ 0 [] _ (Nat.zero_add _) ⟨rfl, rfl⟩
    · rintro i v I' oI' C' oC' D' m' ys' news' h' tk' E' hi ⟨_, t9, rfl⟩ ⟨rfl, rfl⟩ hC' hx' F' N' off' ne'
      obtain ⟨b, hb⟩ : ∃ b, ls[0 + 2 * i]? = some b := ⟨_, List.getElem?_eq_getElem (by omega)⟩
      have hg : getV (ls.map fun b : Lamp => Value.ref b.l) (0 + (i : Int) * 2).toNat = some (.ref b.l) := by rw [getV_eq, List.getElem?_map, show (0 + (i : Int) * 2).toNat = 0 + 2 * i by omega, hb]; rfl
      simp only [LCg.Off3, and_true] at off'
      k_steps
      rename Fr G _ _ _ => F9
      rename News G _ _ _ => N9
      refine LCg.CompEnd.intro F9 N9 _ (fun _ h => h) (by simp only [LCg.Off3]; exact off') trivial ⟨?_, rfl⟩
      rw [pick_succ hb, List.map_append]; rfl
    · rintro ys news ⟨rfl, rfl⟩
      k_steps
      unfold Halt
      rename IsRange _ _ _ _ _ _ _ _ => R3
      rename Fr G _ _ _ => F3
      rename News G _ _ _ => N3
      rename_i la1 _ _ _ _ ola _ _ _ _ _ _
      obtain ⟨lp1, lp2, lp3, lp4, lp5, lp6⟩ := ola
      rw [hsz] at R3
      refine compAt_range (news := (la1, LCg.lst ((pick ls 0 ((ls.length + 1) / 2)).map fun b : Lamp => Value.ref b.l)) :: (ll, LCg.lst (ls.map fun b : Lamp => Value.ref b.l)) :: (s1.heap.objs.size + 1 + 1 + 1, o1) :: (s1.heap.objs.size + 1 + 1, o2) :: (s1.heap.objs.size + 1, oc1) :: (175, tabObj #[]) :: X) (ls.length / 2) (by rfl) R3 (rg1 _ (by omega)).1 (rg1 _ (by omega)).2 F3 N3 (by rw [PySem.sizeLine_eq]; omega) ?_
      intro g4
      clear N3 F3 R3
      refine turns_inv (fun i ys news => ys = (pick ls 1 i).map (fun b => Value.ref b.l) ∧ news = _) ?_ ?_ _ 0 [] _ (Nat.zero_add _) ⟨rfl, rfl⟩
      · rintro i v I' oI' C' oC' D' m' ys' news' h' tk' E' hi ⟨_, t9, rfl⟩ ⟨rfl, rfl⟩ hC' hx' F' N' off' ne'
        obtain ⟨b, hb⟩ : ∃ b, ls[1 + 2 * i]? = some b := ⟨_, List.getElem?_eq_getElem (by omega)⟩
        have hg : getV (ls.map fun b : Lamp => Value.ref b.l) (1 + (i : Int) * 2).toNat = some (.ref b.l) := by rw [getV_eq, List.getElem?_map, show (1 + (i : Int) * 2).toNat = 1 + 2 * i by omega, hb]; rfl
        simp only [LCg.Off3, and_true] at off'
        k_steps
        rename Fr G _ _ _ => F9
        rename News G _ _ _ => N9
        refine LCg.CompEnd.intro F9 N9 _ (fun _ h => h) (by simp only [LCg.Off3]; exact off') trivial ⟨?_, rfl⟩
        rw [pick_succ hb, List.map_append]; rfl
      · rintro ys news ⟨rfl, rfl⟩
        have mk1 : Mark := rfl
        k_steps
        unfold Halt
        clear mk1
        rename Fr G _ _ _ => F5
        rename News G _ _ _ => N5
        rename_i lb1 _ _ olb
        obtain ⟨lq1, lq2, lq3, lq4, lq5, lq6, lq7⟩ := olb
        have honm : ∀ b ∈ pick ls 0 ((ls.length + 1) / 2), b ∈ ls := fun b hb => pick_mem hb
        have hotm : ∀ b ∈ pick ls 1 (ls.length / 2), b ∈ ls := fun b hb => pick_mem hb
        have honl : (pick ls 0 ((ls.length + 1) / 2)).length ≤ 12 := Nat.le_trans (List.length_filterMap_le _ _) (by rw [List.length_range]; omega)
        have hotl : (pick ls 1 (ls.length / 2)).length ≤ 12 := Nat.le_trans (List.length_filterMap_le _ _) (by rw [List.length_range]; omega)
        generalize pick ls 0 ((ls.length + 1) / 2) = on at *
        generalize pick ls 1 (ls.length / 2) = ot at *
        have hok : ∀ b ∈ ls, ∃ x, b.Is x := hla'.is
        refine kmk_add_lit F5 N5 (isL_of N5 (by k_mem)) (isL_of N5 (by k_mem)) (zs := (on ++ ot).map fun b : Lamp => Value.ref b.l) (by rw [List.map_append]) ?_ (by rw [PySem.sizeLine_eq]; simp; omega)
        intro lc h6 F6 N6 l6
        k_lt l6
        k_steps
        unfold Halt
        rename Fr G _ _ _ => F7
        rename News G _ _ _ => N7
        refine compAt_listN (vs := (on ++ ot).map fun b : Lamp => Value.ref b.l) (by rfl) F7 N7 (by k_mem) (by rw [PySem.sizeLine_eq]; simp; omega) ?_
        intro g7
        (try clear N6 F6)
        (try clear N5 F5)
        clear F7 N7
        refine turns_all (fun i v => ∃ b t, (on ++ ot)[i]? = some b ∧ v = Value.str b.text t) ?_ ?_
        · rintro i v I' oI' C' oC' D' m' ys' h' tk' E' hi hv hC' hx' F' N' off' ne'
          obtain ⟨b, hb, rfl⟩ : ∃ b, (on ++ ot)[i]? = some b ∧ v = .ref b.l := by
            rw [List.getElem?_map] at hv
            cases e : (on ++ ot)[i]? with
            | none => rw [e] at hv; cases hv
            | some b => rw [e] at hv; exact ⟨b, rfl, (Option.some.inj hv).symm⟩
          have hbm : b ∈ ls := by
            rcases List.mem_append.mp (List.mem_of_getElem? hb) with h | h
            · exact honm b h
            · exact hotm b h
          obtain ⟨bx, hbx⟩ := hok b hbm
          have hbo := hbx.ok
          have hb3 := hbx.b3
          obtain ⟨hb40, hb44⟩ := hbx.b4
          have hbX : (b.l, listOf [Value.int b.lo b.t0, .int b.hi b.t1, .int b.la b.t2, .int b.x3 b.t3, .int b.x4 b.t4, .int b.x5 b.t5].toArray 0) ∈ X := hXm b hbm
          have N8 : News G s1.heap.objs.size h' ((b.l, listOf [Value.int b.lo b.t0, .int b.hi b.t1, .int b.la b.t2, .int b.x3 b.t3, .int b.x4 b.t4, .int b.x5 b.t5].toArray 0) :: (I', oI') :: (C', oC') :: (D', LCg.lst ys') :: (lc, listOf ((on ++ ot).map fun b : Lamp => Value.ref b.l).toArray 0) :: (lb1, LCg.lst (ot.map fun b : Lamp => Value.ref b.l)) :: (la1, LCg.lst (on.map fun b : Lamp => Value.ref b.l)) :: (ll, LCg.lst (ls.map fun b : Lamp => Value.ref b.l)) :: (s1.heap.objs.size + 1 + 1 + 1, o1) :: (s1.heap.objs.size + 1 + 1, o2) :: (s1.heap.objs.size + 1, oc1) :: (175, tabObj #[]) :: X) := by
            intro p hp
            rcases List.mem_cons.mp hp with rfl | hp
            · exact N' _ (.tail _ (.tail _ (.tail _ (.tail _ (.tail _ (.tail _ (.tail _ (.tail _ (.tail _ (.tail _ (.tail _ hbX)))))))))))
            · exact N' _ hp
          clear N'
          k_steps
          unfold Halt
          rename Fr G _ _ _ => F9
          rename News G _ _ _ => N9
          refine Ctr.use0 (word_c w b.lo b.hi b.la b.x3 b.x4 b.x5 (by have := hbo.h0; omega) (by have := hbo.h1; omega) (by have := hbo.h2; omega) b.t0 b.t1 b.t2 b.t3 b.t4 b.t5 b.l) (Nat.le_of_ble_eq_true rfl) (Nat.le_of_ble_eq_true rfl) (by k_asm) F9 (by k_asm) N9 (by k_asm) (by first | rfl | assumption) (fun q hq => by rw [List.mem_singleton.mp hq]; exact (N9 _ (.head _)).1) ?_
          rintro sz10 _ _ h10 tk10 ⟨rfl, t10, rfl⟩ hsz10 F10 N10
          rw [Lamp.word_eq hbo]
          dsimp only [List.nil_append] at N10
          clear hsz10 N9 F9
          k_steps
          unfold Halt
          refine Ctr.use0 (spell_c w b.x3 hb3 b.word (by show 3 ≤ 3; omega) _ _) (Nat.le_of_ble_eq_true rfl) (Nat.le_of_ble_eq_true rfl) (by k_asm) F10 (by k_asm) N10 (by k_asm) (by first | rfl | assumption) (fun _ hq => nomatch hq) ?_
          rintro sz11 _ _ h11 tk11 ⟨rfl, t11, rfl⟩ hsz11 F11 N11
          dsimp only [List.nil_append] at N11
          clear hsz11 N10 F10
          have hs8 : (spellT b.x3 b.word).length ≤ 8 := spell_len (by show 3 ≤ 3; omega)
          have hs1 : (Txt.item (Str.ofString "\n \t\x0d") b.x4).length ≤ 1 := item_len ⟨hb40, hb44⟩
          k_steps
          rename Fr G _ _ _ => F12
          rename News G _ _ _ => N12
          refine LCg.CompEnd.intro F12 N12 _ (fun p hp => .tail _ hp) off' (by k_mem) ⟨rfl, b, _, hb, rfl⟩
        · intro ys hl hO
          have hb4 : ∀ b ∈ on ++ ot, 0 ≤ b.x4 ∧ b.x4 < 4 := fun b hb => by
            obtain ⟨x, hx⟩ := hok b (by rcases List.mem_append.mp hb with h | h; exact honm b h; exact hotm b h)
            exact hx.b4
          have hJ : JoinOk (Str.ofString "") ((on ++ ot).map Lamp.text) = true := joinOk_of _ (by decide +kernel) _ (by simp; omega) (by
            intro t ht
            obtain ⟨c, hc, rfl⟩ := List.mem_map.mp ht
            exact Nat.le_trans (text_len (hb4 c hc)) (by decide))
          have hLn : (Txt.join (Str.ofString "") ((on ++ ot).map Lamp.text)).length ≤ 300 := by
            have := join0_len (k := 9) ((on ++ ot).map Lamp.text) (by intro t ht; obtain ⟨c, hc, rfl⟩ := List.mem_map.mp ht; exact text_len (hb4 c hc))
            simp only [List.length_map, List.length_append] at this
            omega
          obtain ⟨lt, rfl, hlt⟩ := strs_ofL (cs := on ++ ot) (g := Lamp.text) (by simpa using hl) hO
          k_steps
          unfold Halt
          rename CodeHd _ _ _ => hcd
          rename Fr G _ _ _ => F1
          rename News G _ _ _ => N1
          refine lexer_c (x := Txt.join (Str.ofString "") ((on ++ ot).map Lamp.text)) (by omega) ((lb1, LCg.lst (ot.map fun b : Lamp => Value.ref b.l)) :: (la1, LCg.lst (on.map fun b : Lamp => Value.ref b.l)) :: (s1.heap.objs.size + 1 + 1 + 1, o1) :: (s1.heap.objs.size + 1 + 1, o2) :: (s1.heap.objs.size + 1, oc1) :: X) (Nat.le_of_ble_eq_true rfl) (Nat.le_of_ble_eq_true rfl) (by k_asm) F1 (by k_asm) N1 (by k_asm) (by first | rfl | assumption) hcd (by k_mem) ?lx1 ?lx2 ?_
          case lx1 =>
            intro q hq
            rcases List.mem_cons.mp hq with rfl | hq
            · k_mem
            rcases List.mem_cons.mp hq with rfl | hq
            · k_mem
            rcases List.mem_cons.mp hq with rfl | hq
            · k_mem
            rcases List.mem_cons.mp hq with rfl | hq
            · k_mem
            rcases List.mem_cons.mp hq with rfl | hq
            · k_mem
            exact List.mem_append_right [_, _, _, _, _, _, _, _, _] hq
          case lx2 =>
            intro q hq
            rcases List.mem_cons.mp hq with rfl | hq
            · exact lq6
            rcases List.mem_cons.mp hq with rfl | hq
            · exact lp5
            rcases List.mem_cons.mp hq with rfl | hq
            · show @Ne Nat _ _; omega
            rcases List.mem_cons.mp hq with rfl | hq
            · show @Ne Nat _ _; omega
            rcases List.mem_cons.mp hq with rfl | hq
            · show @Ne Nat _ _; omega
            exact Ne.symm (hX4 q hq)
          rintro sz2 _ _ h2 tk2 ⟨a, t2, e1, e2, lz, tps, ok, rfl, hlz, rfl, hcl, hfr⟩ hsz2 F2 N2
          have hle : ∀ q ∈ (lb1, LCg.lst (ot.map fun b : Lamp => Value.ref b.l)) :: (la1, LCg.lst (on.map fun b : Lamp => Value.ref b.l)) :: (s1.heap.objs.size + 1 + 1 + 1, o1) :: (s1.heap.objs.size + 1 + 1, o2) :: (s1.heap.objs.size + 1, oc1) :: (175, tabObj #[]) :: X, @LT.lt Nat _ q.1 a.cl ∧ @Ne Nat q.1 a.lf := by
            intro q hq
            have hq' : sz2.get? q.1 = some q.2 := by
              refine hsz2 q ?_
              rcases List.mem_cons.mp hq with rfl | hq
              · k_mem
              rcases List.mem_cons.mp hq with rfl | hq
              · k_mem
              rcases List.mem_cons.mp hq with rfl | hq
              · k_mem
              rcases List.mem_cons.mp hq with rfl | hq
              · k_mem
              rcases List.mem_cons.mp hq with rfl | hq
              · k_mem
              exact List.mem_append_right [_, _, _, _, _, _, _, _] hq
            refine ⟨Nat.lt_of_lt_of_le (Heap.lt_size hq') hcl, fun e => ?_⟩
            have := hfr (a.lf, listOf (leftV lz).toArray e2) (by dsimp only [LX.led]; k_mem)
            rw [show (a.lf, listOf (leftV lz).toArray e2).1 = q.1 from e.symm, hq'] at this
            cases this
          clear hsz2 hfr N1 F1 hcl
          obtain ⟨z1, z1'⟩ := hle _ (.head _)
          obtain ⟨z2, z2'⟩ := hle _ (.tail _ (.head _))
          obtain ⟨z3, z3'⟩ := hle _ (.tail _ (.tail _ (.head _)))
          obtain ⟨z4, z4'⟩ := hle _ (.tail _ (.tail _ (.tail _ (.head _))))
          obtain ⟨z5, z5'⟩ := hle _ (.tail _ (.tail _ (.tail _ (.tail _ (.head _)))))
          obtain ⟨z6, z6'⟩ := hle _ (.tail _ (.tail _ (.tail _ (.tail _ (.tail _ (.head _))))))
          dsimp only at z1 z1' z2 z2' z3 z3' z4 z4' z5 z5' z6 z6'
          have hoff0 : ∀ q ∈ ((lb1, LCg.lst (ot.map fun b : Lamp => Value.ref b.l)) :: (la1, LCg.lst (on.map fun b : Lamp => Value.ref b.l)) :: (s1.heap.objs.size + 1 + 1 + 1, o1) :: (s1.heap.objs.size + 1 + 1, o2) :: (s1.heap.objs.size + 1, oc1) :: (175, tabObj tps) :: X), a.Off q.1 := by
            intro q hq
            rcases List.mem_cons.mp hq with rfl | hq
            · exact .low ok ⟨z1, z1'⟩
            rcases List.mem_cons.mp hq with rfl | hq
            · exact .low ok ⟨z2, z2'⟩
            rcases List.mem_cons.mp hq with rfl | hq
            · exact .low ok ⟨z3, z3'⟩
            rcases List.mem_cons.mp hq with rfl | hq
            · exact .low ok ⟨z4, z4'⟩
            rcases List.mem_cons.mp hq with rfl | hq
            · exact .low ok ⟨z5, z5'⟩
            rcases List.mem_cons.mp hq with rfl | hq
            · exact .low ok ⟨z6, z6'⟩
            exact .low ok (hle q (List.mem_append_right [_, _, _, _, _, _] hq))
          obtain ⟨m31, m32, m33, m34, m35, m36, m37, m38, m39⟩ := (LX.Off.low ok ⟨z3, z3'⟩).neA
          obtain ⟨m41, m42, m43, m44, m45, m46, m47, m48, m49⟩ := (LX.Off.low ok ⟨z4, z4'⟩).neA
          have hXa : ∀ p ∈ X, @LT.lt Nat _ p.1 a.cl ∧ @Ne Nat p.1 a.lf := fun p hp => hle p (List.mem_append_right [_, _, _, _, _, _] hp)
          clear hle
          obtain ⟨q1, q2, q3, q4, q5, q6, q7, q8⟩ := ok.ord
          have hY1 : ∀ p ∈ X, @Ne Nat p.1 a.pb := fun p hp => Ne.symm (LX.Off.low ok (hXa p hp)).1
          have hY2 : ∀ p ∈ X, @Ne Nat p.1 a.lx := fun p hp => Ne.symm (LX.Off.low ok (hXa p hp)).2.1
          have hY3 : ∀ p ∈ X, @Ne Nat p.1 a.dx := fun p hp => Ne.symm (LX.Off.low ok (hXa p hp)).2.2.1
          have hY4 : ∀ p ∈ X, @Ne Nat p.1 a.fn := fun p hp => Ne.symm (LX.Off.low ok (hXa p hp)).2.2.2.1
          have hY5 : ∀ p ∈ X, @Ne Nat p.1 a.cd := fun p hp => Ne.symm (LX.Off.low ok (hXa p hp)).2.2.2.2.1
          have hY6 : ∀ p ∈ X, @Ne Nat p.1 a.lf := fun p hp => (hXa p hp).2
          have hY7 : ∀ p ∈ X, @Ne Nat p.1 a.st := fun p hp => Ne.symm (LX.Off.low ok (hXa p hp)).2.2.2.2.2.2.1
          have hY8 : ∀ p ∈ X, @Ne Nat p.1 a.sd := fun p hp => Ne.symm (LX.Off.low ok (hXa p hp)).2.2.2.2.2.2.2.1
          have hY9 : ∀ p ∈ X, @Ne Nat p.1 a.cl := fun p hp => Ne.symm (LX.Off.low ok (hXa p hp)).2.2.2.2.2.2.2.2
          have hcodes : lz.map (·.1) = codesL on ++ codesL ot := by rw [hlz, join_codes, codesL_app]
          have hlen : lz.length ≤ 300 := by
            have h := congrArg List.length hlz
            rw [List.length_map, ← length_toList] at h
            omega
          replace N2 : News G s1.heap.objs.size h2 (a.led w.params 1 t2 [] e1 (leftV lz) e2 ++ (lb1, LCg.lst (ot.map fun b : Lamp => Value.ref b.l)) :: (la1, LCg.lst (on.map fun b : Lamp => Value.ref b.l)) :: (s1.heap.objs.size + 1 + 1 + 1, o1) :: (s1.heap.objs.size + 1 + 1, o2) :: (s1.heap.objs.size + 1, oc1) :: (175, tabObj tps) :: X) := by
            intro p hp
            refine N2 p ?_
            rcases List.mem_append.mp hp with hp | hp
            · exact .tail _ (List.mem_append_left _ hp)
            rcases List.mem_cons.mp hp with rfl | hp
            · exact .tail _ (List.mem_append_right _ (.head _))
            rcases List.mem_cons.mp hp with rfl | hp
            · exact .tail _ (List.mem_append_right _ (.tail _ (.head _)))
            rcases List.mem_cons.mp hp with rfl | hp
            · exact .tail _ (List.mem_append_right _ (.tail _ (.tail _ (.head _))))
            rcases List.mem_cons.mp hp with rfl | hp
            · exact .tail _ (List.mem_append_right _ (.tail _ (.tail _ (.tail _ (.head _)))))
            rcases List.mem_cons.mp hp with rfl | hp
            · exact .tail _ (List.mem_append_right _ (.tail _ (.tail _ (.tail _ (.tail _ (.head _))))))
            rcases List.mem_cons.mp hp with rfl | hp
            · exact .head _
            · exact .tail _ (List.mem_append_right _ (.tail _ (.tail _ (.tail _ (.tail _ (.tail _ hp))))))
          dsimp only [LX.led, List.cons_append, List.nil_append] at N2
          have hgood : ∀ b ∈ ls, b.Ok ∧ (0 ≤ b.x3 ∧ b.x3 < 3) ∧ 0 ≤ b.x4 ∧ b.x4 < 4 := fun b hb => by
            obtain ⟨x, hx⟩ := hok b hb
            exact ⟨hx.ok, hx.b3, hx.b4⟩
          obtain ⟨p1, hp1, hr1⟩ := reads_all on (fun b hb => hgood b (honm b hb)) [] (.inl rfl)
          obtain ⟨p2, hp2, hr2⟩ := reads_all ot (fun b hb => hgood b (hotm b hb)) p1 hp1
          replace hr1 : readsL on (lz.map (·.1)) = some (p1 ++ codesL ot) := by rw [hcodes]; exact hr1 (codesL ot)
          replace hr2 : readsL ot (p1 ++ codesL ot) = some p2 := by
            have := hr2 []
            rwa [List.append_nil, List.append_nil] at this
          k_steps
          unfold Halt
          rename Fr G _ _ _ => F3
          rename News G _ _ _ => N3
          refine table_u ok ((lb1, LCg.lst (ot.map fun b : Lamp => Value.ref b.l)) :: (la1, LCg.lst (on.map fun b : Lamp => Value.ref b.l)) :: (s1.heap.objs.size + 1 + 1 + 1, o1) :: (s1.heap.objs.size + 1 + 1, o2) :: (s1.heap.objs.size + 1, oc1) :: (175, tabObj tps) :: X) (on.map fun b : Lamp => Value.ref b.l).length on (fun b hb => (hgood b (honm b hb)).1) (p1 ++ codesL ot) hr1 (by omega) (.tail _ (.head _)) (fun b hb => List.mem_append_right [_, _, _, _, _, _] (hXm b (honm b hb))) hoff0 (Nat.le_of_ble_eq_true rfl) (Nat.le_of_ble_eq_true rfl) (by k_asm) F3 (by k_asm) N3 (by k_asm) (by first | rfl | assumption) ?_
          intro tl vs et no1 t3 l1 e3 h3 tk3 hvs hl1 hno1 hTa hT F4 N4
          have hTa' := hTa
          have hT' := hT
          obtain ⟨y1, y2, y3, y4, y5, y6, y7, y8, y9⟩ := hTa.neA
          clear hTa
          replace hT := neA_all hT
          simp only [List.forall_mem_cons] at hT
          obtain ⟨x1, x2, x3, x4, x5, x6, hXt⟩ := hT
          replace hXt : ∀ p ∈ X, @Ne Nat p.1 tl := hXt
          clear N3 F3
          dsimp only [LX.led, List.cons_append, List.nil_append] at N4
          k_steps
          unfold Halt
          rename Fr G _ _ _ => F5
          rename News G _ _ _ => N5
          refine eq_intsK (isL_of N5 (by k_mem)) hvs.ints (isL_of (vs := []) N5 (by k_mem)) .nil (by units_room) ?_
          rw [decide_eq_false (show ¬ (tabOf on = []) from fun e => by have := tabOf_len on; rw [e] at this; cases this)]
          k_steps
          unfold Halt
          rename Fr G _ _ _ => F6
          rename News G _ _ _ => N6
          refine turned_u ok ((lb1, LCg.lst (ot.map fun b : Lamp => Value.ref b.l)) :: (la1, LCg.lst (on.map fun b : Lamp => Value.ref b.l)) :: (s1.heap.objs.size + 1 + 1 + 1, o1) :: (s1.heap.objs.size + 1 + 1, o2) :: (s1.heap.objs.size + 1, oc1) :: (175, tabObj tps) :: X) (tabOf on) hvs (tabOf_len on) hTa' hT' hoff0 (Nat.le_of_ble_eq_true rfl) (Nat.le_of_ble_eq_true rfl) (by k_asm) F6 (by k_asm) (fun p hp => N6 p (.tail _ hp)) (by k_asm) (by first | rfl | assumption) ?_
          intro nl nvs e4 ner h4 tk4 hnvs hNo hN F7 N7
          clear F6 N6
          (try clear F5)
          (try clear N5)
          (try clear F4)
          (try clear N4)
          clear hTa' hT' y1 y2 y3 y4 y5 y6 y7 y8 y9 x1 x2 x3 x4 x5 x6 hXt
          have hNo' := hNo
          have hN' := hN
          obtain ⟨y1, y2, y3, y4, y5, y6, y7, y8, y9⟩ := hNo.neA
          clear hNo
          replace hN := neA_all hN
          simp only [List.forall_mem_cons] at hN
          obtain ⟨x1, x2, x3, x4, x5, x6, hXt⟩ := hN
          replace hXt : ∀ p ∈ X, @Ne Nat p.1 nl := hXt
          dsimp only [LX.led, List.cons_append, List.nil_append] at N7
          k_steps
          unfold Halt
          rename Fr G _ _ _ => F1
          rename News G _ _ _ => N1
          rename _ = Data.cell (some (Value.ref nl)) => hc2
          rename Obj => o2'
          have hoff1 : ∀ q ∈ (nl, listOf nvs.toArray ner) :: (lb1, LCg.lst (ot.map fun b : Lamp => Value.ref b.l)) :: (la1, LCg.lst (on.map fun b : Lamp => Value.ref b.l)) :: (s1.heap.objs.size + 1 + 1 + 1, o1) :: (s1.heap.objs.size + 1 + 1, o2') :: (s1.heap.objs.size + 1, oc1) :: (175, tabObj tps) :: X, a.Off q.1 := by
            intro q hq
            rcases List.mem_cons.mp hq with rfl | hq
            · exact hNo'
            rcases List.mem_cons.mp hq with rfl | hq
            · exact hoff0 _ (.head _)
            rcases List.mem_cons.mp hq with rfl | hq
            · exact hoff0 _ (.tail _ (.head _))
            rcases List.mem_cons.mp hq with rfl | hq
            · exact hoff0 _ (.tail _ (.tail _ (.head _)))
            rcases List.mem_cons.mp hq with rfl | hq
            · exact hoff0 (s1.heap.objs.size + 1 + 1, o2) (.tail _ (.tail _ (.tail _ (.head _))))
            exact hoff0 q (.tail _ (.tail _ (.tail _ (.tail _ hq))))
          have hl1l : l1.length ≤ 301 := by
            have h := congrArg List.length hl1
            have h2 := congrArg List.length hcodes
            rw [List.length_map] at h h2
            rw [List.length_append] at h h2
            have h3 : p1.length ≤ 1 := by rcases hp1 with rfl | ⟨c, _, rfl⟩ <;> simp
            omega
          refine table_u (no := no1) (t2 := t3) (e1 := e4) (l := l1) (e2 := e3) ok ((nl, listOf nvs.toArray ner) :: (lb1, LCg.lst (ot.map fun b : Lamp => Value.ref b.l)) :: (la1, LCg.lst (on.map fun b : Lamp => Value.ref b.l)) :: (s1.heap.objs.size + 1 + 1 + 1, o1) :: (s1.heap.objs.size + 1 + 1, o2') :: (s1.heap.objs.size + 1, oc1) :: (175, tabObj tps) :: X) (ot.map fun b : Lamp => Value.ref b.l).length ot (fun b hb => (hgood b (hotm b hb)).1) p2 (by rw [hl1]; exact hr2) (by omega) (.tail _ (.head _)) (fun b hb => List.mem_append_right [_, _, _, _, _, _, _] (hXm b (hotm b hb))) hoff1 (Nat.le_of_ble_eq_true rfl) (Nat.le_of_ble_eq_true rfl) (by k_asm) F1 (by k_asm) (fun p hp => N1 p ?mm) (by k_asm) (by first | rfl | assumption) ?_
          case mm =>
            rcases List.mem_append.mp hp with hp | hp
            · exact List.mem_append_left (as := (nl, listOf nvs.toArray ner) :: a.led w.params no1 t3 [] e4 (leftV l1) e3) (bs := (lb1, LCg.lst (ot.map fun b : Lamp => Value.ref b.l)) :: (la1, LCg.lst (on.map fun b : Lamp => Value.ref b.l)) :: (s1.heap.objs.size + 1 + 1 + 1, o1) :: (s1.heap.objs.size + 1 + 1, o2') :: (s1.heap.objs.size + 1, oc1) :: (175, tabObj tps) :: X) (.tail _ hp)
            · rcases List.mem_cons.mp hp with rfl | hp
              · exact .head _
              · exact List.mem_append_right [_, _, _, _, _, _, _, _, _, _] hp
          intro tl2 vs2 et2 no2 t4 l2 e5 h5 tk5 hvs2 hl2 hno2 hTa hT F2 N2
          have hTa' := hTa
          have hT' := hT
          obtain ⟨u1, u2, u3, u4, u5, u6, u7, u8, u9⟩ := hTa.neA
          clear hTa
          replace hT := neA_all hT
          simp only [List.forall_mem_cons] at hT
          obtain ⟨w0, w1, w2, w3, w4, w5, w6, hXt2⟩ := hT
          replace hXt2 : ∀ p ∈ X, @Ne Nat p.1 tl2 := hXt2
          clear N1 F1
          dsimp only [LX.led, List.cons_append, List.nil_append] at N2
          k_steps
          unfold Halt
          rename Fr G _ _ _ => F3
          rename News G _ _ _ => N3
          refine eq_intsK (isL_of N3 (by k_mem)) hvs2.ints (isL_of (vs := []) N3 (by k_mem)) .nil (by units_room) ?_
          rw [decide_eq_false (show ¬ (tabOf ot = []) from fun e => by have := tabOf_len ot; rw [e] at this; cases this)]
          k_steps
          unfold Halt
          rename Fr G _ _ _ => F6
          rename News G _ _ _ => N6
          refine turned_u ok ((nl, listOf nvs.toArray ner) :: (lb1, LCg.lst (ot.map fun b : Lamp => Value.ref b.l)) :: (la1, LCg.lst (on.map fun b : Lamp => Value.ref b.l)) :: (s1.heap.objs.size + 1 + 1 + 1, o1) :: (s1.heap.objs.size + 1 + 1, o2') :: (s1.heap.objs.size + 1, oc1) :: (175, tabObj tps) :: X) (tabOf ot) hvs2 (tabOf_len ot) hTa' hT' hoff1 (Nat.le_of_ble_eq_true rfl) (Nat.le_of_ble_eq_true rfl) (by k_asm) F6 (by k_asm) (fun p hp => N6 p (.tail _ hp)) (by k_asm) (by first | rfl | assumption) ?_
          intro fl fvs e6 fer h6 tk6 hfvs hFo hF F7 N7
          clear F6 N6
          (try clear F3)
          (try clear N3)
          (try clear F2)
          (try clear N2)
          clear hTa' hT' u1 u2 u3 u4 u5 u6 u7 u8 u9 w0 w1 w2 w3 w4 w5 w6 hXt2
          have hFo' := hFo
          have hF' := hF
          obtain ⟨u1, u2, u3, u4, u5, u6, u7, u8, u9⟩ := hFo.neA
          clear hFo
          replace hF := neA_all hF
          simp only [List.forall_mem_cons] at hF
          obtain ⟨w0, w1, w2, w3, w4, w5, w6, hXt2⟩ := hF
          replace hXt2 : ∀ p ∈ X, @Ne Nat p.1 fl := hXt2
          dsimp only [LX.led, List.cons_append, List.nil_append] at N7
          k_steps
          unfold Halt
          rename Obj => o3'
          rename _ = Data.cell (some (Value.ref fl)) => hc3
          rename IsRange _ _ _ _ _ _ _ _ => R1
          rename Fr G _ _ _ => F1
          rename News G _ _ _ => N1
          have hxn8 : (turnedL (tabOf on)).length = 8 := turned_len (tabOf_len on)
          have hxf8 : (turnedL (tabOf ot)).length = 8 := turned_len (tabOf_len ot)
          have hxnb : Bnd 96000 (turnedL (tabOf on)) := turned_bnd (tabOf_len on) (tab_bnd (fun b hb => (hgood b (honm b hb)).1) honl)
          have hxfb : Bnd 96000 (turnedL (tabOf ot)) := turned_bnd (tabOf_len ot) (tab_bnd (fun b hb => (hgood b (hotm b hb)).1) hotl)
          have hm3 := law_math on ot diff_is
          generalize hxn : turnedL (tabOf on) = xn at *
          generalize hxf : turnedL (tabOf ot) = xf at *
          refine compAt_range (news := (fl, listOf fvs.toArray fer) :: (a.led w.params no2 t4 [] e6 (leftV l2) e5 ++ (nl, listOf nvs.toArray ner) :: (lb1, LCg.lst (ot.map fun b : Lamp => Value.ref b.l)) :: (la1, LCg.lst (on.map fun b : Lamp => Value.ref b.l)) :: (s1.heap.objs.size + 1 + 1 + 1, o3') :: (s1.heap.objs.size + 1 + 1, o2') :: (s1.heap.objs.size + 1, oc1) :: (175, tabObj tps) :: X)) 8 (by rfl) R1 (by decide) (by decide) F1 N1 (by decide) ?_
          intro g1
          clear N1 F1 R1
          dsimp only [LX.led, List.cons_append, List.nil_append]
          refine turns_all (fun i v => ∃ t, v = .int (xn.getD i 0 * xf.getD i 0) t) ?_ ?_
          · rintro i v I' oI' C' oC' D' m' ys' h' tk' E' hi ⟨_, t9, rfl⟩ hC' hx' F' N' off' ne'
            obtain ⟨tn, hn⟩ := hnvs.at (k := i) (by omega)
            obtain ⟨tf, hf⟩ := hfvs.at (k := i) (by omega)
            have hbn := getD_bnd (by decide) hxnb i
            have hbf := getD_bnd (by decide) hxfb i
            have hmb := mul_bnd hbn hbf
            generalize hvn : xn.getD i 0 = vn at *
            generalize hvf : xf.getD i 0 = vf at *
            have hg1 : getV nvs (0 + (i : Int) * 1).toNat = some (.int vn tn) := by rw [getV_eq, show (0 + (i : Int) * 1).toNat = i by omega]; exact hn
            have hg2 : getV fvs (0 + (i : Int) * 1).toNat = some (.int vf tf) := by rw [getV_eq, show (0 + (i : Int) * 1).toNat = i by omega]; exact hf
            k_steps
            rename Fr G _ _ _ => F9
            rename News G _ _ _ => N9
            refine LCg.CompEnd.intro F9 N9 _ (fun _ h => h) (by simp only [LCg.Off3] at off' ⊢; exact off') trivial ⟨rfl, _, by rw [hvn, hvf]⟩
          · intro ys hl hO
            have hml : IL ys (mulL xn xf) := IL.of_at8 _ hl hO
            k_steps
            unfold Halt
            rename Fr G _ _ _ => F3
            rename News G _ _ _ => N3
            rename (_ ≠ _ ∧ _ ≠ _ ∧ _ ≠ _ ∧ _ ≠ _ ∧ _ ≠ _ ∧ _ ≠ _ ∧ _ ≠ _ ∧ _ ≠ _ ∧ _ ≠ _ ∧ _ ≠ _ ∧ _) => od
            obtain ⟨_, d1, d2, d3, d4, d5, d6, d7, d8, d9, _, d10, d11, _, _, _, d13, d12⟩ := od
            have hoff3 : ∀ q ∈ (lb1, LCg.lst (ot.map fun b : Lamp => Value.ref b.l)) :: (la1, LCg.lst (on.map fun b : Lamp => Value.ref b.l)) :: (175, tabObj tps) :: X, a.Off q.1 := by
              intro q hq
              rcases List.mem_cons.mp hq with rfl | hq
              · exact hoff0 _ (.head _)
              rcases List.mem_cons.mp hq with rfl | hq
              · exact hoff0 _ (.tail _ (.head _))
              exact hoff0 q (List.mem_append_right [_, _, _, _, _] hq)
            refine turned_u (no := no2) (t2 := t4) (e1 := e6) (lv := leftV l2) (e2 := e5) (vs := ys) (et := ys.length) ok ((lb1, LCg.lst (ot.map fun b : Lamp => Value.ref b.l)) :: (la1, LCg.lst (on.map fun b : Lamp => Value.ref b.l)) :: (175, tabObj tps) :: X) (mulL xn xf) hml rfl ⟨d1, d2, d3, d4, d5, d6, d7, d8, d9⟩ ?tu1 hoff3 (Nat.le_of_ble_eq_true rfl) (Nat.le_of_ble_eq_true rfl) (by k_asm) F3 (by k_asm) (fun p hp => N3 p ?tu2) (by k_asm) (by first | rfl | assumption) ?_
            case tu1 =>
              intro q hq
              rcases List.mem_cons.mp hq with rfl | hq
              · exact d10
              rcases List.mem_cons.mp hq with rfl | hq
              · exact d11
              rcases List.mem_cons.mp hq with rfl | hq
              · exact d13
              exact off1_mem d12 hq
            case tu2 =>
              rcases List.mem_cons.mp hp with rfl | hp
              · exact .head _
              rcases List.mem_append.mp hp with hp | hp
              · exact List.mem_append_left (as := (_, listOf ys.toArray ys.length) :: (fl, listOf fvs.toArray fer) :: a.led w.params no2 t4 [] e6 (leftV l2) e5) (bs := (nl, listOf nvs.toArray ner) :: (lb1, LCg.lst (ot.map fun b : Lamp => Value.ref b.l)) :: (la1, LCg.lst (on.map fun b : Lamp => Value.ref b.l)) :: (s1.heap.objs.size + 1 + 1 + 1, o3') :: (s1.heap.objs.size + 1 + 1, o2') :: (s1.heap.objs.size + 1, oc1) :: (175, tabObj tps) :: X) (.tail _ (.tail _ hp))
              rcases List.mem_cons.mp hp with rfl | hp
              · exact List.mem_append_right [_, _, _, _, _, _, _, _, _, _, _, _] (.head _)
              rcases List.mem_cons.mp hp with rfl | hp
              · exact List.mem_append_right [_, _, _, _, _, _, _, _, _, _, _, _, _] (.head _)
              · exact List.mem_append_right [_, _, _, _, _, _, _, _, _, _, _, _, _, _, _, _, _] hp
            rw [hm3]
            intro xl cvs e7 cer h7 tk7 hcvs hCo hC F8 N8
            clear F3 N3 hml hm3
            obtain ⟨u1, u2, u3, u4, u5, u6, u7, u8, u9⟩ := hCo.neA
            replace hC := neA_all hC
            simp only [List.forall_mem_cons] at hC
            obtain ⟨w1, w2, w3, hXt2⟩ := hC
            replace hXt2 : ∀ p ∈ X, @Ne Nat p.1 xl := hXt2
            dsimp only [LX.led, List.cons_append, List.nil_append] at N8
            k_steps
            unfold Halt
            rename Fr G _ _ _ => F9
            rename News G _ _ _ => N9
            (try clear F8)
            (try clear N8)
            have hcl8 : (crossedL on ot).length = 8 := by rw [cross_eq on ot diff_is]; rfl
            have hcv8 : cvs.length = 8 := by rw [hcvs.length, List.length_map, hcl8]
            refine compAt_listN (vs := cvs) (by rfl) F9 N9 (by k_mem) (by rw [PySem.sizeLine_eq, hcv8]; decide) ?_
            intro g1
            clear N9 F9
            refine turns_all (fun i v => ∃ t, v = .int 0 t) ?_ ?_
            · rintro i v I' oI' C' oC' D' m' ys' h' tk' E' hi hv hC' hx' F' N' off' ne'
              obtain ⟨tv, hv'⟩ := hcvs.at (k := i) (by rw [List.length_map, hcl8]; omega)
              have hv2 : v = .int ((crossedL on ot).getD i 0 * 8) tv := by
                rw [hv] at hv'
                have := Option.some.inj hv'
                rw [this]
                congr 1
                rw [List.getD_eq_getElem?_getD, List.getD_eq_getElem?_getD, List.getElem?_map]
                cases (crossedL on ot)[i]? <;> rfl
              subst hv2
              generalize (crossedL on ot).getD i 0 = vc at *
              k_steps
              rename Fr G _ _ _ => F9
              rename News G _ _ _ => N9
              refine LCg.CompEnd.intro F9 N9 _ (fun _ h => h) (by simp only [LCg.Off3] at off' ⊢; exact off') (.head _) ⟨rfl, _, by rw [Int.mul_fmod_left]⟩
            · intro ys hl hO
              have hmod : IL ys (F2L fun _ => 0) := IL.of_at8 (fun _ => 0) (hl.trans hcv8) hO
              k_steps
              unfold Halt
              rename Fr G _ _ _ => F1
              rename News G _ _ _ => N1
              rename IntsAre (List.flatten _) _ => i1
              refine ne_intsK (isL_of N1 (by k_mem)) hmod.ints (isL_of N1 (by k_mem)) i1 (by units_room) ?_
              rw [show (!decide ((F2L fun _ => 0) = (List.replicate (Int.toNat 8) [(0 : Int)]).flatten)) = false from by decide]
              k_steps
              unfold Halt
              rename Fr G _ _ _ => F2
              rename News G _ _ _ => N2
              refine compAt_listN (vs := cvs) (by rfl) F2 (news := (xl, listOf cvs.toArray cer) :: (a.led w.params no2 t4 [] e7 (leftV l2) e5 ++ (lb1, LCg.lst (ot.map fun b : Lamp => Value.ref b.l)) :: (la1, LCg.lst (on.map fun b : Lamp => Value.ref b.l)) :: (175, tabObj tps) :: X)) (fun p hp => N2 p (List.mem_append_right [_, _, _] hp)) (.head _) (by rw [PySem.sizeLine_eq, hcv8]; decide) ?_
              intro g2
              clear N2 F2 hmod i1 hl hO
              (try clear N1)
              (try clear F1)
              dsimp only [LX.led, List.cons_append, List.nil_append]
              refine turns_all (fun i v => ∃ t, v = .int ((crossedL on ot).getD i 0) t) ?_ ?_
              · rintro i v I' oI' C' oC' D' m' ys' h' tk' E' hi hv hC' hx' F' N' off' ne'
                obtain ⟨tv, hv'⟩ := hcvs.at (k := i) (by rw [List.length_map, hcl8]; omega)
                have hv2 : v = .int ((crossedL on ot).getD i 0 * 8) tv := by
                  rw [hv] at hv'
                  have := Option.some.inj hv'
                  rw [this]
                  congr 1
                  rw [List.getD_eq_getElem?_getD, List.getD_eq_getElem?_getD, List.getElem?_map]
                  cases (crossedL on ot)[i]? <;> rfl
                subst hv2
                generalize hvc : (crossedL on ot).getD i 0 = vc at *
                k_steps
                rename Fr G _ _ _ => F9
                rename News G _ _ _ => N9
                refine LCg.CompEnd.intro F9 N9 _ (fun _ h => h) (by simp only [LCg.Off3] at off' ⊢; exact off') (.head _) ⟨rfl, _, by rw [Int.mul_fdiv_cancel _ (by decide : (8 : Int) ≠ 0), hvc]⟩
              · intro zs hl hO
                have hflo : IL zs (crossedL on ot) := by
                  rw [cross_eq on ot diff_is] at hO ⊢
                  exact IL.of_at8 _ (hl.trans hcv8) fun i y hy => by
                    obtain ⟨t, rfl⟩ := hO i y hy
                    have hi : i < 8 := by rw [← hcv8, ← hl]; exact (List.getElem?_eq_some_iff.mp hy).1
                    exact ⟨t, by rw [F2L_get _ i hi]⟩
                k_steps
                unfold Halt
                rename Fr G _ _ _ => F3
                rename News G _ _ _ => N3
                refine Ctr.use0 (crossed_c w la1 lb1 (on.map fun b : Lamp => Value.ref b.l).length (ot.map fun b : Lamp => Value.ref b.l).length on ot (fun b hb => (hgood b (honm b hb)).1) (by omega)) (Nat.le_of_ble_eq_true rfl) (Nat.le_of_ble_eq_true rfl) (by k_asm) F3 (by k_asm) N3 (by k_asm) (by first | rfl | assumption) ?cr1 ?_
                case cr1 =>
                  intro q hq
                  rcases List.mem_cons.mp hq with rfl | hq
                  · exact (N3 _ (by k_mem)).1
                  rcases List.mem_cons.mp hq with rfl | hq
                  · exact (N3 _ (by k_mem)).1
                  obtain ⟨b, hb, rfl⟩ := List.mem_map.mp hq
                  have hb' : b ∈ ls := by
                    rcases List.mem_append.mp hb with h | h
                    · exact honm b h
                    · exact hotm b h
                  exact (N3 _ (List.mem_append_right [_, _, _, _, _, _, _, _, _, _, _, _, _, _] (hXm b hb'))).1
                rintro sz5 _ _ h5 tk5 ⟨dl, dvs, de, rfl, hdv, rfl, hdl⟩ hsz5 F5 N5
                dsimp only [List.cons_append, List.nil_append] at N5
                clear hsz5 hdl N3 F3
                k_steps
                unfold Halt
                refine ne_intsK (isL_of N5 (by k_mem)) hflo.ints (isL_of N5 (by k_mem)) hdv.ints (by units_room) ?_
                rw [show (!decide (crossedL on ot = crossedL on ot)) = false from by simp]
                k_steps
                unfold Halt
                rename Fr G _ _ _ => F6
                rename News G _ _ _ => N6
                have hp2l : p2.length ≤ 1 := by rcases hp2 with rfl | ⟨c, _, rfl⟩ <;> simp
                have hl2l : l2.length ≤ 1 := by
                  have h := congrArg List.length hl2
                  rw [List.length_map] at h
                  omega
                refine get_u (no := no2) (t2 := t4) (e1 := e7) (l := l2) (e2 := e5) ok [(175, tabObj tps)] [] [] (by rw [hl2]; exact hp2.done) (by omega) (fun q hq => by rw [List.mem_singleton.mp hq]; exact hoff0 (175, tabObj tps) (.tail _ (.tail _ (.tail _ (.tail _ (.tail _ (.head _))))))) (Nat.le_of_ble_eq_true rfl) (Nat.le_of_ble_eq_true rfl) (by k_asm) F6 (by k_asm) (fun p hp => N6 p ?ge1) (by k_asm) (by first | rfl | assumption) ?_
                case ge1 =>
                  rcases List.mem_append.mp hp with hp | hp
                  · exact List.mem_append_right [_, _, _] (List.mem_append_left (bs := (lb1, LCg.lst (ot.map fun b : Lamp => Value.ref b.l)) :: (la1, LCg.lst (on.map fun b : Lamp => Value.ref b.l)) :: (175, tabObj tps) :: X) hp)
                  · rw [List.mem_singleton.mp hp]; k_mem
                intro x1 tx1 no3 t5 l3 e8 h6 tk6 hx1 hl3 hno3 F7 N7
                clear N6 F6
                (try clear N5)
                (try clear F5)
                obtain rfl : l3 = [] := List.map_eq_nil_iff.mp hl3
                dsimp only [LX.led, List.cons_append, List.nil_append, List.append_nil] at N7
                k_steps
                unfold Halt
                rename Fr G _ _ _ => F8
                rename News G _ _ _ => N8
                refine get_u (no := no3) (t2 := t5) (e1 := e7) (l := []) (e2 := e8) ok [(175, tabObj tps)] [] [] lexT_nil (by decide) (fun q hq => by rw [List.mem_singleton.mp hq]; exact hoff0 (175, tabObj tps) (.tail _ (.tail _ (.tail _ (.tail _ (.tail _ (.head _))))))) (Nat.le_of_ble_eq_true rfl) (Nat.le_of_ble_eq_true rfl) (by k_asm) F8 (by k_asm) N8 (by k_asm) (by first | rfl | assumption) ?_
                intro x2 tx2 no4 t6 l4 e9 h7 tk7 hx2 hl4 hno4 F9 N9
                clear N8 F8
                (try clear N7)
                (try clear F7)
                obtain rfl : l4 = [] := List.map_eq_nil_iff.mp hl4
                obtain rfl := str_nil' hx1
                obtain rfl := str_nil' hx2
                dsimp only [LX.led, List.cons_append, List.nil_append, List.append_nil] at N9
                k_steps
                unfold Halt
                rename Fr G _ _ _ => F10
                rename News G _ _ _ => N10
                refine two_eq (isL_of N10 (by k_mem)) (isL_of N10 (by k_mem)) (by units_room) ?_
                have hval : no4 = 1 + Txt.count (Txt.join (Str.ofString "") ((on ++ ot).map Lamp.text)) (Str.ofString "\n") := by
                  rw [nl_is, count_cnt, cnt_is, ← hlz]
                  have e1 : nls lz = ((lz.map (·.1)).count 10 : Nat) := rfl
                  have e2 : nls [] = 0 := rfl
                  rw [← e1, hno4, hno3, hno2, hno1, e2]
                  omega
                k_steps
                unfold Halt
                rw [← hval]
                refine eq_int ?_
                rw [beq_self_eq_true]
                k_steps
end
end
end
end
end
end
end
end Mine
theorem PySem.Challenge.cw_sw0029_01_holds : PySem.Challenge.rw_sw0029_01.Holds := by
  exact Mine.law_p
