import PyProof.Rows.All
import Wide.All
import OpenK.AllK
import Wide.FinOn
import PySem.Challenge.RW_ij0104_01
set_option compiler.extract_closed false
section -- HK
open PySem PySem.W PyProof.Rows
set_option Elab.async false
set_option maxRecDepth 100000
set_option maxHeartbeats 8000000
namespace Mine
noncomputable def stAt (i : Nat) : Stmt := PySem.Challenge.pw_ij0104_01.main.body.getD i (.Pass default)
noncomputable def heapK : Params → Frag := by
  refine (?f : ∀ (a0 : Arguments) (b0 : List Stmt) (c0 : Scope) (n0 : Str) (d0 : List Expr) (r0 : Option Expr) (t0 : List TypeParam) (s0 : Option Scope) (e0 : Str) (p0 : Pos) (a1 : Arguments) (b1 : List Stmt) (c1 : Scope) (n1 : Str) (d1 : List Expr) (r1 : Option Expr) (t1 : List TypeParam) (s1 : Option Scope) (e1 : Str) (p1 : Pos) (a2 : Arguments) (b2 : List Stmt) (c2 : Scope) (n2 : Str) (d2 : List Expr) (r2 : Option Expr) (t2 : List TypeParam) (s2 : Option Scope) (e2 : Str) (p2 : Pos) (a3 : Arguments) (b3 : List Stmt) (c3 : Scope) (n3 : Str) (d3 : List Expr) (r3 : Option Expr) (t3 : List TypeParam) (s3 : Option Scope) (e3 : Str) (p3 : Pos) (a4 : Arguments) (b4 : List Stmt) (c4 : Scope) (n4 : Str) (d4 : List Expr) (r4 : Option Expr) (t4 : List TypeParam) (s4 : Option Scope) (e4 : Str) (p4 : Pos) (a5 : Arguments) (b5 : List Stmt) (c5 : Scope) (n5 : Str) (d5 : List Expr) (r5 : Option Expr) (t5 : List TypeParam) (s5 : Option Scope) (e5 : Str) (p5 : Pos) (a6 : Arguments) (b6 : List Stmt) (c6 : Scope) (n6 : Str) (d6 : List Expr) (r6 : Option Expr) (t6 : List TypeParam) (s6 : Option Scope) (e6 : Str) (p6 : Pos) (a7 : Arguments) (b7 : List Stmt) (c7 : Scope) (n7 : Str) (d7 : List Expr) (r7 : Option Expr) (t7 : List TypeParam) (s7 : Option Scope) (e7 : Str) (p7 : Pos) (a8 : Arguments) (b8 : List Stmt) (c8 : Scope) (n8 : Str) (d8 : List Expr) (r8 : Option Expr) (t8 : List TypeParam) (s8 : Option Scope) (e8 : Str) (p8 : Pos) (a9 : Arguments) (b9 : List Stmt) (c9 : Scope) (n9 : Str) (d9 : List Expr) (r9 : Option Expr) (t9 : List TypeParam) (s9 : Option Scope) (e9 : Str) (p9 : Pos) (a10 : Arguments) (b10 : List Stmt) (c10 : Scope) (n10 : Str) (d10 : List Expr) (r10 : Option Expr) (t10 : List TypeParam) (s10 : Option Scope) (e10 : Str) (p10 : Pos) (a11 : Arguments) (b11 : List Stmt) (c11 : Scope) (n11 : Str) (d11 : List Expr) (r11 : Option Expr) (t11 : List TypeParam) (s11 : Option Scope) (e11 : Str) (p11 : Pos) (a12 : Arguments) (b12 : List Stmt) (c12 : Scope) (n12 : Str) (d12 : List Expr) (r12 : Option Expr) (t12 : List TypeParam) (s12 : Option Scope) (e12 : Str) (p12 : Pos) (a13 : Arguments) (b13 : List Stmt) (c13 : Scope) (n13 : Str) (d13 : List Expr) (r13 : Option Expr) (t13 : List TypeParam) (s13 : Option Scope) (e13 : Str) (p13 : Pos) (a14 : Arguments) (b14 : List Stmt) (c14 : Scope) (n14 : Str) (d14 : List Expr) (r14 : Option Expr) (t14 : List TypeParam) (s14 : Option Scope) (e14 : Str) (p14 : Pos) (a15 : Arguments) (b15 : List Stmt) (c15 : Scope) (n15 : Str) (d15 : List Expr) (r15 : Option Expr) (t15 : List TypeParam) (s15 : Option Scope) (e15 : Str) (p15 : Pos) (a16 : Arguments) (b16 : List Stmt) (c16 : Scope) (n16 : Str) (d16 : List Expr) (r16 : Option Expr) (t16 : List TypeParam) (s16 : Option Scope) (e16 : Str) (p16 : Pos) (a17 : Arguments) (b17 : List Stmt) (c17 : Scope) (n17 : Str) (d17 : List Expr) (r17 : Option Expr) (t17 : List TypeParam) (s17 : Option Scope) (e17 : Str) (p17 : Pos) (a18 : Arguments) (b18 : List Stmt) (c18 : Scope) (n18 : Str) (d18 : List Expr) (r18 : Option Expr) (t18 : List TypeParam) (s18 : Option Scope) (e18 : Str) (p18 : Pos) (a19 : Arguments) (b19 : List Stmt) (c19 : Scope) (n19 : Str) (d19 : List Expr) (r19 : Option Expr) (t19 : List TypeParam) (s19 : Option Scope) (e19 : Str) (p19 : Pos) (a20 : Arguments) (b20 : List Stmt) (c20 : Scope) (n20 : Str) (d20 : List Expr) (r20 : Option Expr) (t20 : List TypeParam) (s20 : Option Scope) (e20 : Str) (p20 : Pos) (a21 : Arguments) (b21 : List Stmt) (c21 : Scope) (n21 : Str) (d21 : List Expr) (r21 : Option Expr) (t21 : List TypeParam) (s21 : Option Scope) (e21 : Str) (p21 : Pos) (a22 : Arguments) (b22 : List Stmt) (c22 : Scope) (n22 : Str) (d22 : List Expr) (r22 : Option Expr) (t22 : List TypeParam) (s22 : Option Scope) (e22 : Str) (p22 : Pos) (q0 : Str) (q1 : List Expr) (q2 : List Keyword) (q3 : Stmt) (q4 : List Stmt) (q5 : List Expr) (q6 : List TypeParam) (q7 : Scope) (q8 : Option Scope) (q9 : Str) (q10 : List Str) (q11 : Pos), stAt 1 = .FunctionDef n0 a0 b0 d0 r0 t0 c0 s0 e0 p0 → stAt 3 = .FunctionDef n1 a1 b1 d1 r1 t1 c1 s1 e1 p1 → stAt 4 = .FunctionDef n2 a2 b2 d2 r2 t2 c2 s2 e2 p2 → stAt 7 = .FunctionDef n6 a6 b6 d6 r6 t6 c6 s6 e6 p6 → stAt 10 = .FunctionDef n7 a7 b7 d7 r7 t7 c7 s7 e7 p7 → stAt 11 = .FunctionDef n8 a8 b8 d8 r8 t8 c8 s8 e8 p8 → stAt 12 = .FunctionDef n9 a9 b9 d9 r9 t9 c9 s9 e9 p9 → stAt 14 = .FunctionDef n10 a10 b10 d10 r10 t10 c10 s10 e10 p10 → stAt 17 = .FunctionDef n11 a11 b11 d11 r11 t11 c11 s11 e11 p11 → stAt 20 = .FunctionDef n12 a12 b12 d12 r12 t12 c12 s12 e12 p12 → stAt 22 = .FunctionDef n13 a13 b13 d13 r13 t13 c13 s13 e13 p13 → stAt 23 = .FunctionDef n14 a14 b14 d14 r14 t14 c14 s14 e14 p14 → stAt 25 = .FunctionDef n15 a15 b15 d15 r15 t15 c15 s15 e15 p15 → stAt 26 = .FunctionDef n16 a16 b16 d16 r16 t16 c16 s16 e16 p16 → stAt 27 = .FunctionDef n17 a17 b17 d17 r17 t17 c17 s17 e17 p17 → stAt 28 = .FunctionDef n18 a18 b18 d18 r18 t18 c18 s18 e18 p18 → stAt 29 = .FunctionDef n19 a19 b19 d19 r19 t19 c19 s19 e19 p19 → stAt 30 = .FunctionDef n20 a20 b20 d20 r20 t20 c20 s20 e20 p20 → stAt 31 = .FunctionDef n21 a21 b21 d21 r21 t21 c21 s21 e21 p21 → stAt 32 = .FunctionDef n22 a22 b22 d22 r22 t22 c22 s22 e22 p22 → stAt 5 = .ClassDef q0 q1 q2 (q3 :: .FunctionDef n3 a3 b3 d3 r3 t3 c3 s3 e3 p3 :: .FunctionDef n4 a4 b4 d4 r4 t4 c4 s4 e4 p4 :: .FunctionDef n5 a5 b5 d5 r5 t5 c5 s5 e5 p5 :: q4) q5 q6 q7 q8 q9 q10 q11 → Params → Frag) _ _ _ _ _ _ _ _ _ _ _ _ _ _ _ _ _ _ _ _ _ _ _ _ _ _ _ _ _ _ _ _ _ _ _ _ _ _ _ _ _ _ _ _ _ _ _ _ _ _ _ _ _ _ _ _ _ _ _ _ _ _ _ _ _ _ _ _ _ _ _ _ _ _ _ _ _ _ _ _ _ _ _ _ _ _ _ _ _ _ _ _ _ _ _ _ _ _ _ _ _ _ _ _ _ _ _ _ _ _ _ _ _ _ _ _ _ _ _ _ _ _ _ _ _ _ _ _ _ _ _ _ _ _ _ _ _ _ _ _ _ _ _ _ _ _ _ _ _ _ _ _ _ _ _ _ _ _ _ _ _ _ _ _ _ _ _ _ _ _ _ _ _ _ _ _ _ _ _ _ _ _ _ _ _ _ _ _ _ _ _ _ _ _ _ _ _ _ _ _ _ _ _ _ _ _ _ _ _ _ _ _ _ _ _ _ _ _ _ _ _ _ _ _ _ _ _ _ _ _ _ _ _ _ _ _ _ _ _ _ _ _ (by (conv => lhs; whnf)) (by (conv => lhs; whnf)) (by (conv => lhs; whnf)) (by (conv => lhs; whnf)) (by (conv => lhs; whnf)) (by (conv => lhs; whnf)) (by (conv => lhs; whnf)) (by (conv => lhs; whnf)) (by (conv => lhs; whnf)) (by (conv => lhs; whnf)) (by (conv => lhs; whnf)) (by (conv => lhs; whnf)) (by (conv => lhs; whnf)) (by (conv => lhs; whnf)) (by (conv => lhs; whnf)) (by (conv => lhs; whnf)) (by (conv => lhs; whnf)) (by (conv => lhs; whnf)) (by (conv => lhs; whnf)) (by (conv => lhs; whnf)) (by (conv => lhs; whnf))
  case f => exact fun a0 b0 c0 n0 d0 r0 t0 s0 e0 p0 a1 b1 c1 n1 d1 r1 t1 s1 e1 p1 a2 b2 c2 n2 d2 r2 t2 s2 e2 p2 a3 b3 c3 n3 d3 r3 t3 s3 e3 p3 a4 b4 c4 n4 d4 r4 t4 s4 e4 p4 a5 b5 c5 n5 d5 r5 t5 s5 e5 p5 a6 b6 c6 n6 d6 r6 t6 s6 e6 p6 a7 b7 c7 n7 d7 r7 t7 s7 e7 p7 a8 b8 c8 n8 d8 r8 t8 s8 e8 p8 a9 b9 c9 n9 d9 r9 t9 s9 e9 p9 a10 b10 c10 n10 d10 r10 t10 s10 e10 p10 a11 b11 c11 n11 d11 r11 t11 s11 e11 p11 a12 b12 c12 n12 d12 r12 t12 s12 e12 p12 a13 b13 c13 n13 d13 r13 t13 s13 e13 p13 a14 b14 c14 n14 d14 r14 t14 s14 e14 p14 a15 b15 c15 n15 d15 r15 t15 s15 e15 p15 a16 b16 c16 n16 d16 r16 t16 s16 e16 p16 a17 b17 c17 n17 d17 r17 t17 s17 e17 p17 a18 b18 c18 n18 d18 r18 t18 s18 e18 p18 a19 b19 c19 n19 d19 r19 t19 s19 e19 p19 a20 b20 c20 n20 d20 r20 t20 s20 e20 p20 a21 b21 c21 n21 d21 r21 t21 s21 e21 p21 a22 b22 c22 n22 d22 r22 t22 s22 e22 p22 q0 q1 q2 q3 q4 q5 q6 q7 q8 q9 q10 q11 _ _ _ _ _ _ _ _ _ _ _ _ _ _ _ _ _ _ _ _ _ P =>
    ((nat_lit 3, Obj.mk (Value.type "dict") (@none Nat) (Data.dict (List.toArray ((DictEntry.mk (PyData.keyHash P (Str.ofString "__name__")) (Value.str (Str.ofString "__name__") (165 : Nat)) (Value.str (Str.ofString "law_ij0104_01") (666 : Nat))) :: (DictEntry.mk (PyData.keyHash P (Str.ofString "__doc__")) (Value.str (Str.ofString "__doc__") (166 : Nat)) PySem.Value.none) :: (DictEntry.mk (PyData.keyHash P (Str.ofString "__package__")) (Value.str (Str.ofString "__package__") (167 : Nat)) PySem.Value.none) :: (DictEntry.mk (PyData.keyHash P (Str.ofString "__loader__")) (Value.str (Str.ofString "__loader__") (168 : Nat)) (Value.builtin "__main__.__loader__#opaque")) :: (DictEntry.mk (PyData.keyHash P (Str.ofString "__spec__")) (Value.str (Str.ofString "__spec__") (169 : Nat)) PySem.Value.none) :: (DictEntry.mk (PyData.keyHash P (Str.ofString "__annotations__")) (Value.str (Str.ofString "__annotations__") (170 : Nat)) (Value.ref (6 : Nat))) :: (DictEntry.mk (PyData.keyHash P (Str.ofString "__builtins__")) (Value.str (Str.ofString "__builtins__") (171 : Nat)) (Value.ref (4 : Nat))) :: (DictEntry.mk (PyData.keyHash P (Str.ofString "__file__")) (Value.str (Str.ofString "__file__") (173 : Nat)) (Value.str (Str.ofString "/claim/cut.py") (172 : Nat))) :: (DictEntry.mk (PyData.keyHash P (Str.ofString "__cached__")) (Value.str (Str.ofString "__cached__") (174 : Nat)) PySem.Value.none) :: (DictEntry.mk (PyData.keyHash P (Str.ofString "_sre")) (Value.str (Str.ofString "_sre") (275 : Nat)) (Value.ref (12 : Nat))) :: (DictEntry.mk (PyData.keyHash P (Str.ofString "_wall")) (Value.str (Str.ofString "_wall") (288 : Nat)) (Value.ref (38 : Nat))) :: (DictEntry.mk (PyData.keyHash P (Str.ofString "_is_int")) (Value.str (Str.ofString "_is_int") (298 : Nat)) (Value.ref (45 : Nat))) :: (DictEntry.mk (PyData.keyHash P (Str.ofString "_whole")) (Value.str (Str.ofString "_whole") (307 : Nat)) (Value.ref (52 : Nat))) :: (DictEntry.mk (PyData.keyHash P (Str.ofString "islice")) (Value.str (Str.ofString "islice") (375 : Nat)) (Value.ref (85 : Nat))) :: (DictEntry.mk (PyData.keyHash P (Str.ofString "_parents")) (Value.str (Str.ofString "_parents") (384 : Nat)) (Value.ref (99 : Nat))) :: (DictEntry.mk (PyData.keyHash P (Str.ofString "sep")) (Value.str (Str.ofString "sep") (388 : Nat)) (Value.str (Str.ofString "/") (387 : Nat))) :: (DictEntry.mk (PyData.keyHash P (Str.ofString "_kind")) (Value.str (Str.ofString "_kind") (397 : Nat)) (Value.ref (106 : Nat))) :: (DictEntry.mk (PyData.keyHash P (Str.ofString "_fspath")) (Value.str (Str.ofString "_fspath") (406 : Nat)) (Value.ref (113 : Nat))) :: (DictEntry.mk (PyData.keyHash P (Str.ofString "split")) (Value.str (Str.ofString "split") (417 : Nat)) (Value.ref (120 : Nat))) :: (DictEntry.mk (PyData.keyHash P (Str.ofString "_ancestry")) (Value.str (Str.ofString "_ancestry") (427 : Nat)) (Value.ref (127 : Nat))) :: (DictEntry.mk (PyData.keyHash P (Str.ofString "_twin_re_1")) (Value.str (Str.ofString "_twin_re_1") (467 : Nat)) (Value.ref (132 : Nat))) :: (DictEntry.mk (PyData.keyHash P (Str.ofString "translate")) (Value.str (Str.ofString "translate") (476 : Nat)) (Value.ref (139 : Nat))) :: (DictEntry.mk (PyData.keyHash P (Str.ofString "_special_chars_map")) (Value.str (Str.ofString "_special_chars_map") (624 : Nat)) (Value.ref (141 : Nat))) :: (DictEntry.mk (PyData.keyHash P (Str.ofString "escape")) (Value.str (Str.ofString "escape") (631 : Nat)) (Value.ref (151 : Nat))) :: (DictEntry.mk (PyData.keyHash P (Str.ofString "_translate")) (Value.str (Str.ofString "_translate") (652 : Nat)) (Value.ref (158 : Nat))) :: (DictEntry.mk (PyData.keyHash P (Str.ofString "_join_translated_parts")) (Value.str (Str.ofString "_join_translated_parts") (665 : Nat)) (Value.ref (165 : Nat))) :: (DictEntry.mk (PyData.keyHash P (Str.ofString "_law_step")) (Value.str (Str.ofString "_law_step") (679 : Nat)) (Value.ref (172 : Nat))) :: (DictEntry.mk (PyData.keyHash P (Str.ofString "_law_read")) (Value.str (Str.ofString "_law_read") (691 : Nat)) (Value.ref (179 : Nat))) :: (DictEntry.mk (PyData.keyHash P (Str.ofString "_law_first")) (Value.str (Str.ofString "_law_first") (702 : Nat)) (Value.ref (186 : Nat))) :: (DictEntry.mk (PyData.keyHash P (Str.ofString "_law_ends")) (Value.str (Str.ofString "_law_ends") (708 : Nat)) (Value.ref (191 : Nat))) :: (DictEntry.mk (PyData.keyHash P (Str.ofString "_law_taken")) (Value.str (Str.ofString "_law_taken") (714 : Nat)) (Value.ref (196 : Nat))) :: (DictEntry.mk (PyData.keyHash P (Str.ofString "_law_escaped")) (Value.str (Str.ofString "_law_escaped") (720 : Nat)) (Value.ref (201 : Nat))) :: (DictEntry.mk (PyData.keyHash P (Str.ofString "_law_texts")) (Value.str (Str.ofString "_law_texts") (731 : Nat)) (Value.ref (208 : Nat))) :: (DictEntry.mk (PyData.keyHash P (Str.ofString "law")) (Value.str (Str.ofString "law") (737 : Nat)) (Value.ref (213 : Nat))) :: [])) (34 : Nat)) #[]) ::
    (nat_lit 32, Obj.mk (Value.type "tuple") (@none Nat) (Data.seq #[] (0 : Nat)) #[]) ::
    (nat_lit 34, Obj.mk (Value.type "tuple") (@none Nat) (Data.seq #[Value.str (Str.ofString "k") (285 : Nat)] (0 : Nat)) #[]) ::
    (nat_lit 35, Obj.mk (Value.type "tuple") (@none Nat) (Data.seq #[] (0 : Nat)) #[]) ::
    (nat_lit 37, Obj.mk (Value.type "code") (@none Nat) (Data.fields (List.toArray ((Value.str (Str.ofString "_wall") (282 : Nat)) :: (Value.str (Str.ofString "_wall") (283 : Nat)) :: (Value.str (Str.ofString "/claim/cut.py") (284 : Nat)) :: (Value.int (2 : Int) (0 : Nat)) :: (Value.int (1 : Int) (0 : Nat)) :: (Value.int (0 : Int) (0 : Nat)) :: (Value.int (0 : Int) (0 : Nat)) :: (Value.int (3 : Int) (0 : Nat)) :: (Value.ref (32 : Nat)) :: (Value.bool Bool.true) :: (Value.int (276 : Int) (0 : Nat)) :: (Value.ref (33 : Nat)) :: PySem.Value.none :: (Value.ref (34 : Nat)) :: (Value.ref (35 : Nat)) :: (Value.ref (36 : Nat)) :: (Value.int (286 : Int) (0 : Nat)) :: (Value.int (2 : Int) (0 : Nat)) :: (Value.str (Str.ofString "/claim/cut.py") (287 : Nat)) :: []))) #[]) ::
    (nat_lit 38, Obj.mk (Value.type "function") (@none Nat) (Data.func (FuncData.mk (Str.ofString "_wall") (Str.ofString "_wall") a0 (FuncBody.stmts b0) c0 (3 : Nat) (@List.nil (Str × Nat)) PySem.Value.none PySem.Value.none PySem.Value.none (Value.str (Str.ofString "__main__") (164 : Nat)) (@none Nat) (Value.ref (37 : Nat)) PySem.Value.none (0 : Nat))) #[]) ::
    (nat_lit 39, Obj.mk (Value.type "tuple") (@none Nat) (Data.seq #[] (0 : Nat)) #[]) ::
    (nat_lit 41, Obj.mk (Value.type "tuple") (@none Nat) (Data.seq #[Value.str (Str.ofString "x") (294 : Nat), Value.str (Str.ofString "t") (295 : Nat)] (0 : Nat)) #[]) ::
    (nat_lit 42, Obj.mk (Value.type "tuple") (@none Nat) (Data.seq #[] (0 : Nat)) #[]) ::
    (nat_lit 44, Obj.mk (Value.type "code") (@none Nat) (Data.fields (List.toArray ((Value.str (Str.ofString "_is_int") (291 : Nat)) :: (Value.str (Str.ofString "_is_int") (292 : Nat)) :: (Value.str (Str.ofString "/claim/cut.py") (293 : Nat)) :: (Value.int (6 : Int) (0 : Nat)) :: (Value.int (1 : Int) (0 : Nat)) :: (Value.int (0 : Int) (0 : Nat)) :: (Value.int (0 : Int) (0 : Nat)) :: (Value.int (3 : Int) (0 : Nat)) :: (Value.ref (39 : Nat)) :: (Value.bool Bool.true) :: (Value.int (276 : Int) (0 : Nat)) :: (Value.ref (40 : Nat)) :: PySem.Value.none :: (Value.ref (41 : Nat)) :: (Value.ref (42 : Nat)) :: (Value.ref (43 : Nat)) :: (Value.int (296 : Int) (0 : Nat)) :: (Value.int (6 : Int) (0 : Nat)) :: (Value.str (Str.ofString "/claim/cut.py") (297 : Nat)) :: []))) #[]) ::
    (nat_lit 45, Obj.mk (Value.type "function") (@none Nat) (Data.func (FuncData.mk (Str.ofString "_is_int") (Str.ofString "_is_int") a1 (FuncBody.stmts b1) c1 (3 : Nat) (@List.nil (Str × Nat)) PySem.Value.none PySem.Value.none PySem.Value.none (Value.str (Str.ofString "itertools") (289 : Nat)) (@none Nat) (Value.ref (44 : Nat)) PySem.Value.none (0 : Nat))) #[]) ::
    (nat_lit 46, Obj.mk (Value.type "tuple") (@none Nat) (Data.seq #[] (0 : Nat)) #[]) ::
    (nat_lit 48, Obj.mk (Value.type "tuple") (@none Nat) (Data.seq #[Value.str (Str.ofString "x") (302 : Nat), Value.str (Str.ofString "top") (303 : Nat), Value.str (Str.ofString "what") (304 : Nat)] (0 : Nat)) #[]) ::
    (nat_lit 49, Obj.mk (Value.type "tuple") (@none Nat) (Data.seq #[] (0 : Nat)) #[]) ::
    (nat_lit 51, Obj.mk (Value.type "code") (@none Nat) (Data.fields (List.toArray ((Value.str (Str.ofString "_whole") (299 : Nat)) :: (Value.str (Str.ofString "_whole") (300 : Nat)) :: (Value.str (Str.ofString "/claim/cut.py") (301 : Nat)) :: (Value.int (9 : Int) (0 : Nat)) :: (Value.int (3 : Int) (0 : Nat)) :: (Value.int (0 : Int) (0 : Nat)) :: (Value.int (0 : Int) (0 : Nat)) :: (Value.int (3 : Int) (0 : Nat)) :: (Value.ref (46 : Nat)) :: (Value.bool Bool.true) :: (Value.int (276 : Int) (0 : Nat)) :: (Value.ref (47 : Nat)) :: PySem.Value.none :: (Value.ref (48 : Nat)) :: (Value.ref (49 : Nat)) :: (Value.ref (50 : Nat)) :: (Value.int (305 : Int) (0 : Nat)) :: (Value.int (9 : Int) (0 : Nat)) :: (Value.str (Str.ofString "/claim/cut.py") (306 : Nat)) :: []))) #[]) ::
    (nat_lit 52, Obj.mk (Value.type "function") (@none Nat) (Data.func (FuncData.mk (Str.ofString "_whole") (Str.ofString "_whole") a2 (FuncBody.stmts b2) c2 (3 : Nat) (@List.nil (Str × Nat)) PySem.Value.none PySem.Value.none PySem.Value.none (Value.str (Str.ofString "itertools") (289 : Nat)) (@none Nat) (Value.ref (51 : Nat)) PySem.Value.none (0 : Nat))) #[]) ::
    (nat_lit 60, Obj.mk (Value.type "tuple") (@none Nat) (Data.seq #[Value.str (Str.ofString "_it") (320 : Nat), Value.str (Str.ofString "_next") (321 : Nat), Value.str (Str.ofString "_stop") (322 : Nat), Value.str (Str.ofString "_step") (323 : Nat), Value.str (Str.ofString "_cnt") (324 : Nat)] (0 : Nat)) #[]) ::
    (nat_lit 61, Obj.mk (Value.type "tuple") (@none Nat) (Data.seq #[] (0 : Nat)) #[]) ::
    (nat_lit 63, Obj.mk (Value.type "tuple") (@none Nat) (Data.seq #[Value.str (Str.ofString "self") (329 : Nat), Value.str (Str.ofString "iterable") (330 : Nat), Value.str (Str.ofString "args") (331 : Nat), Value.str (Str.ofString "a") (332 : Nat), Value.str (Str.ofString "start") (333 : Nat), Value.str (Str.ofString "stop") (334 : Nat), Value.str (Str.ofString "step") (335 : Nat), Value.str (Str.ofString "a_stop") (336 : Nat)] (0 : Nat)) #[]) ::
    (nat_lit 64, Obj.mk (Value.type "tuple") (@none Nat) (Data.seq #[] (0 : Nat)) #[]) ::
    (nat_lit 66, Obj.mk (Value.type "code") (@none Nat) (Data.fields (List.toArray ((Value.str (Str.ofString "__init__") (326 : Nat)) :: (Value.str (Str.ofString "islice.__init__") (327 : Nat)) :: (Value.str (Str.ofString "/claim/cut.py") (328 : Nat)) :: (Value.int (17 : Int) (0 : Nat)) :: (Value.int (2 : Int) (0 : Nat)) :: (Value.int (2 : Int) (0 : Nat)) :: (Value.int (0 : Int) (0 : Nat)) :: (Value.int (7 : Int) (0 : Nat)) :: (Value.ref (61 : Nat)) :: (Value.bool Bool.true) :: (Value.int (276 : Int) (0 : Nat)) :: (Value.ref (62 : Nat)) :: PySem.Value.none :: (Value.ref (63 : Nat)) :: (Value.ref (64 : Nat)) :: (Value.ref (65 : Nat)) :: (Value.int (337 : Int) (0 : Nat)) :: (Value.int (17 : Int) (0 : Nat)) :: (Value.str (Str.ofString "/claim/cut.py") (338 : Nat)) :: []))) #[]) ::
    (nat_lit 67, Obj.mk (Value.type "function") (@none Nat) (Data.func (FuncData.mk (Str.ofString "__init__") (Str.ofString "islice.__init__") a3 (FuncBody.stmts b3) c3 (3 : Nat) (@List.nil (Str × Nat)) PySem.Value.none PySem.Value.none PySem.Value.none (Value.str (Str.ofString "itertools") (289 : Nat)) (@none Nat) (Value.ref (66 : Nat)) PySem.Value.none (0 : Nat))) #[]) ::
    (nat_lit 68, Obj.mk (Value.type "tuple") (@none Nat) (Data.seq #[] (0 : Nat)) #[]) ::
    (nat_lit 70, Obj.mk (Value.type "tuple") (@none Nat) (Data.seq #[Value.str (Str.ofString "self") (343 : Nat)] (0 : Nat)) #[]) ::
    (nat_lit 71, Obj.mk (Value.type "tuple") (@none Nat) (Data.seq #[] (0 : Nat)) #[]) ::
    (nat_lit 73, Obj.mk (Value.type "code") (@none Nat) (Data.fields (List.toArray ((Value.str (Str.ofString "__iter__") (340 : Nat)) :: (Value.str (Str.ofString "islice.__iter__") (341 : Nat)) :: (Value.str (Str.ofString "/claim/cut.py") (342 : Nat)) :: (Value.int (48 : Int) (0 : Nat)) :: (Value.int (1 : Int) (0 : Nat)) :: (Value.int (0 : Int) (0 : Nat)) :: (Value.int (0 : Int) (0 : Nat)) :: (Value.int (3 : Int) (0 : Nat)) :: (Value.ref (68 : Nat)) :: (Value.bool Bool.true) :: (Value.int (276 : Int) (0 : Nat)) :: (Value.ref (69 : Nat)) :: PySem.Value.none :: (Value.ref (70 : Nat)) :: (Value.ref (71 : Nat)) :: (Value.ref (72 : Nat)) :: (Value.int (344 : Int) (0 : Nat)) :: (Value.int (48 : Int) (0 : Nat)) :: (Value.str (Str.ofString "/claim/cut.py") (345 : Nat)) :: []))) #[]) ::
    (nat_lit 74, Obj.mk (Value.type "function") (@none Nat) (Data.func (FuncData.mk (Str.ofString "__iter__") (Str.ofString "islice.__iter__") a4 (FuncBody.stmts b4) c4 (3 : Nat) (@List.nil (Str × Nat)) PySem.Value.none PySem.Value.none PySem.Value.none (Value.str (Str.ofString "itertools") (289 : Nat)) (@none Nat) (Value.ref (73 : Nat)) PySem.Value.none (0 : Nat))) #[]) ::
    (nat_lit 75, Obj.mk (Value.type "tuple") (@none Nat) (Data.seq #[] (0 : Nat)) #[]) ::
    (nat_lit 77, Obj.mk (Value.type "tuple") (@none Nat) (Data.seq #[Value.str (Str.ofString "self") (350 : Nat), Value.str (Str.ofString "it") (351 : Nat), Value.str (Str.ofString "stop") (352 : Nat), Value.str (Str.ofString "item") (353 : Nat)] (0 : Nat)) #[]) ::
    (nat_lit 78, Obj.mk (Value.type "tuple") (@none Nat) (Data.seq #[] (0 : Nat)) #[]) ::
    (nat_lit 80, Obj.mk (Value.type "code") (@none Nat) (Data.fields (List.toArray ((Value.str (Str.ofString "__next__") (347 : Nat)) :: (Value.str (Str.ofString "islice.__next__") (348 : Nat)) :: (Value.str (Str.ofString "/claim/cut.py") (349 : Nat)) :: (Value.int (51 : Int) (0 : Nat)) :: (Value.int (1 : Int) (0 : Nat)) :: (Value.int (0 : Int) (0 : Nat)) :: (Value.int (0 : Int) (0 : Nat)) :: (Value.int (3 : Int) (0 : Nat)) :: (Value.ref (75 : Nat)) :: (Value.bool Bool.true) :: (Value.int (276 : Int) (0 : Nat)) :: (Value.ref (76 : Nat)) :: PySem.Value.none :: (Value.ref (77 : Nat)) :: (Value.ref (78 : Nat)) :: (Value.ref (79 : Nat)) :: (Value.int (354 : Int) (0 : Nat)) :: (Value.int (51 : Int) (0 : Nat)) :: (Value.str (Str.ofString "/claim/cut.py") (355 : Nat)) :: []))) #[]) ::
    (nat_lit 81, Obj.mk (Value.type "function") (@none Nat) (Data.func (FuncData.mk (Str.ofString "__next__") (Str.ofString "islice.__next__") a5 (FuncBody.stmts b5) c5 (3 : Nat) (@List.nil (Str × Nat)) PySem.Value.none PySem.Value.none PySem.Value.none (Value.str (Str.ofString "itertools") (289 : Nat)) (@none Nat) (Value.ref (80 : Nat)) PySem.Value.none (0 : Nat))) #[]) ::
    (nat_lit 82, Obj.mk (Value.type "tuple") (@none Nat) (Data.seq #[Value.str (Str.ofString "_cnt") (357 : Nat), Value.str (Str.ofString "_it") (358 : Nat), Value.str (Str.ofString "_next") (359 : Nat), Value.str (Str.ofString "_step") (360 : Nat), Value.str (Str.ofString "_stop") (361 : Nat)] (0 : Nat)) #[]) ::
    (nat_lit 84, Obj.mk (Value.type "dict") (@none Nat) (Data.dict #[DictEntry.mk (PyData.keyHash P (Str.ofString "__module__")) (Value.str (Str.ofString "__module__") (315 : Nat)) (Value.str (Str.ofString "itertools") (289 : Nat)), DictEntry.mk (PyData.keyHash P (Str.ofString "__firstlineno__")) (Value.str (Str.ofString "__firstlineno__") (319 : Nat)) (Value.int (14 : Int) (318 : Nat)), DictEntry.mk (PyData.keyHash P (Str.ofString "__slots__")) (Value.str (Str.ofString "__slots__") (325 : Nat)) (Value.ref (60 : Nat)), DictEntry.mk (PyData.keyHash P (Str.ofString "__init__")) (Value.str (Str.ofString "__init__") (339 : Nat)) (Value.ref (67 : Nat)), DictEntry.mk (PyData.keyHash P (Str.ofString "__iter__")) (Value.str (Str.ofString "__iter__") (346 : Nat)) (Value.ref (74 : Nat)), DictEntry.mk (PyData.keyHash P (Str.ofString "__next__")) (Value.str (Str.ofString "__next__") (356 : Nat)) (Value.ref (81 : Nat)), DictEntry.mk (PyData.keyHash P (Str.ofString "__static_attributes__")) (Value.str (Str.ofString "__static_attributes__") (362 : Nat)) (Value.ref (82 : Nat)), DictEntry.mk (PyData.keyHash P (Str.ofString "_cnt")) (Value.str (Str.ofString "_cnt") (364 : Nat)) (Value.ref (86 : Nat)), DictEntry.mk (PyData.keyHash P (Str.ofString "_it")) (Value.str (Str.ofString "_it") (366 : Nat)) (Value.ref (87 : Nat)), DictEntry.mk (PyData.keyHash P (Str.ofString "_next")) (Value.str (Str.ofString "_next") (368 : Nat)) (Value.ref (88 : Nat)), DictEntry.mk (PyData.keyHash P (Str.ofString "_step")) (Value.str (Str.ofString "_step") (370 : Nat)) (Value.ref (89 : Nat)), DictEntry.mk (PyData.keyHash P (Str.ofString "_stop")) (Value.str (Str.ofString "_stop") (372 : Nat)) (Value.ref (90 : Nat)), DictEntry.mk (PyData.keyHash P (Str.ofString "__doc__")) (Value.str (Str.ofString "__doc__") (373 : Nat)) PySem.Value.none] (7 : Nat)) #[]) ::
    (nat_lit 85, Obj.mk (Value.type "type") (@none Nat) (Data.cls (ClassData.mk (Str.ofString "islice") [Value.type "object"] [Value.ref (85 : Nat), Value.type "object"] (84 : Nat) (Str.ofString "islice") Bool.false [Str.ofString "_cnt", Str.ofString "_it", Str.ofString "_next", Str.ofString "_step", Str.ofString "_stop"] [] Bool.false none Bool.false)) #[none, none, some (Value.str (Str.ofString "islice") (308 : Nat)), some (Value.str (Str.ofString "islice") (316 : Nat)), some (Value.builtin "object.__new__"), some (Value.bool Bool.false)]) ::
    (nat_lit 86, Obj.mk (Value.type "member_descriptor") (@none Nat) (Data.fields #[Value.str (Str.ofString "_cnt") (363 : Nat), Value.ref (85 : Nat), Value.builtin "proto.slot", Value.builtin "proto.slot#set", Value.int (4 : Int) (0 : Nat)]) #[]) ::
    (nat_lit 87, Obj.mk (Value.type "member_descriptor") (@none Nat) (Data.fields #[Value.str (Str.ofString "_it") (365 : Nat), Value.ref (85 : Nat), Value.builtin "proto.slot", Value.builtin "proto.slot#set", Value.int (3 : Int) (0 : Nat)]) #[]) ::
    (nat_lit 88, Obj.mk (Value.type "member_descriptor") (@none Nat) (Data.fields #[Value.str (Str.ofString "_next") (367 : Nat), Value.ref (85 : Nat), Value.builtin "proto.slot", Value.builtin "proto.slot#set", Value.int (2 : Int) (0 : Nat)]) #[]) ::
    (nat_lit 89, Obj.mk (Value.type "member_descriptor") (@none Nat) (Data.fields #[Value.str (Str.ofString "_step") (369 : Nat), Value.ref (85 : Nat), Value.builtin "proto.slot", Value.builtin "proto.slot#set", Value.int (1 : Int) (0 : Nat)]) #[]) ::
    (nat_lit 90, Obj.mk (Value.type "member_descriptor") (@none Nat) (Data.fields #[Value.str (Str.ofString "_stop") (371 : Nat), Value.ref (85 : Nat), Value.builtin "proto.slot", Value.builtin "proto.slot#set", Value.int (0 : Int) (0 : Nat)]) #[]) ::
    (nat_lit 93, Obj.mk (Value.type "tuple") (@none Nat) (Data.seq #[] (0 : Nat)) #[]) ::
    (nat_lit 95, Obj.mk (Value.type "tuple") (@none Nat) (Data.seq #[Value.str (Str.ofString "path") (381 : Nat)] (0 : Nat)) #[]) ::
    (nat_lit 96, Obj.mk (Value.type "tuple") (@none Nat) (Data.seq #[] (0 : Nat)) #[]) ::
    (nat_lit 98, Obj.mk (Value.type "code") (@none Nat) (Data.fields (List.toArray ((Value.str (Str.ofString "_parents") (378 : Nat)) :: (Value.str (Str.ofString "_parents") (379 : Nat)) :: (Value.str (Str.ofString "/claim/cut.py") (380 : Nat)) :: (Value.int (72 : Int) (0 : Nat)) :: (Value.int (1 : Int) (0 : Nat)) :: (Value.int (0 : Int) (0 : Nat)) :: (Value.int (0 : Int) (0 : Nat)) :: (Value.int (3 : Int) (0 : Nat)) :: (Value.ref (93 : Nat)) :: (Value.bool Bool.true) :: (Value.int (276 : Int) (0 : Nat)) :: (Value.ref (94 : Nat)) :: PySem.Value.none :: (Value.ref (95 : Nat)) :: (Value.ref (96 : Nat)) :: (Value.ref (97 : Nat)) :: (Value.int (382 : Int) (0 : Nat)) :: (Value.int (72 : Int) (0 : Nat)) :: (Value.str (Str.ofString "/claim/cut.py") (383 : Nat)) :: []))) #[]) ::
    (nat_lit 99, Obj.mk (Value.type "function") (@none Nat) (Data.func (FuncData.mk (Str.ofString "_parents") (Str.ofString "_parents") a6 (FuncBody.stmts b6) c6 (3 : Nat) (@List.nil (Str × Nat)) PySem.Value.none PySem.Value.none PySem.Value.none (Value.str (Str.ofString "cpy313.zipfile._path") (376 : Nat)) (@none Nat) (Value.ref (98 : Nat)) PySem.Value.none (0 : Nat))) #[]) ::
    (nat_lit 100, Obj.mk (Value.type "tuple") (@none Nat) (Data.seq #[] (0 : Nat)) #[]) ::
    (nat_lit 102, Obj.mk (Value.type "tuple") (@none Nat) (Data.seq #[Value.str (Str.ofString "name") (392 : Nat), Value.str (Str.ofString "x") (393 : Nat), Value.str (Str.ofString "t") (394 : Nat)] (0 : Nat)) #[]) ::
    (nat_lit 103, Obj.mk (Value.type "tuple") (@none Nat) (Data.seq #[] (0 : Nat)) #[]) ::
    (nat_lit 105, Obj.mk (Value.type "code") (@none Nat) (Data.fields (List.toArray ((Value.str (Str.ofString "_kind") (389 : Nat)) :: (Value.str (Str.ofString "_kind") (390 : Nat)) :: (Value.str (Str.ofString "/claim/cut.py") (391 : Nat)) :: (Value.int (76 : Int) (0 : Nat)) :: (Value.int (2 : Int) (0 : Nat)) :: (Value.int (0 : Int) (0 : Nat)) :: (Value.int (0 : Int) (0 : Nat)) :: (Value.int (3 : Int) (0 : Nat)) :: (Value.ref (100 : Nat)) :: (Value.bool Bool.true) :: (Value.int (276 : Int) (0 : Nat)) :: (Value.ref (101 : Nat)) :: PySem.Value.none :: (Value.ref (102 : Nat)) :: (Value.ref (103 : Nat)) :: (Value.ref (104 : Nat)) :: (Value.int (395 : Int) (0 : Nat)) :: (Value.int (76 : Int) (0 : Nat)) :: (Value.str (Str.ofString "/claim/cut.py") (396 : Nat)) :: []))) #[]) ::
    (nat_lit 106, Obj.mk (Value.type "function") (@none Nat) (Data.func (FuncData.mk (Str.ofString "_kind") (Str.ofString "_kind") a7 (FuncBody.stmts b7) c7 (3 : Nat) (@List.nil (Str × Nat)) PySem.Value.none PySem.Value.none PySem.Value.none (Value.str (Str.ofString "posixpath") (385 : Nat)) (@none Nat) (Value.ref (105 : Nat)) PySem.Value.none (0 : Nat))) #[]) ::
    (nat_lit 107, Obj.mk (Value.type "tuple") (@none Nat) (Data.seq #[] (0 : Nat)) #[]) ::
    (nat_lit 109, Obj.mk (Value.type "tuple") (@none Nat) (Data.seq #[Value.str (Str.ofString "name") (401 : Nat), Value.str (Str.ofString "x") (402 : Nat), Value.str (Str.ofString "k") (403 : Nat)] (0 : Nat)) #[]) ::
    (nat_lit 110, Obj.mk (Value.type "tuple") (@none Nat) (Data.seq #[] (0 : Nat)) #[]) ::
    (nat_lit 112, Obj.mk (Value.type "code") (@none Nat) (Data.fields (List.toArray ((Value.str (Str.ofString "_fspath") (398 : Nat)) :: (Value.str (Str.ofString "_fspath") (399 : Nat)) :: (Value.str (Str.ofString "/claim/cut.py") (400 : Nat)) :: (Value.int (97 : Int) (0 : Nat)) :: (Value.int (2 : Int) (0 : Nat)) :: (Value.int (0 : Int) (0 : Nat)) :: (Value.int (0 : Int) (0 : Nat)) :: (Value.int (3 : Int) (0 : Nat)) :: (Value.ref (107 : Nat)) :: (Value.bool Bool.true) :: (Value.int (276 : Int) (0 : Nat)) :: (Value.ref (108 : Nat)) :: PySem.Value.none :: (Value.ref (109 : Nat)) :: (Value.ref (110 : Nat)) :: (Value.ref (111 : Nat)) :: (Value.int (404 : Int) (0 : Nat)) :: (Value.int (97 : Int) (0 : Nat)) :: (Value.str (Str.ofString "/claim/cut.py") (405 : Nat)) :: []))) #[]) ::
    (nat_lit 113, Obj.mk (Value.type "function") (@none Nat) (Data.func (FuncData.mk (Str.ofString "_fspath") (Str.ofString "_fspath") a8 (FuncBody.stmts b8) c8 (3 : Nat) (@List.nil (Str × Nat)) PySem.Value.none PySem.Value.none PySem.Value.none (Value.str (Str.ofString "posixpath") (385 : Nat)) (@none Nat) (Value.ref (112 : Nat)) PySem.Value.none (0 : Nat))) #[]) ::
    (nat_lit 114, Obj.mk (Value.type "tuple") (@none Nat) (Data.seq #[] (0 : Nat)) #[]) ::
    (nat_lit 116, Obj.mk (Value.type "tuple") (@none Nat) (Data.seq #[Value.str (Str.ofString "p") (410 : Nat), Value.str (Str.ofString "sep") (411 : Nat), Value.str (Str.ofString "i") (412 : Nat), Value.str (Str.ofString "head") (413 : Nat), Value.str (Str.ofString "tail") (414 : Nat)] (0 : Nat)) #[]) ::
    (nat_lit 117, Obj.mk (Value.type "tuple") (@none Nat) (Data.seq #[] (0 : Nat)) #[]) ::
    (nat_lit 119, Obj.mk (Value.type "code") (@none Nat) (Data.fields (List.toArray ((Value.str (Str.ofString "split") (407 : Nat)) :: (Value.str (Str.ofString "split") (408 : Nat)) :: (Value.str (Str.ofString "/claim/cut.py") (409 : Nat)) :: (Value.int (102 : Int) (0 : Nat)) :: (Value.int (1 : Int) (0 : Nat)) :: (Value.int (0 : Int) (0 : Nat)) :: (Value.int (0 : Int) (0 : Nat)) :: (Value.int (3 : Int) (0 : Nat)) :: (Value.ref (114 : Nat)) :: (Value.bool Bool.true) :: (Value.int (276 : Int) (0 : Nat)) :: (Value.ref (115 : Nat)) :: PySem.Value.none :: (Value.ref (116 : Nat)) :: (Value.ref (117 : Nat)) :: (Value.ref (118 : Nat)) :: (Value.int (415 : Int) (0 : Nat)) :: (Value.int (102 : Int) (0 : Nat)) :: (Value.str (Str.ofString "/claim/cut.py") (416 : Nat)) :: []))) #[]) ::
    (nat_lit 120, Obj.mk (Value.type "function") (@none Nat) (Data.func (FuncData.mk (Str.ofString "split") (Str.ofString "split") a9 (FuncBody.stmts b9) c9 (3 : Nat) (@List.nil (Str × Nat)) PySem.Value.none PySem.Value.none PySem.Value.none (Value.str (Str.ofString "posixpath") (385 : Nat)) (@none Nat) (Value.ref (119 : Nat)) PySem.Value.none (0 : Nat))) #[]) ::
    (nat_lit 121, Obj.mk (Value.type "tuple") (@none Nat) (Data.seq #[] (0 : Nat)) #[]) ::
    (nat_lit 123, Obj.mk (Value.type "tuple") (@none Nat) (Data.seq #[Value.str (Str.ofString "path") (423 : Nat), Value.str (Str.ofString "tail") (424 : Nat)] (0 : Nat)) #[]) ::
    (nat_lit 124, Obj.mk (Value.type "tuple") (@none Nat) (Data.seq #[] (0 : Nat)) #[]) ::
    (nat_lit 126, Obj.mk (Value.type "code") (@none Nat) (Data.fields (List.toArray ((Value.str (Str.ofString "_ancestry") (420 : Nat)) :: (Value.str (Str.ofString "_ancestry") (421 : Nat)) :: (Value.str (Str.ofString "/claim/cut.py") (422 : Nat)) :: (Value.int (111 : Int) (0 : Nat)) :: (Value.int (1 : Int) (0 : Nat)) :: (Value.int (0 : Int) (0 : Nat)) :: (Value.int (0 : Int) (0 : Nat)) :: (Value.int (35 : Int) (0 : Nat)) :: (Value.ref (121 : Nat)) :: (Value.bool Bool.true) :: (Value.int (276 : Int) (0 : Nat)) :: (Value.ref (122 : Nat)) :: PySem.Value.none :: (Value.ref (123 : Nat)) :: (Value.ref (124 : Nat)) :: (Value.ref (125 : Nat)) :: (Value.int (425 : Int) (0 : Nat)) :: (Value.int (111 : Int) (0 : Nat)) :: (Value.str (Str.ofString "/claim/cut.py") (426 : Nat)) :: []))) #[]) ::
    (nat_lit 127, Obj.mk (Value.type "function") (@none Nat) (Data.func (FuncData.mk (Str.ofString "_ancestry") (Str.ofString "_ancestry") a10 (FuncBody.stmts b10) c10 (3 : Nat) (@List.nil (Str × Nat)) PySem.Value.none PySem.Value.none PySem.Value.none (Value.str (Str.ofString "cpy313.zipfile._path") (418 : Nat)) (@none Nat) (Value.ref (126 : Nat)) PySem.Value.none (0 : Nat))) #[]) ::
    (nat_lit 131, Obj.mk (Value.type "tuple") (@none Nat) (Data.seq (List.toArray ((Value.int (14 : Int) (0 : Nat)) :: (Value.int (14 : Int) (0 : Nat)) :: (Value.int (4 : Int) (0 : Nat)) :: (Value.int (1 : Int) (0 : Nat)) :: (Value.int (1 : Int) (0 : Nat)) :: (Value.int (9 : Int) (0 : Nat)) :: (Value.int (0 : Int) (0 : Nat)) :: (Value.int (64 : Int) (0 : Nat)) :: (Value.int (0 : Int) (0 : Nat)) :: (Value.int (1342177280 : Int) (0 : Nat)) :: (Value.int (0 : Int) (0 : Nat)) :: (Value.int (0 : Int) (0 : Nat)) :: (Value.int (0 : Int) (0 : Nat)) :: (Value.int (0 : Int) (0 : Nat)) :: (Value.int (0 : Int) (0 : Nat)) :: (Value.int (17 : Int) (0 : Nat)) :: (Value.int (0 : Int) (0 : Nat)) :: (Value.int (13 : Int) (0 : Nat)) :: (Value.int (11 : Int) (0 : Nat)) :: (Value.int (9 : Int) (0 : Nat)) :: (Value.int (0 : Int) (0 : Nat)) :: (Value.int (64 : Int) (0 : Nat)) :: (Value.int (0 : Int) (0 : Nat)) :: (Value.int (1342177280 : Int) (0 : Nat)) :: (Value.int (0 : Int) (0 : Nat)) :: (Value.int (0 : Int) (0 : Nat)) :: (Value.int (0 : Int) (0 : Nat)) :: (Value.int (0 : Int) (0 : Nat)) :: (Value.int (0 : Int) (0 : Nat)) :: (Value.int (17 : Int) (0 : Nat)) :: (Value.int (1 : Int) (0 : Nat)) :: (Value.int (1 : Int) (0 : Nat)) :: [])) (0 : Nat)) #[]) ::
    (nat_lit 132, Obj.mk (Value.type "re.Pattern") (@none Nat) (Data.fields #[Value.str (Str.ofString "([&~|])") (431 : Nat), Value.int (32 : Int) (466 : Nat), Value.int (1 : Int) (0 : Nat), PySem.Value.none, PySem.Value.none, Value.ref (131 : Nat), Value.int (0 : Int) (0 : Nat)]) #[]) ::
    (nat_lit 133, Obj.mk (Value.type "tuple") (@none Nat) (Data.seq #[] (0 : Nat)) #[]) ::
    (nat_lit 135, Obj.mk (Value.type "tuple") (@none Nat) (Data.seq #[Value.str (Str.ofString "pat") (471 : Nat), Value.str (Str.ofString "STAR") (472 : Nat), Value.str (Str.ofString "parts") (473 : Nat)] (0 : Nat)) #[]) ::
    (nat_lit 136, Obj.mk (Value.type "tuple") (@none Nat) (Data.seq #[] (0 : Nat)) #[]) ::
    (nat_lit 138, Obj.mk (Value.type "code") (@none Nat) (Data.fields (List.toArray ((Value.str (Str.ofString "translate") (468 : Nat)) :: (Value.str (Str.ofString "translate") (469 : Nat)) :: (Value.str (Str.ofString "/claim/cut.py") (470 : Nat)) :: (Value.int (118 : Int) (0 : Nat)) :: (Value.int (1 : Int) (0 : Nat)) :: (Value.int (0 : Int) (0 : Nat)) :: (Value.int (0 : Int) (0 : Nat)) :: (Value.int (3 : Int) (0 : Nat)) :: (Value.ref (133 : Nat)) :: (Value.bool Bool.true) :: (Value.int (276 : Int) (0 : Nat)) :: (Value.ref (134 : Nat)) :: PySem.Value.none :: (Value.ref (135 : Nat)) :: (Value.ref (136 : Nat)) :: (Value.ref (137 : Nat)) :: (Value.int (474 : Int) (0 : Nat)) :: (Value.int (118 : Int) (0 : Nat)) :: (Value.str (Str.ofString "/claim/cut.py") (475 : Nat)) :: []))) #[]) ::
    (nat_lit 139, Obj.mk (Value.type "function") (@none Nat) (Data.func (FuncData.mk (Str.ofString "translate") (Str.ofString "translate") a11 (FuncBody.stmts b11) c11 (3 : Nat) (@List.nil (Str × Nat)) PySem.Value.none PySem.Value.none PySem.Value.none (Value.str (Str.ofString "cpy313.fnmatch") (428 : Nat)) (@none Nat) (Value.ref (138 : Nat)) PySem.Value.none (0 : Nat))) #[]) ::
    (nat_lit 141, Obj.mk (Value.type "dict") (@none Nat) (Data.dict (List.toArray ((DictEntry.mk (40 : Int) (Value.int (40 : Int) (480 : Nat)) (Value.str (Str.ofString "\\(") (484 : Nat))) :: (DictEntry.mk (41 : Int) (Value.int (41 : Int) (486 : Nat)) (Value.str (Str.ofString "\\)") (490 : Nat))) :: (DictEntry.mk (91 : Int) (Value.int (91 : Int) (492 : Nat)) (Value.str (Str.ofString "\\[") (496 : Nat))) :: (DictEntry.mk (93 : Int) (Value.int (93 : Int) (498 : Nat)) (Value.str (Str.ofString "\\]") (502 : Nat))) :: (DictEntry.mk (123 : Int) (Value.int (123 : Int) (504 : Nat)) (Value.str (Str.ofString "\\{") (508 : Nat))) :: (DictEntry.mk (125 : Int) (Value.int (125 : Int) (510 : Nat)) (Value.str (Str.ofString "\\}") (514 : Nat))) :: (DictEntry.mk (63 : Int) (Value.int (63 : Int) (516 : Nat)) (Value.str (Str.ofString "\\?") (520 : Nat))) :: (DictEntry.mk (42 : Int) (Value.int (42 : Int) (522 : Nat)) (Value.str (Str.ofString "\\*") (526 : Nat))) :: (DictEntry.mk (43 : Int) (Value.int (43 : Int) (528 : Nat)) (Value.str (Str.ofString "\\+") (532 : Nat))) :: (DictEntry.mk (45 : Int) (Value.int (45 : Int) (534 : Nat)) (Value.str (Str.ofString "\\-") (538 : Nat))) :: (DictEntry.mk (124 : Int) (Value.int (124 : Int) (540 : Nat)) (Value.str (Str.ofString "\\|") (544 : Nat))) :: (DictEntry.mk (94 : Int) (Value.int (94 : Int) (546 : Nat)) (Value.str (Str.ofString "\\^") (550 : Nat))) :: (DictEntry.mk (36 : Int) (Value.int (36 : Int) (552 : Nat)) (Value.str (Str.ofString "\\$") (556 : Nat))) :: (DictEntry.mk (92 : Int) (Value.int (92 : Int) (558 : Nat)) (Value.str (Str.ofString "\\\\") (562 : Nat))) :: (DictEntry.mk (46 : Int) (Value.int (46 : Int) (564 : Nat)) (Value.str (Str.ofString "\\.") (568 : Nat))) :: (DictEntry.mk (38 : Int) (Value.int (38 : Int) (570 : Nat)) (Value.str (Str.ofString "\\&") (574 : Nat))) :: (DictEntry.mk (126 : Int) (Value.int (126 : Int) (576 : Nat)) (Value.str (Str.ofString "\\~") (580 : Nat))) :: (DictEntry.mk (35 : Int) (Value.int (35 : Int) (582 : Nat)) (Value.str (Str.ofString "\\#") (586 : Nat))) :: (DictEntry.mk (32 : Int) (Value.int (32 : Int) (588 : Nat)) (Value.str (Str.ofString "\\ ") (592 : Nat))) :: (DictEntry.mk (9 : Int) (Value.int (9 : Int) (594 : Nat)) (Value.str (Str.ofString "\\\t") (598 : Nat))) :: (DictEntry.mk (10 : Int) (Value.int (10 : Int) (600 : Nat)) (Value.str (Str.ofString "\\\n") (604 : Nat))) :: (DictEntry.mk (13 : Int) (Value.int (13 : Int) (606 : Nat)) (Value.str (Str.ofString "\\\x0d") (610 : Nat))) :: (DictEntry.mk (11 : Int) (Value.int (11 : Int) (612 : Nat)) (Value.str (Str.ofString "\\\x0b") (616 : Nat))) :: (DictEntry.mk (12 : Int) (Value.int (12 : Int) (618 : Nat)) (Value.str (Str.ofString "\\\x0c") (622 : Nat))) :: [])) (24 : Nat)) #[]) ::
    (nat_lit 145, Obj.mk (Value.type "tuple") (@none Nat) (Data.seq #[] (0 : Nat)) #[]) ::
    (nat_lit 147, Obj.mk (Value.type "tuple") (@none Nat) (Data.seq #[Value.str (Str.ofString "pattern") (628 : Nat)] (0 : Nat)) #[]) ::
    (nat_lit 148, Obj.mk (Value.type "tuple") (@none Nat) (Data.seq #[] (0 : Nat)) #[]) ::
    (nat_lit 150, Obj.mk (Value.type "code") (@none Nat) (Data.fields (List.toArray ((Value.str (Str.ofString "escape") (625 : Nat)) :: (Value.str (Str.ofString "escape") (626 : Nat)) :: (Value.str (Str.ofString "/claim/cut.py") (627 : Nat)) :: (Value.int (124 : Int) (0 : Nat)) :: (Value.int (1 : Int) (0 : Nat)) :: (Value.int (0 : Int) (0 : Nat)) :: (Value.int (0 : Int) (0 : Nat)) :: (Value.int (3 : Int) (0 : Nat)) :: (Value.ref (145 : Nat)) :: (Value.bool Bool.true) :: (Value.int (276 : Int) (0 : Nat)) :: (Value.ref (146 : Nat)) :: PySem.Value.none :: (Value.ref (147 : Nat)) :: (Value.ref (148 : Nat)) :: (Value.ref (149 : Nat)) :: (Value.int (629 : Int) (0 : Nat)) :: (Value.int (124 : Int) (0 : Nat)) :: (Value.str (Str.ofString "/claim/cut.py") (630 : Nat)) :: []))) #[]) ::
    (nat_lit 151, Obj.mk (Value.type "function") (@none Nat) (Data.func (FuncData.mk (Str.ofString "escape") (Str.ofString "escape") a12 (FuncBody.stmts b12) c12 (3 : Nat) (@List.nil (Str × Nat)) PySem.Value.none PySem.Value.none PySem.Value.none (Value.str (Str.ofString "re") (477 : Nat)) (@none Nat) (Value.ref (150 : Nat)) PySem.Value.none (0 : Nat))) #[]) ::
    (nat_lit 152, Obj.mk (Value.type "tuple") (@none Nat) (Data.seq #[] (0 : Nat)) #[]) ::
    (nat_lit 154, Obj.mk (Value.type "tuple") (@none Nat) (Data.seq #[Value.str (Str.ofString "pat") (637 : Nat), Value.str (Str.ofString "STAR") (638 : Nat), Value.str (Str.ofString "QUESTION_MARK") (639 : Nat), Value.str (Str.ofString "res") (640 : Nat), Value.str (Str.ofString "add") (641 : Nat), Value.str (Str.ofString "i") (642 : Nat), Value.str (Str.ofString "n") (643 : Nat), Value.str (Str.ofString "c") (644 : Nat), Value.str (Str.ofString "j") (645 : Nat), Value.str (Str.ofString "stuff") (646 : Nat), Value.str (Str.ofString "chunks") (647 : Nat), Value.str (Str.ofString "k") (648 : Nat), Value.str (Str.ofString "chunk") (649 : Nat)] (0 : Nat)) #[]) ::
    (nat_lit 155, Obj.mk (Value.type "tuple") (@none Nat) (Data.seq #[] (0 : Nat)) #[]) ::
    (nat_lit 157, Obj.mk (Value.type "code") (@none Nat) (Data.fields (List.toArray ((Value.str (Str.ofString "_translate") (634 : Nat)) :: (Value.str (Str.ofString "_translate") (635 : Nat)) :: (Value.str (Str.ofString "/claim/cut.py") (636 : Nat)) :: (Value.int (131 : Int) (0 : Nat)) :: (Value.int (3 : Int) (0 : Nat)) :: (Value.int (0 : Int) (0 : Nat)) :: (Value.int (0 : Int) (0 : Nat)) :: (Value.int (3 : Int) (0 : Nat)) :: (Value.ref (152 : Nat)) :: (Value.bool Bool.true) :: (Value.int (276 : Int) (0 : Nat)) :: (Value.ref (153 : Nat)) :: PySem.Value.none :: (Value.ref (154 : Nat)) :: (Value.ref (155 : Nat)) :: (Value.ref (156 : Nat)) :: (Value.int (650 : Int) (0 : Nat)) :: (Value.int (131 : Int) (0 : Nat)) :: (Value.str (Str.ofString "/claim/cut.py") (651 : Nat)) :: []))) #[]) ::
    (nat_lit 158, Obj.mk (Value.type "function") (@none Nat) (Data.func (FuncData.mk (Str.ofString "_translate") (Str.ofString "_translate") a13 (FuncBody.stmts b13) c13 (3 : Nat) (@List.nil (Str × Nat)) PySem.Value.none PySem.Value.none PySem.Value.none (Value.str (Str.ofString "cpy313.fnmatch") (632 : Nat)) (@none Nat) (Value.ref (157 : Nat)) PySem.Value.none (0 : Nat))) #[]) ::
    (nat_lit 159, Obj.mk (Value.type "tuple") (@none Nat) (Data.seq #[] (0 : Nat)) #[]) ::
    (nat_lit 161, Obj.mk (Value.type "tuple") (@none Nat) (Data.seq #[Value.str (Str.ofString "inp") (656 : Nat), Value.str (Str.ofString "STAR") (657 : Nat), Value.str (Str.ofString "res") (658 : Nat), Value.str (Str.ofString "add") (659 : Nat), Value.str (Str.ofString "i") (660 : Nat), Value.str (Str.ofString "n") (661 : Nat), Value.str (Str.ofString "fixed") (662 : Nat)] (0 : Nat)) #[]) ::
    (nat_lit 162, Obj.mk (Value.type "tuple") (@none Nat) (Data.seq #[] (0 : Nat)) #[]) ::
    (nat_lit 164, Obj.mk (Value.type "code") (@none Nat) (Data.fields (List.toArray ((Value.str (Str.ofString "_join_translated_parts") (653 : Nat)) :: (Value.str (Str.ofString "_join_translated_parts") (654 : Nat)) :: (Value.str (Str.ofString "/claim/cut.py") (655 : Nat)) :: (Value.int (193 : Int) (0 : Nat)) :: (Value.int (2 : Int) (0 : Nat)) :: (Value.int (0 : Int) (0 : Nat)) :: (Value.int (0 : Int) (0 : Nat)) :: (Value.int (3 : Int) (0 : Nat)) :: (Value.ref (159 : Nat)) :: (Value.bool Bool.true) :: (Value.int (276 : Int) (0 : Nat)) :: (Value.ref (160 : Nat)) :: PySem.Value.none :: (Value.ref (161 : Nat)) :: (Value.ref (162 : Nat)) :: (Value.ref (163 : Nat)) :: (Value.int (663 : Int) (0 : Nat)) :: (Value.int (193 : Int) (0 : Nat)) :: (Value.str (Str.ofString "/claim/cut.py") (664 : Nat)) :: []))) #[]) ::
    (nat_lit 165, Obj.mk (Value.type "function") (@none Nat) (Data.func (FuncData.mk (Str.ofString "_join_translated_parts") (Str.ofString "_join_translated_parts") a14 (FuncBody.stmts b14) c14 (3 : Nat) (@List.nil (Str × Nat)) PySem.Value.none PySem.Value.none PySem.Value.none (Value.str (Str.ofString "cpy313.fnmatch") (632 : Nat)) (@none Nat) (Value.ref (164 : Nat)) PySem.Value.none (0 : Nat))) #[]) ::
    (nat_lit 166, Obj.mk (Value.type "tuple") (@none Nat) (Data.seq #[] (0 : Nat)) #[]) ::
    (nat_lit 168, Obj.mk (Value.type "tuple") (@none Nat) (Data.seq #[Value.str (Str.ofString "body") (671 : Nat), Value.str (Str.ofString "at") (672 : Nat), Value.str (Str.ofString "barred") (673 : Nat), Value.str (Str.ofString "sign") (674 : Nat), Value.str (Str.ofString "shut") (675 : Nat), Value.str (Str.ofString "many") (676 : Nat)] (0 : Nat)) #[]) ::
    (nat_lit 169, Obj.mk (Value.type "tuple") (@none Nat) (Data.seq #[] (0 : Nat)) #[]) ::
    (nat_lit 171, Obj.mk (Value.type "code") (@none Nat) (Data.fields (List.toArray ((Value.str (Str.ofString "_law_step") (668 : Nat)) :: (Value.str (Str.ofString "_law_step") (669 : Nat)) :: (Value.str (Str.ofString "/claim/cut.py") (670 : Nat)) :: (Value.int (221 : Int) (0 : Nat)) :: (Value.int (2 : Int) (0 : Nat)) :: (Value.int (0 : Int) (0 : Nat)) :: (Value.int (0 : Int) (0 : Nat)) :: (Value.int (3 : Int) (0 : Nat)) :: (Value.ref (166 : Nat)) :: (Value.bool Bool.true) :: (Value.int (276 : Int) (0 : Nat)) :: (Value.ref (167 : Nat)) :: PySem.Value.none :: (Value.ref (168 : Nat)) :: (Value.ref (169 : Nat)) :: (Value.ref (170 : Nat)) :: (Value.int (677 : Int) (0 : Nat)) :: (Value.int (221 : Int) (0 : Nat)) :: (Value.str (Str.ofString "/claim/cut.py") (678 : Nat)) :: []))) #[]) ::
    (nat_lit 172, Obj.mk (Value.type "function") (@none Nat) (Data.func (FuncData.mk (Str.ofString "_law_step") (Str.ofString "_law_step") a15 (FuncBody.stmts b15) c15 (3 : Nat) (@List.nil (Str × Nat)) PySem.Value.none PySem.Value.none PySem.Value.none (Value.str (Str.ofString "law_ij0104_01") (666 : Nat)) (@none Nat) (Value.ref (171 : Nat)) PySem.Value.none (0 : Nat))) #[]) ::
    (nat_lit 173, Obj.mk (Value.type "tuple") (@none Nat) (Data.seq #[] (0 : Nat)) #[]) ::
    (nat_lit 175, Obj.mk (Value.type "tuple") (@none Nat) (Data.seq #[Value.str (Str.ofString "text") (683 : Nat), Value.str (Str.ofString "body") (684 : Nat), Value.str (Str.ofString "at") (685 : Nat), Value.str (Str.ofString "rows") (686 : Nat), Value.str (Str.ofString "held") (687 : Nat), Value.str (Str.ofString "step") (688 : Nat)] (0 : Nat)) #[]) ::
    (nat_lit 176, Obj.mk (Value.type "tuple") (@none Nat) (Data.seq #[] (0 : Nat)) #[]) ::
    (nat_lit 178, Obj.mk (Value.type "code") (@none Nat) (Data.fields (List.toArray ((Value.str (Str.ofString "_law_read") (680 : Nat)) :: (Value.str (Str.ofString "_law_read") (681 : Nat)) :: (Value.str (Str.ofString "/claim/cut.py") (682 : Nat)) :: (Value.int (233 : Int) (0 : Nat)) :: (Value.int (1 : Int) (0 : Nat)) :: (Value.int (0 : Int) (0 : Nat)) :: (Value.int (0 : Int) (0 : Nat)) :: (Value.int (3 : Int) (0 : Nat)) :: (Value.ref (173 : Nat)) :: (Value.bool Bool.true) :: (Value.int (276 : Int) (0 : Nat)) :: (Value.ref (174 : Nat)) :: PySem.Value.none :: (Value.ref (175 : Nat)) :: (Value.ref (176 : Nat)) :: (Value.ref (177 : Nat)) :: (Value.int (689 : Int) (0 : Nat)) :: (Value.int (233 : Int) (0 : Nat)) :: (Value.str (Str.ofString "/claim/cut.py") (690 : Nat)) :: []))) #[]) ::
    (nat_lit 179, Obj.mk (Value.type "function") (@none Nat) (Data.func (FuncData.mk (Str.ofString "_law_read") (Str.ofString "_law_read") a16 (FuncBody.stmts b16) c16 (3 : Nat) (@List.nil (Str × Nat)) PySem.Value.none PySem.Value.none PySem.Value.none (Value.str (Str.ofString "law_ij0104_01") (666 : Nat)) (@none Nat) (Value.ref (178 : Nat)) PySem.Value.none (0 : Nat))) #[]) ::
    (nat_lit 180, Obj.mk (Value.type "tuple") (@none Nat) (Data.seq #[] (0 : Nat)) #[]) ::
    (nat_lit 182, Obj.mk (Value.type "tuple") (@none Nat) (Data.seq #[Value.str (Str.ofString "steps") (695 : Nat), Value.str (Str.ofString "text") (696 : Nat), Value.str (Str.ofString "place") (697 : Nat), Value.str (Str.ofString "start") (698 : Nat), Value.str (Str.ofString "ends") (699 : Nat)] (0 : Nat)) #[]) ::
    (nat_lit 183, Obj.mk (Value.type "tuple") (@none Nat) (Data.seq #[] (0 : Nat)) #[]) ::
    (nat_lit 185, Obj.mk (Value.type "code") (@none Nat) (Data.fields (List.toArray ((Value.str (Str.ofString "_law_first") (692 : Nat)) :: (Value.str (Str.ofString "_law_first") (693 : Nat)) :: (Value.str (Str.ofString "/claim/cut.py") (694 : Nat)) :: (Value.int (249 : Int) (0 : Nat)) :: (Value.int (3 : Int) (0 : Nat)) :: (Value.int (0 : Int) (0 : Nat)) :: (Value.int (0 : Int) (0 : Nat)) :: (Value.int (3 : Int) (0 : Nat)) :: (Value.ref (180 : Nat)) :: (Value.bool Bool.true) :: (Value.int (276 : Int) (0 : Nat)) :: (Value.ref (181 : Nat)) :: PySem.Value.none :: (Value.ref (182 : Nat)) :: (Value.ref (183 : Nat)) :: (Value.ref (184 : Nat)) :: (Value.int (700 : Int) (0 : Nat)) :: (Value.int (249 : Int) (0 : Nat)) :: (Value.str (Str.ofString "/claim/cut.py") (701 : Nat)) :: []))) #[]) ::
    (nat_lit 186, Obj.mk (Value.type "function") (@none Nat) (Data.func (FuncData.mk (Str.ofString "_law_first") (Str.ofString "_law_first") a17 (FuncBody.stmts b17) c17 (3 : Nat) (@List.nil (Str × Nat)) PySem.Value.none PySem.Value.none PySem.Value.none (Value.str (Str.ofString "law_ij0104_01") (666 : Nat)) (@none Nat) (Value.ref (185 : Nat)) PySem.Value.none (0 : Nat))) #[]) ::
    (nat_lit 187, Obj.mk (Value.type "tuple") (@none Nat) (Data.seq #[] (0 : Nat)) #[]) ::
    (nat_lit 190, Obj.mk (Value.type "code") (@none Nat) (Data.fields (List.toArray ((Value.str (Str.ofString "_law_ends") (703 : Nat)) :: (Value.str (Str.ofString "_law_ends") (704 : Nat)) :: (Value.str (Str.ofString "/claim/cut.py") (705 : Nat)) :: (Value.int (255 : Int) (0 : Nat)) :: (Value.int (3 : Int) (0 : Nat)) :: (Value.int (0 : Int) (0 : Nat)) :: (Value.int (0 : Int) (0 : Nat)) :: (Value.int (3 : Int) (0 : Nat)) :: (Value.ref (187 : Nat)) :: (Value.bool Bool.true) :: (Value.int (276 : Int) (0 : Nat)) :: (Value.ref (188 : Nat)) :: PySem.Value.none :: PySem.Value.none :: PySem.Value.none :: (Value.ref (189 : Nat)) :: (Value.int (706 : Int) (0 : Nat)) :: (Value.int (255 : Int) (0 : Nat)) :: (Value.str (Str.ofString "/claim/cut.py") (707 : Nat)) :: []))) #[]) ::
    (nat_lit 191, Obj.mk (Value.type "function") (@none Nat) (Data.func (FuncData.mk (Str.ofString "_law_ends") (Str.ofString "_law_ends") a18 (FuncBody.stmts b18) c18 (3 : Nat) (@List.nil (Str × Nat)) PySem.Value.none PySem.Value.none PySem.Value.none (Value.str (Str.ofString "law_ij0104_01") (666 : Nat)) (@none Nat) (Value.ref (190 : Nat)) PySem.Value.none (0 : Nat))) #[]) ::
    (nat_lit 192, Obj.mk (Value.type "tuple") (@none Nat) (Data.seq #[] (0 : Nat)) #[]) ::
    (nat_lit 195, Obj.mk (Value.type "code") (@none Nat) (Data.fields (List.toArray ((Value.str (Str.ofString "_law_taken") (709 : Nat)) :: (Value.str (Str.ofString "_law_taken") (710 : Nat)) :: (Value.str (Str.ofString "/claim/cut.py") (711 : Nat)) :: (Value.int (268 : Int) (0 : Nat)) :: (Value.int (2 : Int) (0 : Nat)) :: (Value.int (0 : Int) (0 : Nat)) :: (Value.int (0 : Int) (0 : Nat)) :: (Value.int (3 : Int) (0 : Nat)) :: (Value.ref (192 : Nat)) :: (Value.bool Bool.true) :: (Value.int (276 : Int) (0 : Nat)) :: (Value.ref (193 : Nat)) :: PySem.Value.none :: PySem.Value.none :: PySem.Value.none :: (Value.ref (194 : Nat)) :: (Value.int (712 : Int) (0 : Nat)) :: (Value.int (268 : Int) (0 : Nat)) :: (Value.str (Str.ofString "/claim/cut.py") (713 : Nat)) :: []))) #[]) ::
    (nat_lit 196, Obj.mk (Value.type "function") (@none Nat) (Data.func (FuncData.mk (Str.ofString "_law_taken") (Str.ofString "_law_taken") a19 (FuncBody.stmts b19) c19 (3 : Nat) (@List.nil (Str × Nat)) PySem.Value.none PySem.Value.none PySem.Value.none (Value.str (Str.ofString "law_ij0104_01") (666 : Nat)) (@none Nat) (Value.ref (195 : Nat)) PySem.Value.none (0 : Nat))) #[]) ::
    (nat_lit 197, Obj.mk (Value.type "tuple") (@none Nat) (Data.seq #[] (0 : Nat)) #[]) ::
    (nat_lit 200, Obj.mk (Value.type "code") (@none Nat) (Data.fields (List.toArray ((Value.str (Str.ofString "_law_escaped") (715 : Nat)) :: (Value.str (Str.ofString "_law_escaped") (716 : Nat)) :: (Value.str (Str.ofString "/claim/cut.py") (717 : Nat)) :: (Value.int (271 : Int) (0 : Nat)) :: (Value.int (1 : Int) (0 : Nat)) :: (Value.int (0 : Int) (0 : Nat)) :: (Value.int (0 : Int) (0 : Nat)) :: (Value.int (3 : Int) (0 : Nat)) :: (Value.ref (197 : Nat)) :: (Value.bool Bool.true) :: (Value.int (276 : Int) (0 : Nat)) :: (Value.ref (198 : Nat)) :: PySem.Value.none :: PySem.Value.none :: PySem.Value.none :: (Value.ref (199 : Nat)) :: (Value.int (718 : Int) (0 : Nat)) :: (Value.int (271 : Int) (0 : Nat)) :: (Value.str (Str.ofString "/claim/cut.py") (719 : Nat)) :: []))) #[]) ::
    (nat_lit 201, Obj.mk (Value.type "function") (@none Nat) (Data.func (FuncData.mk (Str.ofString "_law_escaped") (Str.ofString "_law_escaped") a20 (FuncBody.stmts b20) c20 (3 : Nat) (@List.nil (Str × Nat)) PySem.Value.none PySem.Value.none PySem.Value.none (Value.str (Str.ofString "law_ij0104_01") (666 : Nat)) (@none Nat) (Value.ref (200 : Nat)) PySem.Value.none (0 : Nat))) #[]) ::
    (nat_lit 202, Obj.mk (Value.type "tuple") (@none Nat) (Data.seq #[] (0 : Nat)) #[]) ::
    (nat_lit 204, Obj.mk (Value.type "tuple") (@none Nat) (Data.seq #[Value.str (Str.ofString "script") (724 : Nat), Value.str (Str.ofString "texts") (725 : Nat), Value.str (Str.ofString "number") (726 : Nat), Value.str (Str.ofString "kind") (727 : Nat), Value.str (Str.ofString "odd") (728 : Nat)] (0 : Nat)) #[]) ::
    (nat_lit 205, Obj.mk (Value.type "tuple") (@none Nat) (Data.seq #[] (0 : Nat)) #[]) ::
    (nat_lit 207, Obj.mk (Value.type "code") (@none Nat) (Data.fields (List.toArray ((Value.str (Str.ofString "_law_texts") (721 : Nat)) :: (Value.str (Str.ofString "_law_texts") (722 : Nat)) :: (Value.str (Str.ofString "/claim/cut.py") (723 : Nat)) :: (Value.int (273 : Int) (0 : Nat)) :: (Value.int (1 : Int) (0 : Nat)) :: (Value.int (0 : Int) (0 : Nat)) :: (Value.int (0 : Int) (0 : Nat)) :: (Value.int (3 : Int) (0 : Nat)) :: (Value.ref (202 : Nat)) :: (Value.bool Bool.true) :: (Value.int (276 : Int) (0 : Nat)) :: (Value.ref (203 : Nat)) :: PySem.Value.none :: (Value.ref (204 : Nat)) :: (Value.ref (205 : Nat)) :: (Value.ref (206 : Nat)) :: (Value.int (729 : Int) (0 : Nat)) :: (Value.int (273 : Int) (0 : Nat)) :: (Value.str (Str.ofString "/claim/cut.py") (730 : Nat)) :: []))) #[]) ::
    (nat_lit 208, Obj.mk (Value.type "function") (@none Nat) (Data.func (FuncData.mk (Str.ofString "_law_texts") (Str.ofString "_law_texts") a21 (FuncBody.stmts b21) c21 (3 : Nat) (@List.nil (Str × Nat)) PySem.Value.none PySem.Value.none PySem.Value.none (Value.str (Str.ofString "law_ij0104_01") (666 : Nat)) (@none Nat) (Value.ref (207 : Nat)) PySem.Value.none (0 : Nat))) #[]) ::
    (nat_lit 209, Obj.mk (Value.type "tuple") (@none Nat) (Data.seq #[] (0 : Nat)) #[]) ::
    (nat_lit 212, Obj.mk (Value.type "code") (@none Nat) (Data.fields (List.toArray ((Value.str (Str.ofString "law") (732 : Nat)) :: (Value.str (Str.ofString "law") (733 : Nat)) :: (Value.str (Str.ofString "/claim/cut.py") (734 : Nat)) :: (Value.int (283 : Int) (0 : Nat)) :: (Value.int (1 : Int) (0 : Nat)) :: (Value.int (0 : Int) (0 : Nat)) :: (Value.int (0 : Int) (0 : Nat)) :: (Value.int (3 : Int) (0 : Nat)) :: (Value.ref (209 : Nat)) :: (Value.bool Bool.true) :: (Value.int (276 : Int) (0 : Nat)) :: (Value.ref (210 : Nat)) :: PySem.Value.none :: PySem.Value.none :: PySem.Value.none :: (Value.ref (211 : Nat)) :: (Value.int (735 : Int) (0 : Nat)) :: (Value.int (283 : Int) (0 : Nat)) :: (Value.str (Str.ofString "/claim/cut.py") (736 : Nat)) :: []))) #[]) ::
    (nat_lit 213, Obj.mk (Value.type "function") (@none Nat) (Data.func (FuncData.mk (Str.ofString "law") (Str.ofString "law") a22 (FuncBody.stmts b22) c22 (3 : Nat) (@List.nil (Str × Nat)) PySem.Value.none PySem.Value.none PySem.Value.none (Value.str (Str.ofString "law_ij0104_01") (666 : Nat)) (@none Nat) (Value.ref (212 : Nat)) PySem.Value.none (0 : Nat))) #[]) :: [] : List (Nat × Obj))
end Mine
end

section -- HQ
open PySem PySem.W PyProof.Rows
set_option Elab.async false
set_option maxRecDepth 100000
set_option maxHeartbeats 8000000
namespace Mine
noncomputable def seenG (p q : Program) (loose : List Str) (rec : WRecords) (as ts : List Addr) (s : Shared) :=
  (openSeen q loose (importedModules p.main.body) (fun s => xlAt q [] s && recOk rec s) true s, (as.map s.heap.get?, ts.map s.heap.get?))
noncomputable def endsG (p : Program) (w : World) (N : Nat) : Option Shared :=
  ((importEnds treeTable (opening p) w N (start (opening p)).1 (start (opening p)).2).bind (fenceModules? p)).bind fun s₀ => topFrom treeTable p w N s₀
theorem endsG_is (p : Program) (w : World) (N : Nat) : openEnds treeTable p w N = endsG p w N := rfl
lay_quick endsG
end Mine
end

section -- HL
open PySem PySem.W PyProof.Rows
set_option Elab.async false
set_option maxRecDepth 100000
set_option maxHeartbeats 8000000
namespace Mine
noncomputable def progQ : Program := PySem.Challenge.pw_ij0104_01
noncomputable def viewQ : Program := PySem.W.view PySem.Challenge.pw_ij0104_01 [0, 1, 3, 4, 5, 7, 9, 10, 11, 12, 14, 16, 17, 19, 20, 22, 23, 25, 26, 27, 28, 29, 30, 31, 32]
def asl : List Addr := [3, 32, 34, 35, 37, 38, 39, 41, 42, 44, 45, 46, 48, 49, 51, 52, 60, 61, 63, 64, 66, 67, 68, 70, 71, 73, 74,
          75, 77, 78, 80, 81, 82, 84, 85, 86, 87, 88, 89, 90, 93, 95, 96, 98, 99, 100, 102, 103, 105, 106, 107, 109,
          110, 112, 113, 114, 116, 117, 119, 120, 121, 123, 124, 126, 127, 131, 132, 133, 135, 136, 138, 139, 141, 145,
          147, 148, 150, 151, 152, 154, 155, 157, 158, 159, 161, 162, 164, 165, 166, 168, 169, 171, 172, 173, 175, 176,
          178, 179, 180, 182, 183, 185, 186, 187, 190, 191, 192, 195, 196, 197, 200, 201, 202, 204, 205, 207, 208, 209,
          212, 213]
theorem asl_is : ∀ P, asl = (heapK P).map (·.1) := fun P => by kernel_rfl
def looseL : List Str := [Str.ofString "islice", Str.ofString "_twin_re_1", Str.ofString "_special_chars_map"]
theorem ends_ff : ∀ w : World, (PySem.W.Fast.tw10992624864222125937 PySem.Challenge.pw_ij0104_01 ((w.withFollow "special-get-raises" false).withFollow "comprehension-iter-twice" false) 4902).map (seenG PySem.Challenge.pw_ij0104_01 viewQ looseL [] asl [153]) =
    some (openGood viewQ looseL, ((heapK w.params).map fun p => some p.2, [153].map fun _ => some (tabObj #[]))) := by
  intro w; kernel_rfl
theorem ends_ft : ∀ w : World, (PySem.W.Fast.tw10992624864222125937 PySem.Challenge.pw_ij0104_01 ((w.withFollow "special-get-raises" true).withFollow "comprehension-iter-twice" false) 4902).map (seenG PySem.Challenge.pw_ij0104_01 viewQ looseL [] asl [153]) =
    some (openGood viewQ looseL, ((heapK w.params).map fun p => some p.2, [153].map fun _ => some (tabObj #[]))) := by
  intro w; kernel_rfl
theorem ends_tf : ∀ w : World, (PySem.W.Fast.tw10992624864222125937 PySem.Challenge.pw_ij0104_01 ((w.withFollow "special-get-raises" false).withFollow "comprehension-iter-twice" true) 4902).map (seenG PySem.Challenge.pw_ij0104_01 viewQ looseL [] asl [153]) =
    some (openGood viewQ looseL, ((heapK w.params).map fun p => some p.2, [153].map fun _ => some (tabObj #[]))) := by
  intro w; kernel_rfl
theorem ends_tt : ∀ w : World, (PySem.W.Fast.tw10992624864222125937 PySem.Challenge.pw_ij0104_01 ((w.withFollow "special-get-raises" true).withFollow "comprehension-iter-twice" true) 4902).map (seenG PySem.Challenge.pw_ij0104_01 viewQ looseL [] asl [153]) =
    some (openGood viewQ looseL, ((heapK w.params).map fun p => some p.2, [153].map fun _ => some (tabObj #[]))) := by
  intro w; kernel_rfl
theorem left_is : LeftO PySem.Challenge.pw_ij0104_01 viewQ looseL (fun s => xlAt viewQ [] s && recOk [] s) (Hook.obs (kmHook heapK asl asl_is [153])) (Hook.val (kmHook heapK asl asl_is [153])) 4902 := by
  have key : ∀ w : World, (PySem.W.Fast.tw10992624864222125937 PySem.Challenge.pw_ij0104_01 w 4902).map (seenG PySem.Challenge.pw_ij0104_01 viewQ looseL [] asl [153]) =
      some (openGood viewQ looseL, ((heapK w.params).map fun p => some p.2, [153].map fun _ => some (tabObj #[]))) := by
    refine byRow2 "comprehension-iter-twice" ?_ ?_
    · exact byRow2 "special-get-raises" (P := fun w => (PySem.W.Fast.tw10992624864222125937 PySem.Challenge.pw_ij0104_01 (w.withFollow "comprehension-iter-twice" false) 4902).map (seenG PySem.Challenge.pw_ij0104_01 viewQ looseL [] asl [153]) =
        some (openGood viewQ looseL, ((heapK w.params).map fun p => some p.2, [153].map fun _ => some (tabObj #[])))) ends_ff ends_ft
    · exact byRow2 "special-get-raises" (P := fun w => (PySem.W.Fast.tw10992624864222125937 PySem.Challenge.pw_ij0104_01 (w.withFollow "comprehension-iter-twice" true) 4902).map (seenG PySem.Challenge.pw_ij0104_01 viewQ looseL [] asl [153]) =
        some (openGood viewQ looseL, ((heapK w.params).map fun p => some p.2, [153].map fun _ => some (tabObj #[])))) ends_tf ends_tt
  intro w
  have h := key w
  rw [← PySem.W.Fast.te10992624864222125937, ← endsG_is] at h
  exact h
theorem said_is : PySem.Challenge.rw_ij0104_01.wellSaid = true := by kernel_rfl
theorem hd {d : DefRec} {kwd : List (Str × Expr)} (hdef : defOf viewQ PySem.Challenge.rw_ij0104_01.row.name = some (d, kwd))
    (hp : PySem.Challenge.rw_ij0104_01.row.prog.theDef PySem.Challenge.rw_ij0104_01.row.name = some (d.params, d.body, d.scope))
    (hk : kwWritten? d.params.kwonlyargs d.params.kw_defaults = some kwd)
    (walk : WalkO viewQ looseL (XL viewQ []) (kmHook heapK asl asl_is [153]).says PySem.Challenge.rw_ij0104_01.row.toRowW d kwd fun f vs => PySem.call f vs) : PySem.Challenge.rw_ij0104_01.Holds := by
  refine holds_law said_is fun said => ?_
  refine holds_open (q := viewQ) (loose := looseL) (Xt := fun s => xlAt viewQ [] s && recOk [] s) (XP := XL viewQ []) (Yf := Hook.obs (kmHook heapK asl asl_is [153])) (Ya := Hook.val (kmHook heapK asl asl_is [153])) (YP := Hook.says (kmHook heapK asl asl_is [153])) (N := 4902)
    left_is (Hook.of (kmHook heapK asl asl_is [153])) (Hook.keeps (kmHook heapK asl asl_is [153])) (fun s e => xl_of s (Bool.and_eq_true_iff.mp e).1) XL.keeps hdef hp hk (fun s e => recFacts_of (Bool.and_eq_true_iff.mp e).2) rfl
    said (by decide +kernel) ⟨rfl, rfl, rfl, rfl, rfl, by decide +kernel⟩ ?hw walk
  w_witness2
end Mine
end

section -- HF
open PySem PySem.W PyProof.Rows
set_option Elab.async false
set_option maxRecDepth 100000
set_option maxHeartbeats 8000000
namespace Mine
theorem abs_toks {α : Type} {M : Model} {A : Around} {c : Sem α} {Q : α → Shared → Prop} {E : Value → Shared → Prop} {h : Heap} {g : Array GenState} {d : Drawn} {a b : Nat} {o : OsState} (k : ∀ tk, wpAny M A c Q E ⟨h, g, d, tk, o⟩) : wpAny M A c Q E ⟨h, g, d, a + b, o⟩ := k _
theorem storeX_M {M : Model} {A : Around} {Q : Unit → Shared → Prop} {E : Value → Shared → Prop} {s : Shared} {h₀ : Heap} {L : Addr} {cn : Str} {cs : Scope} {a : Addr} {ccd : Value} {cl : List (Str × Addr)} {m : Str → Option Value} {news : List (Addr × Obj)} {x : Str} {v : Value} (F : Fr h₀ L s.heap m) (N : News h₀ L s.heap news)
    (h : ∀ h', let m' := (fun y => if y = x then some v else m y); Fr h₀ L h' m' → News h₀ L h' news → Q () { s with heap := h', toks := s.toks + 1 })
    (hk : cs.kind = .function) (hx : (envX cn cs L a ccd cl).kindOf x = some .local) : wpAny M A (storeName (envX cn cs L a ccd cl) x v) Q E s := storeX_L F N h hk hx
theorem fold_AE {prog : Program} {w : World} {A : Around} {env : Env} {body : List Stmt} {Q : Flow → Shared → Prop} {E : Value → Shared → Prop} {s : Shared} (h : let A9 := A; let e9 := env; wpAny (model prog w) A9 (execs body e9) Q E s) : wpAny (model prog w) A (execs body env) Q E s := h
noncomputable def StopB (p : Prop) : Prop := p
theorem sb_out {p : Prop} (h : StopB p) : p := h
theorem sb_in {p : Prop} (h : p) : StopB p := h
theorem pg {p : Prop} (h : p) : p := h
inductive Mark9 : Prop where
  | mk : Mark9
end Mine
end

section -- the common lines
open PySem PySem.W PyProof.Rows PySem.Calls
local macro_rules | `(tactic| walk_at "storeName") => `(tactic| (k_here; k_dflt (refine' Mine.storeX_M ?F ?N ?_ ?a ?b; (case F => k_asm); (case N => k_asm); (case a => rfl); (case b => rfl); k_whole); intro h' mL F' N'; (try k_sweep)))
local macro_rules | `(tactic| walk_at "execs cons") => `(tactic| (with_reducible refine Mine.abs_toks ?_; intro tk))
local macro_rules | `(tactic| walk_at "execs cons") => `(tactic| dsimp only)
local macro_rules | `(tactic| walk_at "execs cons") => `(tactic| k_fold)
local macro_rules | `(tactic| walk_at "execs nil") => `(tactic| dsimp only)

section -- MBase
open PySem PySem.W PyProof.Rows PySem.Calls
set_option Elab.async false
set_option maxRecDepth 100000
set_option maxHeartbeats 8000000
namespace Mine
noncomputable abbrev P0 : Program := Challenge.rw_ij0104_01.row.toRowW.prog
noncomputable abbrev tupOf (vs : List Value) : Obj := { cls := .type "tuple", data := .seq vs.toArray }
noncomputable abbrev Led := List (Addr × Obj)
/-- a contract of a def that writes into nothing that stood before -/
noncomputable def Con (w : World) (f : Addr) (vs : List Value) (d u : Nat) (news : Led) (Res : Value → Led → Prop) : Prop :=
  ∀ (p : Program) (loose : List Str) (mean : ExcName → Option Value) (mg mb : Str → Option Value) (dp un : Nat) (gd : Option (List Code)) (cn : Str) (cs : Scope) (a : Addr) (ccd : Value) (cl : List (Str × Addr)) (outer : List Env) (A₀ : Around) (base h₀ : Heap) (L : Addr) (m : Str → Option Value) (s : Shared) (Q E : Value → Shared → Prop),
    Below A₀ base outer h₀ → Fr h₀ L s.heap m → (Mine.heapK w.params).In h₀ → News h₀ L s.heap news → Top p loose mean mg mb h₀ → cs.kind = .function → dp + d < recursionLimit → un + u < cLine →
    (∀ r tl h' tk', Fr h₀ L h' m → News h₀ L h' (tl ++ news) → (∀ q ∈ tl, ∀ p ∈ news, p.1 < q.1) → Res r tl → Q r { s with heap := h', toks := tk' }) →
    wpAny (model P0 w) (ktrTop dp un gd cn cs L a ccd cl outer) (call (.ref f) vs) Q E s
-- texts
theorem item_pre {x : Str} {pre post : List Nat} {c : Nat} {k : Int} (h : x.cps.toList = pre ++ c :: post) (hk : k = (pre.length : Int)) : Txt.item x k = ⟨#[c]⟩ := by
  subst hk
  have hl : pre.length < x.cps.size := by rw [← Array.length_toList, h]; simp
  have hg : x.cps[pre.length]? = some c := by rw [← Array.getElem?_toList, h]; simp
  exact item_meets (by omega) (by simpa using hg)
end Mine
end

section -- MStr
open PySem PySem.W PyProof.Rows PySem.Calls PySem.Builtin PySem.Builtin.Str
set_option Elab.async false
set_option maxRecDepth 100000
namespace Mine
theorem idx_ss (len : Nat) {i j : Int} (h0 : 0 ≤ i) (h1 : 0 ≤ j) : strSliceIndices (some i) (some j) 1 len = strSliceIndices (some (min i len)) (some (min j len)) 1 len := by
  have a1 : ¬ i < 0 := by omega
  have a2 : ¬ j < 0 := by omega
  have a3 : ¬ min i (len : Int) < 0 := Int.not_lt.mpr (Int.le_min.mpr ⟨Int.not_lt.mp a1, Int.natCast_nonneg _⟩)
  have a4 : ¬ min j (len : Int) < 0 := Int.not_lt.mpr (Int.le_min.mpr ⟨Int.not_lt.mp a2, Int.natCast_nonneg _⟩)
  have e1 : min (min i (len : Int)) (len : Int) = min i len := Int.min_eq_left (Int.min_le_right _ _)
  have e2 : min (min j (len : Int)) (len : Int) = min j len := Int.min_eq_left (Int.min_le_right _ _)
  simp only [strSliceIndices, if_neg a1, if_neg a2, if_neg a3, if_neg a4, e1, e2, if_pos (show (1 : Int) > 0 by omega)]
theorem slice_ss {x : Str} {i j : Int} (h0 : 0 ≤ i) (h1 : i ≤ j) : Txt.slice x (some i) (some j) = ⟨((x.cps.toList.drop i.toNat).take (j.toNat - i.toNat)).toArray⟩ := by
  have e : Txt.slice x (some i) (some j) = Txt.slice x (some (min i x.length)) (some (min j x.length)) := by
    show StrLaws.sliceText x _ _ = StrLaws.sliceText x _ _
    unfold StrLaws.sliceText
    rw [idx_ss x.length h0 (by omega)]
  have hx : x.cps.toList.length = x.length := by simp [Str.length]
  rw [e, eq_of_beq (slice_closesL (x := x) (i := min i x.length) (j := min j x.length) (Int.le_min.mpr ⟨h0, Int.natCast_nonneg _⟩) (Int.le_min.mpr ⟨Int.le_trans (Int.min_le_left _ _) h1, Int.min_le_right _ _⟩) (Int.min_le_right _ _))]
  apply congrArg Str.mk
  apply congrArg List.toArray
  clear e
  obtain ⟨a, rfl⟩ := Int.eq_ofNat_of_zero_le h0
  obtain ⟨b, rfl⟩ := Int.eq_ofNat_of_zero_le (Int.le_trans h0 h1)
  clear h0
  by_cases hi : (a : Int) ≤ x.length
  · have e1 : min (a : Int) (x.length : Int) = a := Int.min_eq_left hi
    rw [e1]
    by_cases hj : (b : Int) ≤ x.length
    · have e2 : min (b : Int) (x.length : Int) = b := Int.min_eq_left hj
      rw [e2]
      clear e1 e2 hi hj hx
      simp only [Int.toNat_natCast, Int.toNat_sub]
    · have e2 : min (b : Int) (x.length : Int) = x.length := Int.min_eq_right (Int.le_of_lt (Int.not_le.mp hj))
      have hj' : (x.length : Int) ≤ (b : Int) := Int.le_of_lt (Int.not_le.mp hj)
      clear e1 hj
      rw [e2]
      clear e2
      have hj2 : x.length ≤ b := Int.ofNat_le.mp hj'
      clear hj' hi h1
      simp only [Int.toNat_natCast]
      rw [List.take_of_length_le (by simp only [List.length_drop, hx]; clear hx; omega), List.take_of_length_le (by simp only [List.length_drop, hx]; clear hx; omega)]
  · have hi' : (x.length : Int) ≤ (a : Int) := Int.le_of_lt (Int.not_le.mp hi)
    have e1 : min (a : Int) (x.length : Int) = x.length := Int.min_eq_right hi'
    have e2 : min (b : Int) (x.length : Int) = x.length := Int.min_eq_right (Int.le_trans hi' h1)
    rw [e1, e2]
    clear e1 e2 hi
    have hi2 : x.length ≤ a := Int.ofNat_le.mp hi'
    clear hi' h1
    simp only [Int.toNat_natCast]
    rw [List.drop_of_length_le (l := x.cps.toList) (i := a) (by rw [hx]; exact hi2), List.drop_of_length_le (by rw [hx]; exact Nat.le_refl _)]
    simp
theorem slice_ns {x : Str} {j : Int} (h1 : 0 ≤ j) : Txt.slice x none (some j) = ⟨(x.cps.toList.take j.toNat).toArray⟩ := by
  have hx : x.cps.toList.length = x.length := by simp [Str.length]
  rw [eq_of_beq (slice_to_min_closes (x := x) (n := j) h1 rfl)]
  apply congrArg Str.mk
  apply congrArg List.toArray
  obtain ⟨a, rfl⟩ := Int.eq_ofNat_of_zero_le h1
  by_cases hj : (x.length : Int) < (a : Int)
  · have hj2 : x.length ≤ a := Nat.le_of_lt (Int.ofNat_lt.mp hj)
    rw [if_pos hj, Int.toNat_natCast]
    clear hj h1
    rw [List.take_of_length_le (l := x.cps.toList) (i := a) (by rw [hx]; exact hj2), List.take_of_length_le (by simp only [List.length_drop, hx]; clear hx; omega)]
    simp
  · rw [if_neg hj]
    simp
/-- a slice of one place -/
theorem slice_one {x : Str} {k j : Int} (h0 : 0 ≤ k) (hj : j = k + 1) : Txt.slice x (some k) (some j) = ⟨(x.cps.toList.drop k.toNat).take 1 |>.toArray⟩ := by
  subst hj
  obtain ⟨a, rfl⟩ := Int.eq_ofNat_of_zero_le h0
  rw [slice_ss h0 (Int.le_add_of_nonneg_right (by decide)), show ((a : Int) + 1) = ((a + 1 : Nat) : Int) from rfl, Int.toNat_natCast, Int.toNat_natCast, Nat.add_sub_cancel_left]
theorem one_beqZ {c d : Nat} : ((⟨#[c]⟩ : Str) == ⟨#[d]⟩) = decide (c = d) := by
  by_cases h : c = d
  · subst h; simp
  · simp [h]
end Mine
end

section -- MStep
open PySem PySem.W PyProof.Rows PySem.Calls
set_option Elab.async false
set_option maxRecDepth 100000
set_option maxHeartbeats 8000000
namespace Mine
theorem flush_MStep : True := by w_top off; first | walk1 | trivial
noncomputable def StepRes (k : Int) (many : Int) (barred : Bool) (sign : Str) (r : Value) (tl : Led) : Prop :=
  DatIn tl r (.tuple [.tuple [.int many, .bool barred, .str sign], .int k])
theorem ltAll {d : Addr} {l : Led} (h : AllLt d l) : ∀ p ∈ l, p.1 < d := tb_ltOf h
theorem step_fin {h₀ : Heap} {L : Addr} {m : Str → Option Value} {s : Shared} {Q : Value → Shared → Prop} {news more : Led} {k k1 many : Int} {b b1 : Bool} {sg sg1 : Str} {D0 D1 : Addr} {u1 u2 u3 : Tok} {h' : Heap} {tk' : Nat}
    (hret : ∀ r tl h' tk', Fr h₀ L h' m → News h₀ L h' (tl ++ news) → (∀ q ∈ tl, ∀ p ∈ news, p.1 < q.1) → StepRes k many b sg r tl → Q r { s with heap := h', toks := tk' })
    (F : Fr h₀ L h' m) (N : News h₀ L h' ((D1, tupOf [.ref D0, .int k1 u1]) :: (D0, tupOf [.int many u2, .bool b1, .str sg1 u3]) :: (more ++ news))) (l0 : ∀ q ∈ (D1, tupOf [.ref D0, .int k1 u1]) :: (D0, tupOf [.int many u2, .bool b1, .str sg1 u3]) :: more, ∀ p ∈ news, p.1 < q.1)
    (ek : k1 = k) (eb : b1 = b) (es : sg1 = sg) : Q (.ref D1) { s with heap := h', toks := tk' } := by
  subst ek eb es
  refine hret _ ((D1, tupOf [.ref D0, .int k1 u1]) :: (D0, tupOf [.int many u2, .bool b1, .str sg1 u3]) :: more) _ _ F N l0 ?_
  refine .tuple (vs := [.ref D0, .int k1 u1]) (.head _) (.cons (.tuple (vs := [.int many u2, .bool b1, .str sg1 u3]) (.tail _ (.head _)) (.cons (.int _ _) (.cons (.bool _) (.cons (.str _ _) .nil)))) (.cons (.int _ _) .nil))
theorem fresh2 {news : Led} {D0 D1 : Addr} {o0 o1 : Obj} (l0 : ∀ p ∈ news, p.1 < D0) (l1 : D0 < D1 ∧ AllLt D1 news) : ∀ q ∈ [(D1, o1), (D0, o0)], ∀ p ∈ news, p.1 < q.1 := by
  intro q hq p hp
  rcases List.mem_cons.mp hq with rfl | hq
  · exact ltAll l1.2 p hp
  · rcases List.mem_cons.mp hq with rfl | hq
    · exact l0 p hp
    · cases hq
theorem fresh3 {news : Led} {D D0 D1 : Addr} {o o0 o1 : Obj} (l : ∀ p ∈ news, p.1 < D) (l0 : D < D0 ∧ AllLt D0 news) (l1 : D0 < D1 ∧ D < D1 ∧ AllLt D1 news) : ∀ q ∈ [(D1, o1), (D0, o0), (D, o)], ∀ p ∈ news, p.1 < q.1 := by
  intro q hq p hp
  rcases List.mem_cons.mp hq with rfl | hq
  · exact ltAll l1.2.2 p hp
  · rcases List.mem_cons.mp hq with rfl | hq
    · exact ltAll l0.2 p hp
    · rcases List.mem_cons.mp hq with rfl | hq
      · exact l p hp
      · cases hq
theorem one_is {x : Str} {k : Int} {c d : Nat} {t : String} (h : Txt.item x k = ⟨#[c]⟩) (ht : Str.ofString t = ⟨#[d]⟩) (e : c = d) : (Txt.item x k == Str.ofString t) = true := by rw [h, ht, e]; simp
theorem one_not {x : Str} {k : Int} {c d : Nat} {t : String} (h : Txt.item x k = ⟨#[c]⟩) (ht : Str.ofString t = ⟨#[d]⟩) (e : c ≠ d) : (Txt.item x k == Str.ofString t) = false := by rw [h, ht, one_beqZ]; simp [e]
theorem cut_is {x : Str} {pre post : List Nat} {k j : Int} {d : Nat} {t : String} (h : x.cps.toList = pre ++ post) (hk : k = (pre.length : Int)) (hj : j = k + 1) (ht : Str.ofString t = ⟨#[d]⟩) (hp : post.head? = some d) : (Txt.slice x (some k) (some j) == Str.ofString t) = true := by
  rw [slice_one (by omega) hj, h, ht, show k.toNat = pre.length by omega, List.drop_left]
  cases post with
  | nil => cases hp
  | cons e r => simp at hp; simp [hp]
theorem cut_not {x : Str} {pre post : List Nat} {k j : Int} {d : Nat} {t : String} (h : x.cps.toList = pre ++ post) (hk : k = (pre.length : Int)) (hj : j = k + 1) (ht : Str.ofString t = ⟨#[d]⟩) (hp : post.head? ≠ some d) : (Txt.slice x (some k) (some j) == Str.ofString t) = false := by
  rw [slice_one (by omega) hj, h, ht, show k.toNat = pre.length by omega, List.drop_left]
  cases post with
  | nil => simp
  | cons e r => simp at hp; simp [hp]
theorem o46 : Str.ofString "." = ⟨#[46]⟩ := by decide +kernel
theorem o91 : Str.ofString "[" = ⟨#[91]⟩ := by decide +kernel
theorem o92 : Str.ofString "\\" = ⟨#[92]⟩ := by decide +kernel
theorem o94 : Str.ofString "^" = ⟨#[94]⟩ := by decide +kernel
theorem o42 : Str.ofString "*" = ⟨#[42]⟩ := by decide +kernel
theorem o0 : Str.ofString "" = ⟨#[]⟩ := by decide +kernel
section
variable {prog : Program} {w : World} {A : Around} {E : Value → Shared → Prop} {s : Shared} {env : Env}
theorem ifx {test : PySem.Expr} {i j : Int} {k1 k2 : Nat} {p1 p2 p3 : Pos} {Q : Value → Shared → Prop}
    (h : wpAny (model prog w) A (isTrue test env (eval test env)) (fun b s₁ => Q (.int (if b then i else j) s₁.toks) { s₁ with toks := s₁.toks + 1 }) E s) :
    wpAny (model prog w) A (eval (.IfExp test (.Constant (.int i) k1 p1) (.Constant (.int j) k2 p2) p3) env) Q E s :=
  wpAny_IfExp (wpAny_mono h (fun b s₁ q => by cases b <;> exact wpAny_Constant_int q) fun _ _ x => x)
theorem eq_fact {x y : Str} {t u : Tok} {b : Bool} {Q : Value → Shared → Prop} (e : (x == y) = b) (h : Q (.bool b) s) : wpAny (model prog w) A (compareOp .Eq (.str x t) (.str y u)) Q E s := by
  subst e
  exact eq_str h
theorem iadd_fact {a b c : Int} {t u : Tok} {Q : Value → Shared → Prop} (e : a + b = c) (h : Q (.int c s.toks) { s with toks := s.toks + 1 }) : wpAny (model prog w) A (inplaceOp .Add (.int a t) (.int b u)) Q E s := by
  subst e
  exact iadd_int h
theorem add_fact {a b c : Int} {t u : Tok} {Q : Value → Shared → Prop} (e : a + b = c) (h : Q (.int c s.toks) { s with toks := s.toks + 1 }) : wpAny (model prog w) A (binaryOp .Add (.int a t) (.int b u)) Q E s := by
  subst e
  exact add_int h
theorem and_merge {sh car bar : Bool} {e1 : PySem.Expr} {pos : Pos} {Q : Value → Shared → Prop} (e : (sh && car) = bar) (hQ : ∀ t, Q (.bool bar) { s with toks := t })
    (h : sh = true → wpAny (model prog w) A (eval (.BoolOp .And [e1] pos) env) (fun v s' => v = .bool car ∧ ∃ t, s' = { s with toks := t }) (fun _ _ => False) s) :
    if sh = true then wpAny (model prog w) A (eval (.BoolOp .And [e1] pos) env) Q E s else Q (.bool sh) s := by
  subst e
  cases sh with
  | false => exact hQ s.toks
  | true =>
    refine (if_pos rfl).mpr (wpAny_mono (h rfl) ?_ (fun _ _ x => x.elim))
    rintro v s' ⟨rfl, t, rfl⟩
    exact hQ t
theorem or_merge {T : Prop} {sh car bar : Bool} {e1 : PySem.Expr} {pos : Pos} {whole : Sem Value} {Q : Bool → Shared → Prop} (hT : Q true s → T) (e : (sh || car) = bar) (hQ : ∀ t, Q bar { s with toks := t })
    (h : sh = false → wpAny (model prog w) A (isTrue (.BoolOp .Or [e1] pos) env whole) (fun v s' => v = car ∧ ∃ t, s' = { s with toks := t }) (fun _ _ => False) s) :
    if sh = true then T else wpAny (model prog w) A (isTrue (.BoolOp .Or [e1] pos) env whole) Q E s := by
  subst e
  cases sh with
  | true => exact hT (hQ s.toks)
  | false =>
    refine (if_neg (by decide)).mpr (wpAny_mono (h rfl) ?_ (fun _ _ x => x.elim))
    rintro v s' ⟨rfl, t, rfl⟩
    exact hQ t
end
section
local macro_rules | `(tactic| walk_at "eval IfExp") => `(tactic| (k_here; refine ifx ?_))
local macro_rules | `(tactic| walk_at "compareOp Eq str str") => `(tactic| (k_here; refine eq_fact (by assumption) ?_))
local macro_rules | `(tactic| walk_at "inplaceOp Add int int") => `(tactic| (k_here; refine iadd_fact (by assumption) ?_))
local macro_rules | `(tactic| walk_at "binaryOp Add int int") => `(tactic| (k_here; refine add_fact (by assumption) ?_))
local macro_rules | `(tactic| walk_at "ite") => `(tactic| (first | (refine and_merge (by assumption) (fun t9 => ?_) (fun hsh => ?_)) | (refine or_merge (fun x => x) (by assumption) (fun t9 => ?_) (fun hsh => ?_))))
local macro_rules | `(tactic| walk_at "And") => `(tactic| exact ⟨rfl, _, rfl⟩)
theorem step_gen {w : World} {body sg : Str} {t1 t2 : Tok} {k k1 k2 k3 : Int} {sh car bar esc b2 : Bool} {news : Led} (hlen : body.length ≤ 1000)
    (a0 : (Txt.item body k == Str.ofString ".") = false) (a1 : (Txt.item body k == Str.ofString "[") = sh) (hk1 : k + (if sh then (1 : Int) else 0) = k1)
    (a2 : (Txt.item body k1 == Str.ofString "^") = car) (hbar : (sh && car) = bar) (a3 : (Txt.item body k1 == Str.ofString "\\") = esc) (hb2 : (bar || esc) = b2)
    (hk2 : k1 + (if b2 then (1 : Int) else 0) = k2) (eS : Txt.item body k2 = sg) (hk3 : k2 + (if sh then (2 : Int) else 1) = k3)
    (a4 : (Txt.slice body (some k3) (some (k3 + 1)) == Str.ofString "*") = false) (hk4 : k3 + (if false then (1 : Int) else 0) = k3)
    (r0 : 0 ≤ k) (r0' : k < body.length) (r1 : 0 ≤ k1) (r1' : k1 < body.length) (r2 : 0 ≤ k2) (r2' : k2 < body.length) (r3 : 0 ≤ k3) (r3' : k3 ≤ body.length) :
    Con w 172 [.str body t1, .int k t2] 1 8 news (StepRes k3 (if false then 1 else 0) bar sg) := by
  delta Con P0
  k_fill
  intro p loose mean mg mb dp un gd cn cs a ccd cl outer A₀ base h₀ L m s Q E B F X N T hkd hroom hun hret
  refine wpAny_call ?_
  k_dflt ktr_enter
  refine fold_AE ?_
  intro A9 e9
  k_steps
  all_goals first
    | exact Eq.symm (by assumption)
    | exact step_fin (more := []) hret (by assumption) (by assumption) (fresh2 (by assumption) (by assumption)) rfl rfl eS
end
theorem step_plain {w : World} {body : Str} {t1 t2 : Tok} {k : Int} {pre post : List Nat} {c : Nat} {news : Led} (h : body.cps.toList = pre ++ c :: post) (hk : k = (pre.length : Int)) (h46 : c ≠ 46) (h91 : c ≠ 91) (h92 : c ≠ 92) (hp : post.head? ≠ some 42) (hlen : body.length ≤ 1000) :
    Con w 172 [.str body t1, .int k t2] 1 8 news (StepRes (k + 1) 0 false ⟨#[c]⟩) := by
  have h0 : body.cps.toList = (pre) ++ c :: post := by first | exact h | (rw [h]; simp)
  have hz : body.cps.toList = (pre ++ [c]) ++ post := by first | exact h | (rw [h]; simp)
  have hl : body.cps.size = pre.length + (1 + post.length) := by rw [← Array.length_toList, h]; simp only [List.length_append, List.length_cons, List.length_nil]; omega
  have hl2 : (body.length : Int) = k + 1 + post.length := by show (body.cps.size : Int) = _; omega
  have hk0 : 0 ≤ k := by omega
  have r1 : (body.length : Int) ≤ 1000 := by omega
  exact step_gen (k1 := k) (k2 := k) (k3 := k + 1) (sh := false) (car := (Txt.item body k == Str.ofString "^")) (bar := false) (esc := false) (b2 := false) hlen (one_not (item_pre h0 (by first | omega | (simp only [List.length_append, List.length_cons, List.length_nil]; omega))) o46 h46) (one_not (item_pre h0 (by first | omega | (simp only [List.length_append, List.length_cons, List.length_nil]; omega))) o91 h91) (show k + (0 : Int) = k by omega) (rfl) rfl (one_not (item_pre h0 (by first | omega | (simp only [List.length_append, List.length_cons, List.length_nil]; omega))) o92 h92) rfl
    (show k + (0 : Int) = k by omega) (item_pre h0 (by first | omega | (simp only [List.length_append, List.length_cons, List.length_nil]; omega))) (show k + (1 : Int) = k + 1 by omega) (cut_not hz (by first | omega | (simp only [List.length_append, List.length_cons, List.length_nil]; omega)) rfl o42 hp) (show k + 1 + (0 : Int) = k + 1 by omega)
    (by omega) (by omega) (by omega) (by omega) (by omega) (by omega) (by omega) (by omega)
theorem step_esc {w : World} {body : Str} {t1 t2 : Tok} {k : Int} {pre post : List Nat} {c : Nat} {news : Led} (h : body.cps.toList = pre ++ 92 :: c :: post) (hk : k = (pre.length : Int)) (hp : post.head? ≠ some 42) (hlen : body.length ≤ 1000) :
    Con w 172 [.str body t1, .int k t2] 1 8 news (StepRes (k + 2) 0 false ⟨#[c]⟩) := by
  have h0 : body.cps.toList = (pre) ++ 92 :: c :: post := by first | exact h | (rw [h]; simp)
  have h1 : body.cps.toList = (pre ++ [92]) ++ c :: post := by first | exact h | (rw [h]; simp)
  have hz : body.cps.toList = (pre ++ [92, c]) ++ post := by first | exact h | (rw [h]; simp)
  have hl : body.cps.size = pre.length + (2 + post.length) := by rw [← Array.length_toList, h]; simp only [List.length_append, List.length_cons, List.length_nil]; omega
  have hl2 : (body.length : Int) = k + 2 + post.length := by show (body.cps.size : Int) = _; omega
  have hk0 : 0 ≤ k := by omega
  have r1 : (body.length : Int) ≤ 1000 := by omega
  exact step_gen (k1 := k) (k2 := k + 1) (k3 := k + 2) (sh := false) (car := (Txt.item body k == Str.ofString "^")) (bar := false) (esc := true) (b2 := true) hlen (one_not (item_pre h0 (by first | omega | (simp only [List.length_append, List.length_cons, List.length_nil]; omega))) o46 (by decide)) (one_not (item_pre h0 (by first | omega | (simp only [List.length_append, List.length_cons, List.length_nil]; omega))) o91 (by decide)) (show k + (0 : Int) = k by omega) (rfl) rfl (one_is (item_pre h0 (by first | omega | (simp only [List.length_append, List.length_cons, List.length_nil]; omega))) o92 rfl) rfl
    (show k + (1 : Int) = k + 1 by omega) (item_pre h1 (by first | omega | (simp only [List.length_append, List.length_cons, List.length_nil]; omega))) (show k + 1 + (1 : Int) = k + 2 by omega) (cut_not hz (by first | omega | (simp only [List.length_append, List.length_cons, List.length_nil]; omega)) rfl o42 hp) (show k + 2 + (0 : Int) = k + 2 by omega)
    (by omega) (by omega) (by omega) (by omega) (by omega) (by omega) (by omega) (by omega)
theorem step_br {w : World} {body : Str} {t1 t2 : Tok} {k : Int} {pre post : List Nat} {c : Nat} {news : Led} (h : body.cps.toList = pre ++ 91 :: c :: 93 :: post) (hk : k = (pre.length : Int)) (h94 : c ≠ 94) (h92 : c ≠ 92) (hp : post.head? ≠ some 42) (hlen : body.length ≤ 1000) :
    Con w 172 [.str body t1, .int k t2] 1 8 news (StepRes (k + 3) 0 false ⟨#[c]⟩) := by
  have h0 : body.cps.toList = (pre) ++ 91 :: c :: 93 :: post := by first | exact h | (rw [h]; simp)
  have h1 : body.cps.toList = (pre ++ [91]) ++ c :: 93 :: post := by first | exact h | (rw [h]; simp)
  have h2 : body.cps.toList = (pre ++ [91, c]) ++ 93 :: post := by first | exact h | (rw [h]; simp)
  have hz : body.cps.toList = (pre ++ [91, c, 93]) ++ post := by first | exact h | (rw [h]; simp)
  have hl : body.cps.size = pre.length + (3 + post.length) := by rw [← Array.length_toList, h]; simp only [List.length_append, List.length_cons, List.length_nil]; omega
  have hl2 : (body.length : Int) = k + 3 + post.length := by show (body.cps.size : Int) = _; omega
  have hk0 : 0 ≤ k := by omega
  have r1 : (body.length : Int) ≤ 1000 := by omega
  exact step_gen (k1 := k + 1) (k2 := k + 1) (k3 := k + 3) (sh := true) (car := false) (bar := false) (esc := false) (b2 := false) hlen (one_not (item_pre h0 (by first | omega | (simp only [List.length_append, List.length_cons, List.length_nil]; omega))) o46 (by decide)) (one_is (item_pre h0 (by first | omega | (simp only [List.length_append, List.length_cons, List.length_nil]; omega))) o91 rfl) (show k + (1 : Int) = k + 1 by omega) (one_not (item_pre h1 (by first | omega | (simp only [List.length_append, List.length_cons, List.length_nil]; omega))) o94 h94) rfl (one_not (item_pre h1 (by first | omega | (simp only [List.length_append, List.length_cons, List.length_nil]; omega))) o92 h92) rfl
    (show k + 1 + (0 : Int) = k + 1 by omega) (item_pre h1 (by first | omega | (simp only [List.length_append, List.length_cons, List.length_nil]; omega))) (show k + 1 + (2 : Int) = k + 3 by omega) (cut_not hz (by first | omega | (simp only [List.length_append, List.length_cons, List.length_nil]; omega)) rfl o42 hp) (show k + 3 + (0 : Int) = k + 3 by omega)
    (by omega) (by omega) (by omega) (by omega) (by omega) (by omega) (by omega) (by omega)
theorem step_bre {w : World} {body : Str} {t1 t2 : Tok} {k : Int} {pre post : List Nat} {c : Nat} {news : Led} (h : body.cps.toList = pre ++ 91 :: 92 :: c :: 93 :: post) (hk : k = (pre.length : Int)) (hp : post.head? ≠ some 42) (hlen : body.length ≤ 1000) :
    Con w 172 [.str body t1, .int k t2] 1 8 news (StepRes (k + 4) 0 false ⟨#[c]⟩) := by
  have h0 : body.cps.toList = (pre) ++ 91 :: 92 :: c :: 93 :: post := by first | exact h | (rw [h]; simp)
  have h1 : body.cps.toList = (pre ++ [91]) ++ 92 :: c :: 93 :: post := by first | exact h | (rw [h]; simp)
  have h2 : body.cps.toList = (pre ++ [91, 92]) ++ c :: 93 :: post := by first | exact h | (rw [h]; simp)
  have h3 : body.cps.toList = (pre ++ [91, 92, c]) ++ 93 :: post := by first | exact h | (rw [h]; simp)
  have hz : body.cps.toList = (pre ++ [91, 92, c, 93]) ++ post := by first | exact h | (rw [h]; simp)
  have hl : body.cps.size = pre.length + (4 + post.length) := by rw [← Array.length_toList, h]; simp only [List.length_append, List.length_cons, List.length_nil]; omega
  have hl2 : (body.length : Int) = k + 4 + post.length := by show (body.cps.size : Int) = _; omega
  have hk0 : 0 ≤ k := by omega
  have r1 : (body.length : Int) ≤ 1000 := by omega
  exact step_gen (k1 := k + 1) (k2 := k + 2) (k3 := k + 4) (sh := true) (car := false) (bar := false) (esc := true) (b2 := true) hlen (one_not (item_pre h0 (by first | omega | (simp only [List.length_append, List.length_cons, List.length_nil]; omega))) o46 (by decide)) (one_is (item_pre h0 (by first | omega | (simp only [List.length_append, List.length_cons, List.length_nil]; omega))) o91 rfl) (show k + (1 : Int) = k + 1 by omega) (one_not (item_pre h1 (by first | omega | (simp only [List.length_append, List.length_cons, List.length_nil]; omega))) o94 (by decide)) rfl (one_is (item_pre h1 (by first | omega | (simp only [List.length_append, List.length_cons, List.length_nil]; omega))) o92 rfl) rfl
    (show k + 1 + (1 : Int) = k + 2 by omega) (item_pre h2 (by first | omega | (simp only [List.length_append, List.length_cons, List.length_nil]; omega))) (show k + 2 + (2 : Int) = k + 4 by omega) (cut_not hz (by first | omega | (simp only [List.length_append, List.length_cons, List.length_nil]; omega)) rfl o42 hp) (show k + 4 + (0 : Int) = k + 4 by omega)
    (by omega) (by omega) (by omega) (by omega) (by omega) (by omega) (by omega) (by omega)
theorem step_brn {w : World} {body : Str} {t1 t2 : Tok} {k : Int} {pre post : List Nat} {c : Nat} {news : Led} (h : body.cps.toList = pre ++ 91 :: 94 :: c :: 93 :: post) (hk : k = (pre.length : Int)) (hp : post.head? ≠ some 42) (hlen : body.length ≤ 1000) :
    Con w 172 [.str body t1, .int k t2] 1 8 news (StepRes (k + 4) 0 true ⟨#[c]⟩) := by
  have h0 : body.cps.toList = (pre) ++ 91 :: 94 :: c :: 93 :: post := by first | exact h | (rw [h]; simp)
  have h1 : body.cps.toList = (pre ++ [91]) ++ 94 :: c :: 93 :: post := by first | exact h | (rw [h]; simp)
  have h2 : body.cps.toList = (pre ++ [91, 94]) ++ c :: 93 :: post := by first | exact h | (rw [h]; simp)
  have h3 : body.cps.toList = (pre ++ [91, 94, c]) ++ 93 :: post := by first | exact h | (rw [h]; simp)
  have hz : body.cps.toList = (pre ++ [91, 94, c, 93]) ++ post := by first | exact h | (rw [h]; simp)
  have hl : body.cps.size = pre.length + (4 + post.length) := by rw [← Array.length_toList, h]; simp only [List.length_append, List.length_cons, List.length_nil]; omega
  have hl2 : (body.length : Int) = k + 4 + post.length := by show (body.cps.size : Int) = _; omega
  have hk0 : 0 ≤ k := by omega
  have r1 : (body.length : Int) ≤ 1000 := by omega
  exact step_gen (k1 := k + 1) (k2 := k + 2) (k3 := k + 4) (sh := true) (car := true) (bar := true) (esc := (Txt.item body (k + 1) == Str.ofString "\\")) (b2 := true) hlen (one_not (item_pre h0 (by first | omega | (simp only [List.length_append, List.length_cons, List.length_nil]; omega))) o46 (by decide)) (one_is (item_pre h0 (by first | omega | (simp only [List.length_append, List.length_cons, List.length_nil]; omega))) o91 rfl) (show k + (1 : Int) = k + 1 by omega) (one_is (item_pre h1 (by first | omega | (simp only [List.length_append, List.length_cons, List.length_nil]; omega))) o94 rfl) rfl (rfl) rfl
    (show k + 1 + (1 : Int) = k + 2 by omega) (item_pre h2 (by first | omega | (simp only [List.length_append, List.length_cons, List.length_nil]; omega))) (show k + 2 + (2 : Int) = k + 4 by omega) (cut_not hz (by first | omega | (simp only [List.length_append, List.length_cons, List.length_nil]; omega)) rfl o42 hp) (show k + 4 + (0 : Int) = k + 4 by omega)
    (by omega) (by omega) (by omega) (by omega) (by omega) (by omega) (by omega) (by omega)
theorem step_dot {w : World} {body : Str} {t1 t2 : Tok} {k : Int} {pre post : List Nat} {news : Led} (h : body.cps.toList = pre ++ 46 :: 42 :: post) (hk : k = (pre.length : Int)) (hlen : body.length ≤ 1000) :
    Con w 172 [.str body t1, .int k t2] 1 8 news (StepRes (k + 2) 1 true ⟨#[]⟩) := by
  delta Con P0
  k_fill
  intro p loose mean mg mb dp un gd cn cs a ccd cl outer A₀ base h₀ L m s Q E B F X N T hkd hroom hun hret
  have h0 : body.cps.toList = (pre) ++ 46 :: 42 :: post := by first | exact h | (rw [h]; simp)
  have h1 : body.cps.toList = (pre ++ [46]) ++ 42 :: post := by first | exact h | (rw [h]; simp)
  have hz : body.cps.toList = (pre ++ [46, 42]) ++ post := by first | exact h | (rw [h]; simp)
  have hl : body.cps.size = pre.length + (2 + post.length) := by rw [← Array.length_toList, h]; simp only [List.length_append, List.length_cons, List.length_nil]; omega
  have hl2 : (body.length : Int) = k + 2 + post.length := by show (body.cps.size : Int) = _; omega
  have hk0 : 0 ≤ k := by omega
  have a0 : (Txt.item body (k) == Str.ofString ".") = true := one_is (item_pre h0 (by first | omega | (simp only [List.length_append, List.length_cons, List.length_nil]; omega))) o46 rfl
  have a1 : (Txt.slice body (some (k + 1)) (some (k + 1 + 1)) == Str.ofString "*") = true := cut_is h1 (by first | omega | (simp only [List.length_append, List.length_cons, List.length_nil]; omega)) rfl o42 rfl
  have eS : Str.ofString "" = ⟨#[]⟩ := o0
  clear h hl hz h0 h1
  refine wpAny_call ?_
  k_dflt ktr_enter
  refine fold_AE ?_
  intro A9 e9
  k_steps
  exact step_fin (more := [(_, _)]) hret (by assumption) (by assumption) (fresh3 (by assumption) (by assumption) (by assumption)) (by omega) (by rfl) eS
end Mine
end

section -- MTrans
open PySem PySem.W PyProof.Rows PySem.Calls PySem.Builtin
set_option Elab.async false
set_option maxRecDepth 100000
set_option maxHeartbeats 400000
namespace Mine
theorem forIn_one {M : Model} {A : Around} {E : Value → Shared → Prop} {s : Shared} {α β : Type} {f : α → β → Sem (ForInStep β)} {c : α} {b : β} {Q : β → Shared → Prop}
    (h : wpAny M A (f c b) (fun r s' => match r with | .done x => Q x s' | .yield x => Q x s') E s) : wpAny M A (forIn #[c] b f) Q E s := by
  have e : forIn #[c] b f = (f c b >>= fun r => match r with | .done x => pure x | .yield x => pure x) := by
    rw [List.forIn_toArray, List.forIn_cons]; rfl
  rw [e]
  refine wpAny_bind (wpAny_mono h (fun r s' q => ?_) fun _ _ x => x)
  cases r <;> exact wpAny_pure q
theorem key_big {v : Value} {c : Nat} (hc : 256 ≤ c) (h : (match v with | .int n _ => decide (n < 256) | _ => false) = true) : Value.isInt (c : Int) v = false := by
  cases v with
  | int n t =>
    have h2 : n < 256 := of_decide_eq_true h
    have h3 : ¬ n = (c : Int) := by omega
    exact decide_eq_false h3
  | _ => cases h
theorem none_big {es : Array DictEntry} {c : Nat} (h : es.toList.all (fun e => match e.key with | .int n _ => decide (n < 256) | _ => false) = true) (hc : 256 ≤ c) : findBy Value.isInt es (c : Int) = none := by
  unfold findBy
  rw [Option.map_eq_none_iff, ← Array.find?_toList, List.find?_eq_none]
  intro e he q
  rw [key_big hc (List.all_eq_true.mp h e he)] at q
  cases q
theorem map_tab : ∀ {w : World} {h : Heap} (_X : (Mine.heapK w.params).In h), ∃ f, h.MapOf (intKind (Challenge.rw_ij0104_01.row.toRowW.prog) w) 141 f ∧ (∀ c : Nat, (256 ≤ c ∨ c = 47 ∨ c = 97 ∨ c = 98 ∨ c = 33) → f (c : Int) = none) ∧ ∃ t, f (93 : Nat) = some (.str ⟨#[92, 93]⟩ t) := by
  k_fill
  intro w h X
  have e := X 141 _ (by k_is)
  refine ⟨_, ⟨_, _, _, e, ⟨rfl, rfl, rfl⟩, rfl, ?_, fun k => rfl⟩, ?_, ?_⟩
  · intro e he
    simp only [Array.mem_def, List.mem_cons, List.not_mem_nil, or_false] at he
    rcases he with rfl | rfl | rfl | rfl | rfl | rfl | rfl | rfl | rfl | rfl | rfl | rfl | rfl | rfl | rfl | rfl | rfl | rfl | rfl | rfl | rfl | rfl | rfl | rfl <;> exact ⟨_, intKind_is _ _ _ _, by first | rfl | decide⟩
  · intro c hc
    rcases hc with hc | rfl | rfl | rfl | rfl
    · exact none_big rfl hc
    · rfl
    · rfl
    · rfl
    · rfl
  · exact ⟨_, by rw [show (⟨#[92, 93]⟩ : PySem.Str) = Str.ofString "\\]" from by decide +kernel]; rfl⟩
/-- a sign that the pattern writes bare -/
noncomputable def Bare (c : Nat) : Prop := c = 47 ∨ c = 97 ∨ c = 98 ∨ c = 33 ∨ c = 93 ∨ (256 ≤ c ∧ c ≤ 50255)
noncomputable def escS (c : Nat) : List Nat := if c = 93 then [92, 93] else [c]
theorem bare_not {c : Nat} (h : Bare c) (h9 : ¬ c = 93) : 256 ≤ c ∨ c = 47 ∨ c = 97 ∨ c = 98 ∨ c = 33 := by
  rcases h with h | h | h | h | h | h
  · exact .inr (.inl h)
  · exact .inr (.inr (.inl h))
  · exact .inr (.inr (.inr (.inl h)))
  · exact .inr (.inr (.inr (.inr h)))
  · exact absurd h h9
  · exact .inl h.1
theorem look_miss {w : World} {A : Around} {s : Shared} {Q : Str.Mapped → Shared → Prop} {E : Value → Shared → Prop} {c : Nat} {a : Addr} {f : Int → Option Value} (hm : s.heap.MapOf (intKind P0 w) a f) (hv : f (c : Int) = none) (ha : (a == sysModules) = false) (hh : A.handled = none)
    (h : ∀ h' tk', (∀ b o, s.heap.get? b = some o → h'.get? b = some o) → Q .keep { s with heap := h', toks := tk' }) : wpAny (model P0 w) A (Str.tableLookup (.ref a) c) Q E s := by
  unfold Str.tableLookup
  refine wpAny_bind (wpAny_attempt (wpAny_bind (wpAny_mkInt (wpAny_getItem_missing_of (intKind_is _ _ _ _) ha hh hm hv fun h' e he => ?_))))
  obtain ⟨o, ho, hcl⟩ : ∃ o, h'.get? e = some o ∧ o.cls = .type "KeyError" := by obtain ⟨ob, _, h1, h2, _⟩ := he.there; exact ⟨ob, h1, h2⟩
  refine wpAny_bind (wpAny_isInstance (T := "KeyError") (b := true) ⟨o, ho, hcl⟩ (by rw [isSubtype_type]; kernel_rfl) ?_)
  simp only [if_true]
  exact wpAny_bind (wpAny_rule (wpAny_pure (h _ _ he.keeps)))
theorem look_text {w : World} {A : Around} {s : Shared} {Q : Str.Mapped → Shared → Prop} {E : Value → Shared → Prop} {c : Nat} {a : Addr} {f : Int → Option Value} {u : PySem.Str} {tu : Tok} (hm : s.heap.MapOf (intKind P0 w) a f) (hv : f (c : Int) = some (.str u tu))
    (h : ∀ tk', Q (.text u) { s with toks := tk' }) : wpAny (model P0 w) A (Str.tableLookup (.ref a) c) Q E s := by
  unfold Str.tableLookup
  refine wpAny_bind (wpAny_attempt (wpAny_bind (wpAny_mkInt (wpAny_getItem_of (intKind_is _ _ _ _) hm hv ?_))))
  exact wpAny_bind (wpAny_of_eq (a := none) (by rfl) (wpAny_bind (wpAny_of_eq (a := some u) (by rfl) (wpAny_pure (h _)))))
theorem ret_str {w : World} {A : Around} {s : Shared} {Q E : Value → Shared → Prop} {x : PySem.Str} (hx : x.length ≤ 1000) (h : ∀ u tk', Q (.str x u) { s with toks := tk' }) : wpAny (model P0 w) A (retStr x) (fun fin s' => ∃ v, fin = .done (.ret v) ∧ Q v s') E s :=
  wpAny_bind (wpAny_mkStr (wpAny_pure ⟨_, rfl, h _ _⟩) (by rw [sizeLine_eq]; omega))
theorem tr_sign {w : World} {A : Around} {s : Shared} {Q E : Value → Shared → Prop} {c : Nat} {t : Tok} (X : (Mine.heapK w.params).In s.heap) (hc : Bare c) (hh : A.handled = none)
    (h : ∀ h' tk' u, (∀ b o, s.heap.get? b = some o → h'.get? b = some o) → Q (.str ⟨(escS c).toArray⟩ u) { s with heap := h', toks := tk' }) :
    wpAny (model P0 w) A (call (.builtin "str.translate") [.str ⟨#[c]⟩ t, .ref 141]) Q E s := by
  obtain ⟨f, hm, hf, tu, h93⟩ := map_tab X
  have hsm : ((141 : Nat) == sysModules) = false := by decide
  refine wpAny_call_entry F.slot_str_translate (typeIs_str _ _ _) F.entry_str_translate ?_ (F.args_str_translate_2 _ _)
  have hs : Str.strOneArg "translate" ⟨[.str ⟨#[c]⟩ t, .ref 141], []⟩ = pure (.str ⟨#[c]⟩ t, ⟨#[c]⟩, .ref 141) := by first | rfl | with_unfolding_all rfl
  have h2 : (⟨#[c]⟩ : PySem.Str).cps.all (fun x => decide (x < 128)) = decide (c < 128) := by simp
  delta Builtin.«str.translate»
  refine wpAny_bind (wpAny_of_eq hs ?_)
  refine wpAny_ite_false rfl ?_
  refine wpAny_bind ?_
  rw [h2]
  refine forIn_one ?_
  refine wpAny_ite_false rfl ?_
  by_cases hl : c < 128
  · have hd1 : decide (decide (c < 128) = true) = true := by rw [decide_eq_true hl]; rfl
    refine wpAny_ite_true hd1 ?_
    refine wpAny_bind ?_
    by_cases h9 : c = 93
    · subst h9
      refine look_text hm h93 fun tk' => ?_
      refine wpAny_bind (wpAny_pure ?_)
      refine wpAny_bind (wpAny_rule ?_)
      refine wpAny_ite_false rfl ?_
      refine wpAny_bind (m := Str.tableLookup (.ref 141) 93) (look_text hm h93 fun tk' => ?_)
      refine wpAny_pure ?_
      refine wpAny_ite_false rfl ?_
      exact ret_str (by show 2 ≤ 1000; omega) fun u tk'' => h _ _ _ fun b o e => e
    · have e : escS c = [c] := if_neg h9
      rw [e] at h
      refine look_miss hm (hf c (bare_not hc h9)) hsm (by exact hh) fun h' tk' hk' => ?_
      refine wpAny_bind (wpAny_pure ?_)
      refine wpAny_pure ?_
      refine wpAny_ite_false rfl ?_
      exact ret_str (by show 1 ≤ 1000; omega) fun u tk'' => h _ _ _ hk'
  · have hd1 : decide (decide (c < 128) = true) = false := by rw [decide_eq_false hl]; rfl
    refine wpAny_ite_false hd1 ?_
    refine wpAny_ite_false rfl ?_
    have h9 : ¬ c = 93 := by omega
    have e : escS c = [c] := if_neg h9
    rw [e] at h
    refine wpAny_bind (m := Str.tableLookup (.ref 141) c) (look_miss hm (hf c (bare_not hc h9)) hsm (by exact hh) fun h' tk' hk' => ?_)
    refine wpAny_pure ?_
    refine wpAny_ite_false rfl ?_
    exact ret_str (by show 1 ≤ 1000; omega) fun u tk'' => h _ _ _ hk'
end Mine
end

section -- MEsc
open PySem PySem.W PyProof.Rows PySem.Calls
set_option Elab.async false
set_option maxRecDepth 100000
set_option maxHeartbeats 8000000
namespace Mine
theorem flush_MEsc : True := by w_top off; first | walk1 | trivial
theorem fr_grown {h₀ h h' : Heap} {L : Addr} {m : Str → Option Value} (F : Fr h₀ L h m) (hk : ∀ b o, h.get? b = some o → h'.get? b = some o) : Fr h₀ L h' m :=
  ⟨F.ns.at' fun o e => hk _ o e, fun b o e => hk b o (F.keep b o e), F.above⟩
theorem gm_translate {M : Model} {A : Around} {E : Value → Shared → Prop} {s : Shared} {x : Str} {t : Tok} {pl : Sem Bool} {Q : Value × List Value → Shared → Prop} (h : Q (.builtin "str.translate", [.str x t]) s) : wpAny M A (getMethod (.str x t) "translate" pl) Q E s := by
  with_reducible exact GM.of (.str x t) (typeIs_str _ _ _) F.slot_str_translate F.type_str_translate GM.noRef h
theorem translate_K {w : World} {A : Around} {s : Shared} {Q E : Value → Shared → Prop} {c : Nat} {t : Tok} {h₀ : Heap} {L : Addr} {m : Str → Option Value} {news : Led} (F : Fr h₀ L s.heap m) (N : News h₀ L s.heap news) (X : (Mine.heapK w.params).In h₀) (hc : Bare c) (hh : A.handled = none)
    (h : ∀ h' tk' u, Fr h₀ L h' m → News h₀ L h' news → Q (.str ⟨(escS c).toArray⟩ u) { s with heap := h', toks := tk' }) :
    wpAny (model P0 w) A (call (.builtin "str.translate") [.str ⟨#[c]⟩ t, .ref 141]) Q E s :=
  tr_sign (X.keeps F.keep) hc hh fun h' tk' u hk => h h' tk' u (fr_grown F hk) (N.grown hk)
local macro_rules | `(tactic| walk_at "getMethod str") => `(tactic| (k_here; with_reducible refine gm_translate ?_))
local macro_rules | `(tactic| walk_at "call builtin:str.translate") => `(tactic| ((fail_if_success (with_reducible rename Mark9 => mz)); refine sb_out ?_))
theorem esc_ok {w : World} {t1 : Tok} {c : Nat} {news : Led} (hc : Bare c) : Con w 151 [.str ⟨#[c]⟩ t1] 1 20 news (fun r _ => ∃ t, r = .str ⟨(escS c).toArray⟩ t) := by
  delta Con P0
  k_fill
  intro p loose mean mg mb dp un gd cn cs a ccd cl outer A₀ base h₀ L m s Q E B F X N T hkd hroom hun hret
  refine wpAny_call ?_
  k_dflt ktr_enter
  refine fold_AE ?_
  intro A9 e9
  (repeat' (first | ((with_reducible refine sb_in ?_); (first | (k_here; k_dflt (refine translate_K (by k_asm) (by k_asm) (by k_asm) (by assumption) (by rfl) ?_; k_whole); intro h' tk' u' F' N'; (try k_sweep)) | ((have mk9 : Mark9 := .mk); walk1; all_goals (try clear mk9)))) | (k_unfold; (try dsimp only)) | (k_end; kc_close) | walk1 | (dsimp only; walk1) | (leave1; walk_say "STEP leave1"; (try dsimp only)) | fail "no step"))
  exact hret _ [] _ _ (by assumption) (by assumption) (fun _ h => nomatch h) ⟨_, rfl⟩
end Mine
end

section -- MSub
open PySem PySem.W PyProof.Rows PySem.Calls PySem.W.X
set_option Elab.async false
set_option maxRecDepth 100000
set_option maxHeartbeats 8000000
namespace Mine
noncomputable def XEnd (s : Shared) (Q : Value → Shared → Prop) (R : Value → Prop) : Prop := ∀ r h' tk', (∀ b o, s.heap.get? b = some o → h'.get? b = some o) → R r → Q r { s with heap := h', toks := tk' }
theorem xkeep {h₀ h : Heap} {news : Led} (D : Mem h₀ h [] news) : ∀ b o, h₀.get? b = some o → h.get? b = some o := fun b o e => D.keep b o e (by rw [Bool.or_eq_true]; exact .inr rfl)
local macro_rules | `(tactic| x_close) => `(tactic| ((rename XEnd _ _ _ => hz); refine hz _ _ _ (xkeep (by assumption)) ⟨_, rfl⟩))
theorem sub_star : ∀ {w : World} {dp un : Nat} {gd : Option (List Code)} {cn : Str} {cs : Scope} {L a : Addr} {ccd : Value} {cl : List (Str × Addr)} {outer : List Env} {s : Shared} {Q E : Value → Shared → Prop} {t : Tok} {lam : Addr} {fd : FuncData} (_X : (Mine.heapK w.params).In s.heap) (_hl : s.heap.get? lam = some ⟨.type "function", none, .func fd, #[]⟩) (_hroom : dp < recursionLimit) (_hun : un + 20 < cLine)
  (_h : XEnd s Q (fun r => ∃ u, r = .str (Str.ofString "*") u)),
    wpAny (model (Challenge.rw_ij0104_01.row.toRowW.prog) w) (ktrTop dp un gd cn cs L a ccd cl outer) (call (.builtin "re.Pattern.sub") [.ref 132, .ref lam, .str (Str.ofString "*") t]) Q E s := by
  k_fill
  intros
  x_run
theorem sub_quest : ∀ {w : World} {dp un : Nat} {gd : Option (List Code)} {cn : Str} {cs : Scope} {L a : Addr} {ccd : Value} {cl : List (Str × Addr)} {outer : List Env} {s : Shared} {Q E : Value → Shared → Prop} {t : Tok} {lam : Addr} {fd : FuncData} (_X : (Mine.heapK w.params).In s.heap) (_hl : s.heap.get? lam = some ⟨.type "function", none, .func fd, #[]⟩) (_hroom : dp < recursionLimit) (_hun : un + 20 < cLine)
  (_h : XEnd s Q (fun r => ∃ u, r = .str (Str.ofString "?") u)),
    wpAny (model (Challenge.rw_ij0104_01.row.toRowW.prog) w) (ktrTop dp un gd cn cs L a ccd cl outer) (call (.builtin "re.Pattern.sub") [.ref 132, .ref lam, .str (Str.ofString "?") t]) Q E s := by
  k_fill
  intros
  x_run
theorem sub_open : ∀ {w : World} {dp un : Nat} {gd : Option (List Code)} {cn : Str} {cs : Scope} {L a : Addr} {ccd : Value} {cl : List (Str × Addr)} {outer : List Env} {s : Shared} {Q E : Value → Shared → Prop} {t : Tok} {lam : Addr} {fd : FuncData} (_X : (Mine.heapK w.params).In s.heap) (_hl : s.heap.get? lam = some ⟨.type "function", none, .func fd, #[]⟩) (_hroom : dp < recursionLimit) (_hun : un + 20 < cLine)
  (_h : XEnd s Q (fun r => ∃ u, r = .str (Str.ofString "[") u)),
    wpAny (model (Challenge.rw_ij0104_01.row.toRowW.prog) w) (ktrTop dp un gd cn cs L a ccd cl outer) (call (.builtin "re.Pattern.sub") [.ref 132, .ref lam, .str (Str.ofString "[") t]) Q E s := by
  k_fill
  intros
  x_run
theorem sub_nslash : ∀ {w : World} {dp un : Nat} {gd : Option (List Code)} {cn : Str} {cs : Scope} {L a : Addr} {ccd : Value} {cl : List (Str × Addr)} {outer : List Env} {s : Shared} {Q E : Value → Shared → Prop} {t : Tok} {lam : Addr} {fd : FuncData} (_X : (Mine.heapK w.params).In s.heap) (_hl : s.heap.get? lam = some ⟨.type "function", none, .func fd, #[]⟩) (_hroom : dp < recursionLimit) (_hun : un + 20 < cLine)
  (_h : XEnd s Q (fun r => ∃ u, r = .str (Str.ofString "!/") u)),
    wpAny (model (Challenge.rw_ij0104_01.row.toRowW.prog) w) (ktrTop dp un gd cn cs L a ccd cl outer) (call (.builtin "re.Pattern.sub") [.ref 132, .ref lam, .str (Str.ofString "!/") t]) Q E s := by
  k_fill
  intros
  x_run
end Mine
end

section -- MLoop
open PySem PySem.W PyProof.Rows PySem.Calls
set_option Elab.async false
set_option maxRecDepth 100000
set_option maxHeartbeats 8000000
namespace Mine
theorem kst_form {m : Str → Option Value} {ps : List (Str × Value)} (hk : ∀ p ∈ ps, m p.1 = some p.2) : kstB m ps = m := funext fun _ => kstB_eq hk fun _ => rfl
section
variable {prog : Program} {w : World} {A : Around} {E : Value → Shared → Prop} {Q : Flow → Shared → Prop} {s : Shared} {env : Env} {h₀ : Heap} {L : Addr} {test : Expr} {body orelse : List Stmt} {x : Str}
/-- a while by induction: the turn may go on to any smaller state -/
theorem whl_ind {σ : Type} {m : Str → Option Value} {news : Led} {pos : Pos} (ps : σ → List (Str × Value)) (Ld : σ → Led) (P : σ → Prop) (μ : σ → Nat) (c₀ : σ) (F : Fr h₀ L s.heap m) (N : News h₀ L s.heap news)
    (hk : ∀ p ∈ ps c₀, m p.1 = some p.2) (hn : ∀ p ∈ Ld c₀, p ∈ news) (hp : P c₀)
    (turn : ∀ c (u : Str → Option Value) h tk, P c → Fr h₀ L h (kstB u (ps c)) → News h₀ L h (Ld c) →
      (∀ c' h' tk' m' news', μ c' < μ c → P c' → Fr h₀ L h' m' → News h₀ L h' news' → (∀ p ∈ ps c', m' p.1 = some p.2) → (∀ p ∈ Ld c', p ∈ news') → WhlRest prog w A E env test body orelse Q 7 { s with heap := h', toks := tk' }) →
      WhlRest prog w A E env test body orelse Q 8 { s with heap := h, toks := tk }) :
    wpAny (model prog w) A (exec (.While test body orelse pos) env) Q E s := by
  refine whl_start 8 ?_
  have all : ∀ n c h' tk' m' news', μ c < n → P c → Fr h₀ L h' m' → News h₀ L h' news' → (∀ p ∈ ps c, m' p.1 = some p.2) → (∀ p ∈ Ld c, p ∈ news') → WhlRest prog w A E env test body orelse Q 7 { s with heap := h', toks := tk' } := by
    intro n
    induction n with
    | zero => intro c h' tk' m' news' h; exact absurd h (Nat.not_lt_zero _)
    | succ n ih =>
      intro c h' tk' m' news' hlt hP F' N' hk' hn'
      exact turn c m' h' tk' hP (by rw [kst_form hk']; exact F') (fun p hp => N' p (hn' p hp)) fun c₂ h₂ tk₂ m₂ news₂ hlt₂ => ih c₂ h₂ tk₂ m₂ news₂ (Nat.lt_of_lt_of_le hlt₂ (Nat.le_of_lt_succ hlt))
  exact all (μ c₀ + 1) c₀ s.heap s.toks m news (Nat.lt_succ_self _) hp F N hk hn
noncomputable def ForEnd {σ : Type} (h₀ : Heap) (L : Addr) (ps : σ → List (Str × Value)) (Ld : σ → Led) (P : σ → Prop) (own : Led) (s₁ s₂ : Shared) : Prop :=
  ∃ c h' tk m' news', s₂ = { s₁ with heap := h', toks := tk } ∧ Fr h₀ L h' m' ∧ News h₀ L h' news' ∧ (∀ p ∈ ps c, m' p.1 = some p.2) ∧ (∀ p ∈ Ld c, p ∈ news') ∧ (∀ p ∈ own, p ∈ news') ∧ OwnOff own ((Ld c).map (·.1)) ∧ P c
noncomputable def ForPost {σ : Type} (h₀ : Heap) (L : Addr) (ps : σ → List (Str × Value)) (Ld : σ → Led) (P : σ → Prop) (own : Led) (s₁ : Shared) (Q : Flow → Shared → Prop) (f : Flow) (s₂ : Shared) : Prop :=
  match f with
  | .ret v => Q (.ret v) s₂
  | .brk => Q .next s₂
  | _ => ForEnd h₀ L ps Ld P own s₁ s₂
theorem for_range {σ : Type} {r : Addr} {a₀ b₀ : Int} {t₀ u₀ v₀ : Tok} {n : Nat} {m : Str → Option Value} {news : Led} (ps : σ → List (Str × Value)) (Ld : σ → Led) (P : Nat → σ → Prop) (c₀ : σ)
    (hh : A.handled = none) (hr : IsRange s.heap r a₀ b₀ 1 t₀ u₀ v₀) (hsmall : Builtin.Range.small a₀ b₀ 1 = true) (hsz : Builtin.Range.rangeSize a₀ b₀ 1 = (n : Int)) (F : Fr h₀ env.locals s.heap m) (N : News h₀ env.locals s.heap news)
    (hk : ∀ p ∈ ps c₀, m p.1 = some p.2) (hn : ∀ p ∈ Ld c₀, p ∈ news) (hp : P 0 c₀)
    (turn : ∀ (i : Nat) t c (u : Str → Option Value) h tk own, i < n → P i c → OwnOff own ((Ld c).map (·.1)) → Fr h₀ env.locals h (fun y => if y = x then some (.int (a₀ + i) t) else kstB u (ps c) y) → News h₀ env.locals h (Ld c ++ own) →
      wpAny (model prog w) A (execs body env) (ForPost h₀ env.locals ps Ld (P (i + 1)) own { s with heap := h, toks := tk } Q) E { s with heap := h, toks := tk })
    (done : ∀ c (u : Str → Option Value) h tk, P n c → Fr h₀ env.locals h (kstB u (ps c)) → News h₀ env.locals h (Ld c) → Q .next { s with heap := h, toks := tk }) :
    wpAny (model prog w) A (pyIter (.ref r)) (fun it s₂ => LoopAtV prog w A h₀ env x body Q E it s₂) E s := by
  refine wpAny_pyIter_range hr hsmall ?_
  have W : Walks prog w A s.heap.objs.size [s.heap.objs.size] [s.heap.objs.size] n (fun i v => i < n ∧ ∃ t, v = .int (a₀ + i * 1) t)
      (fun i h => IsRangeIter h s.heap.objs.size (a₀ + (i : Nat) * 1) ((n : Int) - (i : Nat)) 1) := (Walks.range hh _ a₀ 1 n).bound
  refine kdr_loop (m₀ := m) (news := Ld c₀) (fun i m nx => ∃ c, nx = Ld c ∧ P i c ∧ ∀ p ∈ ps c, m p.1 = some p.2) W (fun _ h => h) (fun _ h => h) ?_ ?_ ?_ ?_ (by show IsRangeIter _ _ _ _ _; rw [hsz]; simpa using Heap.get?_push_size _ rfl) (F.push _) (fun p hp => ⟨Heap.get?_push_of_some _ (N p (hn p hp)).1, (N p (hn p hp)).2⟩) ⟨c₀, rfl, hp, hk⟩ ?_ ?_
  · intro i h hi b hb
    rw [List.mem_singleton.mp hb]
    exact ⟨_, hi⟩
  · intro hm
    exact absurd F.ns.lt ((List.mem_singleton.mp hm) ▸ Nat.lt_irrefl _)
  · intro b hb
    rw [List.mem_singleton.mp hb]
    exact next_is_new F
  · intro p hp hI
    exact absurd (Heap.lt_size (N p (hn p hp)).1) ((List.mem_singleton.mp hI) ▸ Nat.lt_irrefl _)
  · rintro i v m₁ nx h tk own hi ⟨_, t, rfl⟩ hoff ⟨c, rfl, hP, hk₁⟩ F₁ N₁
    rw [Int.mul_one] at F₁
    refine wpAny_mono (turn i t c m₁ h tk own hi hP hoff (by rw [kst_form hk₁]; exact F₁) N₁) (fun f s₂ p => ?_) fun _ _ e => e
    have fin : ForEnd h₀ env.locals ps Ld (P (i + 1)) own { s with heap := h, toks := tk } s₂ → InvEndG h₀ env.locals (fun m' nx => ∃ c, nx = Ld c ∧ P (i + 1) c ∧ ∀ p ∈ ps c, m' p.1 = some p.2) own { s with heap := h, toks := tk } s₂ := by
      rintro ⟨c', h', tk', m', news', e, F', N', hk', hn', ho', hoff, hP'⟩
      exact ⟨h', tk', m', news', Ld c', e, F', N', hn', ho', hoff, c', rfl, hP', hk'⟩
    cases f with
    | ret v => exact p
    | brk => exact p
    | next => exact fin p
    | cont => exact fin p
  · rintro m₁ nx h tk ⟨c, rfl, hP, hk₁⟩ F₁ N₁
    exact done c m₁ h tk hP (by rw [kst_form hk₁]; exact F₁) N₁
end
/-- the walk stands still here -/
noncomputable def Stop (P : Prop) : Prop := P
theorem stop_out {P : Prop} (h : Stop P) : P := h
theorem stop_in {P : Prop} (h : P) : Stop P := h
end Mine
end

section -- MBound
open PySem PySem.W PyProof.Rows PySem.Calls PySem.W.X
set_option Elab.async false
set_option maxRecDepth 100000
set_option maxHeartbeats 8000000
namespace Mine
noncomputable def XNew (s : Shared) (Q : Value → Shared → Prop) (o : Obj) : Prop := ∀ q h' tk', (∀ b o, s.heap.get? b = some o → h'.get? b = some o) → h'.get? q = some o → s.heap.get? q = none → Q (.ref q) { s with heap := h', toks := tk' }
noncomputable abbrev boundOf (id : String) (self : Value) : Obj := { cls := .type "builtin_function_or_method", data := .fields #[.builtin id, self] }
local macro_rules | `(tactic| x_close) => `(tactic| ((rename XNew _ _ _ => hz); (rename Mem _ _ _ _ => hD); exact hz _ _ _ (xkeep hD) (Mem.nw hD _ (.head _)).1 (Mem.nw hD _ (.head _)).2))
theorem app_call : ∀ {w : World} {dp un : Nat} {gd : Option (List Code)} {cn : Str} {cs : Scope} {L a : Addr} {ccd : Value} {cl : List (Str × Addr)} {outer : List Env} {s : Shared} {Q E : Value → Shared → Prop} {t : Tok} {l : Addr} {xs : Array Value} {n : Nat} (_X : (Mine.heapK w.params).In s.heap) (_hl : s.heap.get? l = some ⟨.type "list", none, .seq xs n, #[]⟩) (_hroom : dp < recursionLimit) (_hun : un + 20 < cLine)
  (_h : XNew s Q (boundOf "list.append" (.ref l))),
    wpAny (model (Challenge.rw_ij0104_01.row.toRowW.prog) w) (ktrTop dp un gd cn cs L a ccd cl outer) (call (.builtin "list.__getattribute__") [.ref l, .str (Str.ofString "append") t]) Q E s := by
  k_fill
  intros
  x_run
theorem app_attr {w : World} {dp un : Nat} {gd : Option (List Code)} {cn : Str} {cs : Scope} {L a : Addr} {ccd : Value} {cl : List (Str × Addr)} {outer : List Env} {s : Shared} {Q E : Value → Shared → Prop} {l : Addr} {xs : Array Value} {n : Nat} (X : (Mine.heapK w.params).In s.heap) (hl : s.heap.get? l = some ⟨.type "list", none, .seq xs n, #[]⟩) (hroom : dp < recursionLimit) (hun : un + 20 < cLine)
  (h : XNew s Q (boundOf "list.append" (.ref l))) :
    wpAny (model P0 w) (ktrTop dp un gd cn cs L a ccd cl outer) (getAttr (.ref l) (Str.ofString "append") true) Q E s := by
  have hT : ∀ tk', ({ s with toks := tk' } : Shared).TypeIs (.ref l) "list" := fun _ => ⟨_, hl, rfl⟩
  have f3 := F.slot_list_getattribute.lookup
  have f4 := F.slot_list_getattribute.bind (.ref l)
  unfold getAttr getAttrBy
  repeat (any_goals (first | assumption | exact hT _ | ((with_reducible show wpAny _ _ (call (Value.builtin "list.__getattribute__") _ _) _ _ _); refine app_call (s := { s with toks := s.toks + 1 }) (t := s.toks) X hl hroom hun fun q h' tk' hk hq hn => ?_) | wp_step))
  exact h q h' tk' hk hq hn
end Mine
end

section -- MAdd
open PySem PySem.W PyProof.Rows PySem.Calls
set_option Elab.async false
set_option maxRecDepth 100000
set_option maxHeartbeats 8000000
namespace Mine
section
variable {prog : Program} {w : World} {A : Around} {s : Shared} {Q E : Value → Shared → Prop} {q l : Addr} {x : Value} {its : Array Value} {n : Nat}
theorem check_append (hl : s.heap.get? l = some (listOf its n)) {Q : Unit → Shared → Prop} (h : Q () s) : wpAny (model prog w) A (checkBoundCall "list.append" ⟨[.ref l, x], []⟩) Q E s := by
  have hT : s.TypeIs (.ref l) "list" := ⟨_, hl, rfl⟩
  have key : (match List.lookup (String.ofList ['d', 'n', 'e', 'p', 'p', 'a'].reverse) Manifest.sig_list with
    | some sig => Bind.checkArgs "list.append" { sig with full := s!"{Bind.lastOf "list"}.{Bind.lastOf "list.append"}" } ⟨[.ref l, x], []⟩
    | none => unsupported "") = pure () := by kernel_rfl
  unfold checkBoundCall
  rw [signature?_of (id := "list.append") (n := ['d', 'n', 'e', 'p', 'p', 'a']) (o := ['t', 's', 'i', 'l']) (by kernel_rfl) F.owner_list]
  cases hs : List.lookup (String.ofList ['d', 'n', 'e', 'p', 'p', 'a'].reverse) Manifest.sig_list with
  | none => rw [hs] at key; cases key
  | some sig =>
    rw [hs] at key
    dsimp only at key ⊢
    rw [show builtinKind "list.append" = some .method from by decide +kernel]
    dsimp only
    rw [if_neg (by decide)]
    refine wpAny_bind (wpAny_isInstance hT (b := false) (by rw [isSubtype_type]; kernel_rfl) ?_)
    rw [if_neg (by decide +kernel)]
    refine wpAny_bind ?_
    show wpAny _ _ (do return match (← loadHead l).data with | .cls _ => true | _ => false) _ _ _
    refine wpAny_bind (wpAny_loadPart hl (wpAny_pure ?_))
    show wpAny _ _ (if false = true then _ else _) _ _ _
    rw [if_neg (by decide)]
    refine wpAny_bind (wpAny_typeOf hT ?_)
    show wpAny _ _ (Bind.checkArgs "list.append" _ _) _ _ _
    exact wpAny_of_eq key h
theorem code_builtin {id : String} {args : Args} {b : Builtin} {R : Result → Shared → Prop} (hb : entryFor table id = some b)
    (h : wpAny (model prog w) (A.under (.builtin id args)) (b args) (fun fin s' => match fin with | .done f => R (.ok f) s' | .again c' => c'.quiet = true ∧ codeAny (model prog w) A c' R s') (fun e s' => R (.error e) s') s) : codeAny (model prog w) A (.builtin id args) R s := by
  refine codeAny_of_tree ?_
  show wpAny _ _ (match entryFor table id with | some b => b args | none => unsupported ((withoutEnding? id "#data").getD id)) _ _ s
  rw [hb]; exact h
theorem call_append (hq : s.heap.get? q = some (boundOf "list.append" (.ref l))) (hl : s.heap.get? l = some (listOf its n)) (h : ∀ h', Heap.SameBut l s.heap h' → h'.get? l = some (listOf (its.push x) (n + 1)) → Q .none { s with heap := h' }) (hsz : its.size ≤ sizeLine := by size_fits) :
    wpAny (model prog w) A (call (.ref q) [x]) Q E s := by
  refine wpAny_call (codeAny_of_tree ?_)
  show wpAny _ _ (callAny (.ref q) ⟨[x], []⟩) _ _ s
  unfold callAny
  refine wpAny_bind (wpAny_load hq ?_)
  show wpAny _ _ (do checkBoundCall "list.append" ⟨[.ref l, x], []⟩; again (.builtin "list.append" ⟨[.ref l, x], []⟩)) _ _ s
  refine wpAny_bind (check_append hl (wpAny_pure ⟨plainId_quiet slot_list_append.plain _, code_builtin entry_list_append ?_⟩))
  show wpAny _ _ (updateSeq l (·.push x) >>= fun _ => ret .none) _ _ s
  refine wpAny_bind ?_
  refine wpAny_updateSeq hl rfl (wpAny_pure (h _ (Heap.SameBut.update ..) ?_))
  rw [Heap.get?_update_self _ hl (by rw [mapSeq_push]; rfl), mapSeq_push]
end
section
variable {prog : Program} {w : World} {A : Around} {s : Shared} {Q E : Value → Shared → Prop} {q l : Addr} {id : String} {self : Value} {pos : Pos} {args : List (Bool × Sem Value)}
theorem callWith_bound1 {x : Sem Value} {rest : List (Bool × Sem Value)} (he : args = (false, x) :: rest) (hs : rest.any (·.1) = false) (h : wpAny (model prog w) A (spliced args) (fun vs s₁ => s₁.heap.get? q = some (boundOf id self) ∧ wpAny (model prog w) A (call (.ref q) vs) Q E s₁) E s) : wpAny (model prog w) A (callWith pos (.ref q) [] args []) Q E s := by
  subst he
  unfold callWith
  refine wpAny_bind (wpAny_holding (Calls.evalArgs_plain (wpAny_mono h (fun vs s₁ h₁ => ?_) fun _ _ e => e)))
  refine wpAny_bind (wpAny_standAt ?_)
  refine wpAny_bind (wpAny_bind ?_)
  refine wpAny_load h₁.1 ?_
  refine wpAny_of_eq (a := Keeper.machine) ?_ ?_
  · first | rfl | (simp [boundOf]; done)
  rw [List.any_cons, hs]
  refine wpAny_bind ?_
  show wpAny _ _ (call (.ref q) vs) _ _ _
  refine wpAny_mono h₁.2 (fun r s₂ h₂ => ?_) fun _ _ e => e
  exact wpAny_bind (wpAny_holding (wpAny_point (wpAny_pure h₂)))
end
theorem getattr_append_K {w : World} {dp un : Nat} {gd : Option (List Code)} {cn : Str} {cs : Scope} {L L' a : Addr} {ccd : Value} {cl : List (Str × Addr)} {outer : List Env} {s : Shared} {Q E : Value → Shared → Prop} {l : Addr} {xs : Array Value} {n : Nat} {h₀ : Heap} {m : Str → Option Value} {news : Led} (F : Fr h₀ L s.heap m) (N : News h₀ L s.heap news) (X : (Mine.heapK w.params).In h₀)
    (hl : (l, listOf xs n) ∈ news) (hroom : dp < recursionLimit) (hun : un + 20 < cLine)
    (h : ∀ q h' tk', Fr h₀ L h' m → News h₀ L h' ((q, boundOf "list.append" (.ref l)) :: news) → (∀ p ∈ news, p.1 ≠ q) → Q (.ref q) { s with heap := h', toks := tk' }) :
    wpAny (model P0 w) (ktrTop dp un gd cn cs L' a ccd cl outer) (getAttr (.ref l) (Str.ofString "append") true) Q E s := by
  refine app_attr (X.keeps F.keep) (N.get hl) hroom hun fun q h' tk' hk hq hn => h q h' tk' (fr_grown F hk) ?_ fun p hp e => ?_
  · intro p hp
    rcases List.mem_cons.mp hp with rfl | hp
    · refine ⟨hq, fun e => ?_, ?_⟩
      · obtain ⟨oL, _, _, ho, _⟩ := F.ns
        rw [← e, hn] at ho; cases ho
      · cases z : h₀.get? q with
        | none => rfl
        | some o => rw [F.keep _ _ z] at hn; cases hn
    · exact N.grown hk p hp
  · have := N.get (a := p.1) (o := p.2) hp
    rw [e, hn] at this; cases this
end Mine
end

section -- MTk
open PySem PySem.W PyProof.Rows PySem.Calls
set_option Elab.async false
set_option maxRecDepth 100000
set_option maxHeartbeats 8000000
namespace Mine
noncomputable def TripR : List Value → Prop
  | [] => True
  | .int _ _ :: .int _ _ :: .ref _ :: rest => TripR rest
  | _ => False
/-- a contract of a def that may grow the code table 153 alone -/
noncomputable def ConT (w : World) (f : Addr) (vs : List Value) (d u : Nat) (news : Led) (Res : Value → Led → Prop) : Prop :=
  ∀ (p : Program) (loose : List Str) (mean : ExcName → Option Value) (mg mb : Str → Option Value) (dp un : Nat) (gd : Option (List Code)) (cn : Str) (cs : Scope) (a : Addr) (ccd : Value) (cl : List (Str × Addr)) (outer : List Env) (A₀ : Around) (base h₀ : Heap) (L : Addr) (m : Str → Option Value) (s : Shared) (Q E : Value → Shared → Prop) (ps : Array Value),
    Below A₀ base outer h₀ → Fr h₀ L s.heap m → (Mine.heapK w.params).In h₀ → News h₀ L s.heap ((153, tabObj ps) :: news) → Top p loose mean mg mb h₀ → cs.kind = .function → dp + d < recursionLimit → un + u < cLine → TripR ps.toList → (∀ p ∈ news, p.1 ≠ 153) →
    (∀ r tl h' tk' ps', Fr h₀ L h' m → News h₀ L h' ((153, tabObj ps') :: (tl ++ news)) → TripR ps'.toList → (∀ q ∈ tl, ∀ p ∈ news, p.1 < q.1) → (∀ q ∈ tl, q.1 ≠ 153) → Res r tl → Q r { s with heap := h', toks := tk' }) →
    wpAny (model P0 w) (ktrTop dp un gd cn cs L a ccd cl outer) (call (.ref f) vs) Q E s
theorem Con.use {w : World} {f : Addr} {vs : List Value} {d u : Nat} {news : Led} {Res : Value → Led → Prop} {p : Program} {loose : List Str} {mean : ExcName → Option Value} {mg mb : Str → Option Value} {dp un : Nat} {gd : Option (List Code)} {cn : Str} {cs : Scope} {a : Addr} {ccd : Value} {cl : List (Str × Addr)} {outer : List Env} {A₀ : Around} {base h₀ : Heap} {L : Addr} {m : Str → Option Value} {s : Shared} {Q E : Value → Shared → Prop}
    (C : Con w f vs d u news Res) (B : Below A₀ base outer h₀) (F : Fr h₀ L s.heap m) (X : (Mine.heapK w.params).In h₀) (N : News h₀ L s.heap news) (T : Top p loose mean mg mb h₀) (hk : cs.kind = .function) (hd : dp + d < recursionLimit) (hu : un + u < cLine)
    (h : ∀ r tl h' tk', Fr h₀ L h' m → News h₀ L h' (tl ++ news) → (∀ q ∈ tl, ∀ p ∈ news, p.1 < q.1) → Res r tl → Q r { s with heap := h', toks := tk' }) :
    wpAny (model P0 w) (ktrTop dp un gd cn cs L a ccd cl outer) (call (.ref f) vs) Q E s := C p loose mean mg mb dp un gd cn cs a ccd cl outer A₀ base h₀ L m s Q E B F X N T hk hd hu h
theorem esc_use {w : World} {x : Str} {c : Nat} {t1 : Tok} {news : Led} {p : Program} {loose : List Str} {mean : ExcName → Option Value} {mg mb : Str → Option Value} {dp un : Nat} {gd : Option (List Code)} {cn : Str} {cs : Scope} {a : Addr} {ccd : Value} {cl : List (Str × Addr)} {outer : List Env} {A₀ : Around} {base h₀ : Heap} {L : Addr} {m : Str → Option Value} {s : Shared} {Q E : Value → Shared → Prop}
    (hx : x = ⟨#[c]⟩) (hc : Bare c) (B : Below A₀ base outer h₀) (F : Fr h₀ L s.heap m) (X : (Mine.heapK w.params).In h₀) (N : News h₀ L s.heap news) (T : Top p loose mean mg mb h₀) (hk : cs.kind = .function) (hd : dp + 1 < recursionLimit) (hu : un + 20 < cLine)
    (h : ∀ t h' tk', Fr h₀ L h' m → News h₀ L h' news → Q (.str ⟨(escS c).toArray⟩ t) { s with heap := h', toks := tk' }) :
    wpAny (model P0 w) (ktrTop dp un gd cn cs L a ccd cl outer) (call (.ref 151) [.str x t1]) Q E s := by
  subst hx
  refine (esc_ok hc).use B F X N T hk hd hu fun r tl h' tk' F' N' _ hr => ?_
  obtain ⟨t, rfl⟩ := hr
  exact h t h' tk' F' fun p hp => N' p (List.mem_append_right _ hp)
theorem callWith_bound_K {prog : Program} {w : World} {A : Around} {s : Shared} {Q E : Value → Shared → Prop} {q : Addr} {id : String} {self : Value} {pos : Pos} {args : List (Bool × Sem Value)} {x : Sem Value} {rest : List (Bool × Sem Value)} {h₀ : Heap} {L : Addr} {news : Led} (_N : News h₀ L s.heap news) (_hm : (q, boundOf id self) ∈ news) (he : args = (false, x) :: rest) (hs : rest.any (·.1) = false)
    (h : wpAny (model prog w) A (spliced args) (fun vs s₁ => s₁.heap.get? q = some (boundOf id self) ∧ wpAny (model prog w) A (call (.ref q) vs) Q E s₁) E s) : wpAny (model prog w) A (callWith pos (.ref q) [] args []) Q E s := callWith_bound1 he hs h
theorem call_append_K {prog : Program} {w : World} {A : Around} {s : Shared} {Q E : Value → Shared → Prop} {q l : Addr} {x : Value} {its : Array Value} {n : Nat} {h₀ : Heap} {L : Addr} {m : Str → Option Value} {news news' : Led} (F : Fr h₀ L s.heap m) (N : News h₀ L s.heap news) (hm : (q, boundOf "list.append" (.ref l)) ∈ news) (U : Upd l (listOf its n) (listOf (its.push x) (n + 1)) news news')
    (hsz : its.size ≤ sizeLine) (h : ∀ h', Fr h₀ L h' m → News h₀ L h' news' → Q .none { s with heap := h' }) : wpAny (model prog w) A (call (.ref q) [x]) Q E s := by
  obtain ⟨pre, post, rfl, rfl, a, b⟩ := U.split
  have z := N (l, listOf its n) (List.mem_append.mpr (.inr (.head _)))
  exact call_append (N.get hm) z.1 (fun h' hs ho' => h h' (F.change hs z.2.1 z.2.2) (news_set N a b hs ho')) hsz

inductive Tk where
  | bare (c : Nat)
  | brk (c : Nat)
  | star
  | nsl
noncomputable def Tk.txt : Tk → List Nat
  | .bare c => [c]
  | .brk c => [91, c, 93]
  | .star => [42]
  | .nsl => [91, 33, 47, 93]
noncomputable def Tk.out : Tk → List Nat
  | .bare c => escS c
  | .brk c => if c = 91 then [91, 92, 91, 93] else [91, c, 93]
  | .star => []
  | .nsl => [91, 94, 47, 93]
noncomputable def Tk.isStar : Tk → Bool
  | .star => true
  | _ => false
noncomputable def Tk.Ok : Tk → Prop
  | .bare c => Bare c
  | .brk c => c = 42 ∨ c = 63 ∨ c = 91
  | _ => True
/-- what _translate keeps of a token -/
noncomputable def Tk.Is (star : Addr) (t : Tk) (v : Value) : Prop := if t.isStar then v = .ref star else ∃ u, v = .str ⟨t.out.toArray⟩ u
inductive TksZ (star : Addr) : List Tk → List Value → Prop
  | nil : TksZ star [] []
  | snoc {ts : List Tk} {vs : List Value} {t : Tk} {v : Value} : TksZ star ts vs → t.Is star v → TksZ star (ts ++ [t]) (vs ++ [v])
theorem TksZ.len {star : Addr} {ts : List Tk} {vs : List Value} (h : TksZ star ts vs) : vs.length = ts.length := by
  induction h with
  | nil => rfl
  | snoc _ _ ih => simp [ih]
/-- no star behind a star, none at the start -/
noncomputable def seqOk : Bool → List Tk → Prop
  | _, [] => True
  | b, t :: r => t.Ok ∧ (t.isStar = true → b = false) ∧ seqOk t.isStar r
structure TS where
  pre : List Tk
  post : List Tk
  vs : List Value
  n : Nat
  i : Int
  t : Tok
  ps : Array Value
  b : Bool
noncomputable def TS.Inv (star : Addr) (pat : Str) (toks : List Tk) (c : TS) : Prop :=
  pat.cps.toList = c.pre.flatMap Tk.txt ++ c.post.flatMap Tk.txt ∧ c.i = ((c.pre.flatMap Tk.txt).length : Int) ∧ TksZ star c.pre c.vs ∧ TripR c.ps.toList ∧ seqOk c.b c.post ∧ (c.b = false → ∃ vs₀ x u, c.vs = vs₀ ++ [.str x u]) ∧ c.vs.length ≤ 200 ∧ c.pre ++ c.post = toks
theorem all6 {m : Str → Option Value} {a1 a2 a3 a4 a5 a6 : Str} {v1 v2 v3 v4 v5 v6 : Value} (h1 : m a1 = some v1) (h2 : m a2 = some v2) (h3 : m a3 = some v3) (h4 : m a4 = some v4) (h5 : m a5 = some v5) (h6 : m a6 = some v6) :
    ∀ p ∈ [(a1, v1), (a2, v2), (a3, v3), (a4, v4), (a5, v5), (a6, v6)], m p.1 = some p.2 := by
  simp only [List.forall_mem_cons]
  exact ⟨h1, h2, h3, h4, h5, h6, fun _ h => nomatch h⟩
theorem Tk.txt_pos (t : Tk) : 1 ≤ t.txt.length := by cases t <;> simp [Tk.txt]
theorem txt_len : ∀ ts : List Tk, ts.length ≤ (ts.flatMap Tk.txt).length
  | [] => Nat.le_refl _
  | t :: r => by
    have := txt_len r
    have := t.txt_pos
    simp only [List.flatMap_cons, List.length_cons, List.length_append]
    omega
theorem TS.Inv.step {star : Addr} {pat : Str} {toks : List Tk} {pre post : List Tk} {tk : Tk} {vs : List Value} {n n' : Nat} {i i' : Int} {t t' : Tok} {ps ps' : Array Value} {b : Bool} {v : Value} (hl : pat.length ≤ 200) (e : TS.Inv star pat toks ⟨pre, tk :: post, vs, n, i, t, ps, b⟩)
    (hi : i' = i + tk.txt.length) (hv : tk.Is star v) (hp : TripR ps'.toList) : TS.Inv star pat toks ⟨pre ++ [tk], post, vs ++ [v], n', i', t', ps', tk.isStar⟩ := by
  obtain ⟨e1, e2, e3, e4, e5, e6, e7, e8⟩ := e
  simp only at e1 e2 e3 e5 e6 e8
  refine ⟨by simp only [e1, List.flatMap_append, List.flatMap_cons, List.flatMap_nil, List.append_nil, List.append_assoc], by simp only [List.flatMap_append, List.flatMap_cons, List.flatMap_nil, List.append_nil, List.length_append]; omega, e3.snoc hv, hp, e5.2.2, fun hb => ?_, ?_, by simpa using e8⟩
  · unfold Tk.Is at hv
    simp only at hb
    rw [hb] at hv
    obtain ⟨u, rfl⟩ := hv
    exact ⟨vs, _, u, rfl⟩
  · have h1 := e3.len
    have h2 := txt_len (pre ++ tk :: post)
    have h3 : ((pre ++ tk :: post).flatMap Tk.txt).length = pat.length := by
      rw [List.flatMap_append, ← e1]
      simp [Str.length]
    simp only [List.length_append, List.length_cons, List.length_nil] at h2 ⊢
    omega
theorem names6 {m : Str → Option Value} {a1 a2 a3 a4 a5 a6 : Str} {v1 v2 v3 v4 v5 v6 : Value} (h : (m a1 = some v1 ∧ m a2 = some v2 ∧ m a3 = some v3) ∧ m a4 = some v4 ∧ m a5 = some v5 ∧ m a6 = some v6) :
    ∀ p ∈ [(a1, v1), (a2, v2), (a3, v3), (a4, v4), (a5, v5), (a6, v6)], m p.1 = some p.2 := all6 h.1.1 h.1.2.1 h.1.2.2 h.2.1 h.2.2.1 h.2.2.2
noncomputable abbrev TS.names (pat : Str) (t1 tn : Tok) (star l q : Addr) (c : TS) : List (Str × Value) := [(Str.ofString "pat", .str pat t1), (Str.ofString "STAR", .ref star), (Str.ofString "res", .ref l), (Str.ofString "add", .ref q), (Str.ofString "i", .int c.i c.t), (Str.ofString "n", .int pat.length tn)]
noncomputable abbrev TS.led (news : Led) (l q : Addr) (c : TS) : Led := (q, boundOf "list.append" (.ref l)) :: (l, listOf c.vs.toArray c.n) :: (153, tabObj c.ps) :: news
theorem tr_next {star l q L : Addr} {pat : Str} {toks : List Tk} {t1 tn : Tok} {news : Led} {g h' : Heap} {tk' : Nat} {W : Heap → Nat → Prop} {k : Nat} {vs' : List Value} {n' : Nat} {ps' : Array Value} {i' : Int} {t' : Tok} {m' : Str → Option Value}
    (IH : ∀ (c' : TS) h' tk' m' news', c'.post.length < k → TS.Inv star pat toks c' → Fr g L h' m' → News g L h' news' → (∀ p ∈ c'.names pat t1 tn star l q, m' p.1 = some p.2) → (∀ p ∈ c'.led news l q, p ∈ news') → W h' tk')
    (F9 : Fr g L h' m') (N9 : News g L h' ((q, boundOf "list.append" (.ref l)) :: (l, listOf vs'.toArray n') :: (153, tabObj ps') :: news))
    (h1 : m' (Str.ofString "pat") = some (.str pat t1)) (h2 : m' (Str.ofString "STAR") = some (.ref star)) (h3 : m' (Str.ofString "res") = some (.ref l)) (h4 : m' (Str.ofString "add") = some (.ref q)) (h5 : m' (Str.ofString "i") = some (.int i' t')) (h6 : m' (Str.ofString "n") = some (.int pat.length tn))
    {pre' post' : List Tk} {b' : Bool} (hk : post'.length < k) (hi : TS.Inv star pat toks ⟨pre', post', vs', n', i', t', ps', b'⟩) : W h' tk' :=
  IH ⟨pre', post', vs', n', i', t', ps', b'⟩ h' tk' m' _ hk hi F9 N9 (all6 h1 h2 h3 h4 h5 h6) fun _ hp => hp
theorem sep2 {news : Led} {l : Addr} (h1 : ∀ p ∈ news, p.1 < l) (h2 : ∀ p ∈ news, p.1 ≠ 153) : OwnOff news [l, 153] := by
  intro p hp b hb e
  rcases List.mem_cons.mp hb with rfl | hb
  · exact absurd (h1 p hp) (e ▸ Nat.lt_irrefl _)
  · rw [List.mem_singleton.mp hb] at e
    exact h2 p hp e
section
variable {prog : Program} {w : World} {A : Around} {s : Shared} {E : Value → Shared → Prop} {l : Addr} {vs : List Value} {v : Value} {n : Nat} {h₀ : Heap} {L : Addr} {news : Led}
theorem truthy_snoc (N : News h₀ L s.heap news) (hm : (l, listOf (vs ++ [v]).toArray n) ∈ news) (hb : vs.length ≤ 1000) {Q : Bool → Shared → Prop} (h : ∀ tk', Q true { s with toks := tk' }) : wpAny (model prog w) A (truthy (.ref l)) Q E s := by
  have hl : s.heap.IsList l (vs ++ [v]).toArray := N.isList hm
  have hsz : (vs ++ [v]).toArray.size = vs.length + 1 := by simp
  refine wpAny_truthy_list hl (by rw [hsz]; omega) ?_
  have e : (!(vs ++ [v]).toArray.isEmpty) = true := by simp
  rw [e]
  exact h _
theorem last_snoc (N : News h₀ L s.heap news) (hm : (l, listOf (vs ++ [v]).toArray n) ∈ news) (hb : vs.length ≤ 1000) {t : Tok} {value slice : Expr} {Q : Value → Shared → Prop} (h : Q v s)
    (hs : subscripted slice false (.ref l) (.int (-1) t) = operate [.ref l, .int (-1) t] (getItem (.ref l) (.int (-1) t)) := by with_unfolding_all rfl) : wpAny (model prog w) A (subscriptTail value slice (.ref l) (.int (-1) t)) Q E s := by
  have hl : s.heap.IsList l (vs ++ [v]).toArray := N.isList hm
  refine tail_any hl.typeIs slot_list_getitem.lookup (wpAny_getItem_list_neg hl (by omega) (by simp; omega) (by omega) ?_ h) hs
  have e : (-1 + ((vs ++ [v]).toArray.size : Int)).toNat = vs.length := by simp; omega
  rw [e]
  simp
theorem isnot_str_ref {x : Str} {t : Tok} {a : Addr} {Q : Value → Shared → Prop} (h : Q (.bool true) s) : wpAny (model prog w) A (compareOp .IsNot (.str x t) (.ref a)) Q E s := wpAny_of_eq (a := .bool true) (by rfl) h
end
end Mine
end

section -- MBrk
open PySem PySem.W PyProof.Rows PySem.Calls
set_option Elab.async false
set_option maxRecDepth 100000
set_option maxHeartbeats 8000000
namespace Mine
theorem slot_sub : Slot "re.Pattern" "sub" "re.Pattern.sub" :=
  .of (owner := "re.Pattern") (n := "sub") (by rw [typeLookup_type, builtinLookup_eq_fast]; kernel_rfl) (by decide +kernel) (by decide +kernel) (by decide +kernel)
    (by first | exact .inl (by decide +kernel) | exact .inr (by decide +kernel)) (by rw [isSubtype_type]; kernel_rfl)
theorem type_sub : typeOf (.builtin "re.Pattern.sub") = pure (.type "method_descriptor") := by show builtinType _ = _; rw [builtinType_eq_fast]; kernel_rfl
theorem plain_pattern : PlainAttrs "re.Pattern" :=
  ⟨⟨"object.__getattribute__", by rw [typeLookup_type, builtinLookup_eq_fast]; kernel_rfl, by decide +kernel⟩, by rw [typeLookup_type, builtinLookup_eq_fast]; kernel_rfl⟩
theorem pat_obj : ∀ {w : World} {h : Heap} (_P : Challenge.rw_ij0104_01.row.toRowW.prog = Challenge.rw_ij0104_01.row.toRowW.prog) (_X : (Mine.heapK w.params).In h), ∃ o, h.get? 132 = some o ∧ o.cls = .type "re.Pattern" ∧ o.dict = none := by
  k_fill
  intro w h _ X
  exact ⟨_, X 132 _ (by k_is), rfl, rfl⟩
theorem code_hd : ∀ {w : World} {h : Heap} (_P : Challenge.rw_ij0104_01.row.toRowW.prog = Challenge.rw_ij0104_01.row.toRowW.prog) (_X : (Mine.heapK w.params).In h), CodeHd h 157 153 := by
  k_fill
  intro w h _ X
  exact ⟨_, _, _, _, _, _, _, _, _, X 157 _ (by k_is), rfl, rfl, rfl, rfl, rfl, rfl, rfl, rfl, by decide⟩
theorem gm_sub {w : World} {M : Model} {A : Around} {E : Value → Shared → Prop} {s : Shared} {h₀ : Heap} {L : Addr} {m : Str → Option Value} {pl : Sem Bool} {Q : Value × List Value → Shared → Prop} (F : Fr h₀ L s.heap m) (X : (Mine.heapK w.params).In h₀) (h : Q (.builtin "re.Pattern.sub", [.ref 132]) s) : wpAny M A (getMethod (.ref 132) "sub" pl) Q E s := by
  obtain ⟨o, ho, hc, hd⟩ := pat_obj rfl (X.keeps F.keep)
  exact getMethod_builtin ⟨o, ho, hc⟩ plain_pattern slot_sub type_sub (fun a e => by cases e; exact ⟨o, ho, hd⟩) h
theorem TripR.ok : ∀ {l : List Value}, TripR l → TriplesOk l := by
  intro l
  fun_induction TripR l with
  | case1 => intro _; trivial
  | case2 a t b u x rest ih => intro h; exact ih h
  | case3 l h1 h2 => intro h; exact h.elim
theorem TripR.snoc (a b : Int) (c : Addr) : ∀ {l : List Value}, TripR l → TripR (l ++ [rawInt a, rawInt b, .ref c]) := by
  intro l
  fun_induction TripR l with
  | case1 => intro _; simp [TripR, rawInt]
  | case2 a' t b' u x rest ih => intro h; simp only [List.cons_append, TripR]; exact ih h
  | case3 l h1 h2 => intro h; exact h.elim
theorem TripR.ref {pos : Pos} {v : Value} : ∀ {l : List Value}, TripR l → codeAmong pos l = some v → ∃ c, v = .ref c := by
  intro l
  fun_induction TripR l with
  | case1 => intro _ h; cases h
  | case2 a t b u x rest ih =>
    intro h e
    simp only [codeAmong] at e
    split at e
    · exact ⟨_, (Option.some.inj e).symm⟩
    · exact ih h e
  | case3 l h1 h2 => intro h; exact h.elim
section
variable {M : Model} {A : Around} {E : Value → Shared → Prop} {s : Shared} {h₀ : Heap} {L a : Addr} {m mg mb : Str → Option Value} {cn : Str} {cs : Scope} {cl : List (Str × Addr)} {news : Led} {g : Obj → Led}
  {p : Program} {loose : List Str} {mean : ExcName → Option Value} {params : Arguments} {body : Expr} {scope : Scope} {ps : Array Value} {pos : Pos} {clos : List (Str × Addr)}
theorem news_skip {h₀ h : Heap} {L : Addr} {a b : Addr × Obj} {l : Led} (N : News h₀ L h (a :: b :: l)) : News h₀ L h (a :: l) := fun p hp => by
  rcases List.mem_cons.mp hp with rfl | hp
  · exact N _ (.head _)
  · exact N p (.tail _ (.tail _ hp))
theorem lam_K {w : World} {Q : Value → Shared → Prop} (F : Fr h₀ L s.heap m) (N : News h₀ L s.heap news) (T : Top p loose mean mg mb h₀) (X : (Mine.heapK w.params).In h₀) (U : UpdF 153 (tabObj ps) news g) (ht : TripR ps.toList)
    (hdef : defaultsOf params (envX cn cs L a (.ref 157) cl) = ([], [])) (hcl : closureFor scope (envX cn cs L a (.ref 157) cl) = pure clos)
    (h : ∀ f fd ps' h' tk, TripR ps'.toList → Fr h₀ L h' m → News h₀ L h' ((f, (⟨.type "function", none, .func fd, #[]⟩ : Obj)) :: g (tabObj ps')) → (∀ q ∈ news, q.1 < f) → Q (.ref f) { s with heap := h', toks := tk }) :
    wpAny M A (eval (.Lambda params body scope pos) (envX cn cs L a (.ref 157) cl)) Q E s := by
  have C := code_hd rfl X
  have gm : g (tabObj ps) = news := by
    obtain ⟨pre, post, rfl, hg, _, _⟩ := U.split
    exact hg _
  have hm : (153, tabObj ps) ∈ news := by
    obtain ⟨pre, post, rfl, hg, _, _⟩ := U.split
    exact List.mem_append_right _ (.head _)
  refine kla_eval hdef ?_
  cases hc : codeAmong pos ps.toList with
  | none =>
    refine kla_nest F N T C rfl U ht.ok hc hcl fun f c' oc vs t ctv h' tk F' N' _ _ l1 l2 => ?_
    exact h f _ (ps ++ #[rawInt pos.line, rawInt pos.col, .ref c']) h' tk (by rw [Array.toList_append]; exact ht.snoc _ _ _) F' (news_skip N') (fun q hq => Nat.lt_trans (l1 q hq) l2)
  | some v =>
    obtain ⟨c', rfl⟩ := ht.ref hc
    refine kla_hit F N T C rfl hm ht.ok hc hcl fun f ctv h' tk F' N' l1 => ?_
    exact h f _ ps h' tk ht F' (by rw [gm]; exact N') l1
end
theorem sub_KZ {w : World} {dp un : Nat} {gd : Option (List Code)} {cn : Str} {cs : Scope} {L L' a : Addr} {ccd : Value} {cl : List (Str × Addr)} {outer : List Env} {s : Shared} {Q E : Value → Shared → Prop} {t : Tok} {lam : Addr} {fd : FuncData} {h₀ : Heap} {m : Str → Option Value} {news : Led} {x : Str} (F : Fr h₀ L s.heap m) (N : News h₀ L s.heap news) (X : (Mine.heapK w.params).In h₀)
    (hl : (lam, (⟨.type "function", none, .func fd, #[]⟩ : Obj)) ∈ news) (hx : x = Str.ofString "*" ∨ x = Str.ofString "?" ∨ x = Str.ofString "[" ∨ x = Str.ofString "!/") (hroom : dp < recursionLimit) (hun : un + 20 < cLine)
    (h : ∀ u h' tk', Fr h₀ L h' m → News h₀ L h' news → Q (.str x u) { s with heap := h', toks := tk' }) :
    wpAny (model P0 w) (ktrTop dp un gd cn cs L' a ccd cl outer) (call (.builtin "re.Pattern.sub") [.ref 132, .ref lam, .str x t]) Q E s := by
  have go : XEnd s Q (fun r => ∃ u, r = .str x u) := by
    rintro r h' tk' hk ⟨u, rfl⟩
    exact h u h' tk' (fr_grown F hk) (N.grown hk)
  rcases hx with rfl | rfl | rfl | rfl
  · exact sub_star (X.keeps F.keep) (N.get hl) hroom hun go
  · exact sub_quest (X.keeps F.keep) (N.get hl) hroom hun go
  · exact sub_open (X.keeps F.keep) (N.get hl) hroom hun go
  · exact sub_nslash (X.keeps F.keep) (N.get hl) hroom hun go
end Mine
end

section -- MRep
open PySem PySem.W PyProof.Rows PySem.Calls
set_option Elab.async false
set_option maxRecDepth 100000
set_option maxHeartbeats 8000000
namespace Mine
theorem o63 : Str.ofString "?" = ⟨#[63]⟩ := by decide +kernel
theorem o33 : Str.ofString "!" = ⟨#[33]⟩ := by decide +kernel
theorem o93 : Str.ofString "]" = ⟨#[93]⟩ := by decide +kernel
theorem one_brk {c : Nat} (h : c = 42 ∨ c = 63 ∨ c = 91) : (⟨#[c]⟩ : Str) = Str.ofString "*" ∨ (⟨#[c]⟩ : Str) = Str.ofString "?" ∨ (⟨#[c]⟩ : Str) = Str.ofString "[" ∨ (⟨#[c]⟩ : Str) = Str.ofString "!/" := by
  rcases h with rfl | rfl | rfl
  · exact .inl o42.symm
  · exact .inr (.inl o63.symm)
  · exact .inr (.inr (.inl o91.symm))
noncomputable abbrev Plain4 (y : Str) : Prop := y = Str.ofString "*" ∨ y = Str.ofString "?" ∨ y = Str.ofString "[" ∨ y = Str.ofString "!/"
theorem repl_K {prog : Program} {w : World} {A : Around} {E : Value → Shared → Prop} {s : Shared} {x y : Str} {t u v : Tok} {Q : Value → Shared → Prop} (hx : x = y) (hy : Plain4 y)
    (hq : ∀ t', Q (.str y t') s) : wpAny (model prog w) A (call (.builtin "str.replace") [.str x t, .str (Str.ofString "\\") u, .str (Str.ofString "\\\\") v]) Q E s := by
  subst hx
  have e : (Builtin.Str.occurrences x (Str.ofString "\\") 0 x.length (x.length + 1)).isEmpty = true := by
    rcases hy with rfl | rfl | rfl | rfl <;> decide +kernel
  refine call_gives F.slot_str_replace (typeIs_str _ _ _) F.entry_str_replace (F.args_str_replace_3 _ _ _)
    (gives_str_replace x _ _ t u v fun h => ?_) ?_
  · rw [e] at h; exact absurd h (by simp)
  · rw [e]
    simp only [Bool.true_or, if_true]
    exact hq t
theorem notin_K {prog : Program} {w : World} {A : Around} {E : Value → Shared → Prop} {s : Shared} {x y : Str} {t u : Tok} {Q : Value → Shared → Prop} (hx : x = y) (hy : Plain4 y)
    (hq : Q (.bool true) s) : wpAny (model prog w) A (compareOp .NotIn (.str (Str.ofString "-") u) (.str x t)) Q E s := by
  subst hx
  have e : (!(!(Builtin.Str.occurrences x (Str.ofString "-") 0 x.length 1).isEmpty)) = true := by
    rcases hy with rfl | rfl | rfl | rfl <;> decide +kernel
  refine notIn_str ?_
  rw [e]
  exact hq
theorem slice_sign {x : Str} {pre post : List Nat} {c : Nat} {k j : Int} (h : x.cps.toList = pre ++ c :: post) (hk : k = (pre.length : Int)) (hj : j = k + 1) : Txt.slice x (some k) (some j) = ⟨#[c]⟩ := by
  rw [slice_one (by omega) hj, h, hk, Int.toNat_natCast, List.drop_left]
  rfl
theorem slice_two {x : Str} {pre post : List Nat} {c d : Nat} {k j : Int} (h : x.cps.toList = pre ++ c :: d :: post) (hk : k = (pre.length : Int)) (hj : j = k + 1 + 1) : Txt.slice x (some k) (some j) = ⟨#[c, d]⟩ := by
  subst hk hj
  rw [slice_ss (by omega) (by omega), h, Int.toNat_natCast, List.drop_left, show ((pre.length : Int) + 1 + 1).toNat - pre.length = 2 by omega]
  rfl
theorem brk_v1 {c : Nat} (hc : c = 42 ∨ c = 63 ∨ c = 91) (a : ([Str.ofString "^", Str.ofString "["].any fun x => x == Txt.item (⟨#[c]⟩ : Str) 0) = true) : Str.empty ++ Str.ofString "[" ++ (Str.ofString "\\" ++ (⟨#[c]⟩ : Str)) ++ Str.ofString "]" = ⟨(Tk.brk c).out.toArray⟩ := by
  rcases hc with rfl | rfl | rfl
  · revert a; decide +kernel
  · revert a; decide +kernel
  · decide +kernel
theorem brk_v2 {c : Nat} (hc : c = 42 ∨ c = 63 ∨ c = 91) (a : ([Str.ofString "^", Str.ofString "["].any fun x => x == Txt.item (⟨#[c]⟩ : Str) 0) = false) : Str.empty ++ Str.ofString "[" ++ (⟨#[c]⟩ : Str) ++ Str.ofString "]" = ⟨(Tk.brk c).out.toArray⟩ := by
  rcases hc with rfl | rfl | rfl
  · decide +kernel
  · decide +kernel
  · revert a; decide +kernel
theorem nsl_v : Str.empty ++ Str.ofString "[" ++ (Str.ofString "^" ++ Txt.slice (Str.ofString "!/") (some 1) none) ++ Str.ofString "]" = ⟨Tk.nsl.out.toArray⟩ := by decide +kernel
theorem tkIs_str {star : Addr} {t : Tk} {x : Str} {u : Tok} (h : t.isStar = false) (hx : x = ⟨t.out.toArray⟩) : t.Is star (.str x u) := by
  unfold Tk.Is
  rw [h, hx]
  exact ⟨u, rfl⟩
end Mine
end

section -- MTr
open PySem PySem.W PyProof.Rows PySem.Calls
set_option Elab.async false
set_option maxRecDepth 100000
set_option maxHeartbeats 8000000
namespace Mine
theorem flush_MTr : True := by w_top off; first | walk1 | trivial
local macro_rules | `(tactic| walk_at "exec While Compare") => `(tactic| (k_here; refine stop_out ?_))
local macro_rules
  | `(tactic| walk_at $k:str) => if ["getAttr ref", "callWith ref", "call ref", "truthy ref", "subscriptTail Name UnaryOp ref int", "eval Lambda", "getMethod ref", "call builtin:re.Pattern.sub", "compareOp NotIn str str", "call builtin:str.replace"].contains k.getString then `(tactic| ((fail_if_success (with_reducible rename Mark9 => mz)); refine sb_out ?_)) else Lean.Macro.throwUnsupported
local macro_rules | `(tactic| walk_at "WhlPost") => `(tactic| ((with_reducible show WhlPost _ _ _ _ _ _ _ _ _ 7 _ _); (dsimp only [WhlPost]); refine stop_out ?_))
local macro_rules | `(tactic| walk_at "WhlIf") => `(tactic| (first | (refine WhlIf.yes (by (simp only [decide_eq_true_eq]; omega)) ?_) | (refine WhlIf.no (by (simp only [decide_eq_false_iff_not]; omega)) ?_)))
local macro_rules | `(tactic| walk_at "Eq") => `(tactic| exact News.get (by assumption) (by k_mem))
local macro_rules | `(tactic| walk_at "compareOp IsNot") => `(tactic| (k_here; with_reducible refine isnot_str_ref ?_))
local macro_rules | `(tactic| walk_at "exec While BoolOp") => `(tactic| (k_here; k_dflt (refine whl_start 100 ?_)))
local macro_rules | `(tactic| walk_at "WhlIf") => `(tactic| (first | (refine WhlIf.yes (by assumption) ?_) | (refine WhlIf.no (by assumption) ?_)))
theorem tr_core {w : World} {pat : Str} {t1 t2 : Tok} {star : Addr} {so : Obj} {news : Led} {toks : List Tk} (hstar : (star, so) ∈ news) (hlen : pat.length ≤ 200) (htoks : pat.cps.toList = toks.flatMap Tk.txt) (hok : seqOk true toks) : ConT w 158 [.str pat t1, .ref star, .str (Str.ofString ".") t2] 4 60 news (fun r tl => ∃ l vs n, r = .ref l ∧ tl = [(l, listOf vs.toArray n)] ∧ TksZ star toks vs) := by
  delta ConT P0
  k_fill
  intro p loose mean mg mb dp un gd cn cs a ccd cl outer A₀ base h₀ L m s Q E ps B F X N T hkd hroom hun htr hgt hret
  refine wpAny_call ?_
  k_dflt ktr_enter
  refine fold_AE ?_
  intro A9 e9
  (repeat' (first | ((with_reducible refine sb_in ?_); (first | ((with_reducible show wpAny _ _ (compareOp ..) _ _ _); first | (k_here; k_dflt (refine notin_K (by assumption) (by assumption) ?_; k_whole)) | (k_here; k_dflt (refine notin_K (by assumption) (by assumption) ?_; k_whole))) | ((with_reducible show wpAny _ _ (call _ _ _) _ _ _); first | (k_here; k_dflt (refine repl_K (by assumption) (by assumption) ?_; k_whole); intro u'; (try k_sweep)) | (k_here; k_dflt (refine sub_KZ (by k_asm) (by k_asm) (by k_asm) (by k_mem) (by assumption) (by ktr_room) (by ktr_units) ?_; k_whole); intro u' h' tk' F' N'; (try k_sweep)) | (k_here; k_dflt (refine call_append_K (by k_asm) (by k_asm) (by k_mem) (by k_upd) (by (simp only [List.size_toArray]; rw [sizeLine_eq]; omega)) ?_; k_whole); intro h' F' N'; (try k_sweep)) | (k_here; (with_reducible show wpAny _ _ (call (Value.ref _) [Value.str _ _]) _ _ _); k_dflt (refine esc_use (by assumption) (by assumption) (by k_asm) (by k_asm) (by k_asm) (by k_asm) (by k_asm) (by exact rfl) (by ktr_room) (by ktr_units) ?_; k_whole); intro u' h' tk' F' N'; (try k_sweep))) | ((with_reducible show wpAny _ _ (getMethod _ _ _) _ _ _); (k_here; (with_reducible show wpAny _ _ (getMethod (Value.ref 132) _ _) _ _ _); k_dflt (refine gm_sub (by k_asm) (by k_asm) ?_; k_whole))) | ((with_reducible show wpAny _ _ (eval _ _) _ _ _); ((with_reducible show wpAny _ _ (eval (Expr.Lambda ..) _) _ _ _); (k_here; k_dflt (refine lam_K (by k_asm) (by k_asm) (by k_asm) (by k_asm) (by k_updF) (by assumption) (by exact rfl) (by exact rfl) ?_; k_whole); intro f' fd' ps' h' tk' ht' F' N' l1; (try dsimp only at N'); (try k_lt l1); (try k_sweep)))) | ((with_reducible show wpAny _ _ (subscriptTail ..) _ _ _); (k_here; k_dflt (refine last_snoc (by k_asm) (by k_mem) (by (simp only [List.length_append, List.length_cons, List.length_nil] at *; omega)) ?_ (by with_unfolding_all rfl); k_whole))) | ((with_reducible show wpAny _ _ (truthy _) _ _ _); (k_here; k_dflt (refine truthy_snoc (by k_asm) (by k_mem) (by (simp only [List.length_append, List.length_cons, List.length_nil] at *; omega)) ?_; k_whole); intro tk')) | ((with_reducible show wpAny _ _ (callWith ..) _ _ _); (k_here; k_dflt (refine callWith_bound_K (by k_asm) (by k_mem) (by exact rfl) (by exact rfl) ?_; k_whole))) | ((with_reducible show wpAny _ _ (getAttr _ _ _) _ _ _); (k_here; (with_reducible show wpAny _ _ (getAttr (Value.ref _) (Str.ofString "append") true) _ _ _); k_dflt (refine getattr_append_K (by k_asm) (by k_asm) (by k_asm) (by k_mem) (by ktr_room) (by ktr_units) ?_; k_whole); intro q hD tka F' N' d1; (try k_sweep))) | ((have mk9 : Mark9 := .mk); walk1; all_goals (try clear mk9)))) | (k_unfold; (try dsimp only)) | (k_end; kc_close) | walk1 | (dsimp only; walk1) | (leave1; walk_say "STEP leave1"; (try dsimp only)) | fail "no step"))
  rename_i g2 L2 hA FG B2 X2 T2 tk0 l hB l1 hC mA tk1 hE mB tk2 D hF l2 hG hH mC hI mD F2 N2 tk3
  show wpAny _ _ _ _ _ _
  have hq : q ≠ l := fun e => d1 _ (.head _) e.symm
  have hq2 : q ≠ 153 := fun e => d1 _ (.tail _ (.head _)) e.symm
  refine whl_ind (ps := TS.names pat t1 (tk2 + 1 + 1) star l q) (Ld := TS.led news l q) (P := TS.Inv star pat toks) (μ := fun c => c.post.length) ⟨[], toks, [], 0, 0, tk2, ps, true⟩ F2 N2 ?_ ?_ ?_ ?_
  · intro p hp
    simp only [List.mem_cons, List.not_mem_nil, or_false] at hp
    rcases hp with rfl | rfl | rfl | rfl | rfl | rfl <;> rfl
  · exact fun p hp => List.mem_cons_of_mem _ hp
  · exact ⟨htoks, rfl, .nil, htr, hok, (fun h => by simp at h), Nat.zero_le _, rfl⟩
  · clear F2 N2
    rintro ⟨pre, post, vs, n, i, t, ps2, b⟩ u h' tk' e F3 N3 IH
    have e1 : pat.cps.toList = pre.flatMap Tk.txt ++ post.flatMap Tk.txt := And.left e
    have e2 : i = ((pre.flatMap Tk.txt).length : Int) := And.left (And.right e)
    have e3 : TksZ star pre vs := And.left (And.right (And.right e))
    have e4 : TripR ps2.toList := And.left (And.right (And.right (And.right e)))
    have e5 : seqOk b post := And.left (And.right (And.right (And.right (And.right e))))
    have e6 : b = false → ∃ vs₀ x u, vs = vs₀ ++ [.str x u] := And.left (And.right (And.right (And.right (And.right (And.right e)))))
    have e7 : vs.length ≤ 200 := And.left (And.right (And.right (And.right (And.right (And.right (And.right e))))))
    have e8 : pre ++ post = toks := And.right (And.right (And.right (And.right (And.right (And.right (And.right e))))))
    dsimp only [TS.names, TS.led] at F3 N3
    have hoff : OwnOff news [l, 153] := sep2 (fun p hp => ltAll l1.2 p hp) hgt
    cases post with
    | nil =>
      have hl : pat.cps.size = (pre.flatMap Tk.txt).length := by rw [← Array.length_toList, e1]; simp
      have hl2 : (pat.length : Int) = i := by show (pat.cps.size : Int) = _; omega
      have hi0 : 0 ≤ i := by omega
      refine whl_turn (by passes_own) ?_
      (repeat' (first | ((with_reducible refine sb_in ?_); (first | ((with_reducible show wpAny _ _ (compareOp ..) _ _ _); first | (k_here; k_dflt (refine notin_K (by assumption) (by assumption) ?_; k_whole)) | (k_here; k_dflt (refine notin_K (by assumption) (by assumption) ?_; k_whole))) | ((with_reducible show wpAny _ _ (call _ _ _) _ _ _); first | (k_here; k_dflt (refine repl_K (by assumption) (by assumption) ?_; k_whole); intro u'; (try k_sweep)) | (k_here; k_dflt (refine sub_KZ (by k_asm) (by k_asm) (by k_asm) (by k_mem) (by assumption) (by ktr_room) (by ktr_units) ?_; k_whole); intro u' h' tk' F' N'; (try k_sweep)) | (k_here; k_dflt (refine call_append_K (by k_asm) (by k_asm) (by k_mem) (by k_upd) (by (simp only [List.size_toArray]; rw [sizeLine_eq]; omega)) ?_; k_whole); intro h' F' N'; (try k_sweep)) | (k_here; (with_reducible show wpAny _ _ (call (Value.ref _) [Value.str _ _]) _ _ _); k_dflt (refine esc_use (by assumption) (by assumption) (by k_asm) (by k_asm) (by k_asm) (by k_asm) (by k_asm) (by exact rfl) (by ktr_room) (by ktr_units) ?_; k_whole); intro u' h' tk' F' N'; (try k_sweep))) | ((with_reducible show wpAny _ _ (getMethod _ _ _) _ _ _); (k_here; (with_reducible show wpAny _ _ (getMethod (Value.ref 132) _ _) _ _ _); k_dflt (refine gm_sub (by k_asm) (by k_asm) ?_; k_whole))) | ((with_reducible show wpAny _ _ (eval _ _) _ _ _); ((with_reducible show wpAny _ _ (eval (Expr.Lambda ..) _) _ _ _); (k_here; k_dflt (refine lam_K (by k_asm) (by k_asm) (by k_asm) (by k_asm) (by k_updF) (by assumption) (by exact rfl) (by exact rfl) ?_; k_whole); intro f' fd' ps' h' tk' ht' F' N' l1; (try dsimp only at N'); (try k_lt l1); (try k_sweep)))) | ((with_reducible show wpAny _ _ (subscriptTail ..) _ _ _); (k_here; k_dflt (refine last_snoc (by k_asm) (by k_mem) (by (simp only [List.length_append, List.length_cons, List.length_nil] at *; omega)) ?_ (by with_unfolding_all rfl); k_whole))) | ((with_reducible show wpAny _ _ (truthy _) _ _ _); (k_here; k_dflt (refine truthy_snoc (by k_asm) (by k_mem) (by (simp only [List.length_append, List.length_cons, List.length_nil] at *; omega)) ?_; k_whole); intro tk')) | ((with_reducible show wpAny _ _ (callWith ..) _ _ _); (k_here; k_dflt (refine callWith_bound_K (by k_asm) (by k_mem) (by exact rfl) (by exact rfl) ?_; k_whole))) | ((with_reducible show wpAny _ _ (getAttr _ _ _) _ _ _); (k_here; (with_reducible show wpAny _ _ (getAttr (Value.ref _) (Str.ofString "append") true) _ _ _); k_dflt (refine getattr_append_K (by k_asm) (by k_asm) (by k_asm) (by k_mem) (by ktr_room) (by ktr_units) ?_; k_whole); intro q hD tka F' N' d1; (try k_sweep))) | ((have mk9 : Mark9 := .mk); walk1; all_goals (try clear mk9)))) | (k_unfold; (try dsimp only)) | (k_end; kc_close) | walk1 | (dsimp only; walk1) | (leave1; walk_say "STEP leave1"; (try dsimp only)) | fail "no step"))
      · (rename Fr _ _ _ _ => kF)
        (rename News _ _ _ _ => kN)
        refine hret (.ref l) [(l, listOf vs.toArray n)] _ _ ps2 kF (fun p hp => kN p ?_) e4 ?_ ?_ ⟨l, vs, n, rfl, rfl, ?_⟩
        · simp only [List.mem_cons, List.cons_append, List.nil_append] at hp ⊢
          rcases hp with h | h | h
          · exact .inr (.inr (.inl h))
          · exact .inr (.inl h)
          · exact .inr (.inr (.inr h))
        · intro x hx p hp
          rw [List.mem_singleton.mp hx]
          exact ltAll l1.2 p hp
        · intro x hx
          rw [List.mem_singleton.mp hx]
          exact Nat.ne_of_gt l1.1
        · rw [List.append_nil] at e8
          rw [← e8]
          exact e3
      · (rename (i ≠ _) => z)
        exact absurd hl2.symm z
    | cons tk post =>
      cases tk with
      | bare c =>
        have e1' : pat.cps.toList = pre.flatMap Tk.txt ++ c :: post.flatMap Tk.txt := by rw [e1]; rfl
        have e0 : Txt.item pat i = ⟨#[c]⟩ := item_pre e1' e2
        have hc : Bare c := e5.1
        have hl : pat.cps.size = (pre.flatMap Tk.txt).length + (1 + (post.flatMap Tk.txt).length) := by rw [← Array.length_toList, e1']; simp; omega
        have hl2 : (pat.length : Int) = i + 1 + (post.flatMap Tk.txt).length := by show (pat.cps.size : Int) = _; omega
        have hi0 : 0 ≤ i := by omega
        have a1 : (Txt.item pat i == Str.ofString "*") = false := one_not e0 o42 (by unfold Bare at hc; omega)
        have a2 : (Txt.item pat i == Str.ofString "?") = false := one_not e0 (d := 63) (by decide +kernel) (by unfold Bare at hc; omega)
        have a3 : (Txt.item pat i == Str.ofString "[") = false := one_not e0 o91 (by unfold Bare at hc; omega)
        clear e1 hl
        refine whl_turn (by passes_own) ?_
        (repeat' (first | ((with_reducible refine sb_in ?_); (first | ((with_reducible show wpAny _ _ (compareOp ..) _ _ _); first | (k_here; k_dflt (refine notin_K (by assumption) (by assumption) ?_; k_whole)) | (k_here; k_dflt (refine notin_K (by assumption) (by assumption) ?_; k_whole))) | ((with_reducible show wpAny _ _ (call _ _ _) _ _ _); first | (k_here; k_dflt (refine repl_K (by assumption) (by assumption) ?_; k_whole); intro u'; (try k_sweep)) | (k_here; k_dflt (refine sub_KZ (by k_asm) (by k_asm) (by k_asm) (by k_mem) (by assumption) (by ktr_room) (by ktr_units) ?_; k_whole); intro u' h' tk' F' N'; (try k_sweep)) | (k_here; k_dflt (refine call_append_K (by k_asm) (by k_asm) (by k_mem) (by k_upd) (by (simp only [List.size_toArray]; rw [sizeLine_eq]; omega)) ?_; k_whole); intro h' F' N'; (try k_sweep)) | (k_here; (with_reducible show wpAny _ _ (call (Value.ref _) [Value.str _ _]) _ _ _); k_dflt (refine esc_use (by assumption) (by assumption) (by k_asm) (by k_asm) (by k_asm) (by k_asm) (by k_asm) (by exact rfl) (by ktr_room) (by ktr_units) ?_; k_whole); intro u' h' tk' F' N'; (try k_sweep))) | ((with_reducible show wpAny _ _ (getMethod _ _ _) _ _ _); (k_here; (with_reducible show wpAny _ _ (getMethod (Value.ref 132) _ _) _ _ _); k_dflt (refine gm_sub (by k_asm) (by k_asm) ?_; k_whole))) | ((with_reducible show wpAny _ _ (eval _ _) _ _ _); ((with_reducible show wpAny _ _ (eval (Expr.Lambda ..) _) _ _ _); (k_here; k_dflt (refine lam_K (by k_asm) (by k_asm) (by k_asm) (by k_asm) (by k_updF) (by assumption) (by exact rfl) (by exact rfl) ?_; k_whole); intro f' fd' ps' h' tk' ht' F' N' l1; (try dsimp only at N'); (try k_lt l1); (try k_sweep)))) | ((with_reducible show wpAny _ _ (subscriptTail ..) _ _ _); (k_here; k_dflt (refine last_snoc (by k_asm) (by k_mem) (by (simp only [List.length_append, List.length_cons, List.length_nil] at *; omega)) ?_ (by with_unfolding_all rfl); k_whole))) | ((with_reducible show wpAny _ _ (truthy _) _ _ _); (k_here; k_dflt (refine truthy_snoc (by k_asm) (by k_mem) (by (simp only [List.length_append, List.length_cons, List.length_nil] at *; omega)) ?_; k_whole); intro tk')) | ((with_reducible show wpAny _ _ (callWith ..) _ _ _); (k_here; k_dflt (refine callWith_bound_K (by k_asm) (by k_mem) (by exact rfl) (by exact rfl) ?_; k_whole))) | ((with_reducible show wpAny _ _ (getAttr _ _ _) _ _ _); (k_here; (with_reducible show wpAny _ _ (getAttr (Value.ref _) (Str.ofString "append") true) _ _ _); k_dflt (refine getattr_append_K (by k_asm) (by k_asm) (by k_asm) (by k_mem) (by ktr_room) (by ktr_units) ?_; k_whole); intro q hD tka F' N' d1; (try k_sweep))) | ((have mk9 : Mark9 := .mk); walk1; all_goals (try clear mk9)))) | (k_unfold; (try dsimp only)) | (k_end; kc_close) | walk1 | (dsimp only; walk1) | (leave1; walk_say "STEP leave1"; (try dsimp only)) | fail "no step"))
        (rename News _ _ _ _ => N9)
        (rename Fr _ _ _ _ => F9)
        simp only [List.push_toArray] at N9
        refine stop_in (tr_next (pre' := pre ++ [.bare c]) (post' := post) (b' := false) (W := fun h tk => WhlRest _ _ _ _ _ _ _ _ _ 7 { s with heap := h, toks := tk }) IH F9 N9 rfl rfl rfl rfl rfl rfl ?_ ?_)
        · exact Nat.lt_succ_self _
        · exact TS.Inv.step hlen e rfl ⟨_, rfl⟩ e4
      | star =>
        have e1' : pat.cps.toList = pre.flatMap Tk.txt ++ 42 :: post.flatMap Tk.txt := by rw [e1]; rfl
        have e0 : Txt.item pat i = ⟨#[42]⟩ := item_pre e1' e2
        have hl : pat.cps.size = (pre.flatMap Tk.txt).length + (1 + (post.flatMap Tk.txt).length) := by rw [← Array.length_toList, e1']; simp; omega
        have hl2 : (pat.length : Int) = i + 1 + (post.flatMap Tk.txt).length := by show (pat.cps.size : Int) = _; omega
        have hi0 : 0 ≤ i := by omega
        have a1 : (Txt.item pat i == Str.ofString "*") = true := one_is e0 o42 rfl
        obtain ⟨vs₀, x₀, u₀, rfl⟩ := e6 (e5.2.1 rfl)
        clear e1 hl
        refine whl_turn (by passes_own) ?_
        (repeat' (first | ((with_reducible refine sb_in ?_); (first | ((with_reducible show wpAny _ _ (compareOp ..) _ _ _); first | (k_here; k_dflt (refine notin_K (by assumption) (by assumption) ?_; k_whole)) | (k_here; k_dflt (refine notin_K (by assumption) (by assumption) ?_; k_whole))) | ((with_reducible show wpAny _ _ (call _ _ _) _ _ _); first | (k_here; k_dflt (refine repl_K (by assumption) (by assumption) ?_; k_whole); intro u'; (try k_sweep)) | (k_here; k_dflt (refine sub_KZ (by k_asm) (by k_asm) (by k_asm) (by k_mem) (by assumption) (by ktr_room) (by ktr_units) ?_; k_whole); intro u' h' tk' F' N'; (try k_sweep)) | (k_here; k_dflt (refine call_append_K (by k_asm) (by k_asm) (by k_mem) (by k_upd) (by (simp only [List.size_toArray]; rw [sizeLine_eq]; omega)) ?_; k_whole); intro h' F' N'; (try k_sweep)) | (k_here; (with_reducible show wpAny _ _ (call (Value.ref _) [Value.str _ _]) _ _ _); k_dflt (refine esc_use (by assumption) (by assumption) (by k_asm) (by k_asm) (by k_asm) (by k_asm) (by k_asm) (by exact rfl) (by ktr_room) (by ktr_units) ?_; k_whole); intro u' h' tk' F' N'; (try k_sweep))) | ((with_reducible show wpAny _ _ (getMethod _ _ _) _ _ _); (k_here; (with_reducible show wpAny _ _ (getMethod (Value.ref 132) _ _) _ _ _); k_dflt (refine gm_sub (by k_asm) (by k_asm) ?_; k_whole))) | ((with_reducible show wpAny _ _ (eval _ _) _ _ _); ((with_reducible show wpAny _ _ (eval (Expr.Lambda ..) _) _ _ _); (k_here; k_dflt (refine lam_K (by k_asm) (by k_asm) (by k_asm) (by k_asm) (by k_updF) (by assumption) (by exact rfl) (by exact rfl) ?_; k_whole); intro f' fd' ps' h' tk' ht' F' N' l1; (try dsimp only at N'); (try k_lt l1); (try k_sweep)))) | ((with_reducible show wpAny _ _ (subscriptTail ..) _ _ _); (k_here; k_dflt (refine last_snoc (by k_asm) (by k_mem) (by (simp only [List.length_append, List.length_cons, List.length_nil] at *; omega)) ?_ (by with_unfolding_all rfl); k_whole))) | ((with_reducible show wpAny _ _ (truthy _) _ _ _); (k_here; k_dflt (refine truthy_snoc (by k_asm) (by k_mem) (by (simp only [List.length_append, List.length_cons, List.length_nil] at *; omega)) ?_; k_whole); intro tk')) | ((with_reducible show wpAny _ _ (callWith ..) _ _ _); (k_here; k_dflt (refine callWith_bound_K (by k_asm) (by k_mem) (by exact rfl) (by exact rfl) ?_; k_whole))) | ((with_reducible show wpAny _ _ (getAttr _ _ _) _ _ _); (k_here; (with_reducible show wpAny _ _ (getAttr (Value.ref _) (Str.ofString "append") true) _ _ _); k_dflt (refine getattr_append_K (by k_asm) (by k_asm) (by k_asm) (by k_mem) (by ktr_room) (by ktr_units) ?_; k_whole); intro q hD tka F' N' d1; (try k_sweep))) | ((have mk9 : Mark9 := .mk); walk1; all_goals (try clear mk9)))) | (k_unfold; (try dsimp only)) | (k_end; kc_close) | walk1 | (dsimp only; walk1) | (leave1; walk_say "STEP leave1"; (try dsimp only)) | fail "no step"))
        (rename News _ _ _ _ => N9)
        (rename Fr _ _ _ _ => F9)
        simp only [List.push_toArray] at N9
        refine stop_in (tr_next (pre' := pre ++ [.star]) (post' := post) (b' := true) (W := fun h tk => WhlRest _ _ _ _ _ _ _ _ _ 7 { s with heap := h, toks := tk }) IH F9 N9 rfl rfl rfl rfl rfl rfl ?_ ?_)
        · exact Nat.lt_succ_self _
        · exact TS.Inv.step hlen e rfl rfl e4
      | brk c =>
        have e1' : pat.cps.toList = pre.flatMap Tk.txt ++ 91 :: c :: 93 :: post.flatMap Tk.txt := by rw [e1]; rfl
        have e1b : pat.cps.toList = (pre.flatMap Tk.txt ++ [91]) ++ c :: 93 :: post.flatMap Tk.txt := by rw [e1']; simp
        have e1c : pat.cps.toList = (pre.flatMap Tk.txt ++ [91, c]) ++ 93 :: post.flatMap Tk.txt := by rw [e1']; simp
        have e0 : Txt.item pat i = ⟨#[91]⟩ := item_pre e1' e2
        have b1 : Txt.item pat (i + 1) = ⟨#[c]⟩ := item_pre e1b (by simp only [List.length_append, List.length_cons, List.length_nil]; omega)
        have b2 : Txt.item pat (i + 1 + 1) = ⟨#[93]⟩ := item_pre e1c (by simp only [List.length_append, List.length_cons, List.length_nil]; omega)
        have hl : pat.cps.size = (pre.flatMap Tk.txt).length + (3 + (post.flatMap Tk.txt).length) := by rw [← Array.length_toList, e1']; simp; omega
        have hl2 : (pat.length : Int) = i + 3 + (post.flatMap Tk.txt).length := by show (pat.cps.size : Int) = _; omega
        have hi0 : 0 ≤ i := by omega
        have hc : c = 42 ∨ c = 63 ∨ c = 91 := e5.1
        have a1 : (Txt.item pat i == Str.ofString "*") = false := one_not e0 o42 (by decide)
        have a2 : (Txt.item pat i == Str.ofString "?") = false := one_not e0 (d := 63) (by decide +kernel) (by decide)
        have a3 : (Txt.item pat i == Str.ofString "[") = true := one_is e0 o91 rfl
        have a4 : (Txt.item pat (i + 1) == Str.ofString "!") = false := one_not b1 (d := 33) (by decide +kernel) (by omega)
        have a5 : (Txt.item pat (i + 1) == Str.ofString "]") = false := one_not b1 (d := 93) (by decide +kernel) (by omega)
        have a6 : (Txt.item pat (i + 1) != Str.ofString "]") = true := by rw [bne, a5]; rfl
        have a7 : (Txt.item pat (i + 1 + 1) == Str.ofString "]") = true := one_is b2 (d := 93) (by decide +kernel) rfl
        have a8 : (Txt.item pat (i + 1 + 1) != Str.ofString "]") = false := by rw [bne, a7]; rfl
        have s1 : Txt.slice pat (some (i + 1)) (some (i + 1 + 1)) = ⟨#[c]⟩ := slice_sign e1b (by simp only [List.length_append, List.length_cons, List.length_nil]; omega) rfl
        have s4 : Plain4 ⟨#[c]⟩ := one_brk hc
        have c1 : ((⟨#[c]⟩ : Str) == Str.ofString "!") = false := by rw [o33, one_beqZ]; simp; omega
        have c2 : (Txt.item (⟨#[c]⟩ : Str) 0 == Str.ofString "!") = false := by rcases hc with rfl | rfl | rfl <;> decide +kernel
        clear e1 hl e1' e1b e1c
        refine whl_turn (by passes_own) ?_
        (repeat' (first | ((with_reducible refine sb_in ?_); (first | ((with_reducible show wpAny _ _ (compareOp ..) _ _ _); first | (k_here; k_dflt (refine notin_K (by assumption) (by assumption) ?_; k_whole)) | (k_here; k_dflt (refine notin_K (by assumption) (by assumption) ?_; k_whole))) | ((with_reducible show wpAny _ _ (call _ _ _) _ _ _); first | (k_here; k_dflt (refine repl_K (by assumption) (by assumption) ?_; k_whole); intro u'; (try k_sweep)) | (k_here; k_dflt (refine sub_KZ (by k_asm) (by k_asm) (by k_asm) (by k_mem) (by assumption) (by ktr_room) (by ktr_units) ?_; k_whole); intro u' h' tk' F' N'; (try k_sweep)) | (k_here; k_dflt (refine call_append_K (by k_asm) (by k_asm) (by k_mem) (by k_upd) (by (simp only [List.size_toArray]; rw [sizeLine_eq]; omega)) ?_; k_whole); intro h' F' N'; (try k_sweep)) | (k_here; (with_reducible show wpAny _ _ (call (Value.ref _) [Value.str _ _]) _ _ _); k_dflt (refine esc_use (by assumption) (by assumption) (by k_asm) (by k_asm) (by k_asm) (by k_asm) (by k_asm) (by exact rfl) (by ktr_room) (by ktr_units) ?_; k_whole); intro u' h' tk' F' N'; (try k_sweep))) | ((with_reducible show wpAny _ _ (getMethod _ _ _) _ _ _); (k_here; (with_reducible show wpAny _ _ (getMethod (Value.ref 132) _ _) _ _ _); k_dflt (refine gm_sub (by k_asm) (by k_asm) ?_; k_whole))) | ((with_reducible show wpAny _ _ (eval _ _) _ _ _); ((with_reducible show wpAny _ _ (eval (Expr.Lambda ..) _) _ _ _); (k_here; k_dflt (refine lam_K (by k_asm) (by k_asm) (by k_asm) (by k_asm) (by k_updF) (by assumption) (by exact rfl) (by exact rfl) ?_; k_whole); intro f' fd' ps' h' tk' ht' F' N' l1; (try dsimp only at N'); (try k_lt l1); (try k_sweep)))) | ((with_reducible show wpAny _ _ (subscriptTail ..) _ _ _); (k_here; k_dflt (refine last_snoc (by k_asm) (by k_mem) (by (simp only [List.length_append, List.length_cons, List.length_nil] at *; omega)) ?_ (by with_unfolding_all rfl); k_whole))) | ((with_reducible show wpAny _ _ (truthy _) _ _ _); (k_here; k_dflt (refine truthy_snoc (by k_asm) (by k_mem) (by (simp only [List.length_append, List.length_cons, List.length_nil] at *; omega)) ?_; k_whole); intro tk')) | ((with_reducible show wpAny _ _ (callWith ..) _ _ _); (k_here; k_dflt (refine callWith_bound_K (by k_asm) (by k_mem) (by exact rfl) (by exact rfl) ?_; k_whole))) | ((with_reducible show wpAny _ _ (getAttr _ _ _) _ _ _); (k_here; (with_reducible show wpAny _ _ (getAttr (Value.ref _) (Str.ofString "append") true) _ _ _); k_dflt (refine getattr_append_K (by k_asm) (by k_asm) (by k_asm) (by k_mem) (by ktr_room) (by ktr_units) ?_; k_whole); intro q hD tka F' N' d1; (try k_sweep))) | ((have mk9 : Mark9 := .mk); walk1; all_goals (try clear mk9)))) | (k_unfold; (try dsimp only)) | (k_end; kc_close) | walk1 | (dsimp only; walk1) | (leave1; walk_say "STEP leave1"; (try dsimp only)) | fail "no step"))
        · (rename News _ _ _ _ => N9)
          (rename Fr _ _ _ _ => F9)
          (rename TripR _ => ht9)
          (rename (List.any _ _ = true) => a9)
          simp only [List.push_toArray] at N9
          refine stop_in (tr_next (pre' := pre ++ [.brk c]) (post' := post) (b' := false) (W := fun h tk => WhlRest _ _ _ _ _ _ _ _ _ 7 { s with heap := h, toks := tk }) IH F9 (fun p hp => N9 p (.tail _ (.tail _ hp))) rfl rfl rfl rfl rfl rfl ?_ ?_)
          · exact Nat.lt_succ_self _
          · exact TS.Inv.step hlen e (by show _ = i + 3; omega) (tkIs_str rfl (brk_v1 hc a9)) ht9
        · (rename News _ _ _ _ => N9)
          (rename Fr _ _ _ _ => F9)
          (rename TripR _ => ht9)
          (rename (List.any _ _ = false) => a9)
          simp only [List.push_toArray] at N9
          refine stop_in (tr_next (pre' := pre ++ [.brk c]) (post' := post) (b' := false) (W := fun h tk => WhlRest _ _ _ _ _ _ _ _ _ 7 { s with heap := h, toks := tk }) IH F9 (fun p hp => N9 p (.tail _ (.tail _ hp))) rfl rfl rfl rfl rfl rfl ?_ ?_)
          · exact Nat.lt_succ_self _
          · exact TS.Inv.step hlen e (by show _ = i + 3; omega) (tkIs_str rfl (brk_v2 hc a9)) ht9
        · (rename (((⟨#[c]⟩ : Str).length : Int) = 0) => z9)
          exact absurd (show ((1 : Nat) : Int) = 0 from z9) (by decide)
      | nsl =>
        have e1' : pat.cps.toList = pre.flatMap Tk.txt ++ 91 :: 33 :: 47 :: 93 :: post.flatMap Tk.txt := by rw [e1]; rfl
        have e1b : pat.cps.toList = (pre.flatMap Tk.txt ++ [91]) ++ 33 :: 47 :: 93 :: post.flatMap Tk.txt := by rw [e1']; simp
        have e1c : pat.cps.toList = (pre.flatMap Tk.txt ++ [91, 33]) ++ 47 :: 93 :: post.flatMap Tk.txt := by rw [e1']; simp
        have e1d : pat.cps.toList = (pre.flatMap Tk.txt ++ [91, 33, 47]) ++ 93 :: post.flatMap Tk.txt := by rw [e1']; simp
        have e0 : Txt.item pat i = ⟨#[91]⟩ := item_pre e1' e2
        have b1 : Txt.item pat (i + 1) = ⟨#[33]⟩ := item_pre e1b (by simp only [List.length_append, List.length_cons, List.length_nil]; omega)
        have b2 : Txt.item pat (i + 1 + 1) = ⟨#[47]⟩ := item_pre e1c (by simp only [List.length_append, List.length_cons, List.length_nil]; omega)
        have b3 : Txt.item pat (i + 1 + 1 + 1) = ⟨#[93]⟩ := item_pre e1d (by simp only [List.length_append, List.length_cons, List.length_nil]; omega)
        have hl : pat.cps.size = (pre.flatMap Tk.txt).length + (4 + (post.flatMap Tk.txt).length) := by rw [← Array.length_toList, e1']; simp; omega
        have hl2 : (pat.length : Int) = i + 4 + (post.flatMap Tk.txt).length := by show (pat.cps.size : Int) = _; omega
        have hi0 : 0 ≤ i := by omega
        have a1 : (Txt.item pat i == Str.ofString "*") = false := one_not e0 o42 (by decide)
        have a2 : (Txt.item pat i == Str.ofString "?") = false := one_not e0 o63 (by decide)
        have a3 : (Txt.item pat i == Str.ofString "[") = true := one_is e0 o91 rfl
        have a4 : (Txt.item pat (i + 1) == Str.ofString "!") = true := one_is b1 o33 rfl
        have a5 : (Txt.item pat (i + 1 + 1) == Str.ofString "]") = false := one_not b2 o93 (by omega)
        have a6 : (Txt.item pat (i + 1 + 1) != Str.ofString "]") = true := by rw [bne, a5]; rfl
        have a7 : (Txt.item pat (i + 1 + 1 + 1) == Str.ofString "]") = true := one_is b3 o93 rfl
        have a8 : (Txt.item pat (i + 1 + 1 + 1) != Str.ofString "]") = false := by rw [bne, a7]; rfl
        have s1 : Txt.slice pat (some (i + 1)) (some (i + 1 + 1 + 1)) = Str.ofString "!/" := (slice_two e1b (by simp only [List.length_append, List.length_cons, List.length_nil]; omega) rfl).trans (by decide +kernel)
        have s4 : Plain4 (Str.ofString "!/") := .inr (.inr (.inr rfl))
        have c1 : (Str.ofString "!/" == Str.ofString "!") = false := by decide +kernel
        have c2 : (Txt.item (Str.ofString "!/") 0 == Str.ofString "!") = true := by decide +kernel
        clear e1 hl e1' e1b e1c e1d
        refine whl_turn (by passes_own) ?_
        (repeat' (first | ((with_reducible refine sb_in ?_); (first | ((with_reducible show wpAny _ _ (compareOp ..) _ _ _); first | (k_here; k_dflt (refine notin_K (by assumption) (by assumption) ?_; k_whole)) | (k_here; k_dflt (refine notin_K (by assumption) (by assumption) ?_; k_whole))) | ((with_reducible show wpAny _ _ (call _ _ _) _ _ _); first | (k_here; k_dflt (refine repl_K (by assumption) (by assumption) ?_; k_whole); intro u'; (try k_sweep)) | (k_here; k_dflt (refine sub_KZ (by k_asm) (by k_asm) (by k_asm) (by k_mem) (by assumption) (by ktr_room) (by ktr_units) ?_; k_whole); intro u' h' tk' F' N'; (try k_sweep)) | (k_here; k_dflt (refine call_append_K (by k_asm) (by k_asm) (by k_mem) (by k_upd) (by (simp only [List.size_toArray]; rw [sizeLine_eq]; omega)) ?_; k_whole); intro h' F' N'; (try k_sweep)) | (k_here; (with_reducible show wpAny _ _ (call (Value.ref _) [Value.str _ _]) _ _ _); k_dflt (refine esc_use (by assumption) (by assumption) (by k_asm) (by k_asm) (by k_asm) (by k_asm) (by k_asm) (by exact rfl) (by ktr_room) (by ktr_units) ?_; k_whole); intro u' h' tk' F' N'; (try k_sweep))) | ((with_reducible show wpAny _ _ (getMethod _ _ _) _ _ _); (k_here; (with_reducible show wpAny _ _ (getMethod (Value.ref 132) _ _) _ _ _); k_dflt (refine gm_sub (by k_asm) (by k_asm) ?_; k_whole))) | ((with_reducible show wpAny _ _ (eval _ _) _ _ _); ((with_reducible show wpAny _ _ (eval (Expr.Lambda ..) _) _ _ _); (k_here; k_dflt (refine lam_K (by k_asm) (by k_asm) (by k_asm) (by k_asm) (by k_updF) (by assumption) (by exact rfl) (by exact rfl) ?_; k_whole); intro f' fd' ps' h' tk' ht' F' N' l1; (try dsimp only at N'); (try k_lt l1); (try k_sweep)))) | ((with_reducible show wpAny _ _ (subscriptTail ..) _ _ _); (k_here; k_dflt (refine last_snoc (by k_asm) (by k_mem) (by (simp only [List.length_append, List.length_cons, List.length_nil] at *; omega)) ?_ (by with_unfolding_all rfl); k_whole))) | ((with_reducible show wpAny _ _ (truthy _) _ _ _); (k_here; k_dflt (refine truthy_snoc (by k_asm) (by k_mem) (by (simp only [List.length_append, List.length_cons, List.length_nil] at *; omega)) ?_; k_whole); intro tk')) | ((with_reducible show wpAny _ _ (callWith ..) _ _ _); (k_here; k_dflt (refine callWith_bound_K (by k_asm) (by k_mem) (by exact rfl) (by exact rfl) ?_; k_whole))) | ((with_reducible show wpAny _ _ (getAttr _ _ _) _ _ _); (k_here; (with_reducible show wpAny _ _ (getAttr (Value.ref _) (Str.ofString "append") true) _ _ _); k_dflt (refine getattr_append_K (by k_asm) (by k_asm) (by k_asm) (by k_mem) (by ktr_room) (by ktr_units) ?_; k_whole); intro q hD tka F' N' d1; (try k_sweep))) | ((have mk9 : Mark9 := .mk); walk1; all_goals (try clear mk9)))) | (k_unfold; (try dsimp only)) | (k_end; kc_close) | walk1 | (dsimp only; walk1) | (leave1; walk_say "STEP leave1"; (try dsimp only)) | fail "no step"))
        · (rename News _ _ _ _ => N9)
          (rename Fr _ _ _ _ => F9)
          (rename TripR _ => ht9)
          simp only [List.push_toArray] at N9
          refine stop_in (tr_next (pre' := pre ++ [.nsl]) (post' := post) (b' := false) (W := fun h tk => WhlRest _ _ _ _ _ _ _ _ _ 7 { s with heap := h, toks := tk }) IH F9 (fun p hp => N9 p (.tail _ hp)) rfl rfl rfl rfl rfl rfl ?_ ?_)
          · exact Nat.lt_succ_self _
          · exact TS.Inv.step hlen e (by show _ = i + 4; omega) (tkIs_str rfl nsl_v) ht9
end Mine
end

section -- MJo
open PySem PySem.W PyProof.Rows PySem.Calls
set_option Elab.async false
set_option maxRecDepth 100000
set_option maxHeartbeats 8000000
namespace Mine
noncomputable abbrev sv (p : Str × Tok) : Value := .str p.1 p.2
theorem svs_are : ∀ xs : List (Str × Tok), StrsAre (xs.map sv) (xs.map (·.1))
  | [] => .nil
  | _ :: r => .cons _ _ (svs_are r)
theorem svs_snoc {vs : List Value} {ys : List Str} {y : Str} {t : Tok} (h : StrsAre vs ys) : StrsAre (vs ++ [.str y t]) (ys ++ [y]) := by
  induction h with
  | nil => exact .cons _ _ .nil
  | cons y' t' _ ih => exact .cons y' t' ih
section
variable {prog : Program} {w : World} {A : Around} {s : Shared} {E : Value → Shared → Prop} {h₀ : Heap} {L : Addr} {news : Led}
theorem item_K {l : Addr} {its : Array Value} {n : Nat} {k : Int} {t : Tok} {v : Value} {value slice : Expr} {Q : Value → Shared → Prop} (N : News h₀ L s.heap news) (hm : (l, listOf its n) ∈ news) (h0 : 0 ≤ k) (hb : k < 100000) (hx : its[k.toNat]? = some v) (h : Q v s)
    (hs : subscripted slice false (.ref l) (.int k t) = operate [.ref l, .int k t] (getItem (.ref l) (.int k t)) := by with_unfolding_all rfl) : wpAny (model prog w) A (subscriptTail value slice (.ref l) (.int k t)) Q E s := by
  have hl : s.heap.IsList l its := N.isList hm
  exact tail_any hl.typeIs slot_list_getitem.lookup (wpAny_getItem_list hl h0 (by omega) hx h) hs
theorem len_KZ {l : Addr} {its : Array Value} {n : Nat} {k : Int} {Q : Value → Shared → Prop} (N : News h₀ L s.heap news) (hm : (l, listOf its n) ∈ news) (hk : (its.size : Int) = k) (hb : k < 100000) (h : ∀ t tk, Q (.int k t) { s with toks := tk }) : wpAny (model prog w) A (call (.builtin "len") [.ref l]) Q E s := by
  subst hk
  exact len_list (N.isList hm) (by omega) (h _ _)
theorem join_K {l : Addr} {its : Array Value} {ys : List Str} {n : Nat} {x z : Str} {t : Tok} {Q : Value → Shared → Prop} (N : News h₀ L s.heap news) (hm : (l, listOf its n) ∈ news) (hi : StrsAre its.toList ys) (hx : x.length ≤ 16) (hw : (ys.map (·.length)).sum + ys.length ≤ 1048576) (hz : Txt.join x ys = z)
    (h : ∀ t' k, Q (.str z t') { s with toks := k }) : wpAny (model prog w) A (call (.builtin "str.join") [.str x t, .ref l]) Q E s := by
  subst hz
  exact join_listW (N.isList hm) hi hx hw h
theorem eq_yes {a b : Int} {t u : Tok} {Q : Value → Shared → Prop} (e : a = b) (h : Q (.bool true) s) : wpAny (model prog w) A (compareOp .Eq (.int a t) (.int b u)) Q E s := eq_int (by rw [beq_iff_eq.mpr e]; exact h)
theorem eq_no {a b : Int} {t u : Tok} {Q : Value → Shared → Prop} (e : a ≠ b) (h : Q (.bool false) s) : wpAny (model prog w) A (compareOp .Eq (.int a t) (.int b u)) Q E s := eq_int (by rw [beq_eq_false_iff_ne.mpr e]; exact h)
end
theorem join_oneZ (y : Str) : Txt.join (Str.ofString "") (([] : List Str) ++ [y]) = y := by rw [o0]; rfl
end Mine
end

section -- MJoin
open PySem PySem.W PyProof.Rows PySem.Calls
set_option Elab.async false
set_option maxRecDepth 100000
set_option maxHeartbeats 8000000
namespace Mine
theorem flush_MJoin : True := by w_top off; first | walk1 | trivial
noncomputable def Mark1 : Prop := True
structure JS where
  pre : List (Str × Tok)
  post : List (Str × Tok)
  n : Nat
  t : Tok
noncomputable abbrev JS.names (l star r q : Addr) (k : Int) (tn : Tok) (c : JS) : List (Str × Value) := [(Str.ofString "inp", .ref l), (Str.ofString "STAR", .ref star), (Str.ofString "res", .ref r), (Str.ofString "add", .ref q), (Str.ofString "i", .int c.pre.length c.t), (Str.ofString "n", .int k tn)]
noncomputable abbrev JS.led (news : Led) (r q : Addr) (c : JS) : Led := (q, boundOf "list.append" (.ref r)) :: (r, listOf (c.pre.map sv).toArray c.n) :: news
noncomputable def JS.Inv (xs : List (Str × Tok)) (c : JS) : Prop := c.pre ++ c.post = xs
theorem jn_next {l star r q L : Addr} {news : Led} {g h' : Heap} {tk' : Nat} {W : Heap → Nat → Prop} {b : Nat} {kn : Int} {tn t' : Tok} {m' : Str → Option Value} {xs pre' post' : List (Str × Tok)} {its : List Value} {n' : Nat} {k : Int}
    (IH : ∀ (c' : JS) h' tk' m' news', c'.post.length < b → JS.Inv xs c' → Fr g L h' m' → News g L h' news' → (∀ p ∈ c'.names l star r q kn tn, m' p.1 = some p.2) → (∀ p ∈ c'.led news r q, p ∈ news') → W h' tk')
    (F9 : Fr g L h' m') (N9 : News g L h' ((q, boundOf "list.append" (.ref r)) :: (r, listOf its.toArray n') :: news))
    (h1 : m' (Str.ofString "inp") = some (.ref l)) (h2 : m' (Str.ofString "STAR") = some (.ref star)) (h3 : m' (Str.ofString "res") = some (.ref r)) (h4 : m' (Str.ofString "add") = some (.ref q)) (h5 : m' (Str.ofString "i") = some (.int k t')) (h6 : m' (Str.ofString "n") = some (.int kn tn))
    (hk : k = pre'.length) (hi : its = pre'.map sv) (hb : post'.length < b) (hx : pre' ++ post' = xs) : W h' tk' := by
  subst hk hi
  exact IH ⟨pre', post', n', t'⟩ h' tk' m' _ hb hx F9 N9 (all6 h1 h2 h3 h4 h5 h6) fun _ hp => hp
local macro_rules | `(tactic| walk_at "exec While BoolOp") => `(tactic| (k_here; k_dflt (refine whl_start 100 ?_)))
local macro_rules | `(tactic| walk_at "exec While BoolOp") => `(tactic| (k_here; ((with_reducible rename Mark1 => mk1); clear mk1; refine stop_out ?_)))
local macro_rules | `(tactic| walk_at "exec While Compare") => `(tactic| (k_here; k_dflt (refine whl_start 100 ?_)))
local macro_rules
  | `(tactic| walk_at $k:str) => if ["getAttr ref", "callWith ref", "call ref", "subscriptTail Name Name ref int", "call builtin:str.join", "compareOp Eq int int", "call builtin:len"].contains k.getString then `(tactic| ((fail_if_success (with_reducible rename Mark9 => mz)); refine sb_out ?_)) else Lean.Macro.throwUnsupported
local macro_rules | `(tactic| walk_at "WhlPost") => `(tactic| ((with_reducible show WhlPost _ _ _ _ _ _ _ _ _ 7 _ _); (dsimp only [WhlPost]); refine stop_out ?_))
local macro_rules | `(tactic| walk_at "WhlIf") => `(tactic| (first | (refine WhlIf.yes (by assumption) ?_) | (refine WhlIf.no (by assumption) ?_) | (refine WhlIf.yes (by (simp only [decide_eq_true_eq]; omega)) ?_) | (refine WhlIf.no (by (simp only [decide_eq_false_iff_not]; omega)) ?_)))
local macro_rules | `(tactic| walk_at "Eq") => `(tactic| exact News.get (by assumption) (by k_mem))
local macro_rules | `(tactic| walk_at "compareOp IsNot") => `(tactic| (k_here; with_reducible refine isnot_str_ref ?_))
local macro_rules | `(tactic| walk_at "compareOp IsNot") => `(tactic| (k_here; with_reducible refine isnot_ref_same ?_))
theorem join_core {w : World} {l star : Addr} {so : Obj} {news : Led} {vs : List Value} {xs : List (Str × Tok)} {y : Str} {uy : Tok} {n : Nat} (hstar : (star, so) ∈ news) (hl : (l, listOf vs.toArray n) ∈ news) (hv : vs = xs.map sv ++ [.ref star, .str y uy, .ref star]) (hlen : xs.length ≤ 200)
   (hw1 : ((([] : List Str) ++ [y]).map (·.length)).sum + (([] : List Str) ++ [y]).length ≤ 1048576) {z : Str}
   (hz : Txt.join (Str.ofString "") ((xs.map (·.1) ++ [Str.empty ++ Str.ofString "(?>.*?" ++ y ++ Str.ofString ")"]) ++ [Str.ofString ".*"]) = z) (hw2 : (((xs.map (·.1) ++ [Str.empty ++ Str.ofString "(?>.*?" ++ y ++ Str.ofString ")"]) ++ [Str.ofString ".*"]).map (·.length)).sum + ((xs.map (·.1) ++ [Str.empty ++ Str.ofString "(?>.*?" ++ y ++ Str.ofString ")"]) ++ [Str.ofString ".*"]).length ≤ 1048576) (hzl : z.length ≤ 100000) (hyl : y.length ≤ 100) :
   Con w 165 [.ref l, .ref star] 4 60 news (fun r _ => ∃ u, r = .str (Str.empty ++ Str.ofString "(?s:" ++ z ++ Str.ofString ")\\Z") u) := by
  delta Con P0
  k_fill
  intro p loose mean mg mb dp un gd cn cs a ccd cl outer A₀ base h₀ L m s Q E B F X N T hkd hroom hun hret
  have hsz : vs.length = xs.length + 3 := by rw [hv]; simp
  have hsz2 : ((vs.toArray.size : Nat) : Int) = (xs.length : Int) + 3 := by rw [List.size_toArray, hsz]; rfl
  have hj := join_oneZ y
  have hmk : Mark1 := trivial
  refine wpAny_call ?_
  k_dflt ktr_enter
  refine fold_AE ?_
  intro A9 e9
  (repeat' (first | ((with_reducible refine sb_in ?_); (first | ((with_reducible show wpAny _ _ (call _ _ _) _ _ _); first | (k_here; k_dflt (refine len_KZ (by k_asm) (by (first | k_mem | (repeat (first | assumption | refine List.Mem.tail _ ?_)))) (by assumption) (by omega) ?_; k_whole); intro tn tk3; (try k_sweep)) | (k_here; k_dflt (refine join_K (by k_asm) (by k_mem) (by first | exact svs_snoc .nil | (simp only [Array.toList_push, List.toList_toArray]; exact svs_snoc (svs_snoc (svs_are _)))) (by decide +kernel) (by assumption) (by assumption) ?_; k_whole); intro t' tk') | (k_here; k_dflt (refine call_append_K (by k_asm) (by k_asm) (by k_mem) (by k_upd) (by (simp only [List.size_toArray, Array.size_push, List.length_map]; rw [sizeLine_eq]; omega)) ?_; k_whole); intro h' F' N'; (try k_sweep))) | ((with_reducible show wpAny _ _ (compareOp ..) _ _ _); (k_here; (first | (with_reducible refine eq_yes (by omega) ?_) | (with_reducible refine eq_no (by omega) ?_)))) | ((with_reducible show wpAny _ _ (subscriptTail ..) _ _ _); (k_here; k_dflt (refine item_K (by k_asm) (by (first | k_mem | (repeat (first | assumption | refine List.Mem.tail _ ?_)))) (by omega) (by omega) (by assumption) ?_ (by with_unfolding_all rfl); k_whole))) | ((with_reducible show wpAny _ _ (callWith ..) _ _ _); (k_here; k_dflt (refine callWith_bound_K (by k_asm) (by k_mem) (by exact rfl) (by exact rfl) ?_; k_whole))) | ((with_reducible show wpAny _ _ (getAttr _ _ _) _ _ _); (k_here; (with_reducible show wpAny _ _ (getAttr (Value.ref _) (Str.ofString "append") true) _ _ _); k_dflt (refine getattr_append_K (by k_asm) (by k_asm) (by k_asm) (by k_mem) (by ktr_room) (by ktr_units) ?_; k_whole); intro q hD tk2 F' N' d1; (try k_sweep))) | ((have mk9 : Mark9 := .mk); walk1; all_goals (try clear mk9)))) | (k_unfold; (try dsimp only)) | (k_end; kc_close) | walk1 | (dsimp only; walk1) | (leave1; walk_say "STEP leave1"; (try dsimp only)) | fail "no step"))
  rename_i g2 L2 hA FG B2 X2 T2 tk0 r hB l1 hC mA tk1 hE mB tkb D hF l2 hG hH mC hI mD F2 N2 tk9
  show wpAny _ _ _ _ _ _
  have hq : q ≠ r := fun e => d1 _ (.head _) e.symm
  have hoff : OwnOff news [r] := by
    intro p hp b hb e
    rw [List.mem_singleton.mp hb] at e
    exact absurd (l1 p hp) (e ▸ Nat.lt_irrefl _)
  refine whl_ind (ps := JS.names l star r q ((xs.length : Int) + 3) tn) (Ld := JS.led news r q) (P := JS.Inv xs) (μ := fun c => c.post.length) ⟨[], xs, 0, tkb⟩ F2 N2 ?_ ?_ ?_ ?_
  · intro p hp
    simp only [List.mem_cons, List.not_mem_nil, or_false] at hp
    rcases hp with rfl | rfl | rfl | rfl | rfl | rfl <;> rfl
  · exact fun p hp => List.mem_cons_of_mem _ hp
  · exact rfl
  · clear F2 N2
    rintro ⟨pre, post, n2, t⟩ u h' tk' e1 F3 N3 IH
    have e1' : pre ++ post = xs := e1
    simp only [JS.names, JS.led] at F3 N3
    clear l2
    cases post with
    | nil =>
      rw [List.append_nil] at e1'
      subst e1'
      have x1 : vs.toArray[((pre.length : Int)).toNat]? = some (.ref star) := by rw [hv]; simp
      have x2 : vs.toArray[((pre.length : Int) + 1).toNat]? = some (.str y uy) := by
        rw [show ((pre.length : Int) + 1).toNat = pre.length + 1 by omega, hv]; simp
      have x3 : vs.toArray[((pre.length : Int) + 1 + 1).toNat]? = some (.ref star) := by
        rw [show ((pre.length : Int) + 1 + 1).toNat = pre.length + 2 by omega, hv]; simp
      refine whl_turn (by passes_own) ?_
      (repeat' (first | ((with_reducible refine sb_in ?_); (first | ((with_reducible show wpAny _ _ (call _ _ _) _ _ _); first | (k_here; k_dflt (refine len_KZ (by k_asm) (by (first | k_mem | (repeat (first | assumption | refine List.Mem.tail _ ?_)))) (by assumption) (by omega) ?_; k_whole); intro tn tk3; (try k_sweep)) | (k_here; k_dflt (refine join_K (by k_asm) (by k_mem) (by first | exact svs_snoc .nil | (simp only [Array.toList_push, List.toList_toArray]; exact svs_snoc (svs_snoc (svs_are _)))) (by decide +kernel) (by assumption) (by assumption) ?_; k_whole); intro t' tk') | (k_here; k_dflt (refine call_append_K (by k_asm) (by k_asm) (by k_mem) (by k_upd) (by (simp only [List.size_toArray, Array.size_push, List.length_map]; rw [sizeLine_eq]; omega)) ?_; k_whole); intro h' F' N'; (try k_sweep))) | ((with_reducible show wpAny _ _ (compareOp ..) _ _ _); (k_here; (first | (with_reducible refine eq_yes (by omega) ?_) | (with_reducible refine eq_no (by omega) ?_)))) | ((with_reducible show wpAny _ _ (subscriptTail ..) _ _ _); (k_here; k_dflt (refine item_K (by k_asm) (by (first | k_mem | (repeat (first | assumption | refine List.Mem.tail _ ?_)))) (by omega) (by omega) (by assumption) ?_ (by with_unfolding_all rfl); k_whole))) | ((with_reducible show wpAny _ _ (callWith ..) _ _ _); (k_here; k_dflt (refine callWith_bound_K (by k_asm) (by k_mem) (by exact rfl) (by exact rfl) ?_; k_whole))) | ((with_reducible show wpAny _ _ (getAttr _ _ _) _ _ _); (k_here; (with_reducible show wpAny _ _ (getAttr (Value.ref _) (Str.ofString "append") true) _ _ _); k_dflt (refine getattr_append_K (by k_asm) (by k_asm) (by k_asm) (by k_mem) (by ktr_room) (by ktr_units) ?_; k_whole); intro q hD tk2 F' N' d1; (try k_sweep))) | ((have mk9 : Mark9 := .mk); walk1; all_goals (try clear mk9)))) | (k_unfold; (try dsimp only)) | (k_end; kc_close) | walk1 | (dsimp only; walk1) | (leave1; walk_say "STEP leave1"; (try dsimp only)) | fail "no step"))
      (rename Fr _ _ _ _ => kF)
      (rename News _ _ _ _ => kN)
      exact hret _ [] _ _ kF (fun p hp => kN p (by repeat (first | exact hp | refine List.Mem.tail _ ?_))) (fun _ h => nomatch h) ⟨_, rfl⟩
    | cons x0 post =>
      have hl9 : xs.length = pre.length + (post.length + 1) := by rw [← e1']; simp
      have x1 : vs.toArray[((pre.length : Int)).toNat]? = some (sv x0) := by
        rw [hv, ← e1']; simp
      refine whl_turn (by passes_own) ?_
      (repeat' (first | ((with_reducible refine sb_in ?_); (first | ((with_reducible show wpAny _ _ (call _ _ _) _ _ _); first | (k_here; k_dflt (refine len_KZ (by k_asm) (by (first | k_mem | (repeat (first | assumption | refine List.Mem.tail _ ?_)))) (by assumption) (by omega) ?_; k_whole); intro tn tk3; (try k_sweep)) | (k_here; k_dflt (refine join_K (by k_asm) (by k_mem) (by first | exact svs_snoc .nil | (simp only [Array.toList_push, List.toList_toArray]; exact svs_snoc (svs_snoc (svs_are _)))) (by decide +kernel) (by assumption) (by assumption) ?_; k_whole); intro t' tk') | (k_here; k_dflt (refine call_append_K (by k_asm) (by k_asm) (by k_mem) (by k_upd) (by (simp only [List.size_toArray, Array.size_push, List.length_map]; rw [sizeLine_eq]; omega)) ?_; k_whole); intro h' F' N'; (try k_sweep))) | ((with_reducible show wpAny _ _ (compareOp ..) _ _ _); (k_here; (first | (with_reducible refine eq_yes (by omega) ?_) | (with_reducible refine eq_no (by omega) ?_)))) | ((with_reducible show wpAny _ _ (subscriptTail ..) _ _ _); (k_here; k_dflt (refine item_K (by k_asm) (by (first | k_mem | (repeat (first | assumption | refine List.Mem.tail _ ?_)))) (by omega) (by omega) (by assumption) ?_ (by with_unfolding_all rfl); k_whole))) | ((with_reducible show wpAny _ _ (callWith ..) _ _ _); (k_here; k_dflt (refine callWith_bound_K (by k_asm) (by k_mem) (by exact rfl) (by exact rfl) ?_; k_whole))) | ((with_reducible show wpAny _ _ (getAttr _ _ _) _ _ _); (k_here; (with_reducible show wpAny _ _ (getAttr (Value.ref _) (Str.ofString "append") true) _ _ _); k_dflt (refine getattr_append_K (by k_asm) (by k_asm) (by k_asm) (by k_mem) (by ktr_room) (by ktr_units) ?_; k_whole); intro q hD tk2 F' N' d1; (try k_sweep))) | ((have mk9 : Mark9 := .mk); walk1; all_goals (try clear mk9)))) | (k_unfold; (try dsimp only)) | (k_end; kc_close) | walk1 | (dsimp only; walk1) | (leave1; walk_say "STEP leave1"; (try dsimp only)) | fail "no step"))
      (rename News _ _ _ _ => N9)
      (rename Fr _ _ _ _ => F9)
      simp only [List.push_toArray] at N9
      refine stop_in (jn_next (pre' := pre ++ [x0]) (post' := post) (W := fun h tk => WhlRest _ _ _ _ _ _ _ _ _ 7 { s with heap := h, toks := tk }) IH F9 N9 rfl rfl rfl rfl rfl rfl ?_ ?_ ?_ ?_)
      · simp
      · simp
      · exact Nat.lt_succ_self _
      · rw [← e1']; simp
end Mine
end

section -- MTxt
open PySem PySem.W PyProof.Rows PySem.Calls PySem.W.X
set_option Elab.async false
set_option maxRecDepth 100000
set_option maxHeartbeats 8000000
namespace Mine
noncomputable def XNewE (s : Shared) (Q : Value → Shared → Prop) (c : Value) : Prop := ∀ q o h' tk', (∀ b o, s.heap.get? b = some o → h'.get? b = some o) → h'.get? q = some o → o.cls = c → s.heap.get? q = none → Q (.ref q) { s with heap := h', toks := tk' }
local macro_rules | `(tactic| x_close) => `(tactic| ((rename XNewE _ _ _ => hz); (rename Mem _ _ _ _ => hD); exact hz _ _ _ _ (xkeep hD) (Mem.nw hD _ (.head _)).1 rfl (Mem.nw hD _ (.head _)).2))
theorem obj_call : ∀ {w : World} {dp un : Nat} {gd : Option (List Code)} {cn : Str} {cs : Scope} {L a : Addr} {ccd : Value} {cl : List (Str × Addr)} {outer : List Env} {s : Shared} {Q E : Value → Shared → Prop} (_X : (Mine.heapK w.params).In s.heap) (_hroom : dp < recursionLimit) (_hun : un + 20 < cLine)
  (_h : XNewE s Q (.type "object")),
    wpAny (model (Challenge.rw_ij0104_01.row.toRowW.prog) w) (ktrTop dp un gd cn cs L a ccd cl outer) (call (.type "object") []) Q E s := by
  k_fill
  intros
  x_run
theorem obj_K {w : World} {dp un : Nat} {gd : Option (List Code)} {cn : Str} {cs : Scope} {L L' a : Addr} {ccd : Value} {cl : List (Str × Addr)} {outer : List Env} {s : Shared} {Q E : Value → Shared → Prop} {h₀ : Heap} {m : Str → Option Value} {news : Led} (F : Fr h₀ L s.heap m) (N : News h₀ L s.heap news) (X : (Mine.heapK w.params).In h₀)
    (hroom : dp < recursionLimit) (hun : un + 20 < cLine)
    (h : ∀ q o h' tk', Fr h₀ L h' m → News h₀ L h' ((q, o) :: news) → (∀ p ∈ news, p.1 ≠ q) → Q (.ref q) { s with heap := h', toks := tk' }) :
    wpAny (model P0 w) (ktrTop dp un gd cn cs L' a ccd cl outer) (call (.type "object") []) Q E s := by
  refine obj_call (X.keeps F.keep) hroom hun fun q o h' tk' hk hq hc hn => h q o h' tk' (fr_grown F hk) ?_ fun p hp e => ?_
  · intro p hp
    rcases List.mem_cons.mp hp with rfl | hp
    · refine ⟨hq, fun e => ?_, ?_⟩
      · obtain ⟨oL, _, _, ho, _⟩ := F.ns
        rw [← e, hn] at ho; cases ho
      · cases z : h₀.get? q with
        | none => rfl
        | some o => rw [F.keep _ _ z] at hn; cases hn
    · exact N.grown hk p hp
  · have := N.get (a := p.1) (o := p.2) hp
    rw [e, hn] at this; cases this
theorem cps_join : ∀ ys : List Str, (Str.join ⟨#[]⟩ ys).cps.toList = ys.flatMap (·.cps.toList)
  | [] => rfl
  | y :: r => by
    rw [PyProof.Rows.join_nil_cons, Str.cps_append, Array.toList_append, cps_join r]
    rfl
theorem txt_join (ys : List Str) : (Txt.join (Str.ofString "") ys).cps.toList = ys.flatMap (·.cps.toList) := by
  rw [eq_of_beq (join_closes (ys := ys) o0), cps_join]
noncomputable def outS (t : Tk) : Str := ⟨t.out.toArray⟩
noncomputable def fullTxt (hd : List Tk) : List Nat := [40, 63, 115, 58] ++ (hd.flatMap Tk.out ++ [40, 63, 62, 46, 42, 63, 91, 94, 47, 93, 41] ++ [46, 42]) ++ [41, 92, 90]
theorem str_ext {a b : Str} (h : a.cps.toList = b.cps.toList) : a = b := congrArg Str.mk (Array.toList_inj.mp h)
theorem app_cps (a b : Str) : (a ++ b).cps.toList = a.cps.toList ++ b.cps.toList := by rw [Str.cps_append, Array.toList_append]
theorem full_eq (hd : List Tk) : Str.empty ++ Str.ofString "(?s:" ++ Txt.join (Str.ofString "") ((hd.map outS ++ [Str.empty ++ Str.ofString "(?>.*?" ++ outS .nsl ++ Str.ofString ")"]) ++ [Str.ofString ".*"]) ++ Str.ofString ")\\Z" = ⟨(fullTxt hd).toArray⟩ := by
  apply str_ext
  have b1 : (Str.empty ++ Str.ofString "(?s:").cps.toList = [40, 63, 115, 58] := by decide +kernel
  have b2 : (Str.empty ++ Str.ofString "(?>.*?" ++ outS .nsl ++ Str.ofString ")").cps.toList = [40, 63, 62, 46, 42, 63, 91, 94, 47, 93, 41] := by decide +kernel
  have b3 : (Str.ofString ".*").cps.toList = [46, 42] := by decide +kernel
  have b4 : (Str.ofString ")\\Z").cps.toList = [41, 92, 90] := by decide +kernel
  rw [app_cps, app_cps, txt_join, b1, b4, List.flatMap_append, List.flatMap_append, List.flatMap_map]
  simp only [List.flatMap_cons, List.flatMap_nil, List.append_nil, b2, b3]
  rfl
theorem out_le (t : Tk) : t.out.length ≤ 4 := by
  cases t with
  | bare c => simp only [Tk.out, escS]; split <;> simp
  | brk c => simp only [Tk.out]; split <;> simp
  | star => simp [Tk.out]
  | nsl => simp [Tk.out]
theorem out_sum : ∀ hd : List Tk, ((hd.map outS).map (·.length)).sum ≤ 4 * hd.length
  | [] => Nat.le_refl _
  | t :: r => by
    have := out_sum r
    have h : (outS t).length ≤ 4 := out_le t
    simp only [List.map_cons, List.sum_cons, List.length_cons] at this ⊢
    omega
theorem out_flat : ∀ hd : List Tk, (hd.flatMap Tk.out).length ≤ 4 * hd.length
  | [] => Nat.le_refl _
  | t :: r => by
    have := out_flat r
    have h := out_le t
    simp only [List.flatMap_cons, List.length_append, List.length_cons] at this ⊢
    omega
theorem tks_last {star : Addr} {ts : List Tk} {t : Tk} {L : List Tk} {vs : List Value} (h : TksZ star L vs) (e : L = ts ++ [t]) : ∃ vs' v, vs = vs' ++ [v] ∧ TksZ star ts vs' ∧ t.Is star v := by
  cases h with
  | nil => simp at e
  | snoc h hv =>
    obtain ⟨rfl, e2⟩ := List.append_inj' e rfl
    cases e2
    exact ⟨_, _, rfl, h, hv⟩
theorem tks_strs {star : Addr} {hd : List Tk} {vs : List Value} (h : TksZ star hd vs) : (∀ t ∈ hd, t.isStar = false) → ∃ xs : List (Str × Tok), vs = xs.map sv ∧ xs.map (·.1) = hd.map outS := by
  induction h with
  | nil => exact fun _ => ⟨[], rfl, rfl⟩
  | @snoc ts vs t v _ hv ih =>
    intro hs
    obtain ⟨xs, rfl, hx⟩ := ih fun t ht => hs t (List.mem_append_left _ ht)
    have ht := hs t (List.mem_append_right _ (.head _))
    unfold Tk.Is at hv
    rw [ht] at hv
    obtain ⟨u, rfl⟩ := hv
    exact ⟨xs ++ [(outS t, u)], by simp [sv, outS], by simp [hx]⟩
theorem tks_split {star : Addr} {hd : List Tk} {vs : List Value} (h : TksZ star (hd ++ [.star, .nsl, .star]) vs) (hs : ∀ t ∈ hd, t.isStar = false) :
    ∃ (xs : List (Str × Tok)) (uy : Tok), vs = xs.map sv ++ [.ref star, .str (outS .nsl) uy, .ref star] ∧ xs.map (·.1) = hd.map outS := by
  obtain ⟨v1, w1, rfl, h1, i1⟩ := tks_last (ts := hd ++ [.star, .nsl]) (t := .star) h (by simp)
  obtain ⟨v2, w2, rfl, h2, i2⟩ := tks_last (ts := hd ++ [.star]) (t := .nsl) h1 (by simp)
  obtain ⟨v3, w3, rfl, h3, i3⟩ := tks_last (ts := hd) (t := .star) h2 rfl
  obtain ⟨xs, rfl, hx⟩ := tks_strs h3 hs
  have e1 : w1 = .ref star := i1
  have e3 : w3 = .ref star := i3
  obtain ⟨u, e2⟩ : ∃ u, w2 = .str ⟨Tk.nsl.out.toArray⟩ u := i2
  exact ⟨xs, u, by rw [e1, e2, e3]; simp [outS], hx⟩
end Mine
end

section -- MTra
open PySem PySem.W PyProof.Rows PySem.Calls
set_option Elab.async false
set_option maxRecDepth 100000
set_option maxHeartbeats 8000000
namespace Mine
theorem flush_MTra : True := by w_top off; first | walk1 | trivial
section
variable {w : World} {p : Program} {loose : List Str} {mean : ExcName → Option Value} {mg mb : Str → Option Value} {dp un : Nat} {gd : Option (List Code)} {cn : Str} {cs : Scope} {a : Addr} {ccd : Value} {cl : List (Str × Addr)} {outer : List Env} {A₀ : Around} {base h₀ : Heap} {L : Addr} {m : Str → Option Value} {s : Shared} {Q E : Value → Shared → Prop} {news : Led} {star : Addr} {so : Obj} {hd0 : List Tk}
theorem tr_use {pat : Str} {t1 t2 : Tok} {ps : Array Value} (hlen : pat.length ≤ 200) (htoks : pat.cps.toList = (hd0 ++ [Tk.star, Tk.nsl, Tk.star]).flatMap Tk.txt) (hok : seqOk true (hd0 ++ [Tk.star, Tk.nsl, Tk.star]))
    (B : Below A₀ base outer h₀) (F : Fr h₀ L s.heap m) (X : (Mine.heapK w.params).In h₀) (N : News h₀ L s.heap ((star, so) :: (153, tabObj ps) :: news)) (T : Top p loose mean mg mb h₀) (hk : cs.kind = .function) (hd : dp + 4 < recursionLimit) (hu : un + 60 < cLine) (htr : TripR ps.toList) (hne : star ≠ 153) (hgt : ∀ p ∈ news, p.1 ≠ 153)
    (h : ∀ l vs n h' tk' ps', Fr h₀ L h' m → News h₀ L h' ((l, listOf vs.toArray n) :: (star, so) :: (153, tabObj ps') :: news) → TripR ps'.toList → TksZ star (hd0 ++ [Tk.star, Tk.nsl, Tk.star]) vs → Q (.ref l) { s with heap := h', toks := tk' }) :
    wpAny (model P0 w) (ktrTop dp un gd cn cs L a ccd cl outer) (call (.ref 158) [.str pat t1, .ref star, .str (Str.ofString ".") t2]) Q E s := by
  refine tr_core (news := (star, so) :: news) (.head _) hlen htoks hok p loose mean mg mb dp un gd cn cs a ccd cl outer A₀ base h₀ L m s Q E ps B F X ?_ T hk hd hu htr ?_ ?_
  · intro p hp
    rcases List.mem_cons.mp hp with rfl | hp
    · exact N _ (.tail _ (.head _))
    · rcases List.mem_cons.mp hp with rfl | hp
      · exact N _ (.head _)
      · exact N _ (.tail _ (.tail _ hp))
  · intro p hp
    rcases List.mem_cons.mp hp with rfl | hp
    · exact hne
    · exact hgt p hp
  · rintro r tl h' tk' ps' F' N' ht' _ _ ⟨l, vs, n, rfl, rfl, hT⟩
    refine h l vs n h' tk' ps' F' (fun p hp => N' p ?_) ht' hT
    simp only [List.mem_cons, List.cons_append, List.nil_append] at hp ⊢
    rcases hp with h | h | h | h
    · exact .inr (.inl h)
    · exact .inr (.inr (.inl h))
    · exact .inl h
    · exact .inr (.inr (.inr h))
theorem join_use {l : Addr} {vs : List Value} {n : Nat} (hT : TksZ star (hd0 ++ [Tk.star, Tk.nsl, Tk.star]) vs) (hs : ∀ t ∈ hd0, t.isStar = false) (hlen : hd0.length ≤ 200)
    (B : Below A₀ base outer h₀) (F : Fr h₀ L s.heap m) (X : (Mine.heapK w.params).In h₀) (N : News h₀ L s.heap news) (T : Top p loose mean mg mb h₀) (hk : cs.kind = .function) (hd : dp + 4 < recursionLimit) (hu : un + 60 < cLine) (hm1 : (star, so) ∈ news) (hm2 : (l, listOf vs.toArray n) ∈ news)
    (h : ∀ t h' tk', Fr h₀ L h' m → News h₀ L h' news → Q (.str ⟨(fullTxt hd0).toArray⟩ t) { s with heap := h', toks := tk' }) :
    wpAny (model P0 w) (ktrTop dp un gd cn cs L a ccd cl outer) (call (.ref 165) [.ref l, .ref star]) Q E s := by
  obtain ⟨xs, uy, hv, hx⟩ := tks_split hT hs
  have hxl : xs.length = hd0.length := by have := congrArg List.length hx; simpa using this
  have e := full_eq hd0
  have b1 : (Str.empty ++ Str.ofString "(?>.*?" ++ outS .nsl ++ Str.ofString ")").length = 11 := by decide +kernel
  have b2 : (Str.ofString ".*").length = 2 := by decide +kernel
  have o := out_sum hd0
  refine Con.use (join_core (xs := xs) (y := outS .nsl) (uy := uy) (z := Txt.join (Str.ofString "") ((hd0.map outS ++ [Str.empty ++ Str.ofString "(?>.*?" ++ outS .nsl ++ Str.ofString ")"]) ++ [Str.ofString ".*"])) hm1 hm2 hv (by omega) (by decide +kernel) (by rw [hx]) ?_ ?_ (by decide +kernel)) B F X N T hk hd hu ?_
  · rw [hx]
    simp only [List.map_append, List.map_cons, List.map_nil, List.sum_append, List.sum_cons, List.sum_nil, b1, b2, List.length_append, List.length_cons, List.length_nil, List.length_map] at o ⊢
    omega
  · have z : (Txt.join (Str.ofString "") ((hd0.map outS ++ [Str.empty ++ Str.ofString "(?>.*?" ++ outS .nsl ++ Str.ofString ")"]) ++ [Str.ofString ".*"])).cps.toList.length ≤ 100000 := by
      rw [txt_join, List.flatMap_append, List.flatMap_append, List.flatMap_map, List.length_append, List.length_append]
      have o2 := out_flat hd0
      have o3 : (hd0.flatMap fun t => (outS t).cps.toList).length ≤ 4 * hd0.length := o2
      have b3 : ([Str.empty ++ Str.ofString "(?>.*?" ++ outS .nsl ++ Str.ofString ")"].flatMap (·.cps.toList)).length = 11 := by decide +kernel
      have b4 : ([Str.ofString ".*"].flatMap (·.cps.toList)).length = 2 := by decide +kernel
      rw [b3, b4]
      omega
    rw [Array.length_toList] at z
    exact z
  · rintro r tl h' tk' F' N' _ ⟨u, rfl⟩
    rw [e]
    exact h u h' tk' F' fun p hp => N' p (List.mem_append_right _ hp)
end
local macro_rules
  | `(tactic| walk_at $k:str) => if ["call type:object", "call ref"].contains k.getString then `(tactic| ((fail_if_success (with_reducible rename Mark9 => mz)); refine sb_out ?_)) else Lean.Macro.throwUnsupported
theorem tra_core {w : World} {pat : Str} {t1 : Tok} {news : Led} {hd0 : List Tk} (hlen : pat.length ≤ 200) (htoks : pat.cps.toList = (hd0 ++ [Tk.star, Tk.nsl, Tk.star]).flatMap Tk.txt) (hok : seqOk true (hd0 ++ [Tk.star, Tk.nsl, Tk.star])) (hs : ∀ t ∈ hd0, t.isStar = false) : ConT w 139 [.str pat t1] 8 100 news (fun r tl => tl = [] ∧ ∃ u, r = .str ⟨(fullTxt hd0).toArray⟩ u) := by
  delta ConT P0
  k_fill
  intro p loose mean mg mb dp un gd cn cs a ccd cl outer A₀ base h₀ L m s Q E ps B F X N T hkd hroom hun htr hgt hret
  have hl0 : hd0.length ≤ 200 := by
    have h1 := txt_len hd0
    have h2 : pat.cps.toList.length ≤ 200 := by rw [Array.length_toList]; exact hlen
    rw [htoks, List.flatMap_append, List.length_append] at h2
    omega
  refine wpAny_call ?_
  k_dflt ktr_enter
  refine fold_AE ?_
  intro A9 e9
  (repeat' (first | ((with_reducible refine sb_in ?_); (first | (k_here; k_dflt (refine join_use (by assumption) (by assumption) (by assumption) (by k_asm) (by k_asm) (by k_asm) (by k_asm) (by k_asm) (by exact rfl) (by ktr_room) (by ktr_units) (by k_mem) (by k_mem) ?_; k_whole); intro t' h' tk' F' N'; (try k_sweep)) | (k_here; k_dflt (refine tr_use (by assumption) (by assumption) (by assumption) (by k_asm) (by k_asm) (by k_asm) (by k_asm) (by k_asm) (by exact rfl) (by ktr_room) (by ktr_units) (by assumption) (by (refine Ne.symm ?_; assumption)) (by assumption) ?_; k_whole); intro l' vs' n' h' tk' ps' F' N' ht' hT'; (try k_sweep)) | (k_here; k_dflt (refine obj_K (by k_asm) (by k_asm) (by k_asm) (by ktr_room) (by ktr_units) ?_; k_whole); intro q' o' h' tk' F' N' d1; (have d2 : 153 ≠ q' := d1 _ (List.Mem.head _)); (try k_sweep)) | ((have mk9 : Mark9 := .mk); walk1; all_goals (try clear mk9)))) | (k_unfold; (try dsimp only)) | (k_end; kc_close) | walk1 | (dsimp only; walk1) | (leave1; walk_say "STEP leave1"; (try dsimp only)) | fail "no step"))
  (rename Fr _ _ _ _ => kF)
  (rename News _ _ _ _ => kN)
  (rename TripR _ => kt)
  refine hret _ [] _ _ _ kF (fun p hp => kN p ?_) kt (fun _ h => nomatch h) (fun _ h => nomatch h) ⟨rfl, _, rfl⟩
  simp only [List.mem_cons, List.nil_append] at hp ⊢
  rcases hp with h | h
  · exact .inr (.inr (.inl h))
  · exact .inr (.inr (.inr h))
end Mine
end

section -- MRd0
open PySem PySem.W PyProof.Rows PySem.Calls
set_option Elab.async false
set_option maxRecDepth 100000
set_option maxHeartbeats 8000000
namespace Mine
noncomputable def Tk.sg : Tk → Nat
  | .bare c => c
  | .brk c => c
  | .star => 0
  | .nsl => 47
noncomputable def Tk.bar : Tk → Bool
  | .nsl => true
  | _ => false
noncomputable def StepFact (w : World) (body : Str) (k k' many : Int) (b : Bool) (sg : Str) : Prop := ∀ (t1 t2 : Tok) (news : Led), Con w 172 [.str body t1, .int k t2] 1 8 news (StepRes k' many b sg)
theorem tk_step {w : World} {body : Str} {k k' : Int} {pre post : List Nat} {tk : Tk} (ok : tk.Ok) (hns : tk.isStar = false) (h : body.cps.toList = pre ++ (tk.out ++ post)) (hk : k = (pre.length : Int)) (hp : post.head? ≠ some 42) (hlen : body.length ≤ 1000) (hk' : k' = k + tk.out.length) : StepFact w body k k' 0 tk.bar ⟨#[tk.sg]⟩ := by
  intro t1 t2 news
  subst hk'
  cases tk with
  | bare c =>
    have hc : Bare c := ok
    unfold Bare at hc
    by_cases e : c = 93
    · subst e
      exact step_esc (c := 93) h hk hp hlen
    · have e1 : (Tk.bare c).out = [c] := by simp only [Tk.out, escS, if_neg e]
      rw [e1] at h ⊢
      exact step_plain (c := c) h hk (by omega) (by omega) (by omega) hp hlen
  | brk c =>
    have hc : c = 42 ∨ c = 63 ∨ c = 91 := ok
    by_cases e : c = 91
    · subst e
      exact step_bre (c := 91) h hk hp hlen
    · have e1 : (Tk.brk c).out = [91, c, 93] := by simp only [Tk.out, if_neg e]
      rw [e1] at h ⊢
      exact step_br (c := c) h hk (by omega) (by omega) hp hlen
  | star => cases hns
  | nsl => exact step_brn (c := 47) h hk hp hlen
noncomputable abbrev tupN (vs : List Value) (n : Nat) : Obj := { cls := .type "tuple", data := .seq vs.toArray n }
theorem step_open {r : Value} {tl : Led} {k' many : Int} {b : Bool} {sg : Str} (h : StepRes k' many b sg r tl) : ∃ D1 D0 u1 u2 u3 n1 n0, r = .ref D1 ∧ (D1, tupN [.ref D0, .int k' u1] n1) ∈ tl ∧ (D0, tupN [.int many u2, .bool b, .str sg u3] n0) ∈ tl := by
  cases h with
  | tuple hm ha =>
    cases ha with
    | cons h1 h2 =>
      cases h2 with
      | cons h3 h4 =>
        cases h4
        cases h3 with
        | int _ u1 =>
          cases h1 with
          | tuple hm0 hb =>
            cases hb with
            | cons g1 g2 =>
              cases g2 with
              | cons g3 g4 =>
                cases g4 with
                | cons g5 g6 =>
                  cases g6
                  cases g1 with
                  | int _ u2 =>
                    cases g3
                    cases g5 with
                    | str _ u3 => exact ⟨_, _, _, _, _, _, _, rfl, hm, hm0⟩
theorem step_use {w : World} {body : Str} {k k' many : Int} {b : Bool} {sg : Str} {t1 t2 : Tok} {p : Program} {loose : List Str} {mean : ExcName → Option Value} {mg mb : Str → Option Value} {dp un : Nat} {gd : Option (List Code)} {cn : Str} {cs : Scope} {a : Addr} {ccd : Value} {cl : List (Str × Addr)} {outer : List Env} {A₀ : Around} {base h₀ : Heap} {L : Addr} {m : Str → Option Value} {s : Shared} {Q E : Value → Shared → Prop} {news : Led}
    (C : StepFact w body k k' many b sg) (B : Below A₀ base outer h₀) (F : Fr h₀ L s.heap m) (X : (Mine.heapK w.params).In h₀) (N : News h₀ L s.heap news) (T : Top p loose mean mg mb h₀) (hk : cs.kind = .function) (hd : dp + 1 < recursionLimit) (hu : un + 8 < cLine)
    (h : ∀ D1 D0 u1 u2 u3 n1 n0 h' tk', Fr h₀ L h' m → News h₀ L h' ((D1, tupN [.ref D0, .int k' u1] n1) :: (D0, tupN [.int many u2, .bool b, .str sg u3] n0) :: news) → (∀ p ∈ news, p.1 < D1) → (∀ p ∈ news, p.1 < D0) → Q (.ref D1) { s with heap := h', toks := tk' }) :
    wpAny (model P0 w) (ktrTop dp un gd cn cs L a ccd cl outer) (call (.ref 172) [.str body t1, .int k t2]) Q E s := by
  refine (C t1 t2 news).use B F X N T hk hd hu fun r tl h' tk' F' N' hl hr => ?_
  obtain ⟨D1, D0, u1, u2, u3, n1, n0, rfl, m1, m0⟩ := step_open hr
  refine h D1 D0 u1 u2 u3 n1 n0 h' tk' F' (fun p hp => N' p ?_) (hl _ m1) (hl _ m0)
  rcases List.mem_cons.mp hp with rfl | hp
  · exact List.mem_append_left _ m1
  · rcases List.mem_cons.mp hp with rfl | hp
    · exact List.mem_append_left _ m0
    · exact List.mem_append_right _ hp
/-- a read step: one sign, or a group of one -/
inductive Stp where
  | one (many : Int) (b : Bool) (sg : Str)
  | grp (many : Int) (b : Bool) (sg : Str)
noncomputable def OneIs (led : Led) (v : Value) (many : Int) (b : Bool) (sg : Str) : Prop := ∃ D n u2 u3, v = .ref D ∧ (D, tupN [.int many u2, .bool b, .str sg u3] n) ∈ led
noncomputable def StIs (led : Led) (v : Value) : Stp → Prop
  | .one many b sg => OneIs led v many b sg
  | .grp many b sg => ∃ D n u r1 n1 v1, v = .ref D ∧ (D, tupN [.int 2 u, .bool false, .ref r1] n) ∈ led ∧ (r1, listOf [v1].toArray n1) ∈ led ∧ OneIs led v1 many b sg
noncomputable def StAll (led : Led) (vs : List Value) (sts : List Stp) : Prop := vs.length = sts.length ∧ ∀ (i : Nat) (v : Value), vs[i]? = some v → ∃ st, sts[i]? = some st ∧ StIs led v st
theorem OneIs.mono {l l' : Led} (h : ∀ p ∈ l, p ∈ l') {v : Value} {many : Int} {b : Bool} {sg : Str} : OneIs l v many b sg → OneIs l' v many b sg := fun ⟨D, n, u2, u3, e, m⟩ => ⟨D, n, u2, u3, e, h _ m⟩
theorem StIs.mono {l l' : Led} (h : ∀ p ∈ l, p ∈ l') {v : Value} : ∀ {st : Stp}, StIs l v st → StIs l' v st
  | .one _ _ _, x => OneIs.mono h x
  | .grp _ _ _, ⟨D, n, u, r1, n1, v1, e, m, m1, o⟩ => ⟨D, n, u, r1, n1, v1, e, h _ m, h _ m1, o.mono h⟩
theorem StAll.mono {l l' : Led} (h : ∀ p ∈ l, p ∈ l') {vs : List Value} {sts : List Stp} (x : StAll l vs sts) : StAll l' vs sts := ⟨x.1, fun i v hv => let ⟨st, e, o⟩ := x.2 i v hv; ⟨st, e, o.mono h⟩⟩
theorem StAll.nil {l : Led} : StAll l [] [] := ⟨rfl, fun i v hv => by simp at hv⟩
theorem StAll.snoc {l : Led} {vs : List Value} {sts : List Stp} {v : Value} {st : Stp} (x : StAll l vs sts) (h : StIs l v st) : StAll l (vs ++ [v]) (sts ++ [st]) := by
  refine ⟨by simp [x.1], fun i w hw => ?_⟩
  by_cases hi : i < vs.length
  · rw [List.getElem?_append_left hi] at hw
    obtain ⟨st', e, o⟩ := x.2 i w hw
    exact ⟨st', by rw [List.getElem?_append_left (by rw [← x.1]; exact hi)]; exact e, o⟩
  · have hi2 : i = vs.length := by
      have : i < (vs ++ [v]).length := by
        cases hz : (vs ++ [v])[i]? with
        | none => rw [hz] at hw; cases hw
        | some _ => exact (List.getElem?_eq_some_iff.mp hz).1
      simp at this
      omega
    subst hi2
    rw [List.getElem?_append_right (Nat.le_refl _), Nat.sub_self] at hw
    simp at hw
    subst hw
    exact ⟨st, by rw [x.1, List.getElem?_append_right (Nat.le_refl _), Nat.sub_self]; rfl, h⟩
noncomputable def Tk.stp (t : Tk) : Stp := .one 0 t.bar ⟨#[t.sg]⟩
noncomputable def allStp (hd : List Tk) : List Stp := hd.map Tk.stp ++ [.grp 0 true ⟨#[47]⟩, .one 1 true ⟨#[]⟩]
section
variable {prog : Program} {w : World} {A : Around} {s : Shared} {E : Value → Shared → Prop} {h₀ : Heap} {L : Addr} {news : Led}
theorem last_K {l : Addr} {its : List Value} {n : Nat} {v : Value} {t : Tok} {value slice : Expr} {Q : Value → Shared → Prop} (N : News h₀ L s.heap news) (hm : (l, listOf its.toArray n) ∈ news) (hx : its.getLast? = some v) (hb : its.length ≤ 1000) (h : Q v s)
    (hs : subscripted slice false (.ref l) (.int (-1) t) = operate [.ref l, .int (-1) t] (getItem (.ref l) (.int (-1) t)) := by with_unfolding_all rfl) : wpAny (model prog w) A (subscriptTail value slice (.ref l) (.int (-1) t)) Q E s := by
  have hl : s.heap.IsList l its.toArray := N.isList hm
  have hne : its ≠ [] := fun e => by subst e; cases hx
  have hpos : 0 < its.length := List.length_pos_iff.mpr hne
  refine tail_any hl.typeIs slot_list_getitem.lookup (wpAny_getItem_list_neg hl (by omega) (by simp only [List.size_toArray]; omega) (by omega) ?_ h) hs
  have e : (-1 + (its.toArray.size : Int)).toNat = its.length - 1 := by simp only [List.size_toArray]; omega
  rw [e, List.getElem?_toArray, ← List.getLast?_eq_getElem?]
  exact hx
end
end Mine
end

section -- MRd1
open PySem PySem.W PyProof.Rows PySem.Calls PySem.Builtin PySem.Builtin.Str
set_option Elab.async false
set_option maxRecDepth 100000
set_option maxHeartbeats 8000000
namespace Mine
noncomputable abbrev GT : List Nat := [40, 63, 62, 46, 42, 63, 91, 94, 47, 93, 41, 46, 42]
theorem idx_neg (len : Nat) {i : Int} {b : Nat} (hb : 0 < b) (hl : b ≤ len) : strSliceIndices (some i) (some (-(b : Int))) 1 len = strSliceIndices (some i) (some ((len : Int) - b)) 1 len := by
  have a1 : (-(b : Int)) < 0 := by omega
  have a2 : ¬ ((len : Int) - b) < 0 := by omega
  have a3 : ¬ (-(b : Int)) + len < 0 := by omega
  have a4 : ¬ (len : Int) - b > len := by omega
  have e1 : max ((-(b : Int)) + (len : Int)) 0 = (len : Int) - b := by omega
  have e2 : min ((len : Int) - b) (len : Int) = (len : Int) - b := by omega
  simp only [strSliceIndices, if_pos a1, if_neg a2, if_pos (show (1 : Int) > 0 by omega), e2]
  (have e3 : (-(b : Int)) + (len : Int) = (len : Int) - b := by omega)
  rw [e3, e2]
theorem slice_sneg {x : Str} {a b : Nat} (hb : 0 < b) (hl : a + b ≤ x.length) : Txt.slice x (some (a : Int)) (some (-(b : Int))) = ⟨((x.cps.toList.drop a).take (x.length - b - a)).toArray⟩ := by
  have e : Txt.slice x (some (a : Int)) (some (-(b : Int))) = Txt.slice x (some (a : Int)) (some ((x.length : Int) - b)) := by
    show StrLaws.sliceText x _ _ = StrLaws.sliceText x _ _
    unfold StrLaws.sliceText
    rw [idx_neg x.length hb (by omega)]
  rw [e, slice_ss (Int.natCast_nonneg a) (by omega)]
  have e9 : ((x.length : Int) - b) = ((x.length - b : Nat) : Int) := (Int.ofNat_sub (Nat.le_trans (Nat.le_add_left b a) hl)).symm
  rw [e9, Int.toNat_natCast, Int.toNat_natCast]
theorem body_eq {hd0 : List Tk} {text : Str} (h : text = ⟨(fullTxt hd0).toArray⟩) : (Txt.slice text (some 4) (some (-3))).cps.toList = hd0.flatMap Tk.out ++ GT := by
  have hl : text.length = (hd0.flatMap Tk.out).length + 20 := by
    subst h
    show (fullTxt hd0).toArray.size = _
    simp only [List.size_toArray, fullTxt, List.length_append, List.length_cons, List.length_nil]
    omega
  have e := slice_sneg (x := text) (a := 4) (b := 3) (by omega) (by omega)
  rw [show (some (((4 : Nat)) : Int)) = some 4 from rfl, show (some (-((3 : Nat) : Int))) = some (-3) from rfl] at e
  rw [e, hl]
  subst h
  show ((fullTxt hd0).drop 4).take _ = _
  have e2 : (fullTxt hd0).drop 4 = (hd0.flatMap Tk.out ++ GT) ++ [41, 92, 90] := by
    simp [fullTxt, GT]
  rw [e2, List.take_append_of_le_length (by simp), List.take_of_length_le (by simp)]
theorem ne_eqZ {hd0 : List Tk} {text : Str} (h : text = ⟨(fullTxt hd0).toArray⟩) : (text != Str.ofString "(?s:" ++ Txt.slice text (some 4) (some (-3)) ++ Str.ofString ")\\Z") = false := by
  have b1 : (Str.ofString "(?s:").cps.toList = [40, 63, 115, 58] := by decide +kernel
  have b4 : (Str.ofString ")\\Z").cps.toList = [41, 92, 90] := by decide +kernel
  have e : Str.ofString "(?s:" ++ Txt.slice text (some 4) (some (-3)) ++ Str.ofString ")\\Z" = text := by
    apply str_ext
    rw [app_cps, app_cps, body_eq h, b1, b4]
    subst h
    simp [fullTxt, GT]
  rw [e]
  simp
theorem slice_at {x : Str} {pre post : List Nat} {k j : Int} (h : x.cps.toList = pre ++ post) (hk : k = (pre.length : Int)) (hj : j = k + 6) : Txt.slice x (some k) (some j) = ⟨(post.take 6).toArray⟩ := by
  subst hk hj
  rw [slice_ss (by omega) (by omega), h, Int.toNat_natCast, List.drop_left, show ((pre.length : Int) + 6).toNat - pre.length = 6 by omega]
theorem o6 : Str.ofString "(?>.*?" = ⟨#[40, 63, 62, 46, 42, 63]⟩ := by decide +kernel
theorem o41 : Str.ofString ")" = ⟨#[41]⟩ := by decide +kernel
theorem grp_not {x : Str} {pre post : List Nat} {k j : Int} (h : x.cps.toList = pre ++ post) (hk : k = (pre.length : Int)) (hj : j = k + 6) (hp : post.head? ≠ some 40) : (Txt.slice x (some k) (some j) == Str.ofString "(?>.*?") = false := by
  rw [slice_at h hk hj, o6]
  apply beq_eq_false_iff_ne.mpr
  intro e
  have e2 : post.take 6 = [40, 63, 62, 46, 42, 63] := by
    have := congrArg (fun z : Str => z.cps.toList) e
    simpa using this
  apply hp
  cases post with
  | nil => simp at e2
  | cons a r => simp at e2; simp [e2.1]
theorem grp_is {x : Str} {pre : List Nat} {k j : Int} (h : x.cps.toList = pre ++ GT) (hk : k = (pre.length : Int)) (hj : j = k + 6) : (Txt.slice x (some k) (some j) == Str.ofString "(?>.*?") = true := by
  rw [slice_at h hk hj, o6]
  decide +kernel
theorem out_head {t : Tk} (ok : t.Ok) (hs : t.isStar = false) : ∃ h r, t.out = h :: r ∧ h ≠ 40 ∧ h ≠ 41 ∧ h ≠ 42 := by
  cases t with
  | bare c =>
    have hc : Bare c := ok
    unfold Bare at hc
    by_cases e : c = 93
    · exact ⟨92, [93], by simp [Tk.out, escS, e], by decide, by decide, by decide⟩
    · exact ⟨c, [], by simp [Tk.out, escS, e], by omega, by omega, by omega⟩
  | brk c =>
    by_cases e : c = 91
    · exact ⟨91, [92, 91, 93], by simp [Tk.out, e], by decide, by decide, by decide⟩
    · exact ⟨91, [c, 93], by simp [Tk.out, e], by decide, by decide, by decide⟩
  | star => cases hs
  | nsl => exact ⟨91, [94, 47, 93], rfl, by decide, by decide, by decide⟩
theorem outs_head : ∀ {ts : List Tk}, (∀ t ∈ ts, t.Ok ∧ t.isStar = false) → (ts.flatMap Tk.out ++ GT).head? ≠ some 42
  | [], _ => by decide
  | t :: r, h => by
    obtain ⟨c, q, e, _, _, e3⟩ := out_head (h t (.head _)).1 (h t (.head _)).2
    simp [e, e3]
end Mine
end

section -- MRead
open PySem PySem.W PyProof.Rows PySem.Calls
set_option Elab.async false
set_option maxRecDepth 100000
set_option maxHeartbeats 8000000
namespace Mine
theorem flush_MRead : True := by w_top off; first | walk1 | trivial
structure RS where
  pre : List Tk
  post : List Tk
  tl : Led
  vs : List Value
  n : Nat
  i : Int
  t : Tok
noncomputable abbrev RS.names (text body : Str) (t1 t2 : Tok) (rw : Addr) (c : RS) : List (Str × Value) := [(Str.ofString "text", .str text t1), (Str.ofString "body", .str body t2), (Str.ofString "at", .int c.i c.t), (Str.ofString "rows", .ref rw)]
noncomputable abbrev RS.led (news : Led) (rw r0 : Addr) (nr : Nat) (c : RS) : Led := (rw, listOf [Value.ref r0].toArray nr) :: (r0, listOf c.vs.toArray c.n) :: (c.tl ++ news)
noncomputable def RS.Inv (hd0 : List Tk) (news : Led) (rw r0 : Addr) (c : RS) : Prop := c.pre ++ c.post = hd0 ∧ c.i = ((c.pre.flatMap Tk.out).length : Int) ∧ StAll c.tl c.vs (c.pre.map Tk.stp) ∧ (∀ q ∈ c.tl, r0 < q.1 ∧ rw < q.1 ∧ ∀ p ∈ news, p.1 < q.1)
theorem rd_next {text body : Str} {t1 t2 : Tok} {rw r0 D1 D0 L : Addr} {hd0 : List Tk} {news tl : Led} {o1 : Obj} {g h' : Heap} {tk' : Nat} {W : Heap → Nat → Prop} {b : Nat} {vs : List Value} {n n' n0 : Nat} {i i' : Int} {t t' u2 u3 : Tok} {m' : Str → Option Value} {tk : Tk} {pre post : List Tk}
    (IH : ∀ (c' : RS) h' tk' m' news', c'.post.length < b → RS.Inv hd0 news rw r0 c' → Fr g L h' m' → News g L h' news' → (∀ p ∈ c'.names text body t1 t2 rw, m' p.1 = some p.2) → (∀ p ∈ c'.led news rw r0 0, p ∈ news') → W h' tk')
    (F9 : Fr g L h' m') (N9 : News g L h' ((D1, o1) :: (D0, tupN [.int 0 u2, .bool tk.bar, .str ⟨#[tk.sg]⟩ u3] n0) :: (rw, listOf [Value.ref r0].toArray 0) :: (r0, listOf (vs.toArray.push (.ref D0)) n') :: (tl ++ news)))
    (h1 : m' (Str.ofString "text") = some (.str text t1)) (h2 : m' (Str.ofString "body") = some (.str body t2)) (h3 : m' (Str.ofString "at") = some (.int i' t')) (h4 : m' (Str.ofString "rows") = some (.ref rw))
    (l0 : rw < D0 ∧ r0 < D0 ∧ AllLt D0 (tl ++ news)) (e : RS.Inv hd0 news rw r0 ⟨pre, tk :: post, tl, vs, n, i, t⟩) (hi : i' = i + tk.out.length) (hb : post.length < b) : W h' tk' := by
  obtain ⟨e1, e2, e3, e4⟩ := e
  simp only at e1 e2 e3 e4
  refine IH ⟨pre ++ [tk], post, (D0, tupN [.int 0 u2, .bool tk.bar, .str ⟨#[tk.sg]⟩ u3] n0) :: tl, vs ++ [.ref D0], n', i', t'⟩ h' tk' m' _ hb ⟨by rw [← e1]; simp, by simp only [hi, e2, List.flatMap_append, List.flatMap_cons, List.flatMap_nil, List.append_nil, List.length_append]; omega, ?_, ?_⟩ F9 N9 ?_ ?_
  · simp only [List.map_append, List.map_cons, List.map_nil]
    exact (e3.mono fun p hp => .tail _ hp).snoc ⟨D0, n0, u2, u3, rfl, .head _⟩
  · intro q hq
    rcases List.mem_cons.mp hq with rfl | hq
    · exact ⟨l0.2.1, l0.1, fun p hp => ltAll l0.2.2 p (List.mem_append_right _ hp)⟩
    · exact e4 q hq
  · intro p hp
    simp only [List.mem_cons, List.not_mem_nil, or_false] at hp
    rcases hp with rfl | rfl | rfl | rfl <;> assumption
  · intro p hp
    simp only [List.mem_cons, List.cons_append, List.push_toArray] at hp ⊢
    rcases hp with h | h | h | h
    · exact .inr (.inr (.inl h))
    · exact .inr (.inr (.inr (.inl h)))
    · exact .inr (.inl h)
    · exact .inr (.inr (.inr (.inr h)))
theorem rd_end {h₀ h' : Heap} {L Da Db Dg De Df rg rw r0 : Addr} {oa oe ow : Obj} {ub uc ud uf ug : Tok} {nb ng nf nrg nr : Nat} {vs : List Value} {tl news : Led} {pre : List Tk} {Q : Value → Prop}
    (hret : ∀ r tl, News h₀ L h' (tl ++ news) → (∀ q ∈ tl, ∀ p ∈ news, p.1 < q.1) → (∃ r0 n vs, r = .ref r0 ∧ (r0, listOf vs.toArray n) ∈ tl ∧ StAll tl vs (allStp pre)) → Q r)
    (kN : News h₀ L h' ((Da, oa) :: (Db, tupN [.int 1 ub, .bool true, .str ⟨#[]⟩ uc] nb) :: (Dg, tupN [.int 2 ud, .bool false, .ref rg] ng) :: (De, oe) :: (Df, tupN [.int 0 uf, .bool true, .str ⟨#[47]⟩ ug] nf) :: (rg, listOf [Value.ref Df].toArray nrg) :: (rw, ow) :: (r0, listOf (vs ++ [Value.ref Dg] ++ [Value.ref Db]).toArray nr) :: (tl ++ news)))
    (e3 : StAll tl vs (pre.map Tk.stp)) (e4 : ∀ q ∈ tl, r0 < q.1 ∧ rw < q.1 ∧ ∀ p ∈ news, p.1 < q.1) (l1 : ∀ p ∈ news, p.1 < r0)
    (lb : AllLt Db (tl ++ news)) (lg : AllLt Dg (tl ++ news)) (lf : AllLt Df (tl ++ news)) (lr : AllLt rg (tl ++ news)) : Q (.ref r0) := by
  have tw : ∀ {D : Addr}, AllLt D (tl ++ news) → ∀ p ∈ news, p.1 < D := fun h p hp => ltAll h p (List.mem_append_right _ hp)
  refine hret (.ref r0) ((r0, listOf (vs ++ [Value.ref Dg] ++ [Value.ref Db]).toArray nr) :: (Db, tupN [.int 1 ub, .bool true, .str ⟨#[]⟩ uc] nb) :: (Dg, tupN [.int 2 ud, .bool false, .ref rg] ng) :: (Df, tupN [.int 0 uf, .bool true, .str ⟨#[47]⟩ ug] nf) :: (rg, listOf [Value.ref Df].toArray nrg) :: tl) (fun p hp => kN p ?_) ?_ ⟨r0, nr, vs ++ [Value.ref Dg] ++ [Value.ref Db], rfl, .head _, ?_⟩
  · simp only [List.mem_cons, List.cons_append] at hp ⊢
    rcases hp with h | h | h | h | h | h
    · exact .inr (.inr (.inr (.inr (.inr (.inr (.inr (.inl h)))))))
    · exact .inr (.inl h)
    · exact .inr (.inr (.inl h))
    · exact .inr (.inr (.inr (.inr (.inl h))))
    · exact .inr (.inr (.inr (.inr (.inr (.inl h)))))
    · exact .inr (.inr (.inr (.inr (.inr (.inr (.inr (.inr h)))))))
  · intro q hq
    simp only [List.mem_cons] at hq
    rcases hq with rfl | rfl | rfl | rfl | rfl | hq
    · exact l1
    · exact tw lb
    · exact tw lg
    · exact tw lf
    · exact tw lr
    · exact (e4 q hq).2.2
  · have e5 := ((e3.mono (l' := (r0, listOf (vs ++ [Value.ref Dg] ++ [Value.ref Db]).toArray nr) :: (Db, tupN [.int 1 ub, .bool true, .str ⟨#[]⟩ uc] nb) :: (Dg, tupN [.int 2 ud, .bool false, .ref rg] ng) :: (Df, tupN [.int 0 uf, .bool true, .str ⟨#[47]⟩ ug] nf) :: (rg, listOf [Value.ref Df].toArray nrg) :: tl) fun p hp => .tail _ (.tail _ (.tail _ (.tail _ (.tail _ hp))))).snoc (v := .ref Dg) (st := .grp 0 true ⟨#[47]⟩) ⟨Dg, ng, ud, rg, nrg, .ref Df, rfl, .tail _ (.tail _ (.head _)), .tail _ (.tail _ (.tail _ (.tail _ (.head _)))), Df, nf, uf, ug, rfl, .tail _ (.tail _ (.tail _ (.head _)))⟩).snoc (v := .ref Db) (st := .one 1 true ⟨#[]⟩) ⟨Db, nb, ub, uc, rfl, .tail _ (.head _)⟩
    rw [List.append_assoc (pre.map Tk.stp)] at e5
    exact e5
local macro_rules | `(tactic| walk_at "exec While Compare") => `(tactic| (k_here; refine stop_out ?_))
local macro_rules | `(tactic| walk_at "WhlPost") => `(tactic| ((with_reducible show WhlPost _ _ _ _ _ _ _ _ _ 7 _ _); (dsimp only [WhlPost]); refine stop_out ?_))
local macro_rules | `(tactic| walk_at "WhlIf") => `(tactic| (first | (refine WhlIf.yes (by (simp only [decide_eq_true_eq]; omega)) ?_) | (refine WhlIf.no (by (simp only [decide_eq_false_iff_not]; omega)) ?_)))
local macro_rules
  | `(tactic| walk_at $k:str) => if ["call ref", "subscriptTail Name UnaryOp ref int", "subscriptTail Name Constant ref int"].contains k.getString then `(tactic| ((fail_if_success (with_reducible rename Mark9 => mz)); refine sb_out ?_)) else Lean.Macro.throwUnsupported
theorem read_core {w : World} {text : Str} {t1 : Tok} {news : Led} {hd0 : List Tk} (htext : text = ⟨(fullTxt hd0).toArray⟩) (hlen : hd0.length ≤ 200) (hok : ∀ t ∈ hd0, t.Ok ∧ t.isStar = false) :
    Con w 179 [.str text t1] 3 60 news (fun r tl => ∃ r0 n vs, r = .ref r0 ∧ (r0, listOf vs.toArray n) ∈ tl ∧ StAll tl vs (allStp hd0)) := by
  delta Con P0
  k_fill
  intro p loose mean mg mb dp un gd cn cs a ccd cl outer A₀ base h₀ L m s Q E B F X N T hkd hroom hun hret
  have htl : text.length ≤ 1000 := by
    have h1 := out_flat hd0
    subst htext
    show (fullTxt hd0).toArray.size ≤ 1000
    simp only [List.size_toArray, fullTxt, List.length_append, List.length_cons, List.length_nil]
    omega
  have hne : (text != Str.ofString "(?s:" ++ Txt.slice text (some 4) (some (-3)) ++ Str.ofString ")\\Z") = false := ne_eqZ htext
  refine wpAny_call ?_
  k_dflt ktr_enter
  refine fold_AE ?_
  intro A9 e9
  (repeat' (first | ((with_reducible refine sb_in ?_); (first | ((with_reducible show wpAny _ _ (subscriptTail ..) _ _ _); first | ((with_reducible show wpAny _ _ (subscriptTail _ (PySem.Expr.Constant ..) _ _) _ _ _); k_here; k_dflt (refine item_litK (News.isList (by k_asm) (by k_mem)) (by decide) (by decide) (by exact rfl) ?_ (by with_unfolding_all rfl); k_whole); (try dsimp only)) | (k_here; k_dflt (refine last_K (by k_asm) (by k_mem) (by exact rfl) (by exact (by decide)) ?_ (by with_unfolding_all rfl); k_whole))) | ((with_reducible show wpAny _ _ (call _ _ _) _ _ _); (k_here; (with_reducible show wpAny _ _ (call (Value.ref 172) _) _ _ _); k_dflt (refine step_use (by assumption) (by k_asm) (by k_asm) (by k_asm) (by k_asm) (by k_asm) (by exact rfl) (by ktr_room) (by ktr_units) ?_; k_whole); intro D1' D0' u1' u2' u3' n1' n0' h' tk' F' N' l1' l0'; (try k_lt l1'); (try k_lt l0'); (try k_sweep))) | ((have mk9 : Mark9 := .mk); walk1; all_goals (try clear mk9)))) | (k_unfold; (try dsimp only)) | (k_end; kc_close) | walk1 | (dsimp only; walk1) | (leave1; walk_say "STEP leave1"; (try dsimp only)) | fail "no step"))
  rename_i g2 L2 hA FG B2 X2 T2 tk0 hB t2 k2 a2 r0 hC l1 rw hD l2 D hE l3 hF hG mA hH mB hI mC F2 N2 tkn z1 z2 z3 z4 z5 z6
  show wpAny _ _ _ _ _ _
  have hB := body_eq htext
  obtain ⟨body, hbody⟩ : ∃ b, b = Txt.slice text (some 4) (some (-3)) := ⟨_, rfl⟩
  have hbl : body.length ≤ 1000 := by
    show body.cps.size ≤ 1000
    rw [← Array.length_toList, hbody, hB]
    have h1 := out_flat hd0
    simp only [List.length_append, GT, List.length_cons, List.length_nil]
    omega
  rw [← hbody] at hB
  simp only [← hbody] at N2
  replace F2 : Fr g2 L2 hI (fun y => if y = Str.ofString "body" then some (Value.str body t2) else mB y) := by rw [hbody]; exact F2
  clear mC
  have hl1 := l1
  have hrw : ∀ p ∈ news, p.1 < rw := fun p hp => ltAll l2.2 p hp
  refine whl_ind (ps := RS.names text body t1 t2 rw) (Ld := RS.led news rw r0 0) (P := RS.Inv hd0 news rw r0) (μ := fun c => c.post.length) ⟨[], hd0, [], [], 0, 0, k2⟩ F2 N2 ?_ ?_ ?_ ?_
  · intro p hp
    simp only [List.mem_cons, List.not_mem_nil, or_false] at hp
    rcases hp with rfl | rfl | rfl | rfl <;> rfl
  · exact fun p hp => List.mem_cons_of_mem _ hp
  · exact ⟨rfl, rfl, .nil, fun _ h => nomatch h⟩
  · clear F2 N2
    rintro ⟨pre, post, tl, vs, n, i, t⟩ u h' tk' ⟨e1, e2, e3, e4⟩ F3 N3 IH
    have eI : RS.Inv hd0 news rw r0 ⟨pre, post, tl, vs, n, i, t⟩ := ⟨e1, e2, e3, e4⟩
    simp only at e1 e2 e3 e4
    simp only [RS.names, RS.led] at F3 N3
    have hoff : OwnOff (tl ++ news) [r0, rw] := by
      intro p hp b hb e
      rcases List.mem_append.mp hp with hp | hp
      · rcases List.mem_cons.mp hb with rfl | hb
        · exact absurd (e4 p hp).1 (e ▸ Nat.lt_irrefl _)
        · rw [List.mem_singleton.mp hb] at e
          exact absurd (e4 p hp).2.1 (e ▸ Nat.lt_irrefl _)
      · rcases List.mem_cons.mp hb with rfl | hb
        · exact absurd (l1 p hp) (e ▸ Nat.lt_irrefl _)
        · rw [List.mem_singleton.mp hb] at e
          exact absurd (hrw p hp) (e ▸ Nat.lt_irrefl _)
    have hvl : vs.length = pre.length := by rw [e3.1]; simp
    have hpl : pre.length + post.length = hd0.length := by rw [← e1]; simp
    cases post with
    | nil =>
      rw [List.append_nil] at e1
      subst e1
      have q1 : body.cps.toList = pre.flatMap Tk.out ++ GT := hB
      have q2 : body.cps.toList = (pre.flatMap Tk.out ++ [40, 63, 62, 46, 42, 63]) ++ 91 :: 94 :: 47 :: 93 :: [41, 46, 42] := by rw [q1]; simp [GT]
      have q3 : body.cps.toList = (pre.flatMap Tk.out ++ [40, 63, 62, 46, 42, 63, 91, 94, 47, 93]) ++ 41 :: [46, 42] := by rw [q1]; simp [GT]
      have q4 : body.cps.toList = (pre.flatMap Tk.out ++ [40, 63, 62, 46, 42, 63, 91, 94, 47, 93, 41]) ++ 46 :: 42 :: [] := by rw [q1]; simp [GT]
      have k2' : i + 6 = ((pre.flatMap Tk.out ++ [40, 63, 62, 46, 42, 63]).length : Int) := by simp only [List.length_append, List.length_cons, List.length_nil]; omega
      have k3' : i + 6 + 4 = ((pre.flatMap Tk.out ++ [40, 63, 62, 46, 42, 63, 91, 94, 47, 93]).length : Int) := by simp only [List.length_append, List.length_cons, List.length_nil]; omega
      have k4' : i + 6 + 4 + 1 = ((pre.flatMap Tk.out ++ [40, 63, 62, 46, 42, 63, 91, 94, 47, 93, 41]).length : Int) := by simp only [List.length_append, List.length_cons, List.length_nil]; omega
      have g1 : (Txt.slice body (some i) (some (i + 6)) == Str.ofString "(?>.*?") = true := grp_is q1 e2 rfl
      have g2' : (Txt.slice body (some (i + 6)) (some (i + 6 + 6)) == Str.ofString "(?>.*?") = false := grp_not q2 k2' rfl (by decide)
      have g3 : (Txt.slice body (some (i + 6 + 4)) (some (i + 6 + 4 + 6)) == Str.ofString "(?>.*?") = false := grp_not q3 k3' rfl (by decide)
      have g4 : (Txt.slice body (some (i + 6 + 4 + 1)) (some (i + 6 + 4 + 1 + 6)) == Str.ofString "(?>.*?") = false := grp_not q4 k4' rfl (by decide)
      have i2 : (Txt.item body (i + 6) == Str.ofString ")") = false := one_not (item_pre q2 k2') o41 (by decide)
      have i3 : (Txt.item body (i + 6 + 4) == Str.ofString ")") = true := one_is (item_pre q3 k3') o41 rfl
      have i4 : (Txt.item body (i + 6 + 4 + 1) == Str.ofString ")") = false := one_not (item_pre q4 k4') o41 (by decide)
      have s2 : StepFact w body (i + 6) (i + 6 + 4) 0 true ⟨#[47]⟩ := fun _ _ _ => step_brn (c := 47) q2 k2' (by decide) hbl
      have s4 : StepFact w body (i + 6 + 4 + 1) (i + 6 + 4 + 1 + 2) 1 true ⟨#[]⟩ := fun _ _ _ => step_dot q4 k4' hbl
      have hl : body.cps.size = (pre.flatMap Tk.out).length + 13 := by rw [← Array.length_toList, q1]; simp [GT]
      have hl2 : (body.length : Int) = i + 13 := by show (body.cps.size : Int) = _; omega
      have hi0 : 0 ≤ i := by omega
      clear q1 q2 q3 q4 k2' k3' k4' hl IH
      show WhlRest _ _ _ _ _ _ _ _ _ 100 _
      refine whl_turn (by passes_own) ?_
      (repeat' (first | ((with_reducible refine sb_in ?_); (first | ((with_reducible show wpAny _ _ (subscriptTail ..) _ _ _); first | ((with_reducible show wpAny _ _ (subscriptTail _ (PySem.Expr.Constant ..) _ _) _ _ _); k_here; k_dflt (refine item_litK (News.isList (by k_asm) (by k_mem)) (by decide) (by decide) (by exact rfl) ?_ (by with_unfolding_all rfl); k_whole); (try dsimp only)) | (k_here; k_dflt (refine last_K (by k_asm) (by k_mem) (by exact rfl) (by exact (by decide)) ?_ (by with_unfolding_all rfl); k_whole))) | ((with_reducible show wpAny _ _ (call _ _ _) _ _ _); (k_here; (with_reducible show wpAny _ _ (call (Value.ref 172) _) _ _ _); k_dflt (refine step_use (by assumption) (by k_asm) (by k_asm) (by k_asm) (by k_asm) (by k_asm) (by exact rfl) (by ktr_room) (by ktr_units) ?_; k_whole); intro D1' D0' u1' u2' u3' n1' n0' h' tk' F' N' l1' l0'; (try k_lt l1'); (try k_lt l0'); (try k_sweep))) | ((have mk9 : Mark9 := .mk); walk1; all_goals (try clear mk9)))) | (k_unfold; (try dsimp only)) | (k_end; kc_close) | walk1 | (dsimp only; walk1) | (leave1; walk_say "STEP leave1"; (try dsimp only)) | fail "no step"))
      (rename News h₀ _ _ _ => kN)
      (rename Fr h₀ _ _ _ => kF)
      simp only [List.push_toArray] at kN
      refine rd_end (Q := fun r => Q r { s with heap := _, toks := _ }) (fun r tl n l x => hret r tl _ _ kF n l x) kN e3 e4 l1 (‹_ ∧ _ ∧ _ ∧ _ ∧ _ ∧ _ ∧ AllLt _ _›).2.2.2.2.2.2 (‹_ ∧ _ ∧ _ ∧ _ ∧ _ ∧ AllLt _ _›).2.2.2.2.2 (‹_ ∧ _ ∧ _ ∧ AllLt _ _›).2.2.2 (‹_ ∧ _ ∧ AllLt _ _›).2.2
    | cons t0 post =>
      have hb0 : body.cps.toList = pre.flatMap Tk.out ++ (t0.out ++ (post.flatMap Tk.out ++ GT)) := by rw [hB, ← e1]; simp
      have hkt := hok t0 (by rw [← e1]; simp)
      have hpt : ∀ x ∈ post, x.Ok ∧ x.isStar = false := fun x hx => hok x (by rw [← e1]; simp [hx])
      have f3 : StepFact w body i (i + t0.out.length) 0 t0.bar ⟨#[t0.sg]⟩ := tk_step hkt.1 hkt.2 hb0 e2 (outs_head hpt) hbl rfl
      obtain ⟨c, q, eo, o40, o41', _⟩ := out_head hkt.1 hkt.2
      have hb1 : body.cps.toList = pre.flatMap Tk.out ++ c :: (q ++ (post.flatMap Tk.out ++ GT)) := by rw [hb0, eo]; rfl
      have f1 : (Txt.slice body (some i) (some (i + 6)) == Str.ofString "(?>.*?") = false := grp_not hb1 e2 rfl (by simp [o40])
      have f2 : (Txt.item body i == Str.ofString ")") = false := one_not (item_pre hb1 e2) o41 o41'
      have hl : body.cps.size = (pre.flatMap Tk.out).length + (1 + (q ++ (post.flatMap Tk.out ++ GT)).length) := by rw [← Array.length_toList, hb1]; simp; omega
      have hl2 : (body.length : Int) = i + 1 + ((q ++ (post.flatMap Tk.out ++ GT)).length : Nat) := by show (body.cps.size : Int) = _; omega
      have hi0 : 0 ≤ i := by omega
      clear hl
      refine whl_turn (by passes_own) ?_
      (repeat' (first | ((with_reducible refine sb_in ?_); (first | ((with_reducible show wpAny _ _ (subscriptTail ..) _ _ _); first | ((with_reducible show wpAny _ _ (subscriptTail _ (PySem.Expr.Constant ..) _ _) _ _ _); k_here; k_dflt (refine item_litK (News.isList (by k_asm) (by k_mem)) (by decide) (by decide) (by exact rfl) ?_ (by with_unfolding_all rfl); k_whole); (try dsimp only)) | (k_here; k_dflt (refine last_K (by k_asm) (by k_mem) (by exact rfl) (by exact (by decide)) ?_ (by with_unfolding_all rfl); k_whole))) | ((with_reducible show wpAny _ _ (call _ _ _) _ _ _); (k_here; (with_reducible show wpAny _ _ (call (Value.ref 172) _) _ _ _); k_dflt (refine step_use (by assumption) (by k_asm) (by k_asm) (by k_asm) (by k_asm) (by k_asm) (by exact rfl) (by ktr_room) (by ktr_units) ?_; k_whole); intro D1' D0' u1' u2' u3' n1' n0' h' tk' F' N' l1' l0'; (try k_lt l1'); (try k_lt l0'); (try k_sweep))) | ((have mk9 : Mark9 := .mk); walk1; all_goals (try clear mk9)))) | (k_unfold; (try dsimp only)) | (k_end; kc_close) | walk1 | (dsimp only; walk1) | (leave1; walk_say "STEP leave1"; (try dsimp only)) | fail "no step"))
      (rename News _ _ _ _ => N9)
      (rename Fr _ _ _ _ => F9)
      (rename (_ < _ ∧ _ < _ ∧ AllLt _ _) => l9)
      refine stop_in (rd_next (tk := t0) (pre := pre) (post := post) (W := fun h tk => WhlRest _ _ _ _ _ _ _ _ _ 7 { s with heap := h, toks := tk }) IH F9 N9 rfl rfl rfl rfl l9 eI rfl (Nat.lt_succ_self _))
end Mine
end

section -- MTup
open PySem PySem.W PyProof.Rows PySem.Calls
set_option Elab.async false
set_option maxRecDepth 100000
set_option maxHeartbeats 8000000
namespace Mine
section
variable {prog : Program} {w : World} {A : Around} {E : Value → Shared → Prop} {Q : Flow → Shared → Prop} {s : Shared} {env : Env} {h₀ : Heap} {target : Expr} {body : List Stmt}
theorem tup_iter {l : Addr} {vs : List Value} {nn : Nat} {m₀ : Str → Option Value} {news : Led} (J : Nat → (Str → Option Value) → Led → Prop)
    (hh : A.handled = none) (hl : (l, listOf vs.toArray nn) ∈ news) (F : Fr h₀ env.locals s.heap m₀) (N : News h₀ env.locals s.heap news) (hj : J 0 m₀ news)
    (turn : ∀ i v m₁ news₁ h tk own, vs[i]? = some v → OwnOff own (news₁.map (·.1)) → (l, listOf vs.toArray nn) ∈ news₁ → J i m₁ news₁ → Fr h₀ env.locals h m₁ → News h₀ env.locals h (news₁ ++ own) →
      wpAny (model prog w) A (assign target env v) (fun _ s₃ => wpAny (model prog w) A (execs body env) (InvPostG h₀ env.locals (fun m' nx => (l, listOf vs.toArray nn) ∈ nx ∧ J (i + 1) m' nx) own { s with heap := h, toks := tk } Q) E s₃) E { s with heap := h, toks := tk })
    (done : ∀ m₁ news₁ h tk, J vs.length m₁ news₁ → Fr h₀ env.locals h m₁ → News h₀ env.locals h news₁ → Q .next { s with heap := h, toks := tk }) :
    wpAny (model prog w) A (pyIter (.ref l)) (fun it s₂ => TurnsAt prog w A h₀ env target body Q E it s₂) E s := by
  have hol : s.heap.get? l = some (listOf vs.toArray nn) := (N _ hl).1
  have hls : s.heap.IsList l vs.toArray := ⟨_, hol, rfl, nn, rfl⟩
  have hne : l ≠ s.heap.objs.size := Nat.ne_of_lt (Heap.lt_size hol)
  refine wpAny_pyIter_list hls ?_
  have W := Walks.list (prog := prog) (w := w) hh s.heap.objs.size l hne vs.toArray
  have hlen : vs.toArray.size = vs.length := by simp
  rw [hlen] at W
  have W2 := KTurns.ofWalks (target := target) W fun i v s Q E st q => letGo_listiter st.1 q
  refine ⟨_, _, _, vs.length, _, _, _, m₀, news, (fun i m nx => (l, listOf vs.toArray nn) ∈ nx ∧ J i m nx), rfl, W2, ?_, ?_, ?_, ⟨⟨_, Heap.get?_push_size _ rfl, rfl, rfl⟩, hls.at fun o e => Heap.get?_push_of_some _ e⟩, F.push _, (fun p hp => ⟨Heap.get?_push_of_some _ (N p hp).1, (N p hp).2⟩), ⟨hl, hj⟩, ?_, ?_⟩
  · intro hm
    rcases List.mem_cons.mp hm with e | hm
    · exact absurd F.ns.lt (e ▸ Nat.lt_irrefl _)
    · exact (N _ hl).2.1 ((List.mem_singleton.mp hm).symm)
  · intro b hb
    rw [List.mem_singleton.mp hb]
    exact next_is_new F
  · intro p hp hI
    exact absurd (Heap.lt_size (N p hp).1) ((List.mem_singleton.mp hI) ▸ Nat.lt_irrefl _)
  · rintro i v m₁ news₁ hh' tk' own hin hP ⟨hl₁, hJ⟩ hoff hown hget hfp hst F₁ N₁
    have hP' : vs[i]? = some v := by simpa using hP
    have hI0 : h₀.get? s.heap.objs.size = none := next_is_new F
    obtain ⟨⟨oI, hoI, _⟩, _⟩ := id hst
    have hIown : (s.heap.objs.size, oI) ∈ own.filter fun p => decide (p.1 = s.heap.objs.size) := List.mem_filter.mpr ⟨hfp _ (List.mem_cons.mpr (.inl rfl)) hI0 _ hoI, by simp⟩
    have hsep : OwnOff (own.filter fun p => decide (p.1 = s.heap.objs.size)) (news₁.map (·.1)) := by
      intro p hp b hb e
      obtain ⟨q, hq, rfl⟩ := List.mem_map.mp hb
      have h1 : p.1 = s.heap.objs.size := by simpa using (List.mem_filter.mp hp).2
      exact hoff q hq (List.mem_singleton.mpr (e ▸ h1))
    have N₂ : News h₀ env.locals hh' (news₁ ++ own.filter fun p => decide (p.1 = s.heap.objs.size)) := fun p hp => N₁ p ((List.mem_append.mp hp).elim (fun h => List.mem_append.mpr (.inr h)) fun h => List.mem_append.mpr (.inl ((List.mem_filter.mp h).1)))
    have hlo : hh'.get? l = some (listOf vs.toArray nn) := (N₁ _ (List.mem_append.mpr (.inr hl₁))).1
    refine wpAny_mono (turn i v m₁ news₁ hh' tk' _ hP' hsep hl₁ hJ F₁ N₂) (fun _ s₃ x => wpAny_mono x (fun f s₂ p => ?_) fun _ _ e => e) fun _ _ e => e
    have fin : InvEndG h₀ env.locals (fun m' nx => (l, listOf vs.toArray nn) ∈ nx ∧ J (i + 1) m' nx) (own.filter fun p => decide (p.1 = s.heap.objs.size)) { s with heap := hh', toks := tk' } s₂ →
        LoopStepU h₀ env.locals [s.heap.objs.size] own (fun m nx => (l, listOf vs.toArray nn) ∈ nx ∧ J (i + 1) m nx) { s with heap := hh', toks := tk' } .next s₂ := by
      rintro ⟨h', tk, m', news', nx, e, F', N', hn, ho, ha, hm⟩
      refine ⟨rfl, h', tk, m', nx, e, F', fun p hp => ?_, fun p hp hq => ?_, hm⟩
      · rcases List.mem_append.mp hp with h | h
        · by_cases hI : p.1 = s.heap.objs.size
          · exact N' p (ho p (List.mem_filter.mpr ⟨h, by simpa using hI⟩))
          · have h1 : p.1 = l := by
              rcases List.mem_cons.mp (hown p h) with h2 | h2
              · exact absurd h2 hI
              · exact List.mem_singleton.mp h2
            have h2 : hh'.get? p.1 = some p.2 := hget p h
            rw [h1, hlo] at h2
            have h3 : p = (l, listOf vs.toArray nn) := Prod.ext h1 (Option.some.inj h2).symm
            rw [h3]
            exact N' _ (hn _ hm.1)
        · exact N' p (hn p h)
      · exact ha _ hIown p.1 (List.mem_map.mpr ⟨p, hp, rfl⟩) (List.mem_singleton.mp hq).symm
    cases f with
    | ret v => exact .ret p
    | brk => exact .brk p
    | next => exact .next (fin p)
    | cont => exact .cont (fin p)
  · rintro h' tk m' news' F' N' _ ⟨_, hJ⟩
    exact done m' news' h' tk hJ F' N'
/-- a for over a list of the ledger, its target any pattern -/
theorem for_tup {σ : Type} {l : Addr} {vs : List Value} {nn : Nat} {m : Str → Option Value} {news : Led} (ps : σ → List (Str × Value)) (Ld : σ → Led) (P : Nat → σ → Prop) (c₀ : σ)
    (hh : A.handled = none) (hLd : ∀ c, (l, listOf vs.toArray nn) ∈ Ld c) (F : Fr h₀ env.locals s.heap m) (N : News h₀ env.locals s.heap news)
    (hk : ∀ p ∈ ps c₀, m p.1 = some p.2) (hn : ∀ p ∈ Ld c₀, p ∈ news) (hp : P 0 c₀)
    (turn : ∀ i v c (u : Str → Option Value) h tk own, vs[i]? = some v → P i c → OwnOff own ((Ld c).map (·.1)) → Fr h₀ env.locals h (kstB u (ps c)) → News h₀ env.locals h (Ld c ++ own) →
      wpAny (model prog w) A (assign target env v) (fun _ s₃ => wpAny (model prog w) A (execs body env) (ForPost h₀ env.locals ps Ld (P (i + 1)) own { s with heap := h, toks := tk } Q) E s₃) E { s with heap := h, toks := tk })
    (done : ∀ c (u : Str → Option Value) h tk, P vs.length c → Fr h₀ env.locals h (kstB u (ps c)) → News h₀ env.locals h (Ld c) → Q .next { s with heap := h, toks := tk }) :
    wpAny (model prog w) A (pyIter (.ref l)) (fun it s₂ => TurnsAt prog w A h₀ env target body Q E it s₂) E s := by
  refine tup_iter (nn := nn) (vs := vs) (m₀ := m) (news := Ld c₀) (fun i m nx => ∃ c, nx = Ld c ∧ P i c ∧ ∀ p ∈ ps c, m p.1 = some p.2) hh (hLd c₀) F (fun p h => N p (hn p h)) ⟨c₀, rfl, hp, hk⟩ ?_ ?_
  · rintro i v m₁ nx h tk own hv ho _ ⟨c, rfl, hP, hk₁⟩ F₁ N₁
    refine wpAny_mono (turn i v c m₁ h tk own hv hP ho (by rw [kst_form hk₁]; exact F₁) N₁) (fun _ s₃ x => wpAny_mono x (fun f s₂ p => ?_) fun _ _ e => e) fun _ _ e => e
    have fin : ForEnd h₀ env.locals ps Ld (P (i + 1)) own { s with heap := h, toks := tk } s₂ → InvEndG h₀ env.locals (fun m' nx => (l, listOf vs.toArray nn) ∈ nx ∧ ∃ c, nx = Ld c ∧ P (i + 1) c ∧ ∀ p ∈ ps c, m' p.1 = some p.2) own { s with heap := h, toks := tk } s₂ := by
      rintro ⟨c', h', tk', m', news', e, F', N', hk', hn', ho', hoff, hP'⟩
      exact ⟨h', tk', m', news', Ld c', e, F', N', hn', ho', hoff, hLd c', c', rfl, hP', hk'⟩
    cases f with
    | ret v => exact p
    | brk => exact p
    | next => exact fin p
    | cont => exact fin p
  · rintro m₁ nx h tk ⟨c, rfl, hP, hk₁⟩ F₁ N₁
    exact done c m₁ h tk hP (by rw [kst_form hk₁]; exact F₁) N₁
end
end Mine
end

section -- MEn0
open PySem PySem.W PyProof.Rows PySem.Calls
set_option Elab.async false
set_option maxRecDepth 100000
set_option maxHeartbeats 8000000
namespace Mine
noncomputable def hit (text : Str) (b : Bool) (sg : Str) (p : Int) : Bool := decide (p < (text.length : Int)) && (b != (Txt.item text p == sg))
noncomputable def places (text : Str) : List Int := (List.range (text.length + 1)).map Int.ofNat
noncomputable def firstL (text : Str) (b : Bool) (sg : Str) (p : Int) : List Int := (((places text).filter fun q => decide (p ≤ q) && hit text b sg q).map (· + 1)).take 1
noncomputable def runStep (text : Str) : Stp → List Int → List Int
  | .one many b sg, ks => if many = 0 then ks.flatMap (fun p => if hit text b sg p then [p + 1] else []) else (places text).filter fun q => ks.any fun k => decide (k ≤ q)
  | .grp _ b sg, ks => ks.flatMap (firstL text b sg)
noncomputable def runL (text : Str) (sts : List Stp) (ks : List Int) : List Int := sts.foldl (fun a st => runStep text st a) ks
theorem runL_take {text : Str} {sts : List Stp} {ks : List Int} {i : Nat} {st : Stp} (h : sts[i]? = some st) : runL text (sts.take (i + 1)) ks = runStep text st (runL text (sts.take i) ks) := by
  unfold runL
  rw [List.take_add_one, h, List.foldl_append]
  rfl
structure ES where
  oI : Obj
  oB : Obj
  pl : Addr
  ks : List Value
  np : Nat
noncomputable abbrev ES.names (l : Addr) (c : ES) : List (Str × Value) := [(Str.ofString "steps", .ref l), (Str.ofString "places", .ref c.pl)]
noncomputable abbrev ES.led (news : Led) (L : Addr) (oT : Obj) (c : ES) : Led := (L + 1 + 1 + 1, c.oI) :: (L + 1 + 1, c.oB) :: (L + 1, oT) :: (c.pl, listOf c.ks.toArray c.np) :: news
noncomputable def IsCell (o : Obj) : Prop := ∃ d, o.data = .cell d
noncomputable def ES.Inv (text : Str) (sts : List Stp) (p0 : Int) (L : Addr) (i : Nat) (c : ES) : Prop := IsCell c.oI ∧ IsCell c.oB ∧ (c.pl ≠ L + 1 ∧ c.pl ≠ L + 1 + 1 ∧ c.pl ≠ L + 1 + 1 + 1) ∧ IntsAre c.ks (runL text (sts.take i) [p0])
theorem ne3 {a L : Nat} (h : a < L) : a ≠ L + 1 ∧ a ≠ L + 1 + 1 ∧ a ≠ L + 1 + 1 + 1 := by omega
theorem off1_mem {D : Addr} : ∀ {l : Led}, LCg.Off1 D l → ∀ p ∈ l, p.1 ≠ D
  | [], _, _, h => nomatch h
  | _ :: _, x, p, h => by
    rcases List.mem_cons.mp h with rfl | h
    · exact x.1
    · exact off1_mem x.2 p h
theorem off1_of {D : Addr} : ∀ {l : Led}, (∀ p ∈ l, p.1 ≠ D) → LCg.Off1 D l
  | [], _ => trivial
  | _ :: _, h => ⟨h _ (.head _), off1_of fun p hp => h p (.tail _ hp)⟩
theorem en_next {g2 h' : Heap} {L2 l pl1 D D' : Addr} {s₁ : Shared} {tk : Nat} {m' : Str → Option Value} {ys : List Value} {n' : Nat} {oI oB oT o1 o2 : Obj} {dI dB : Option Value} {news own : Led} {text : Str} {sts : List Stp} {p0 : Int} {i : Nat} {c : ES} {Q : Flow → Shared → Prop}
    (F9 : Fr g2 L2 h' m') (N9 : News g2 L2 h' ((D', listOf ys.toArray n') :: (L2 + 1 + 1 + 1, oI) :: (L2 + 1 + 1, oB) :: (L2 + 1, oT) :: (pl1, o1) :: (D, o2) :: (news ++ own)))
    (o1' : L2 + 1 + 1 + 1 ≠ D' ∧ L2 + 1 + 1 ≠ D' ∧ L2 + 1 ≠ D' ∧ pl1 ≠ D' ∧ D ≠ D' ∧ LCg.Off1 D' (news ++ own)) (hoff : OwnOff own ((ES.led news L2 oT c).map (·.1))) (dI : oI.data = .cell dI) (dB : oB.data = .cell dB)
    (h1 : m' (Str.ofString "steps") = some (.ref l)) (h2 : m' (Str.ofString "places") = some (.ref D')) (hi : IntsAre ys (runL text (sts.take (i + 1)) [p0])) :
    ForPost g2 L2 (ES.names l) (ES.led news L2 oT) (ES.Inv text sts p0 L2 (i + 1)) own s₁ Q .next { s₁ with heap := h', toks := tk } := by
  refine ⟨⟨oI, oB, D', ys, n'⟩, h', tk, m', _, rfl, F9, N9, ?_, ?_, ?_, ?_, ⟨⟨_, dI⟩, ⟨_, dB⟩, ⟨Ne.symm o1'.2.2.1, Ne.symm o1'.2.1, Ne.symm o1'.1⟩, hi⟩⟩
  · intro p hp
    simp only [List.mem_cons, List.not_mem_nil, or_false] at hp
    rcases hp with rfl | rfl <;> assumption
  · intro p hp
    simp only [List.mem_cons, List.mem_append] at hp ⊢
    rcases hp with h | h | h | h | h
    · exact .inr (.inl h)
    · exact .inr (.inr (.inl h))
    · exact .inr (.inr (.inr (.inl h)))
    · exact .inl h
    · exact .inr (.inr (.inr (.inr (.inr (.inr (.inl h))))))
  · intro p hp
    simp only [List.mem_cons, List.mem_append]
    exact .inr (.inr (.inr (.inr (.inr (.inr (.inr hp))))))
  · intro p hp b hb
    simp only [List.map_cons, List.mem_cons] at hb
    rcases hb with rfl | rfl | rfl | rfl | hb
    · exact hoff p hp _ (by simp)
    · exact hoff p hp _ (by simp)
    · exact hoff p hp _ (by simp)
    · exact off1_mem o1'.2.2.2.2.2 p (List.mem_append_right _ hp)
    · exact hoff p hp _ (by simp only [List.map_cons, List.mem_cons]; exact .inr (.inr (.inr (.inr hb))))
theorem ints_le1 {vs : List Value} {ns : List Int} (h : IntsAre vs ns) (hl : ns.length ≤ 1) : (vs = [] ∧ ns = []) ∨ ∃ k t, vs = [.int k t] ∧ ns = [k] := by
  cases h with
  | nil => exact .inl ⟨rfl, rfl⟩
  | cons k t r =>
    cases r with
    | nil => exact .inr ⟨_, _, rfl, rfl⟩
    | cons _ _ _ => simp at hl
theorem size_len {n : Nat} : Builtin.Range.rangeSize 0 ((n : Int) + 1) 1 = ((n + 1 : Nat) : Int) := by
  unfold Builtin.Range.rangeSize
  rw [if_pos (by omega), if_pos (by omega)]
  omega
theorem fits_small {i : Int} (h0 : -1000 ≤ i) (h1 : i ≤ 1000) : Builtin.Range.rangeFitsLong i = true := by
  unfold Builtin.Range.rangeFitsLong
  simp
  omega
theorem small_len {n : Nat} (h : n ≤ 200) : Builtin.Range.small 0 ((n : Int) + 1) 1 = true := by
  unfold Builtin.Range.small
  simp [size_len, fits_small (i := 0) (by omega) (by omega), fits_small (i := 1) (by omega) (by omega), fits_small (i := (n : Int) + 1) (by omega) (by omega)]
structure MSt where
  ms : List Value
  mn : Nat
noncomputable abbrev MSt.names (l pl1 lm : Addr) (_ : MSt) : List (Str × Value) := [(Str.ofString "steps", .ref l), (Str.ofString "places", .ref pl1), (Str.ofString "moved", .ref lm)]
noncomputable abbrev MSt.led (rest : Led) (lm : Addr) (c : MSt) : Led := (lm, listOf c.ms.toArray c.mn) :: rest
noncomputable def upToZ (ns : List Int) (j : Nat) : List Int := ((List.range j).map Int.ofNat).filter fun q => ns.any fun k => decide (k ≤ q)
noncomputable def MSt.Inv (ns : List Int) (j : Nat) (c : MSt) : Prop := IntsAre c.ms (upToZ ns j)
theorem upTo_succ (ns : List Int) (j : Nat) : upToZ ns (j + 1) = upToZ ns j ++ (if ns.any (fun k => decide (k ≤ (j : Int))) then [(j : Int)] else []) := by
  unfold upToZ
  rw [List.range_succ, List.map_append, List.filter_append]
  congr 1
  simp only [List.map_cons, List.map_nil, List.filter_cons, List.filter_nil]
  rfl
theorem upTo_nil (j : Nat) : upToZ [] j = [] := by
  unfold upToZ
  simp
theorem upTo_lo {k : Int} {j : Nat} (h : (j : Int) ≤ k) : upToZ [k] j = [] := by
  unfold upToZ
  rw [List.filter_eq_nil_iff]
  intro q hq
  obtain ⟨x, hx, rfl⟩ := List.mem_map.mp hq
  have := List.mem_range.mp hx
  simp
  omega
theorem upTo_hi {k : Int} {j : Nat} (h : k < (j : Int)) (h0 : 0 ≤ k) : ∃ r, upToZ [k] j = r ++ [(j : Int) - 1] := by
  cases j with
  | zero => omega
  | succ j =>
    refine ⟨upToZ [k] j, ?_⟩
    rw [upTo_succ]
    have e : ([k].any fun x => decide (x ≤ (j : Int))) = true := by simp; omega
    rw [e, if_pos rfl]
    congr 2
    omega
theorem ints_snocZ {vs : List Value} {ns : List Int} {k : Int} {t : Tok} (h : IntsAre vs ns) : IntsAre (vs ++ [.int k t]) (ns ++ [k]) := by
  induction h with
  | nil => exact .cons _ _ .nil
  | cons n u _ ih => exact .cons n u ih
theorem ints_last {vs : List Value} {ns : List Int} {k : Int} (h : IntsAre vs (ns ++ [k])) : ∃ vs' t, vs = vs' ++ [.int k t] := by
  induction ns generalizing vs with
  | nil =>
    cases h with
    | cons n t r => cases r; exact ⟨[], t, rfl⟩
  | cons a r ih =>
    cases h with
    | cons n t q =>
      obtain ⟨vs', t', rfl⟩ := ih q
      exact ⟨.int a t :: vs', t', rfl⟩
end Mine
end

section -- MTwo
open PySem PySem.W PyProof.Rows PySem.Calls
set_option Elab.async false
set_option maxRecDepth 100000
set_option maxHeartbeats 8000000
namespace Mine
section
variable {prog : Program} {w : World} {A : Around} {E : Value → Shared → Prop} {s : Shared} {env : Env} {R : Result → Shared → Prop}
noncomputable abbrev twoC (elt : Expr) (t0 i0 t1 i1 : Expr) (scope : Scope) (pos : Pos) : Expr := .ListComp elt [⟨t0, i0, [], 0⟩, ⟨t1, i1, [], 0⟩] scope pos
theorem turn_two0 (elt t0 i0 t1 i1 : Expr) (scope : Scope) (pos : Pos) (it acc : Value) (env : Env) :
    compTurn (twoC elt t0 i0 t1 i1 scope pos) 0 it acc env = (standAt i0.pos >>= fun _ => pyNext it >>= fun r => match r with
      | none => pure (.done .next)
      | some v => letOwnedTupleGo t0 it v >>= fun _ => assign t0 env v >>= fun _ =>
        eval i1 env >>= fun x => standAt i1.pos >>= fun _ => foldedSetIterable i1 env x >>= fun x => holding [x] (pyIter x) >>= fun it' => runOwn (.compStart (twoC elt t0 i0 t1 i1 scope pos) 1 it' acc env) env >>= fun _ =>
          again (.compLoop (twoC elt t0 i0 t1 i1 scope pos) 0 it acc env)) := by rfl
theorem turn_two1 (elt t0 i0 t1 i1 : Expr) (scope : Scope) (pos : Pos) (it acc : Value) (env : Env) :
    compTurn (twoC elt t0 i0 t1 i1 scope pos) 1 it acc env = (standAt i1.pos >>= fun _ => pyNext it >>= fun r => match r with
      | none => pure (.done .next)
      | some v => letOwnedTupleGo t1 it v >>= fun _ => assign t1 env v >>= fun _ =>
        (eval elt env >>= fun x => call (.builtin "list.append") [acc, x] >>= fun _ => pure ()) >>= fun _ =>
          again (.compLoop (twoC elt t0 i0 t1 i1 scope pos) 1 it acc env)) := by rfl
theorem loop_two1 {elt t0 i0 t1 i1 : Expr} {scope : Scope} {pos : Pos} {it acc : Value}
    (turn : ∀ E', wpAny (model prog w) A (pyNext it) (fun r s₁ => match r with
      | none => R (.ok .next) s₁
      | some v => wpAny (model prog w) A (assign t1 env v) (fun _ s₂ => wpAny (model prog w) A (eval elt env) (fun x s₃ => wpAny (model prog w) A (call (.builtin "list.append") [acc, x]) (fun _ s₄ =>
          codeAny (model prog w) A (.compLoop (twoC elt t0 i0 t1 i1 scope pos) 1 it acc env) R s₄) E' s₃) E' s₂) E' s₁) E' s)
    (ht : ∀ v, letOwnedTupleGo t1 it v = pure () := by intro _; rfl) :
    codeAny (model prog w) A (.compLoop (twoC elt t0 i0 t1 i1 scope pos) 1 it acc env) R s := by
  refine codeAny_of_tree ?_
  show wpAny _ A ((compTurn (twoC elt t0 i0 t1 i1 scope pos) 1 it acc env).onRaise (fun x => do noteFrame x env; theTreesLotGoes x)) _ _ s
  refine wpAny_noted ?_
  rw [turn_two1]
  refine wpAny_bind (wpAny_standAt (wpAny_bind (wpAny_mono (turn _) (fun r s₁ h₁ => ?_) fun _ _ h' => h')))
  cases r with
  | none => exact wpAny_pure h₁
  | some v =>
    refine wpAny_bind (wpAny_of_eq (ht v) ?_)
    exact wpAny_bind (wpAny_mono h₁ (fun _ s₂ h₂ => wpAny_bind (wpAny_bind (wpAny_mono h₂ (fun x s₃ h₃ => wpAny_bind (wpAny_mono h₃
      (fun _ s₄ h₄ => wpAny_pure (wpAny_pure ⟨rfl, h₄⟩)) fun _ _ h' => h')) fun _ _ h' => h'))) fun _ _ h' => h')
theorem loop_two0 {elt t0 i0 t1 i1 : Expr} {scope : Scope} {pos : Pos} {it acc : Value}
    (turn : ∀ E', wpAny (model prog w) A (pyNext it) (fun r s₁ => match r with
      | none => R (.ok .next) s₁
      | some v => wpAny (model prog w) A (assign t0 env v) (fun _ s₂ => wpAny (model prog w) A (eval i1 env) (fun x s₃ => wpAny (model prog w) A (pyIter x) (fun it' s₄ =>
          codeAny (model prog w) A (.compStart (twoC elt t0 i0 t1 i1 scope pos) 1 it' acc env) (fun r s₅ => match r with | .ok _ => codeAny (model prog w) A (.compLoop (twoC elt t0 i0 t1 i1 scope pos) 0 it acc env) R s₅ | .error e => cameBackBy (model prog w) A env E' e s₅) s₄) E' s₃) E' s₂) E' s₁) E' s)
    (hs : ∀ x, foldedSetIterable i1 env x = pure x := by intro _; rfl)
    (ht : ∀ v, letOwnedTupleGo t0 it v = pure () := by intro _; rfl) :
    codeAny (model prog w) A (.compLoop (twoC elt t0 i0 t1 i1 scope pos) 0 it acc env) R s := by
  refine codeAny_of_tree ?_
  show wpAny _ A ((compTurn (twoC elt t0 i0 t1 i1 scope pos) 0 it acc env).onRaise (fun x => do noteFrame x env; theTreesLotGoes x)) _ _ s
  refine wpAny_noted ?_
  rw [turn_two0]
  refine wpAny_bind (wpAny_standAt (wpAny_bind (wpAny_mono (turn _) (fun r s₁ h₁ => ?_) fun _ _ h' => h')))
  cases r with
  | none => exact wpAny_pure h₁
  | some v =>
    refine wpAny_bind (wpAny_of_eq (ht v) ?_)
    refine wpAny_bind (wpAny_mono h₁ (fun _ s₂ h₂ => wpAny_bind (wpAny_mono h₂ (fun x s₃ h₃ => wpAny_bind (wpAny_standAt (wpAny_bind (wpAny_of_eq (hs x) (wpAny_bind (wpAny_holding (wpAny_mono h₃
      (fun it' s₄ h₄ => wpAny_bind (wpAny_runOwn (codeAny_mono h₄ fun r s₅ h₅ => ?_) (by intro x; cases x))) fun _ _ h' => h'))))))) fun _ _ h' => h')) fun _ _ h' => h')
    cases r with
    | ok f => exact wpAny_pure ⟨rfl, h₅⟩
    | error e => exact h₅
theorem start_two1 {elt t0 i0 t1 i1 : Expr} {scope : Scope} {pos : Pos} {it acc : Value}
    (h0 : codeAny (model prog w) A (.compLoop (twoC elt t0 i0 t1 i1 scope pos) 1 it acc env) R s)
    (h : ∀ E', wpAny (model prog w) A (pyIter it) (fun it' s' => codeAny (model prog w) A (.compLoop (twoC elt t0 i0 t1 i1 scope pos) 1 it' acc env) R s') E' s) :
    codeAny (model prog w) A (.compStart (twoC elt t0 i0 t1 i1 scope pos) 1 it acc env) R s := by
  refine codeAny_of_tree ?_
  show wpAny _ _ ((compStart (twoC elt t0 i0 t1 i1 scope pos) 1 it acc env).onRaise (fun x => do noteFrame x env; standAt theWindowsPlace)) _ _ s
  refine wpAny_notedAt ?_
  unfold compStart
  show wpAny _ _ (ask >>= _) _ _ s
  refine wpAny_bind (wpAny_askSetting (wpAny_ite ?_))
  split
  · first
      | exact wpAny_bind (wpAny_pure (wpAny_pure (And.intro rfl h0)))
      | exact wpAny_pure (And.intro rfl h0)
  · first
      | exact wpAny_bind (wpAny_rule (wpAny_bind (wpAny_standAt (wpAny_bind (wpAny_mono (h _) (fun it' s' h' => wpAny_pure (And.intro rfl h')) fun _ _ x => x)))))
      | (refine wpAny_bind (wpAny_rule ?_); show wpAny _ _ (standAt i1.pos >>= _) _ _ s; exact wpAny_bind (wpAny_standAt (wpAny_bind (wpAny_mono (h _) (fun it' s' h' => wpAny_pure (And.intro rfl h')) fun _ _ x => x))))
end
end Mine
end

section -- MTw2
open PySem PySem.W PyProof.Rows PySem.Calls
set_option Elab.async false
set_option maxRecDepth 100000
set_option maxHeartbeats 8000000
namespace Mine
section
variable {prog : Program} {w : World} {A : Around} {E : Value → Shared → Prop} {s : Shared} {env : Env} {h₀ h h' : Heap} {L b : Addr} {m : Str → Option Value} {news : Led}
theorem fr_ext (F : Fr h₀ L h m) (hs : Heap.ExtBut b h h') (hL : b ≠ L) (hn : h₀.get? b = none) : Fr h₀ L h' m :=
  ⟨F.ns.extBut hs (Ne.symm hL), fun c o e => hs c o (by rintro rfl; rw [hn] at e; cases e) (F.keep c o e), F.above⟩
theorem news_ext (N : News h₀ L h news) (hs : Heap.ExtBut b h h') (off : ∀ p ∈ news, p.1 ≠ b) : News h₀ L h' news := fun p hp => ⟨hs _ _ (off p hp) (N p hp).1, (N p hp).2⟩
structure TwC (h₀ : Heap) (L I C D : Addr) : Prop where
  I0 : h₀.get? I = none
  C0 : h₀.get? C = none
  D0 : h₀.get? D = none
  IC : I ≠ C
  ID : I ≠ D
  CD : C ≠ D
  IL : I ≠ L
  CL : C ≠ L
  DL : D ≠ L
structure Tw (h₀ : Heap) (L : Addr) (m : Str → Option Value) (I C D ax : Addr) (i : Nat) (ys : List Value) (news : Led) (h : Heap) : Prop where
  F : Fr h₀ L h m
  N : News h₀ L h ((D, LCg.lst ys) :: news)
  off : LCg.Off3 I C D news
  it : h.IsListIter I ax i
  C : ∃ mc, h.Ns C mc
theorem Tw.li {I C D ax rl : Addr} {i : Nat} {ys : List Value} {its : List Value} {n : Nat} (T : Tw h₀ L m I C D ax i ys news h) (hax : (rl, listOf its.toArray n) ∈ news) : h.IsList rl its.toArray :=
  ⟨_, (T.N _ (.tail _ hax)).1, rfl, n, rfl⟩
theorem Tw.finish {I C D ax : Addr} {i n : Nat} {its ys : List Value} {elt i0 i1 : Expr} {x y : Str} {px py : Pos} {scope : Scope} {cl : List (Str × Addr)} {pos : Pos} {R : Result → Shared → Prop}
    (k : TwC h₀ L I C D) (T : Tw h₀ L m I C D ax i ys news s.heap) (hh : A.handled = none) (hax : (ax, listOf its.toArray n) ∈ news) (hi : its.length ≤ i) (hs1 : ∀ e x, foldedSetIterable i1 e x = pure x)
    (fin : ∀ h tk m', Fr h₀ L h m → News h₀ L h ((D, LCg.lst ys) :: news) → LCg.Off1 D news → h.Ns C m' → h₀.get? C = none → h₀.get? D = none → C ≠ L → D ≠ L → C ≠ D → (∀ p ∈ news, p.1 ≠ C) → R (.ok .next) { s with heap := h, toks := tk }) :
    codeAny (model prog w) A (.compLoop (twoC elt (.Name x px) i0 (.Name y py) i1 scope pos) 0 (.ref I) (.ref D) (compEnvC scope cl C env)) R s := by
  refine loop_two0 (fun E' => ?_) (fun x => hs1 _ x)
  refine wpAny_pyNext_list_end hh T.it (T.li hax) (by simp [hi]) fun h' hs => ?_
  obtain ⟨mc, hmc⟩ := T.C
  have off3 := T.off.mem
  refine fin h' _ mc (fr_ext T.F hs k.IL k.I0) (news_ext T.N hs ?_) T.off.one (hmc.extBut hs (Ne.symm k.IC)) k.C0 k.D0 k.CL k.DL k.CD fun p hp => (off3 p hp).2.1
  intro p hp
  rcases List.mem_cons.mp hp with rfl | hp
  · exact Ne.symm k.ID
  · exact (off3 p hp).1
theorem inner_two {I C D ax J rl : Addr} {i rn : Nat} {rs : List Value} {i0 i1 : Expr} {x y : Str} {px py pe : Pos} {scope : Scope} {cl : List (Str × Addr)} {pos : Pos} {R : Result → Shared → Prop}
    (hkind : scope.kind = .function) (hy : scope.names.lookup y = some .local) (hdb : (y == ("__debug__" : Str)) = false)
    (k : TwC h₀ L I C D) (T : Tw h₀ L m I C D ax i [] news s.heap) (hh : A.handled = none) (hrl : (rl, listOf rs.toArray rn) ∈ news) (hrs : rs.length ≤ 1)
    (hJ : s.heap.IsListIter J rl 0) (J0 : h₀.get? J = none) (JI : J ≠ I) (JC : J ≠ C) (JD : J ≠ D) (JL : J ≠ L) (Joff : ∀ p ∈ news, p.1 ≠ J)
    (fin : ∀ h tk, Tw h₀ L m I C D ax i rs news h → R (.ok .next) { s with heap := h, toks := tk }) :
    codeAny (model prog w) A (.compLoop (twoC (.Name y pe) (.Name x px) i0 (.Name y py) i1 scope pos) 1 (.ref J) (.ref D) (compEnvC scope cl C env)) R s := by
  have hli := T.li hrl
  have off3 := T.off.mem
  have stepJ : ∀ {h h' : Heap} {ys : List Value}, Tw h₀ L m I C D ax i ys news h → Heap.ExtBut J h h' → Tw h₀ L m I C D ax i ys news h' := fun {h h' ys} T hs =>
    ⟨fr_ext T.F hs JL J0, news_ext T.N hs (by
      intro p hp
      rcases List.mem_cons.mp hp with rfl | hp
      · exact Ne.symm JD
      · exact Joff p hp), T.off, T.it.extBut hs (Ne.symm JI), let ⟨mc, q⟩ := T.C; ⟨mc, q.extBut hs (Ne.symm JC)⟩⟩
  refine loop_two1 fun E' => ?_
  obtain rfl | ⟨v, rfl⟩ : rs = [] ∨ ∃ v, rs = [v] := by
    rcases rs with _ | ⟨v, _ | ⟨v2, r⟩⟩
    · exact .inl rfl
    · exact .inr ⟨v, rfl⟩
    · exact absurd hrs (by simp only [List.length_cons]; omega)
  · refine wpAny_pyNext_list_end hh hJ hli (by simp) fun h' hs => ?_
    exact fin h' _ (stepJ T hs)
  · refine wpAny_pyNext_list_item hJ hli (x := v) (by simp) fun h1 hJ1 hs1 => ?_
    have T1 := stepJ T hs1.extBut
    obtain ⟨mc, hmc⟩ := T1.C
    refine wpAny_assign_Name (wpAny_storeName_local (lookup_relabel_local hy) hmc (fun h2 hn2 hs2 => ?_) (by simp [compEnvC, relabel, hkind]))
    have hs2 : Heap.SameBut C h1 h2 := hs2
    refine wpAny_Name (wpAny_loadName_local (by simp [compEnvC, relabel, hkind]) (lookup_relabel_local hy) hn2 (v := v) (by simp) ?_) hdb
    have N2 : News h₀ L h2 ((D, LCg.lst []) :: news) := news_ext T1.N hs2.extBut (by
      intro p hp
      rcases List.mem_cons.mp hp with rfl | hp
      · exact Ne.symm k.CD
      · exact (off3 p hp).2.1)
    refine append_at (N2 _ (.head _)).1 (fun h3 hs3 hD3 => ?_) (by show (0 : Nat) ≤ sizeLine; exact Nat.zero_le _)
    have hs3 : Heap.SameBut D h2 h3 := hs3
    have T3 : Tw h₀ L m I C D ax i [v] news h3 := by
      refine ⟨fr_ext (fr_ext T1.F hs2.extBut k.CL k.C0) hs3.extBut k.DL k.D0, ?_, T.off, (T1.it.extBut hs2.extBut k.IC).extBut hs3.extBut k.ID, ⟨_, hn2.extBut hs3.extBut k.CD⟩⟩
      intro p hp
      rcases List.mem_cons.mp hp with rfl | hp
      · exact ⟨hD3, k.DL, k.D0⟩
      · exact ⟨hs3.extBut _ _ (off3 p hp).2.2 (N2 p (.tail _ hp)).1, (N2 p (.tail _ hp)).2⟩
    have hJ3 : h3.IsListIter J rl 1 := (hJ1.extBut hs2.extBut JC).extBut hs3.extBut JD
    refine loop_two1 fun E' => ?_
    refine wpAny_pyNext_list_end hh hJ3 (T3.li hrl) (by simp) fun h' hs => ?_
    exact fin h' _ (stepJ T3 hs)
noncomputable def TwEnd (h₀ : Heap) (L : Addr) (m : Str → Option Value) (s₁ : Shared) (I : Addr) (oI : Obj) (C : Addr) (oC : Obj) (D : Addr) (axe : Addr × Obj) (rest : List Value → Led → Prop) (r : Value) (s₂ : Shared) : Prop :=
  ∃ rl rs rn h' tk news', r = .ref rl ∧ s₂ = { s₁ with heap := h', toks := tk } ∧ Fr h₀ L h' m ∧ News h₀ L h' ((I, oI) :: (C, oC) :: (D, LCg.lst []) :: news') ∧ LCg.Off3 I C D news' ∧ (rl, listOf rs.toArray rn) ∈ news' ∧ axe ∈ news' ∧ rs.length ≤ 1 ∧ rest rs news'
theorem TwEnd.intro {s₁ : Shared} {I C D : Addr} {oI oC : Obj} {axe : Addr × Obj} {rest : List Value → Led → Prop} {rl : Addr} {rs : List Value} {rn : Nat} {tk : Nat} {all : Led}
    (F : Fr h₀ L h' m) (N : News h₀ L h' all) (news' : Led) (sub : ∀ p ∈ (I, oI) :: (C, oC) :: (D, LCg.lst []) :: news', p ∈ all) (off : LCg.Off3 I C D news') (hr : (rl, listOf rs.toArray rn) ∈ news') (ha : axe ∈ news') (hl : rs.length ≤ 1) (h : rest rs news') :
    TwEnd h₀ L m s₁ I oI C oC D axe rest (.ref rl) { s₁ with heap := h', toks := tk } := ⟨rl, rs, rn, h', tk, news', rfl, rfl, F, fun p hp => N p (sub p hp), off, hr, ha, hl, h⟩
noncomputable def TwSrc (prog : Program) (w : World) (A : Around) (h₀ : Heap) (L : Addr) (m : Str → Option Value) (env : Env) (i1 : Expr) (x : Str) (scope : Scope) (cl : List (Str × Addr)) (Fin : Shared → List Value → Led → Prop) (xv : Value) (s₁ : Shared) : Prop :=
  ∃ ax its n news, xv = .ref ax ∧ A.handled = none ∧ Fr h₀ L s₁.heap m ∧ News h₀ L s₁.heap news ∧ (ax, listOf its.toArray n) ∈ news ∧ its.length ≤ 1 ∧
    (its = [] → Fin s₁ [] news) ∧
    (∀ v, its = [v] → ∀ I oI C oC D m₂ h tk (E' : Value → Shared → Prop), LCg.NsObj oC m₂ → m₂ x = some v → Fr h₀ L h m → News h₀ L h ((I, oI) :: (C, oC) :: (D, LCg.lst []) :: news) → LCg.Off3 I C D news → ((@Ne Nat I C) ∧ (@Ne Nat I D) ∧ (@Ne Nat C D)) →
      wpAny (model prog w) A (eval i1 (compEnvC scope cl C env)) (TwEnd h₀ L m { s₁ with heap := h, toks := tk } I oI C oC D (ax, listOf its.toArray n) (Fin s₁)) E' { s₁ with heap := h, toks := tk })
theorem TwSrc.nil {i1 : Expr} {x : Str} {scope : Scope} {cl : List (Str × Addr)} {Fin : Shared → List Value → Led → Prop} {ax : Addr} {n : Nat}
    (hh : A.handled = none) (F : Fr h₀ L s.heap m) (N : News h₀ L s.heap news) (hax : (ax, listOf ([] : List Value).toArray n) ∈ news) (h0 : Fin s [] news) :
    TwSrc prog w A h₀ L m env i1 x scope cl Fin (.ref ax) s := ⟨ax, [], n, news, rfl, hh, F, N, hax, Nat.zero_le _, fun _ => h0, fun _ e => by cases e⟩
theorem TwSrc.one {i1 : Expr} {x : Str} {scope : Scope} {cl : List (Str × Addr)} {Fin : Shared → List Value → Led → Prop} {ax : Addr} {v : Value} {n : Nat}
    (hh : A.handled = none) (F : Fr h₀ L s.heap m) (N : News h₀ L s.heap news) (hax : (ax, listOf [v].toArray n) ∈ news)
    (h1 : ∀ I oI C oC D m₂ h tk (E' : Value → Shared → Prop), LCg.NsObj oC m₂ → m₂ x = some v → Fr h₀ L h m → News h₀ L h ((I, oI) :: (C, oC) :: (D, LCg.lst []) :: news) → LCg.Off3 I C D news → ((@Ne Nat I C) ∧ (@Ne Nat I D) ∧ (@Ne Nat C D)) →
      wpAny (model prog w) A (eval i1 (compEnvC scope cl C env)) (TwEnd h₀ L m { s with heap := h, toks := tk } I oI C oC D (ax, listOf [v].toArray n) (Fin s)) E' { s with heap := h, toks := tk }) :
    TwSrc prog w A h₀ L m env i1 x scope cl Fin (.ref ax) s := ⟨ax, [v], n, news, rfl, hh, F, N, hax, Nat.le_refl _, (fun e => by cases e), fun _ e => by cases e; exact h1⟩
theorem block_two {iter i1 : Expr} {x y : Str} {px py pe : Pos} {scope : Scope} {cl : List (Str × Addr)} {pos : Pos} {Fin : Shared → List Value → Led → Prop} {RR : Value → Addr → Result → Shared → Prop} {xv : Value} {s₁ : Shared}
    (hcell : ∀ y ∈ scope.names, y.2 ≠ .cell) (hkind : scope.kind = .function) (hx : scope.names.lookup x = some .local) (hy : scope.names.lookup y = some .local) (hdb : (y == ("__debug__" : Str)) = false)
    (h₁ : TwSrc prog w A h₀ L m env i1 x scope cl Fin xv s₁) (hs1 : ∀ e x, foldedSetIterable i1 e x = pure x)
    (hRR : ∀ D C h tk m' ys news', Fr h₀ L h m → News h₀ L h ((D, LCg.lst ys) :: news') → LCg.Off1 D news' → h.Ns C m' → h₀.get? C = none → h₀.get? D = none → C ≠ L → D ≠ L → C ≠ D → (∀ p ∈ news', p.1 ≠ C) → Fin s₁ ys news' → RR (.ref D) C (.ok .next) { s₁ with heap := h, toks := tk }) :
    wpAny (model prog w) A (pyIter xv) (fun it s₂ => wpAny (model prog w) A (newList []) (fun acc s₃ => wpAny (model prog w) A (newFunctionEnv scope env.globals cl [] env.qual none .none (some env)) (fun cenv s₄ =>
      codeAny (model prog w) A (.compStart (twoC (.Name y pe) (.Name x px) iter (.Name y py) i1 scope pos) 0 it acc { cenv with scope := relabel scope env }) (RR acc cenv.locals) s₄) E s₃) E s₂) E s₁ := by
  obtain ⟨ax, its, n, news, rfl, hh, F, N, hax, hle, hnil, hone⟩ := h₁
  refine wpAny_pyIter_list (items := its.toArray) ⟨_, (N _ hax).1, rfl, n, rfl⟩ ?_
  refine wpAny_newObj_type (wpAny_newFunctionEnv hcell (by intro y hy; simp at hy) (fun h₁ hns₁ hsb₁ => ?_) hkind)
  dsimp only at hns₁ hsb₁ ⊢
  generalize hI : s₁.heap.objs.size = I at *
  generalize hH1 : s₁.heap.push { cls := .type "list_iterator", data := .fields #[.ref ax, .int 0 0] } = H1 at hns₁ hsb₁ ⊢
  have hD : H1.objs.size = I + 1 := by rw [← hH1, Heap.size_push, hI]
  generalize hH2 : H1.push { cls := .type "list", dict := none, data := .seq ([] : List Value).toArray } = H2 at hns₁ hsb₁ ⊢
  have hC : H2.objs.size = H1.objs.size + 1 := by rw [← hH2, Heap.size_push]
  generalize hDe : H1.objs.size = D at *
  generalize hCe : H2.objs.size = C at *
  have lt1 : ∀ b o, s₁.heap.get? b = some o → b < I := fun b o e => hI ▸ Heap.lt_size e
  have ne1 : ∀ b o, s₁.heap.get? b = some o → b ≠ I ∧ b ≠ C ∧ b ≠ D := fun b o e => by
    have z : @LT.lt Nat _ b I := lt1 b o e
    have h1 : @Eq Nat D (I + 1) := hD
    have h2 : @Eq Nat C (D + 1) := hC
    refine ⟨?_, ?_, ?_⟩
    · show @Ne Nat b I; omega
    · show @Ne Nat b C; omega
    · show @Ne Nat b D; omega
  have up : ∀ b o, s₁.heap.get? b = some o → h₁.get? b = some o := fun b o e => hsb₁.extBut b o (ne1 b o e).2.1 (Heap.get?_push_of_some _ (by rw [← hH2]; exact Heap.get?_push_of_some _ (by rw [← hH1]; exact Heap.get?_push_of_some _ e)))
  have k0 : ∀ b, (∀ o, s₁.heap.get? b ≠ some o) → h₀.get? b = none := fun b hb => by
    cases e : h₀.get? b with
    | none => rfl
    | some o => exact absurd (F.keep b o e) (hb o)
  obtain ⟨oL, hL⟩ : ∃ o, s₁.heap.get? L = some o := by obtain ⟨o, es, ep, e, _⟩ := F.ns; exact ⟨o, e⟩
  have k : TwC h₀ L I C D := by
    have h1 : @Eq Nat D (I + 1) := hD
    have h2 : @Eq Nat C (D + 1) := hC
    refine ⟨k0 _ fun o e => (ne1 _ _ e).1 rfl, k0 _ fun o e => (ne1 _ _ e).2.1 rfl, k0 _ fun o e => (ne1 _ _ e).2.2 rfl, ?_, ?_, ?_, Ne.symm (ne1 _ _ hL).1, Ne.symm (ne1 _ _ hL).2.1, Ne.symm (ne1 _ _ hL).2.2⟩
    · show @Ne Nat I C; omega
    · show @Ne Nat I D; omega
    · show @Ne Nat C D; omega
  have hIt : H1.IsListIter I ax 0 := by
    have e : (s₁.heap.push { cls := .type "list_iterator", data := .fields #[.ref ax, .int 0 0] }).get? s₁.heap.objs.size = some { cls := .type "list_iterator", data := .fields #[.ref ax, .int 0 0] } := Heap.get?_push_size _ rfl
    rw [hI, hH1] at e
    exact ⟨_, e, rfl, rfl⟩
  have hIt1 : h₁.IsListIter I ax 0 := hIt.at fun o e => hsb₁.extBut _ _ k.IC (Heap.get?_push_of_some _ (by rw [← hH2]; exact Heap.get?_push_of_some _ e))
  have hDo : h₁.get? D = some (LCg.lst []) := by
    have e : (H1.push { cls := .type "list", dict := none, data := .seq ([] : List Value).toArray }).get? H1.objs.size = some { cls := .type "list", dict := none, data := .seq ([] : List Value).toArray } := Heap.get?_push_size _ rfl
    rw [hDe, hH2] at e
    exact hsb₁.extBut _ _ (Ne.symm k.CD) (Heap.get?_push_of_some _ e)
  have T : Tw h₀ L m I C D ax 0 [] news h₁ := by
    refine ⟨F.keeps up, ?_, LCg.Off3.of fun p hp => ne1 _ _ (N p hp).1, hIt1, ⟨_, hns₁⟩⟩
    intro p hp
    rcases List.mem_cons.mp hp with rfl | hp
    · exact ⟨hDo, k.DL, k.D0⟩
    · exact ⟨up _ _ (N p hp).1, (N p hp).2⟩
  have loop : ∀ s₃ : Shared, (∃ tk, s₃ = { s₁ with heap := h₁, toks := tk }) →
      codeAny (model prog w) A (.compLoop (twoC (.Name y pe) (.Name x px) iter (.Name y py) i1 scope pos) 0 (.ref I) (.ref D) (compEnvC scope cl C env)) (RR (.ref D) C) s₃ := by
    rintro s₃ ⟨tk₃, rfl⟩
    obtain rfl | ⟨v, rfl⟩ : its = [] ∨ ∃ v, its = [v] := by
      rcases its with _ | ⟨v, _ | ⟨v2, r⟩⟩
      · exact .inl rfl
      · exact .inr ⟨v, rfl⟩
      · exact absurd hle (by simp only [List.length_cons]; omega)
    · exact T.finish k hh hax (Nat.le_refl _) hs1 fun h tk m' a1 a2 a3 a4 a5 a6 a7 a8 a9 a10 => hRR _ _ _ _ _ _ _ a1 a2 a3 a4 a5 a6 a7 a8 a9 a10 (hnil rfl)
    · refine loop_two0 (fun E' => ?_) (fun x => hs1 _ x)
      refine wpAny_pyNext_list_item T.it (T.li hax) (x := v) (by simp) fun h2 hI2 hs2 => ?_
      have hs2 : Heap.SameBut I h₁ h2 := hs2
      obtain ⟨mc, hmc⟩ := T.C
      have off3 := T.off.mem
      refine wpAny_assign_Name (wpAny_storeName_local (lookup_relabel_local hx) (hmc.extBut hs2.extBut (Ne.symm k.IC)) (fun h3 hn3 hs3 => ?_) (by simp [compEnvC, relabel, hkind]))
      have hs3 : Heap.SameBut C h2 h3 := hs3
      have F3 : Fr h₀ L h3 m := fr_ext (fr_ext T.F hs2.extBut k.IL k.I0) hs3.extBut k.CL k.C0
      obtain ⟨oI, heI, hoI⟩ := hI2.extBut hs3.extBut k.IC
      obtain ⟨oC, heC, hoC⟩ := LCg.ns_obj hn3
      have N3 : News h₀ L h3 ((I, oI) :: (C, oC) :: (D, LCg.lst []) :: news) := fun p hp => by
        rcases List.mem_cons.mp hp with rfl | hp
        · exact ⟨heI, k.IL, k.I0⟩
        · rcases List.mem_cons.mp hp with rfl | hp
          · exact ⟨heC, k.CL, k.C0⟩
          · have z := T.N p hp
            refine ⟨hs3.extBut _ _ ?_ (hs2.extBut _ _ ?_ z.1), z.2⟩
            · rcases List.mem_cons.mp hp with rfl | hp
              · exact Ne.symm k.CD
              · exact (off3 p hp).2.1
            · rcases List.mem_cons.mp hp with rfl | hp
              · exact Ne.symm k.ID
              · exact (off3 p hp).1
      refine wpAny_mono (hone v rfl I oI C oC D _ h3 _ _ hoC (by simp) F3 N3 T.off ⟨k.IC, k.ID, k.CD⟩) (fun r s₄ h₄ => ?_) fun _ _ e => e
      obtain ⟨rl, rs, rn, h4, tk4, news', rfl, rfl, F4, N4, off4, hrl, hax4, hrs, fin⟩ := h₄
      have off4m := off4.mem
      have zI := (N4 (I, oI) (.head _)).1
      have zC := (N4 (C, oC) (.tail _ (.head _))).1
      have T4 : Tw h₀ L m I C D ax 1 [] news' h4 := ⟨F4, fun p hp => N4 p (.tail _ (.tail _ hp)), off4, ⟨oI, zI, hoI⟩, ⟨_, hoC.ns zC⟩⟩
      refine wpAny_pyIter_list (T4.li hrl) ?_
      dsimp only
      generalize hJ : h4.objs.size = J
      generalize hH5 : h4.push { cls := .type "list_iterator", data := .fields #[.ref rl, .int 0 0] } = H5
      have up5 : ∀ b o, h4.get? b = some o → H5.get? b = some o := fun b o e => by rw [← hH5]; exact Heap.get?_push_of_some _ e
      have neJ : ∀ b o, h4.get? b = some o → b ≠ J := fun b o e => hJ ▸ Nat.ne_of_lt (Heap.lt_size e)
      have T5 : Tw h₀ L m I C D ax 1 [] news' H5 := ⟨F4.keeps up5, fun p hp => ⟨up5 _ _ (T4.N p hp).1, (T4.N p hp).2⟩, off4, T4.it.at (fun o e => up5 _ _ e), let ⟨mc, q⟩ := T4.C; ⟨mc, q.keeps up5⟩⟩
      have hJ5 : H5.IsListIter J rl 0 := by
        have e : (h4.push { cls := .type "list_iterator", data := .fields #[.ref rl, .int 0 0] }).get? h4.objs.size = some { cls := .type "list_iterator", data := .fields #[.ref rl, .int 0 0] } := Heap.get?_push_size _ rfl
        rw [hJ, hH5] at e
        exact ⟨_, e, rfl, rfl⟩
      have hJ0 : h₀.get? J = none := by rw [← hJ]; exact next_is_new F4
      obtain ⟨oL4, hL4⟩ : ∃ o, h4.get? L = some o := by obtain ⟨o, es, ep, e, _⟩ := F4.ns; exact ⟨o, e⟩
      have inner : ∀ s₆ : Shared, (∃ tk, s₆ = { s₁ with heap := H5, toks := tk }) → codeAny (model prog w) A (.compLoop (twoC (.Name y pe) (.Name x px) iter (.Name y py) i1 scope pos) 1 (.ref J) (.ref D) (compEnvC scope cl C env))
          (fun r s₅ => match r with
            | .ok _ => codeAny (model prog w) A (.compLoop (twoC (.Name y pe) (.Name x px) iter (.Name y py) i1 scope pos) 0 (.ref I) (.ref D) (compEnvC scope cl C env)) (RR (.ref D) C) s₅
            | .error e => cameBackBy (model prog w) A (compEnvC scope cl C env) E' e s₅) s₆ := by
        rintro s₆ ⟨tk6, rfl⟩
        refine inner_two (rs := rs) hkind hy hdb k T5 hh hrl hrs hJ5 hJ0 (Ne.symm (neJ _ _ zI)) (Ne.symm (neJ _ _ zC)) (Ne.symm (neJ _ _ (T4.N _ (.head _)).1)) (Ne.symm (neJ _ _ hL4)) (fun p hp => neJ _ _ (T4.N p (.tail _ hp)).1) fun h7 tk7 T7 => ?_
        exact T7.finish k hh hax4 (Nat.le_refl _) hs1 fun h tk m' a1 a2 a3 a4 a5 a6 a7 a8 a9 a10 => hRR _ _ _ _ _ _ _ a1 a2 a3 a4 a5 a6 a7 a8 a9 a10 fin
      refine start_two1 (inner _ ⟨_, rfl⟩) fun E'' => ?_
      exact wpAny_pyIter_listiter hJ5 (inner _ ⟨_, rfl⟩)
  exact codeAny_compStart_list (loop _ ⟨_, rfl⟩) (wpAny_pyIter_listiter hIt1 (loop _ ⟨_, rfl⟩))
theorem Assign_ListComp_two {iter i1 : Expr} {x y z : Str} {px py pe pz : Pos} {scope : Scope} {cl : List (Str × Addr)} {pos spos : Pos} {Q : Flow → Shared → Prop} (_F₀ : Fr h₀ L s.heap m) (hLe : env.locals = L)
    (hsw : swapsWith (twoC (.Name y pe) (.Name x px) iter (.Name y py) i1 scope pos) (some (.Name z pz)) spos.line env = pure true)
    (hclos : closureFor scope env = pure cl) (hcell : ∀ y ∈ scope.names, y.2 ≠ .cell) (hkind : scope.kind = .function)
    (hnames : ∀ y ∈ scope.names, y.2 = .local → scope.names.lookup y.1 = some .local) (hx : scope.names.lookup x = some .local) (hy : scope.names.lookup y = some .local) (hdb : (y == ("__debug__" : Str)) = false)
    (hz : env.kindOf z = some .local) (hp : (env.scope.kind == .class || (env.scope.kind == .module && env.locals != env.globals)) = false)
    (h : wpAny (model prog w) A (eval iter env) (TwSrc prog w A h₀ L m env i1 x scope cl (fun s₂ => LCg.FinA h₀ L m s₂ z Q)) E s)
    (hs : ∀ x, foldedSetIterable iter env x = pure x := by intro _; rfl)
    (hs1 : ∀ e x, foldedSetIterable i1 e x = pure x := by intro _ _; rfl) :
    wpAny (model prog w) A (exec (.Assign [.Name z pz] (twoC (.Name y pe) (.Name x px) iter (.Name y py) i1 scope pos) spos) env) Q E s := by
  subst hLe
  rw [exec_Assign_Name_used _ _ _ _ hsw]
  refine wpAny_bind (wpAny_standAt (wpAny_bind ?_))
  show wpAny _ A (do let _ ← comprehension (twoC (.Name y pe) (.Name x px) iter (.Name y py) i1 scope pos) scope env _ (newList []) false (eval iter env) (some (assign (.Name z pz) env))) _ _ s
  refine wpAny_bind (wpAny_mono (wpAny_comprehension_free (use := some (assign (.Name z pz) env)) (Q := fun _ s' => Q .next s') rfl hs hclos hkind hnames
    (wpAny_mono h (fun xv s₁ h₁ => ?_) fun _ _ e => e)) (fun _ s' hq => wpAny_pure (wpAny_pure hq)) fun _ _ e => e)
  refine block_two (RR := fun acc C => compPost (model prog w) A E (some (assign (.Name z pz) env)) (fun _ s' => Q .next s') acc C) hcell hkind hx hy hdb h₁ hs1 ?_
  intro D C h' tk m' ys news' F' N' o1 hn hC₀ hD₀ hCL hDL hCD offC fin
  show wpAny _ A (assign (.Name z pz) env (.ref D)) _ _ _
  refine wpAny_assign_Name (wpAny_storeName_local hz F'.ns (fun h₂ hn₂ hs₂ => ?_) hp)
  have hL₀ : h₀.get? env.locals = none := Heap.get?_none_of_le F'.above
  have F₂ : Fr h₀ env.locals h₂ (fun q => if q = z then some (.ref D) else m q) := ⟨hn₂, fun b o e => hs₂.extBut b o (fun q => by rw [q, hL₀] at e; cases e) (F'.keep b o e), F'.above⟩
  refine ⟨m', hn.sameBut hs₂ hCL, fun h'' hs'' => fin D h'' _ (F₂.change hs'' hCL hC₀) (fun p hp => ?_) o1⟩
  have q : h₂.get? p.1 = some p.2 := hs₂.extBut _ _ (N' p hp).2.1 (N' p hp).1
  refine ⟨hs''.extBut _ _ ?_ q, (N' p hp).2⟩
  rcases List.mem_cons.mp hp with rfl | hp
  · exact Ne.symm hCD
  · exact offC p hp
end
end Mine
end

section -- T30
open PySem PySem.W PyProof.Rows PySem.Calls
set_option Elab.async false
set_option maxRecDepth 100000
set_option maxHeartbeats 8000000
namespace Mine
theorem flush_T30 : True := by w_top off; first | walk1 | trivial
theorem ms_next {g2 h' : Heap} {L2 l pl1 lm : Addr} {s₁ : Shared} {tk : Nat} {m' : Str → Option Value} {ms' : List Value} {mn' : Nat} {all rest own9 : Led} {ns : List Int} {j : Nat} {x : Obj} {Q : Flow → Shared → Prop}
    (F9 : Fr g2 L2 h' m') (N9 : News g2 L2 h' all) (ho : OwnOff own9 (((lm, x) :: rest).map (·.1))) (hsub : ∀ p ∈ (lm, listOf ms'.toArray mn') :: (rest ++ own9), p ∈ all)
    (h1 : m' (Str.ofString "steps") = some (.ref l)) (h2 : m' (Str.ofString "places") = some (.ref pl1)) (h3 : m' (Str.ofString "moved") = some (.ref lm)) (hi : IntsAre ms' (upToZ ns (j + 1))) :
    ForPost g2 L2 (MSt.names l pl1 lm) (MSt.led rest lm) (MSt.Inv ns (j + 1)) own9 s₁ Q .next { s₁ with heap := h', toks := tk } := by
  refine ⟨⟨ms', mn'⟩, h', tk, m', all, rfl, F9, N9, ?_, ?_, ?_, ho, hi⟩
  · intro p hp
    simp only [List.mem_cons, List.not_mem_nil, or_false] at hp
    rcases hp with rfl | rfl | rfl <;> assumption
  · intro p hp
    refine hsub p ?_
    rcases List.mem_cons.mp hp with rfl | hp
    · exact .head _
    · exact .tail _ (List.mem_append_left _ hp)
  · exact fun p hp => hsub p (.tail _ (List.mem_append_right _ hp))
local macro_rules
  | `(tactic| walk_at $k:str) => if ["pyIter ref", "TwEnd"].contains k.getString then `(tactic| (k_here; refine stop_out ?_)) else Lean.Macro.throwUnsupported
local macro_rules | `(tactic| walk_at "ForPost") => `(tactic| (refine stop_out ?_))
local macro_rules | `(tactic| walk_at "CompEnd") => `(tactic| (k_here; k_dflt (refine' LCg.CompEnd.intro ?F ?N _ (fun _ h => h) ?off ?S ?_; (case F => k_asm); (case N => k_asm); (case off => assumption); (case S => exact Or.inr ⟨_, by k_mem, rfl, _, rfl⟩); k_whole)))
noncomputable def EndRes (h₀ : Heap) (L : Addr) (m : Str → Option Value) (s : Shared) (news : Led) (res : List Int) (Q : Value → Shared → Prop) : Prop :=
  ∀ pl ks n h' tk', Fr h₀ L h' m → News h₀ L h' ((pl, listOf ks.toArray n) :: news) → IntsAre ks res → Q (.ref pl) { s with heap := h', toks := tk' }
noncomputable def StFine : Stp → Prop
  | .one many b sg => many = 0 ∨ (many = 1 ∧ b = true ∧ sg = ⟨#[]⟩)
  | .grp many _ _ => many = 0
noncomputable def FstRes (h₀ : Heap) (L : Addr) (m : Str → Option Value) (s : Shared) (news : Led) (res : List Int) (Q : Value → Shared → Prop) : Prop :=
  ∀ pl ks n h' tk', Fr h₀ L h' m → News h₀ L h' ((pl, listOf ks.toArray n) :: news) → IntsAre ks res → (∀ p ∈ news, p.1 ≠ pl) → Q (.ref pl) { s with heap := h', toks := tk' }
noncomputable def FirstFact (w : World) (text : Str) (b : Bool) (sg : Str) : Prop :=
  ∀ (news : Led) (l : Addr) (n : Nat) (v1 : Value) (t1 up : Tok) (p0 : Int), (l, listOf [v1].toArray n) ∈ news → OneIs news v1 0 b sg → 0 ≤ p0 → p0 ≤ (text.length : Int) →
    ∀ (p : Program) (loose : List Str) (mean : ExcName → Option Value) (mg mb : Str → Option Value) (dp un : Nat) (gd : Option (List Code)) (cn : Str) (cs : Scope) (a : Addr) (ccd : Value) (cl : List (Str × Addr)) (outer : List Env) (A₀ : Around) (base h₀ : Heap) (L : Addr) (m : Str → Option Value) (s : Shared) (Q E : Value → Shared → Prop),
      Below A₀ base outer h₀ → Fr h₀ L s.heap m → (Mine.heapK w.params).In h₀ → News h₀ L s.heap news → Top p loose mean mg mb h₀ → cs.kind = .function → dp + 30 < recursionLimit → un + 1000 < cLine → FstRes h₀ L m s news (firstL text b sg p0) Q →
      wpAny (model P0 w) (ktrTop dp un gd cn cs L a ccd cl outer) (call (.ref 186) [.ref l, .str text t1, .int p0 up]) Q E s
theorem tw_end {h₀ h' : Heap} {L : Addr} {m : Str → Option Value} {s₁ : Shared} {I C D pl' : Addr} {oI oC : Obj} {axe : Addr × Obj} {R : List Value → Led → Prop} {ks : List Value} {n' : Nat} {rest : Led} {tk : Nat}
    (F : Fr h₀ L h' m) (N : News h₀ L h' ((pl', listOf ks.toArray n') :: (I, oI) :: (C, oC) :: (D, LCg.lst []) :: rest)) (o : ∀ p ∈ (I, oI) :: (C, oC) :: (D, LCg.lst []) :: rest, p.1 ≠ pl') (off : LCg.Off3 I C D rest) (ha : axe ∈ rest) (hl : ks.length ≤ 1)
    (h : R ks ((pl', listOf ks.toArray n') :: rest)) : TwEnd h₀ L m s₁ I oI C oC D axe R (.ref pl') { s₁ with heap := h', toks := tk } :=
  TwEnd.intro F N ((pl', listOf ks.toArray n') :: rest) (fun p hp => by
    simp only [List.mem_cons] at hp ⊢
    rcases hp with h | h | h | h | h
    · exact .inr (.inl h)
    · exact .inr (.inr (.inl h))
    · exact .inr (.inr (.inr (.inl h)))
    · exact .inl h
    · exact .inr (.inr (.inr (.inr h)))) ⟨⟨Ne.symm (o _ (.head _)), Ne.symm (o _ (.tail _ (.head _))), Ne.symm (o _ (.tail _ (.tail _ (.head _))))⟩, off⟩ (.head _) (.tail _ ha) hl h
theorem news_drop2 {h₀ h : Heap} {L : Addr} {x y : Addr × Obj} {r : Led} (N : News h₀ L h (x :: y :: r)) : News h₀ L h (x :: r) := fun p hp => N p (by
  rcases List.mem_cons.mp hp with h | h
  · rw [h]; exact .head _
  · exact .tail _ (.tail _ h))
theorem first_le1 {text : Str} {b : Bool} {sg : Str} {k : Int} : (firstL text b sg k).length ≤ 1 := by
  unfold firstL
  exact Nat.le_trans (List.length_take_le _ _) (Nat.le_refl _)
theorem first_use {w : World} {text : Str} {b : Bool} {sg : Str} {news : Led} {l : Addr} {n : Nat} {v1 : Value} {t1 up : Tok} {p0 : Int} {p : Program} {loose : List Str} {mean : ExcName → Option Value} {mg mb : Str → Option Value} {dp un : Nat} {gd : Option (List Code)} {cn : Str} {cs : Scope} {a : Addr} {ccd : Value} {cl : List (Str × Addr)} {outer : List Env} {A₀ : Around} {base h₀ : Heap} {L : Addr} {m : Str → Option Value} {s : Shared} {Q E : Value → Shared → Prop}
    (hf : FirstFact w text b sg) (hl : (l, listOf [v1].toArray n) ∈ news) (h1 : OneIs news v1 0 b sg) (h0 : 0 ≤ p0) (h2 : p0 ≤ (text.length : Int))
    (B : Below A₀ base outer h₀) (F : Fr h₀ L s.heap m) (X : (Mine.heapK w.params).In h₀) (N : News h₀ L s.heap news) (T : Top p loose mean mg mb h₀) (hkd : cs.kind = .function) (hroom : dp + 30 < recursionLimit) (hun : un + 1000 < cLine)
    (h : FstRes h₀ L m s news (firstL text b sg p0) Q) :
    wpAny (model P0 w) (ktrTop dp un gd cn cs L a ccd cl outer) (call (.ref 186) [.ref l, .str text t1, .int p0 up]) Q E s :=
  hf news l n v1 t1 up p0 hl h1 h0 h2 p loose mean mg mb dp un gd cn cs a ccd cl outer A₀ base h₀ L m s Q E B F X N T hkd hroom hun h
local macro_rules | `(tactic| walk_at "TwSrc") => `(tactic| (k_here; k_dflt (first
  | (refine' TwSrc.nil (by rfl) ?F ?N ?hax ?_; (case F => k_asm); (case N => k_asm); (case hax => k_mem))
  | (refine' TwSrc.one (by rfl) ?F ?N ?hax ?_; (case F => k_asm); (case N => k_asm); (case hax => k_mem); (intro I' oI' C' oC' D' m' h' tk' E' hC' hx' F' N' off' ne'); (try simp only [LCg.Off3, and_true] at off')))))
theorem ends_core {w : World} {text : Str} {t1 up : Tok} {news : Led} {l pl : Addr} {n np : Nat} {vs : List Value} {sts : List Stp} {p0 : Int} (htl : text.length ≤ 200) (hl : (l, listOf vs.toArray n) ∈ news) (hst : StAll news vs sts) (hpl : (pl, listOf [Value.int p0 up].toArray np) ∈ news)
    (hle : ∀ i, i < sts.length → (runL text (sts.take i) [p0]).length ≤ 1) (hin : ∀ i, ∀ k ∈ runL text (sts.take i) [p0], 0 ≤ k ∧ k ≤ (text.length : Int)) (hfine : ∀ st ∈ sts, StFine st)
    (p : Program) (loose : List Str) (mean : ExcName → Option Value) (mg mb : Str → Option Value) (dp un : Nat) (gd : Option (List Code)) (cn : Str) (cs : Scope) (a : Addr) (ccd : Value) (cl : List (Str × Addr)) (outer : List Env) (A₀ : Around) (base h₀ : Heap) (L : Addr) (m : Str → Option Value) (s : Shared) (Q E : Value → Shared → Prop)
    (B : Below A₀ base outer h₀) (F : Fr h₀ L s.heap m) (X : (Mine.heapK w.params).In h₀) (N : News h₀ L s.heap news) (T : Top p loose mean mg mb h₀) (hkd : cs.kind = .function) (hroom : dp + 6 < recursionLimit) (hun : un + 100 < cLine) (hfirst : ∀ many b sg, Stp.grp many b sg ∈ sts → FirstFact w text b sg ∧ dp + 60 < recursionLimit ∧ un + 2000 < cLine)
    (hret : EndRes h₀ L m s news (runL text sts [p0]) Q) :
    wpAny (model P0 w) (ktrTop dp un gd cn cs L a ccd cl outer) (call (.ref 191) [.ref l, .str text t1, .ref pl]) Q E s := by
  revert X B
  delta P0
  k_fill
  intro X B
  refine wpAny_call ?_
  k_dflt (refine' code_defC ?k1 ?k2 ?k3 ?k4 ?k5 ?kA ?kF ?kK ?k6 ?k7 ?k8 ?k9 ?kB ?kD ?_ ?c2 ?c3 ?c4; (case kA => exact rfl); (case kF => exact rfl); (case kK => assumption); (case k1 => k_asm); (case k2 => k_asm); (case k3 => k_asm); (case k4 => k_asm); (case k5 => k_asm); (case k6 => k_is); (case k7 => k_is); (case k8 => ktr_room); (case k9 => exact BindsTo.of_eq rfl); (case kB => exact rfl); (case kD => decide +kernel); (case c2 => exact rfl); (case c3 => exact rfl); (case c4 => exact rfl); k_whole; intro g2 L2 hA tkA cells FG F2 N2 Y2 B2 X2 T2 l1; (try k_lt l1); k_cells Y2; (try simp only [List.cons_append, List.nil_append] at N2); (try dsimp only); (try k_fold))
  (repeat' (first | (k_unfold; (try dsimp only)) | (k_end; kc_close) | ((with_reducible show wpAny _ _ (call _ _ _) _ _ _); (k_here; (with_reducible show wpAny _ _ (call (Value.ref 186) _) _ _ _); k_dflt (refine' first_use ?k0 ?k1 ?k2 ?k3 ?k4 ?B ?F ?X ?N ?T ?kd ?d ?u ?_; (case k0 => assumption); (case N => k_asm); (case k1 => (first | k_mem | (repeat (first | assumption | refine List.Mem.tail _ ?_)))); (case k2 => (refine OneIs.mono ?_ (by assumption); intro p hp; simp [hp])); (case k3 => assumption); (case k4 => assumption); (case B => k_asm); (case F => k_asm); (case X => k_asm); (case T => k_asm); (case kd => exact rfl); (case d => ktr_room); (case u => ktr_units); k_whole); (intro pl' ks' n' h' tk' F' N' i' off'); (try k_sweep))) | ((with_reducible show wpAny _ _ (exec _ _) _ _ _); first | (k_here; (with_reducible show wpAny _ _ (exec (Stmt.Assign [Expr.Name _ _] (Expr.ListComp _ [_, _] _ _) _) _) _ _ _); k_dflt (refine Assign_ListComp_two (by k_asm) (by with_unfolding_all rfl) (by with_unfolding_all rfl) (by with_unfolding_all rfl) (by decide) (by rfl) (by decide) (by rfl) (by rfl) (by rfl) (by rfl) (by rfl) ?_)) | ((with_reducible show wpAny _ _ (exec (Stmt.For (Expr.Tuple ..) (Expr.Name ..) _ [] _) _) _ _ _); (k_here; (rename Fr _ _ _ _ => lF'); (with_unfolding_all refine' For_turns lF' ?_; k_whole)))) | walk1 | (dsimp only; walk1) | (leave1; walk_say "STEP leave1"; (try dsimp only)) | fail "no step"))
  rename_i oI oB oT dI dB dT
  (rename Fr _ _ _ _ => F2)
  (rename News _ _ _ _ => N2)
  show wpAny _ _ _ _ _ _
  refine for_tup (ps := ES.names l) (Ld := ES.led news L2 oT) (P := ES.Inv text sts p0 L2) ⟨oI, oB, pl, [.int p0 up], np⟩ rfl (fun c => .tail _ (.tail _ (.tail _ (.tail _ hl)))) F2 N2 ?_ ?_ ?_ ?_ ?_
  · intro p hp
    simp only [List.mem_cons, List.not_mem_nil, or_false] at hp
    rcases hp with rfl | rfl <;> rfl
  · intro p hp'
    simp only [List.mem_cons] at hp' ⊢
    rcases hp' with h | h | h | h | h
    · exact .inl h
    · exact .inr (.inl h)
    · exact .inr (.inr (.inl h))
    · subst h; exact .inr (.inr (.inr hpl))
    · exact .inr (.inr (.inr h))
  · exact ⟨⟨_, dI⟩, ⟨_, dB⟩, ne3 (l1 _ hpl), .cons _ _ .nil⟩
  · rintro i v ⟨oI1, oB1, pl1, ks, np1⟩ u h1 tk1 own hv ⟨⟨dI1, eI⟩, ⟨dB1, eB⟩, ⟨np1', np2, np3⟩, hks⟩ hoff F3 N3
    simp only at eI eB np1' np2 np3 hks
    have hoff0 := hoff
    simp only [ES.names, ES.led] at F3 N3
    obtain ⟨st, hst1, hst2⟩ := hst.2 i v hv
    have hil : i < sts.length := by
      rw [← hst.1]
      exact (List.getElem?_eq_some_iff.mp hv).1
    have hrt := runL_take (text := text) (ks := [p0]) hst1
    have hoff2 : OwnOff (news ++ own) [L2 + 1, L2 + 1 + 1, L2 + 1 + 1 + 1] := by
      intro p hp b hb
      simp only [List.mem_cons, List.not_mem_nil, or_false] at hb
      rcases List.mem_append.mp hp with hp | hp
      · obtain ⟨n1, n2, n3⟩ := ne3 (l1 _ hp)
        rcases hb with rfl | rfl | rfl <;> assumption
      · rcases hb with rfl | rfl | rfl
        · exact hoff p hp _ (by simp [ES.led])
        · exact hoff p hp _ (by simp [ES.led])
        · exact hoff p hp _ (by simp [ES.led])
    have hfn := hfine st (List.mem_of_getElem? hst1)
    cases st with
    | grp many b sg =>
      obtain ⟨D, nd, u2, r1, n1, v1, rfl, hD, hr1, hv1⟩ := hst2
      obtain ⟨hff, hroom2, hun2⟩ := hfirst many b sg (List.mem_of_getElem? hst1)
      obtain rfl : many = 0 := hfn
      have hr2 := List.mem_append_left own hr1
      have hv2 : OneIs (news ++ own) v1 0 b sg := hv1.mono fun p hp => List.mem_append_left own hp
      obtain ⟨nD1, nD2, nD3⟩ := ne3 (l1 _ hD)
      have N4 : News g2 L2 h1 ((L2 + 1 + 1 + 1, oI1) :: (L2 + 1 + 1, oB1) :: (L2 + 1, oT) :: (pl1, listOf ks.toArray np1) :: (D, tupN [.int 2 u2, .bool false, .ref r1] nd) :: (news ++ own)) := by
        intro p hp'
        refine N3 p ?_
        simp only [List.mem_cons, List.cons_append] at hp' ⊢
        rcases hp' with h | h | h | h | h | h
        · exact .inl h
        · exact .inr (.inl h)
        · exact .inr (.inr (.inl h))
        · exact .inr (.inr (.inr (.inl h)))
        · subst h; exact .inr (.inr (.inr (.inr (List.mem_append_left _ hD))))
        · exact .inr (.inr (.inr (.inr h)))
      clear N3
      rcases ints_le1 hks (hle i hil) with ⟨rfl, ez⟩ | ⟨k, t, rfl, ez⟩
      · (repeat' (first | (k_unfold; (try dsimp only)) | (k_end; kc_close) | ((with_reducible show wpAny _ _ (call _ _ _) _ _ _); (k_here; (with_reducible show wpAny _ _ (call (Value.ref 186) _) _ _ _); k_dflt (refine' first_use ?k0 ?k1 ?k2 ?k3 ?k4 ?B ?F ?X ?N ?T ?kd ?d ?u ?_; (case k0 => assumption); (case N => k_asm); (case k1 => (first | k_mem | (repeat (first | assumption | refine List.Mem.tail _ ?_)))); (case k2 => (refine OneIs.mono ?_ (by assumption); intro p hp; simp [hp])); (case k3 => assumption); (case k4 => assumption); (case B => k_asm); (case F => k_asm); (case X => k_asm); (case T => k_asm); (case kd => exact rfl); (case d => ktr_room); (case u => ktr_units); k_whole); (intro pl' ks' n' h' tk' F' N' i' off'); (try k_sweep))) | ((with_reducible show wpAny _ _ (exec _ _) _ _ _); first | (k_here; (with_reducible show wpAny _ _ (exec (Stmt.Assign [Expr.Name _ _] (Expr.ListComp _ [_, _] _ _) _) _) _ _ _); k_dflt (refine Assign_ListComp_two (by k_asm) (by with_unfolding_all rfl) (by with_unfolding_all rfl) (by with_unfolding_all rfl) (by decide) (by rfl) (by decide) (by rfl) (by rfl) (by rfl) (by rfl) (by rfl) ?_)) | ((with_reducible show wpAny _ _ (exec (Stmt.For (Expr.Tuple ..) (Expr.Name ..) _ [] _) _) _ _ _); (k_here; (rename Fr _ _ _ _ => lF'); (with_unfolding_all refine' For_turns lF' ?_; k_whole)))) | walk1 | (dsimp only; walk1) | (leave1; walk_say "STEP leave1"; (try dsimp only)) | fail "no step"))
        refine stop_in ?_
        (rename News _ _ _ _ => N9)
        (rename Fr _ _ _ _ => F9)
        (rename (_ = Data.cell (some (Value.ref _))) => d9)
        (rename (_ = Data.cell (some (Value.bool _))) => d8)
        refine en_next F9 N9 (by assumption) hoff0 d9 d8 rfl rfl ?_
        rw [hrt, ez]
        exact .nil
      · have hk0 := hin i k (by rw [ez]; exact .head _)
        have hk1 := hk0.1
        have hk2 := hk0.2
        (repeat' (first | (k_unfold; (try dsimp only)) | (k_end; kc_close) | ((with_reducible show wpAny _ _ (call _ _ _) _ _ _); (k_here; (with_reducible show wpAny _ _ (call (Value.ref 186) _) _ _ _); k_dflt (refine' first_use ?k0 ?k1 ?k2 ?k3 ?k4 ?B ?F ?X ?N ?T ?kd ?d ?u ?_; (case k0 => assumption); (case N => k_asm); (case k1 => (first | k_mem | (repeat (first | assumption | refine List.Mem.tail _ ?_)))); (case k2 => (refine OneIs.mono ?_ (by assumption); intro p hp; simp [hp])); (case k3 => assumption); (case k4 => assumption); (case B => k_asm); (case F => k_asm); (case X => k_asm); (case T => k_asm); (case kd => exact rfl); (case d => ktr_room); (case u => ktr_units); k_whole); (intro pl' ks' n' h' tk' F' N' i' off'); (try k_sweep))) | ((with_reducible show wpAny _ _ (exec _ _) _ _ _); first | (k_here; (with_reducible show wpAny _ _ (exec (Stmt.Assign [Expr.Name _ _] (Expr.ListComp _ [_, _] _ _) _) _) _ _ _); k_dflt (refine Assign_ListComp_two (by k_asm) (by with_unfolding_all rfl) (by with_unfolding_all rfl) (by with_unfolding_all rfl) (by decide) (by rfl) (by decide) (by rfl) (by rfl) (by rfl) (by rfl) (by rfl) ?_)) | ((with_reducible show wpAny _ _ (exec (Stmt.For (Expr.Tuple ..) (Expr.Name ..) _ [] _) _) _ _ _); (k_here; (rename Fr _ _ _ _ => lF'); (with_unfolding_all refine' For_turns lF' ?_; k_whole)))) | walk1 | (dsimp only; walk1) | (leave1; walk_say "STEP leave1"; (try dsimp only)) | fail "no step"))
        refine stop_in ?_
        (rename News _ _ _ _ => N9)
        (rename Fr _ _ _ _ => F9)
        (rename IntsAre _ (firstL _ _ _ _) => i9)
        (rename (∀ p : Addr × Obj, p ∈ _ → ¬ p.1 = _) => o9)
        (rename (_ ∧ _ ∧ _ ∧ _ ∧ _ ∧ LCg.Off3 _ _ _ _) => o8)
        refine tw_end F9 N9 o9 o8 (by k_mem) (by rw [i9.length]; exact first_le1) ?_
        (repeat' (first | (k_unfold; (try dsimp only)) | (k_end; kc_close) | ((with_reducible show wpAny _ _ (call _ _ _) _ _ _); (k_here; (with_reducible show wpAny _ _ (call (Value.ref 186) _) _ _ _); k_dflt (refine' first_use ?k0 ?k1 ?k2 ?k3 ?k4 ?B ?F ?X ?N ?T ?kd ?d ?u ?_; (case k0 => assumption); (case N => k_asm); (case k1 => (first | k_mem | (repeat (first | assumption | refine List.Mem.tail _ ?_)))); (case k2 => (refine OneIs.mono ?_ (by assumption); intro p hp; simp [hp])); (case k3 => assumption); (case k4 => assumption); (case B => k_asm); (case F => k_asm); (case X => k_asm); (case T => k_asm); (case kd => exact rfl); (case d => ktr_room); (case u => ktr_units); k_whole); (intro pl' ks' n' h' tk' F' N' i' off'); (try k_sweep))) | ((with_reducible show wpAny _ _ (exec _ _) _ _ _); first | (k_here; (with_reducible show wpAny _ _ (exec (Stmt.Assign [Expr.Name _ _] (Expr.ListComp _ [_, _] _ _) _) _) _ _ _); k_dflt (refine Assign_ListComp_two (by k_asm) (by with_unfolding_all rfl) (by with_unfolding_all rfl) (by with_unfolding_all rfl) (by decide) (by rfl) (by decide) (by rfl) (by rfl) (by rfl) (by rfl) (by rfl) ?_)) | ((with_reducible show wpAny _ _ (exec (Stmt.For (Expr.Tuple ..) (Expr.Name ..) _ [] _) _) _ _ _); (k_here; (rename Fr _ _ _ _ => lF'); (with_unfolding_all refine' For_turns lF' ?_; k_whole)))) | walk1 | (dsimp only; walk1) | (leave1; walk_say "STEP leave1"; (try dsimp only)) | fail "no step"))
        refine stop_in ?_
        (rename News _ _ _ _ => N8)
        (rename Fr _ _ _ _ => F8)
        (rename (_ ∧ _ ∧ _ ∧ _ ∧ _ ∧ _ ∧ LCg.Off1 _ _) => o7)
        (rename (_ = Data.cell (some (Value.ref _))) => d9)
        (rename (_ = Data.cell (some (Value.bool _))) => d8)
        refine en_next F8 (news_drop2 N8) o7.2 hoff0 d9 d8 rfl rfl ?_
        rw [hrt, ez]
        show IntsAre _ ([k].flatMap (firstL text b sg))
        simp only [List.flatMap_cons, List.flatMap_nil, List.append_nil]
        exact i9
    | one many b sg =>
      obtain ⟨D, nd, u2, u3, rfl, hD⟩ := hst2
      obtain ⟨nD1, nD2, nD3⟩ := ne3 (l1 _ hD)
      have N4 : News g2 L2 h1 ((L2 + 1 + 1 + 1, oI1) :: (L2 + 1 + 1, oB1) :: (L2 + 1, oT) :: (pl1, listOf ks.toArray np1) :: (D, tupN [.int many u2, .bool b, .str sg u3] nd) :: (news ++ own)) := by
        intro p hp'
        refine N3 p ?_
        simp only [List.mem_cons, List.cons_append] at hp' ⊢
        rcases hp' with h | h | h | h | h | h
        · exact .inl h
        · exact .inr (.inl h)
        · exact .inr (.inr (.inl h))
        · exact .inr (.inr (.inr (.inl h)))
        · subst h; exact .inr (.inr (.inr (.inr (List.mem_append_left _ hD))))
        · exact .inr (.inr (.inr (.inr h)))
      clear N3
      rcases hfn with rfl | ⟨rfl, rfl, rfl⟩
      · rcases ints_le1 hks (hle i hil) with ⟨rfl, ez⟩ | ⟨k, t, rfl, ez⟩
        · (repeat' (first | (k_unfold; (try dsimp only)) | (k_end; kc_close) | ((with_reducible show wpAny _ _ (call _ _ _) _ _ _); (k_here; (with_reducible show wpAny _ _ (call (Value.ref 186) _) _ _ _); k_dflt (refine' first_use ?k0 ?k1 ?k2 ?k3 ?k4 ?B ?F ?X ?N ?T ?kd ?d ?u ?_; (case k0 => assumption); (case N => k_asm); (case k1 => (first | k_mem | (repeat (first | assumption | refine List.Mem.tail _ ?_)))); (case k2 => (refine OneIs.mono ?_ (by assumption); intro p hp; simp [hp])); (case k3 => assumption); (case k4 => assumption); (case B => k_asm); (case F => k_asm); (case X => k_asm); (case T => k_asm); (case kd => exact rfl); (case d => ktr_room); (case u => ktr_units); k_whole); (intro pl' ks' n' h' tk' F' N' i' off'); (try k_sweep))) | ((with_reducible show wpAny _ _ (exec _ _) _ _ _); first | (k_here; (with_reducible show wpAny _ _ (exec (Stmt.Assign [Expr.Name _ _] (Expr.ListComp _ [_, _] _ _) _) _) _ _ _); k_dflt (refine Assign_ListComp_two (by k_asm) (by with_unfolding_all rfl) (by with_unfolding_all rfl) (by with_unfolding_all rfl) (by decide) (by rfl) (by decide) (by rfl) (by rfl) (by rfl) (by rfl) (by rfl) ?_)) | ((with_reducible show wpAny _ _ (exec (Stmt.For (Expr.Tuple ..) (Expr.Name ..) _ [] _) _) _ _ _); (k_here; (rename Fr _ _ _ _ => lF'); (with_unfolding_all refine' For_turns lF' ?_; k_whole)))) | walk1 | (dsimp only; walk1) | (leave1; walk_say "STEP leave1"; (try dsimp only)) | fail "no step"))
          (rename News _ _ _ _ => N9)
          (rename Fr _ _ _ _ => F9)
          (rename (_ = Data.cell (some (Value.str _ _))) => d9)
          (rename (_ = Data.cell (some (Value.bool _))) => d8)
          (rename (_ ∧ _ ∧ _ ∧ _ ∧ _ ∧ LCg.Off1 _ _) => o9)
          refine stop_in (en_next F9 N9 o9 hoff0 d9 d8 rfl rfl ?_)
          rw [hrt, ez]
          exact .nil
        · have hk0 := hin i k (by rw [ez]; exact .head _)
          have hk1 := hk0.1
          have hk2 := hk0.2
          (repeat' (first | (k_unfold; (try dsimp only)) | (k_end; kc_close) | ((with_reducible show wpAny _ _ (call _ _ _) _ _ _); (k_here; (with_reducible show wpAny _ _ (call (Value.ref 186) _) _ _ _); k_dflt (refine' first_use ?k0 ?k1 ?k2 ?k3 ?k4 ?B ?F ?X ?N ?T ?kd ?d ?u ?_; (case k0 => assumption); (case N => k_asm); (case k1 => (first | k_mem | (repeat (first | assumption | refine List.Mem.tail _ ?_)))); (case k2 => (refine OneIs.mono ?_ (by assumption); intro p hp; simp [hp])); (case k3 => assumption); (case k4 => assumption); (case B => k_asm); (case F => k_asm); (case X => k_asm); (case T => k_asm); (case kd => exact rfl); (case d => ktr_room); (case u => ktr_units); k_whole); (intro pl' ks' n' h' tk' F' N' i' off'); (try k_sweep))) | ((with_reducible show wpAny _ _ (exec _ _) _ _ _); first | (k_here; (with_reducible show wpAny _ _ (exec (Stmt.Assign [Expr.Name _ _] (Expr.ListComp _ [_, _] _ _) _) _) _ _ _); k_dflt (refine Assign_ListComp_two (by k_asm) (by with_unfolding_all rfl) (by with_unfolding_all rfl) (by with_unfolding_all rfl) (by decide) (by rfl) (by decide) (by rfl) (by rfl) (by rfl) (by rfl) (by rfl) ?_)) | ((with_reducible show wpAny _ _ (exec (Stmt.For (Expr.Tuple ..) (Expr.Name ..) _ [] _) _) _ _ _); (k_here; (rename Fr _ _ _ _ => lF'); (with_unfolding_all refine' For_turns lF' ?_; k_whole)))) | walk1 | (dsimp only; walk1) | (leave1; walk_say "STEP leave1"; (try dsimp only)) | fail "no step"))
          · (rename ((_ != _) = true) => a9)
            (rename (k < _) => a8)
            (rename News _ _ _ _ => N9)
            (rename Fr _ _ _ _ => F9)
            (rename (_ = Data.cell (some (Value.str _ _))) => d9)
            (rename (_ = Data.cell (some (Value.bool _))) => d8)
            (rename (_ ∧ _ ∧ _ ∧ _ ∧ _ ∧ LCg.Off1 _ _) => o9)
            refine stop_in (en_next F9 N9 o9 hoff0 d9 d8 rfl rfl ?_)
            rw [hrt, ez]
            have e : hit text b sg k = true := by unfold hit; rw [decide_eq_true a8, a9]; rfl
            simp only [runStep, if_true, List.flatMap_cons, List.flatMap_nil, e, List.append_nil]
            exact .cons _ _ .nil
          · (rename ((_ != _) = false) => a9)
            (rename News _ _ _ _ => N9)
            (rename Fr _ _ _ _ => F9)
            (rename (_ = Data.cell (some (Value.str _ _))) => d9)
            (rename (_ = Data.cell (some (Value.bool _))) => d8)
            (rename (_ ∧ _ ∧ _ ∧ _ ∧ _ ∧ LCg.Off1 _ _) => o9)
            refine stop_in (en_next F9 N9 o9 hoff0 d9 d8 rfl rfl ?_)
            rw [hrt, ez]
            have e : hit text b sg k = false := by unfold hit; rw [a9, Bool.and_false]
            simp only [runStep, if_true, List.flatMap_cons, List.flatMap_nil, e, List.append_nil]
            exact .nil
          · have a8 : ¬ k < (text.length : Int) := by omega
            (rename News _ _ _ _ => N9)
            (rename Fr _ _ _ _ => F9)
            (rename (_ = Data.cell (some (Value.str _ _))) => d9)
            (rename (_ = Data.cell (some (Value.bool _))) => d8)
            (rename (_ ∧ _ ∧ _ ∧ _ ∧ _ ∧ LCg.Off1 _ _) => o9)
            refine stop_in (en_next F9 N9 o9 hoff0 d9 d8 rfl rfl ?_)
            rw [hrt, ez]
            have e : hit text b sg k = false := by unfold hit; rw [decide_eq_false a8]; rfl
            simp only [runStep, if_true, List.flatMap_cons, List.flatMap_nil, e, List.append_nil]
            exact .nil
      · (repeat' (first | (k_unfold; (try dsimp only)) | (k_end; kc_close) | ((with_reducible show wpAny _ _ (call _ _ _) _ _ _); (k_here; (with_reducible show wpAny _ _ (call (Value.ref 186) _) _ _ _); k_dflt (refine' first_use ?k0 ?k1 ?k2 ?k3 ?k4 ?B ?F ?X ?N ?T ?kd ?d ?u ?_; (case k0 => assumption); (case N => k_asm); (case k1 => (first | k_mem | (repeat (first | assumption | refine List.Mem.tail _ ?_)))); (case k2 => (refine OneIs.mono ?_ (by assumption); intro p hp; simp [hp])); (case k3 => assumption); (case k4 => assumption); (case B => k_asm); (case F => k_asm); (case X => k_asm); (case T => k_asm); (case kd => exact rfl); (case d => ktr_room); (case u => ktr_units); k_whole); (intro pl' ks' n' h' tk' F' N' i' off'); (try k_sweep))) | ((with_reducible show wpAny _ _ (exec _ _) _ _ _); first | (k_here; (with_reducible show wpAny _ _ (exec (Stmt.Assign [Expr.Name _ _] (Expr.ListComp _ [_, _] _ _) _) _) _ _ _); k_dflt (refine Assign_ListComp_two (by k_asm) (by with_unfolding_all rfl) (by with_unfolding_all rfl) (by with_unfolding_all rfl) (by decide) (by rfl) (by decide) (by rfl) (by rfl) (by rfl) (by rfl) (by rfl) ?_)) | ((with_reducible show wpAny _ _ (exec (Stmt.For (Expr.Tuple ..) (Expr.Name ..) _ [] _) _) _ _ _); (k_here; (rename Fr _ _ _ _ => lF'); (with_unfolding_all refine' For_turns lF' ?_; k_whole)))) | walk1 | (dsimp only; walk1) | (leave1; walk_say "STEP leave1"; (try dsimp only)) | fail "no step"))
        have hkc := ints_le1 hks (hle i hil)
        obtain ⟨ns9, ez⟩ : ∃ z, runL text (sts.take i) [p0] = z := ⟨_, rfl⟩
        rw [ez] at hkc
        rename_i lm z1 l9 z2 zm z3 z4 zt z5 z6 t9 u9 v9 hr9 F9 N9 z8
        (rename (_ = Data.cell (some (Value.str _ _))) => d9)
        (rename (_ = Data.cell (some (Value.bool _))) => d8)
        refine stop_in (for_range (x := Str.ofString "place") (ps := MSt.names l pl1 lm) (Ld := MSt.led _ lm) (P := MSt.Inv (runL text (sts.take i) [p0])) ⟨[], 0⟩ rfl hr9 (small_len htl) size_len F9 N9 ?_ (fun _ h => h) .nil ?_ ?_)
        · intro p hp
          simp only [List.mem_cons, List.not_mem_nil, or_false] at hp
          rcases hp with rfl | rfl | rfl <;> rfl
        · rintro j t ⟨ms, mn⟩ u9 h9 tk9 own9 hj hms ho9 F8 N8
          simp only [MSt.names, MSt.led, List.cons_append] at F8 N8
          have hms' : IntsAre ms (upToZ (runL text (sts.take i) [p0]) j) := hms
          have hoff8 : OwnOff (news ++ own ++ own9) [lm] := by
            intro p hp b hb
            rw [List.mem_singleton.mp hb]
            rcases List.mem_append.mp hp with hp | hp
            · exact Nat.ne_of_lt (ltAll l9.2.2.2.2.2 p hp)
            · exact ho9 p hp _ (by simp [MSt.led])
          rw [ez] at hms' ⊢
          have hks' := hks
          rw [ez] at hks'
          have hcase : (ms = [] ∧ (ns9.any fun x => x == 0 + (j : Int)) = false ∧ upToZ ns9 (j + 1) = []) ∨ (∃ k tk0, ks = [Value.int k tk0] ∧ ns9 = [k] ∧ 0 ≤ k ∧ k ≤ text.length ∧ k.toNat ≤ j) := by
            rcases hkc with ⟨h1, rfl⟩ | ⟨k, tk0, h1, rfl⟩
            · rw [upTo_nil] at hms'
              cases hms'
              exact .inl ⟨rfl, rfl, upTo_nil _⟩
            · have hk0 := hin i k (by rw [ez]; exact .head _)
              have hk1 := hk0.1
              rcases Nat.lt_or_ge j k.toNat with hjk | hjk
              · rw [upTo_lo (by omega)] at hms'
                cases hms'
                exact .inl ⟨rfl, by simp; omega, upTo_lo (by omega)⟩
              · exact .inr ⟨k, tk0, h1, rfl, hk0.1, hk0.2, hjk⟩
          rcases hcase with ⟨rfl, b1, hzz⟩ | ⟨k, tk0, rfl, rfl, hk1, hk2, hkj⟩
          · have hi0 := IntsAre.nil
            have b2 : decide (([] : List Int) = [0 + (j : Int) - 1]) = false := rfl
            (repeat' (first | (k_unfold; (try dsimp only)) | (k_end; kc_close) | ((with_reducible show wpAny _ _ (call _ _ _) _ _ _); (k_here; (with_reducible show wpAny _ _ (call (Value.ref 186) _) _ _ _); k_dflt (refine' first_use ?k0 ?k1 ?k2 ?k3 ?k4 ?B ?F ?X ?N ?T ?kd ?d ?u ?_; (case k0 => assumption); (case N => k_asm); (case k1 => (first | k_mem | (repeat (first | assumption | refine List.Mem.tail _ ?_)))); (case k2 => (refine OneIs.mono ?_ (by assumption); intro p hp; simp [hp])); (case k3 => assumption); (case k4 => assumption); (case B => k_asm); (case F => k_asm); (case X => k_asm); (case T => k_asm); (case kd => exact rfl); (case d => ktr_room); (case u => ktr_units); k_whole); (intro pl' ks' n' h' tk' F' N' i' off'); (try k_sweep))) | ((with_reducible show wpAny _ _ (exec _ _) _ _ _); first | (k_here; (with_reducible show wpAny _ _ (exec (Stmt.Assign [Expr.Name _ _] (Expr.ListComp _ [_, _] _ _) _) _) _ _ _); k_dflt (refine Assign_ListComp_two (by k_asm) (by with_unfolding_all rfl) (by with_unfolding_all rfl) (by with_unfolding_all rfl) (by decide) (by rfl) (by decide) (by rfl) (by rfl) (by rfl) (by rfl) (by rfl) ?_)) | ((with_reducible show wpAny _ _ (exec (Stmt.For (Expr.Tuple ..) (Expr.Name ..) _ [] _) _) _ _ _); (k_here; (rename Fr _ _ _ _ => lF'); (with_unfolding_all refine' For_turns lF' ?_; k_whole)))) | walk1 | (dsimp only; walk1) | (leave1; walk_say "STEP leave1"; (try dsimp only)) | fail "no step"))
            · (rename News _ _ _ _ => N7)
              (rename Fr _ _ _ _ => F7)
              refine stop_in (ms_next F7 N7 ho9 (fun p hp => .tail _ (.tail _ hp)) rfl rfl rfl ?_)
              rw [hzz]
              exact .nil
          · have hik : IntsAre [Value.int k tk0] [k] := .cons _ _ .nil
            rcases Nat.lt_or_eq_of_le hkj with hjk | hjk
            rotate_left
            · rw [upTo_lo (by omega)] at hms'
              cases hms'
              have hi0 := IntsAre.nil
              have hjk2 : k = (j : Int) := by omega
              have b1 : ([k].any fun x => x == 0 + (j : Int)) = true := by simp; omega
              (repeat' (first | (k_unfold; (try dsimp only)) | (k_end; kc_close) | ((with_reducible show wpAny _ _ (call _ _ _) _ _ _); (k_here; (with_reducible show wpAny _ _ (call (Value.ref 186) _) _ _ _); k_dflt (refine' first_use ?k0 ?k1 ?k2 ?k3 ?k4 ?B ?F ?X ?N ?T ?kd ?d ?u ?_; (case k0 => assumption); (case N => k_asm); (case k1 => (first | k_mem | (repeat (first | assumption | refine List.Mem.tail _ ?_)))); (case k2 => (refine OneIs.mono ?_ (by assumption); intro p hp; simp [hp])); (case k3 => assumption); (case k4 => assumption); (case B => k_asm); (case F => k_asm); (case X => k_asm); (case T => k_asm); (case kd => exact rfl); (case d => ktr_room); (case u => ktr_units); k_whole); (intro pl' ks' n' h' tk' F' N' i' off'); (try k_sweep))) | ((with_reducible show wpAny _ _ (exec _ _) _ _ _); first | (k_here; (with_reducible show wpAny _ _ (exec (Stmt.Assign [Expr.Name _ _] (Expr.ListComp _ [_, _] _ _) _) _) _ _ _); k_dflt (refine Assign_ListComp_two (by k_asm) (by with_unfolding_all rfl) (by with_unfolding_all rfl) (by with_unfolding_all rfl) (by decide) (by rfl) (by decide) (by rfl) (by rfl) (by rfl) (by rfl) (by rfl) ?_)) | ((with_reducible show wpAny _ _ (exec (Stmt.For (Expr.Tuple ..) (Expr.Name ..) _ [] _) _) _ _ _); (k_here; (rename Fr _ _ _ _ => lF'); (with_unfolding_all refine' For_turns lF' ?_; k_whole)))) | walk1 | (dsimp only; walk1) | (leave1; walk_say "STEP leave1"; (try dsimp only)) | fail "no step"))
              · (rename News _ _ _ _ => N7)
                (rename Fr _ _ _ _ => F7)
                refine stop_in (ms_next F7 N7 ho9 (fun p hp => hp) rfl rfl rfl ?_)
                rw [upTo_succ, upTo_lo (by omega)]
                have e : ([k].any fun x => decide (x ≤ (j : Int))) = true := by simp; omega
                rw [e, if_pos rfl, show (0 : Int) + (j : Int) = j by omega]
                exact .cons _ _ .nil
            · obtain ⟨r9, er⟩ := upTo_hi (k := k) (j := j) (by omega) hk1
              rw [er] at hms'
              obtain ⟨ms', tm, rfl⟩ := ints_last hms'
              have hjk2 : k < (j : Int) := by omega
              have b1 : ([k].any fun x => x == 0 + (j : Int)) = false := by simp; omega
              have hml : (ms' ++ [Value.int ((j : Int) - 1) tm]).length ≤ 300 := by
                rw [hms'.length, ← er]
                unfold upToZ
                refine Nat.le_trans (List.length_filter_le _ _) ?_
                simp
                omega
              (repeat' (first | (k_unfold; (try dsimp only)) | (k_end; kc_close) | ((with_reducible show wpAny _ _ (call _ _ _) _ _ _); (k_here; (with_reducible show wpAny _ _ (call (Value.ref 186) _) _ _ _); k_dflt (refine' first_use ?k0 ?k1 ?k2 ?k3 ?k4 ?B ?F ?X ?N ?T ?kd ?d ?u ?_; (case k0 => assumption); (case N => k_asm); (case k1 => (first | k_mem | (repeat (first | assumption | refine List.Mem.tail _ ?_)))); (case k2 => (refine OneIs.mono ?_ (by assumption); intro p hp; simp [hp])); (case k3 => assumption); (case k4 => assumption); (case B => k_asm); (case F => k_asm); (case X => k_asm); (case T => k_asm); (case kd => exact rfl); (case d => ktr_room); (case u => ktr_units); k_whole); (intro pl' ks' n' h' tk' F' N' i' off'); (try k_sweep))) | ((with_reducible show wpAny _ _ (exec _ _) _ _ _); first | (k_here; (with_reducible show wpAny _ _ (exec (Stmt.Assign [Expr.Name _ _] (Expr.ListComp _ [_, _] _ _) _) _) _ _ _); k_dflt (refine Assign_ListComp_two (by k_asm) (by with_unfolding_all rfl) (by with_unfolding_all rfl) (by with_unfolding_all rfl) (by decide) (by rfl) (by decide) (by rfl) (by rfl) (by rfl) (by rfl) (by rfl) ?_)) | ((with_reducible show wpAny _ _ (exec (Stmt.For (Expr.Tuple ..) (Expr.Name ..) _ [] _) _) _ _ _); (k_here; (rename Fr _ _ _ _ => lF'); (with_unfolding_all refine' For_turns lF' ?_; k_whole)))) | walk1 | (dsimp only; walk1) | (leave1; walk_say "STEP leave1"; (try dsimp only)) | fail "no step"))
              · (rename News _ _ _ _ => N7)
                (rename Fr _ _ _ _ => F7)
                simp only [List.push_toArray] at N7
                refine stop_in (ms_next F7 N7 ho9 (fun p hp => .tail _ (.tail _ hp)) rfl rfl rfl ?_)
                rw [upTo_succ, er]
                have e : ([k].any fun x => decide (x ≤ (j : Int))) = true := by simp; omega
                rw [e, if_pos rfl, show (0 : Int) + (j : Int) = j by omega]
                exact ints_snocZ hms'
              · (rename ((true != _) = false) => a9)
                (rename (1 ≤ _ ∧ _ ≤ 1) => a8)
                have a7 : (Txt.item text (0 + (j : Int) - 1) == Str.ofString "") = true := by
                  cases hz : (Txt.item text (0 + (j : Int) - 1) == Str.ofString "") with
                  | true => rfl
                  | false => rw [hz] at a9; cases a9
                rw [eq_of_beq a7] at a8
                exact absurd a8.1 (by decide +kernel)
              · (rename (¬ List.drop _ _ = _) => a9)
                exact absurd (by simp) a9
        · rintro ⟨ms, mn⟩ u9 h9 tk9 hms F8 N8
          simp only [MSt.names, MSt.led] at F8 N8
          (repeat' (first | (k_unfold; (try dsimp only)) | (k_end; kc_close) | ((with_reducible show wpAny _ _ (call _ _ _) _ _ _); (k_here; (with_reducible show wpAny _ _ (call (Value.ref 186) _) _ _ _); k_dflt (refine' first_use ?k0 ?k1 ?k2 ?k3 ?k4 ?B ?F ?X ?N ?T ?kd ?d ?u ?_; (case k0 => assumption); (case N => k_asm); (case k1 => (first | k_mem | (repeat (first | assumption | refine List.Mem.tail _ ?_)))); (case k2 => (refine OneIs.mono ?_ (by assumption); intro p hp; simp [hp])); (case k3 => assumption); (case k4 => assumption); (case B => k_asm); (case F => k_asm); (case X => k_asm); (case T => k_asm); (case kd => exact rfl); (case d => ktr_room); (case u => ktr_units); k_whole); (intro pl' ks' n' h' tk' F' N' i' off'); (try k_sweep))) | ((with_reducible show wpAny _ _ (exec _ _) _ _ _); first | (k_here; (with_reducible show wpAny _ _ (exec (Stmt.Assign [Expr.Name _ _] (Expr.ListComp _ [_, _] _ _) _) _) _ _ _); k_dflt (refine Assign_ListComp_two (by k_asm) (by with_unfolding_all rfl) (by with_unfolding_all rfl) (by with_unfolding_all rfl) (by decide) (by rfl) (by decide) (by rfl) (by rfl) (by rfl) (by rfl) (by rfl) ?_)) | ((with_reducible show wpAny _ _ (exec (Stmt.For (Expr.Tuple ..) (Expr.Name ..) _ [] _) _) _ _ _); (k_here; (rename Fr _ _ _ _ => lF'); (with_unfolding_all refine' For_turns lF' ?_; k_whole)))) | walk1 | (dsimp only; walk1) | (leave1; walk_say "STEP leave1"; (try dsimp only)) | fail "no step"))
          (rename News _ _ _ _ => N7)
          (rename Fr _ _ _ _ => F7)
          refine stop_in (en_next F7 N7 ⟨Nat.ne_of_lt l9.1, Nat.ne_of_lt l9.2.1, Nat.ne_of_lt l9.2.2.1, Nat.ne_of_lt l9.2.2.2.1, Nat.ne_of_lt l9.2.2.2.2.1, off1_of fun p hp => Nat.ne_of_lt (ltAll l9.2.2.2.2.2 p hp)⟩ hoff0 d9 d8 rfl rfl ?_)
          rw [hrt]
          exact hms
  · rintro ⟨oI1, oB1, pl1, ks, np1⟩ u h1 tk1 ⟨⟨dI1, eI⟩, ⟨dB1, eB⟩, ⟨np1', np2, np3⟩, hks⟩ F3 N3
    simp only at hks
    simp only [ES.names, ES.led] at F3 N3
    rw [hst.1, List.take_length] at hks
    (repeat' (first | (k_unfold; (try dsimp only)) | (k_end; kc_close) | ((with_reducible show wpAny _ _ (call _ _ _) _ _ _); (k_here; (with_reducible show wpAny _ _ (call (Value.ref 186) _) _ _ _); k_dflt (refine' first_use ?k0 ?k1 ?k2 ?k3 ?k4 ?B ?F ?X ?N ?T ?kd ?d ?u ?_; (case k0 => assumption); (case N => k_asm); (case k1 => (first | k_mem | (repeat (first | assumption | refine List.Mem.tail _ ?_)))); (case k2 => (refine OneIs.mono ?_ (by assumption); intro p hp; simp [hp])); (case k3 => assumption); (case k4 => assumption); (case B => k_asm); (case F => k_asm); (case X => k_asm); (case T => k_asm); (case kd => exact rfl); (case d => ktr_room); (case u => ktr_units); k_whole); (intro pl' ks' n' h' tk' F' N' i' off'); (try k_sweep))) | ((with_reducible show wpAny _ _ (exec _ _) _ _ _); first | (k_here; (with_reducible show wpAny _ _ (exec (Stmt.Assign [Expr.Name _ _] (Expr.ListComp _ [_, _] _ _) _) _) _ _ _); k_dflt (refine Assign_ListComp_two (by k_asm) (by with_unfolding_all rfl) (by with_unfolding_all rfl) (by with_unfolding_all rfl) (by decide) (by rfl) (by decide) (by rfl) (by rfl) (by rfl) (by rfl) (by rfl) ?_)) | ((with_reducible show wpAny _ _ (exec (Stmt.For (Expr.Tuple ..) (Expr.Name ..) _ [] _) _) _ _ _); (k_here; (rename Fr _ _ _ _ => lF'); (with_unfolding_all refine' For_turns lF' ?_; k_whole)))) | walk1 | (dsimp only; walk1) | (leave1; walk_say "STEP leave1"; (try dsimp only)) | fail "no step"))
    (rename Fr h₀ _ _ _ => kF)
    (rename News h₀ _ _ _ => kN)
    exact hret pl1 ks np1 _ _ kF (fun p hp => kN p (.tail _ (.tail _ (.tail _ hp)))) hks
end Mine
end

section -- T31
open PySem PySem.W PyProof.Rows PySem.Calls
set_option Elab.async false
set_option maxRecDepth 100000
set_option maxHeartbeats 8000000
namespace Mine
theorem flush_T31 : True := by w_top off; first | walk1 | trivial
theorem hit_lt {text : Str} {b : Bool} {sg : Str} {p0 : Int} (h : hit text b sg p0 = true) : p0 < (text.length : Int) := by
  unfold hit at h
  rw [Bool.and_eq_true] at h
  exact of_decide_eq_true h.1
theorem ends1_use {w : World} {text : Str} {b : Bool} {sg : Str} {t1 up : Tok} {news news' : Led} {l pl : Addr} {n np : Nat} {v1 : Value} {p0 : Int} {res : List Int} {p : Program} {loose : List Str} {mean : ExcName → Option Value} {mg mb : Str → Option Value} {dp un : Nat} {gd : Option (List Code)} {cn : Str} {cs : Scope} {a : Addr} {ccd : Value} {cl : List (Str × Addr)} {outer : List Env} {A₀ : Around} {base h₀ : Heap} {L : Addr} {m : Str → Option Value} {s : Shared} {Q E : Value → Shared → Prop}
    (htl : text.length ≤ 200) (hl : (l, listOf [v1].toArray n) ∈ news) (hone : OneIs news v1 0 b sg) (hsub : ∀ p ∈ news, p ∈ news') (hpl : (pl, listOf [Value.int p0 up].toArray np) ∈ news') (h0 : 0 ≤ p0) (h1 : p0 ≤ (text.length : Int)) (hr : (if hit text b sg p0 = true then [p0 + 1] else []) = res)
    (B : Below A₀ base outer h₀) (F : Fr h₀ L s.heap m) (X : (Mine.heapK w.params).In h₀) (N : News h₀ L s.heap news') (T : Top p loose mean mg mb h₀) (hkd : cs.kind = .function) (hroom : dp + 6 < recursionLimit) (hun : un + 100 < cLine)
    (h : EndRes h₀ L m s news' res Q) :
    wpAny (model P0 w) (ktrTop dp un gd cn cs L a ccd cl outer) (call (.ref 191) [.ref l, .str text t1, .ref pl]) Q E s := by
  subst hr
  have e : runL text [.one 0 b sg] [p0] = (if hit text b sg p0 = true then [p0 + 1] else []) := by
    simp only [runL, List.foldl_cons, List.foldl_nil, runStep, if_true, List.flatMap_cons, List.flatMap_nil, List.append_nil]
  refine ends_core (sts := [.one 0 b sg]) htl (hsub _ hl) (StAll.snoc .nil (hone.mono hsub)) hpl ?_ ?_ (fun st hs => by rw [List.mem_singleton.mp hs]; exact .inl rfl) p loose mean mg mb dp un gd cn cs a ccd cl outer A₀ base h₀ L m s Q E B F X N T hkd hroom hun (fun many b sg hm => by cases List.mem_singleton.mp hm) (by rw [e]; exact h)
  · intro i hi
    have : i = 0 := by simp at hi; omega
    subst this
    exact Nat.le_refl _
  · intro i k hk
    cases i with
    | zero =>
      rw [List.mem_singleton.mp hk]
      exact ⟨h0, h1⟩
    | succ i =>
      have e2 : ([Stp.one 0 b sg]).take (i + 1) = [.one 0 b sg] := by simp
      rw [e2, e] at hk
      by_cases hh : hit text b sg p0 = true
      · rw [if_pos hh] at hk
        have := hit_lt hh
        rw [List.mem_singleton.mp hk]
        omega
      · rw [if_neg hh] at hk
        cases hk
theorem first_hit {text : Str} {b : Bool} {sg : Str} {p0 : Int} {j : Nat} (h0 : 0 ≤ p0) (hh : hit text b sg (p0 + j) = true) (hP : ∀ q : Nat, q < j → hit text b sg (p0 + q) = false) : firstL text b sg p0 = [p0 + j + 1] := by
  have hlt := hit_lt hh
  obtain ⟨a, rfl⟩ := Int.eq_ofNat_of_zero_le h0
  obtain ⟨c, hc⟩ : ∃ c, text.length + 1 = (a + j) + (1 + c) := ⟨text.length - (a + j), by omega⟩
  unfold firstL places
  rw [hc, List.range_add, List.map_append, List.filter_append]
  have e1 : ((List.range (a + j)).map Int.ofNat).filter (fun q => decide ((a : Int) ≤ q) && hit text b sg q) = [] := by
    rw [List.filter_eq_nil_iff]
    intro q hq
    obtain ⟨x, hx, rfl⟩ := List.mem_map.mp hq
    have hx2 := List.mem_range.mp hx
    by_cases hx3 : a ≤ x
    · have := hP (x - a) (by omega)
      rw [show ((a : Int) + ((x - a : Nat) : Int)) = Int.ofNat x by show _ = (x : Int); omega] at this
      rw [this]
      simp
    · have : ¬ ((a : Int) ≤ Int.ofNat x) := by show ¬ ((a : Int) ≤ (x : Int)); omega
      simp
      exact fun h => absurd h hx3
  rw [e1, List.nil_append, Nat.add_comm 1 c, List.range_succ_eq_map, List.map_cons, List.map_cons, List.filter_cons]
  have e2 : (decide ((a : Int) ≤ Int.ofNat (a + j + 0)) && hit text b sg (Int.ofNat (a + j + 0))) = true := by
    have e3 : Int.ofNat (a + j + 0) = (a : Int) + j := by show ((a + j + 0 : Nat) : Int) = _; omega
    rw [e3, hh]
    simp
    omega
  rw [if_pos e2]
  rfl
theorem first_none {text : Str} {b : Bool} {sg : Str} {p0 : Int} {c : Nat} (h0 : 0 ≤ p0) (hc : (c : Int) = (text.length : Int) + 1 - p0) (hP : ∀ q : Nat, q < c → hit text b sg (p0 + q) = false) : firstL text b sg p0 = [] := by
  obtain ⟨a, rfl⟩ := Int.eq_ofNat_of_zero_le h0
  unfold firstL places
  have e1 : ((List.range (text.length + 1)).map Int.ofNat).filter (fun q => decide ((a : Int) ≤ q) && hit text b sg q) = [] := by
    rw [List.filter_eq_nil_iff]
    intro q hq
    obtain ⟨x, hx, rfl⟩ := List.mem_map.mp hq
    have hx2 := List.mem_range.mp hx
    by_cases hx3 : a ≤ x
    · have := hP (x - a) (by omega)
      rw [show ((a : Int) + ((x - a : Nat) : Int)) = Int.ofNat x by show _ = (x : Int); omega] at this
      rw [this]
      simp
    · have : ¬ ((a : Int) ≤ Int.ofNat x) := by show ¬ ((a : Int) ≤ (x : Int)); omega
      simp
      exact fun h => absurd h hx3
  rw [e1]
  rfl
local macro_rules | `(tactic| walk_at "pyIter ref") => `(tactic| (k_here; refine stop_out ?_))
local macro_rules | `(tactic| walk_at "ForPost") => `(tactic| (refine stop_out ?_))
local macro_rules | `(tactic| walk_at "call ref") => `(tactic| ((fail_if_success (with_reducible rename Mark9 => mz)); refine sb_out ?_))
theorem end_sub {h₀ h : Heap} {L : Addr} {x y1 y2 y3 : Addr × Obj} {news own : Led} (N : News h₀ L h (x :: y1 :: y2 :: y3 :: (news ++ own))) : News h₀ L h (x :: news) := fun p hp => N p (by
  rcases List.mem_cons.mp hp with rfl | hp
  · exact .head _
  · exact .tail _ (.tail _ (.tail _ (.tail _ (List.mem_append_left _ hp)))))
theorem first_core {w : World} {text : Str} {b : Bool} {sg : Str} (htl : text.length ≤ 200) : FirstFact w text b sg := by
  intro news l n v1 t1 up p0 hl hone hp0 hp1
  delta P0
  k_fill
  intro p loose mean mg mb dp un gd cn cs a ccd cl outer A₀ base h₀ L m s Q E B F X N T hkd hroom hun hret
  refine wpAny_call ?_
  k_dflt ktr_enter
  (repeat' (first | ((with_reducible refine sb_in ?_); (first | ((with_reducible show wpAny _ _ (call _ _ _) _ _ _); (k_here; (with_reducible show wpAny _ _ (call (Value.ref 191) _) _ _ _); k_dflt (refine' ends1_use ?k1 ?k2 ?k3 ?k4 ?k5 ?k6 ?k7 ?k8 ?B ?F ?X ?N ?T ?kd ?d ?u ?_; (case k1 => assumption); (case k2 => assumption); (case k3 => assumption); (case B => k_asm); (case F => k_asm); (case X => k_asm); (case N => k_asm); (case k4 => (intro p hp; simp [hp])); (case k5 => k_mem); (case k6 => omega); (case k7 => omega); (case k8 => assumption); (case T => k_asm); (case kd => exact rfl); (case d => ktr_room); (case u => ktr_units); k_whole); (intro pl' ks' n' h' tk' F' N' i'); (try k_sweep))) | ((have mk9 : Mark9 := .mk); walk1; all_goals (try clear mk9)))) | (k_unfold; (try dsimp only)) | (k_end; kc_close) | walk1 | (dsimp only; walk1) | (leave1; walk_say "STEP leave1"; (try dsimp only)) | fail "no step"))
  (rename Fr _ _ _ _ => F2)
  (rename News _ _ _ _ => N2)
  (rename IsRange _ _ _ _ _ _ _ _ => hr9)
  obtain ⟨cnt, hcnt⟩ : ∃ c : Nat, (c : Int) = (text.length : Int) + 1 - p0 := ⟨((text.length : Int) + 1 - p0).toNat, by omega⟩
  refine stop_in (for_range (σ := Unit) (n := cnt) (x := Str.ofString "start") (ps := fun _ => [(Str.ofString "steps", .ref l), (Str.ofString "text", .str text t1)]) (Ld := fun _ => news) (P := fun j _ => ∀ q : Nat, q < j → hit text b sg (p0 + q) = false) () rfl hr9 ?_ ?_ F2 N2 ?_ ?_ (fun q hq => absurd hq (Nat.not_lt_zero _)) ?_ ?_)
  · unfold Builtin.Range.small
    have e : Builtin.Range.rangeSize p0 ((text.length : Int) + 1) 1 = (cnt : Int) := by
      unfold Builtin.Range.rangeSize
      rw [if_pos (by omega), if_pos (by omega)]
      omega
    simp [e, fits_small (i := p0) (by omega) (by omega), fits_small (i := 1) (by omega) (by omega), fits_small (i := (cnt : Int)) (by omega) (by omega), fits_small (i := (text.length : Int) + 1) (by omega) (by omega)]
    try (right; exact fits_small (by omega) (by omega))
  · unfold Builtin.Range.rangeSize
    rw [if_pos (by omega), if_pos (by omega)]
    omega
  · intro p hp
    simp only [List.mem_cons, List.not_mem_nil, or_false] at hp
    rcases hp with rfl | rfl <;> rfl
  · exact fun p hp => by simp [hp]
  · rintro j t _ u h' tk' own hj hP hoff F3 N3
    (try dsimp only at F3 N3)
    have hj0 : 0 ≤ p0 + (j : Int) := by omega
    have hj1 : p0 + (j : Int) ≤ (text.length : Int) := by omega
    cases hh : hit text b sg (p0 + j) with
    | true =>
      have hres : (if hit text b sg (p0 + j) = true then [p0 + (j : Int) + 1] else []) = [p0 + (j : Int) + 1] := by rw [hh]; rfl
      (repeat' (first | ((with_reducible refine sb_in ?_); (first | ((with_reducible show wpAny _ _ (call _ _ _) _ _ _); (k_here; (with_reducible show wpAny _ _ (call (Value.ref 191) _) _ _ _); k_dflt (refine' ends1_use ?k1 ?k2 ?k3 ?k4 ?k5 ?k6 ?k7 ?k8 ?B ?F ?X ?N ?T ?kd ?d ?u ?_; (case k1 => assumption); (case k2 => assumption); (case k3 => assumption); (case B => k_asm); (case F => k_asm); (case X => k_asm); (case N => k_asm); (case k4 => (intro p hp; simp [hp])); (case k5 => k_mem); (case k6 => omega); (case k7 => omega); (case k8 => assumption); (case T => k_asm); (case kd => exact rfl); (case d => ktr_room); (case u => ktr_units); k_whole); (intro pl' ks' n' h' tk' F' N' i'); (try k_sweep))) | ((have mk9 : Mark9 := .mk); walk1; all_goals (try clear mk9)))) | (k_unfold; (try dsimp only)) | (k_end; kc_close) | walk1 | (dsimp only; walk1) | (leave1; walk_say "STEP leave1"; (try dsimp only)) | fail "no step"))
      · (rename (decide _ = true) => a9)
        exact absurd a9 (by simp)
      · refine stop_in ?_
        (rename IntsAre _ (List.take _ _) => i9)
        dsimp only [ForPost]
        (repeat' (first | ((with_reducible refine sb_in ?_); (first | ((with_reducible show wpAny _ _ (call _ _ _) _ _ _); (k_here; (with_reducible show wpAny _ _ (call (Value.ref 191) _) _ _ _); k_dflt (refine' ends1_use ?k1 ?k2 ?k3 ?k4 ?k5 ?k6 ?k7 ?k8 ?B ?F ?X ?N ?T ?kd ?d ?u ?_; (case k1 => assumption); (case k2 => assumption); (case k3 => assumption); (case B => k_asm); (case F => k_asm); (case X => k_asm); (case N => k_asm); (case k4 => (intro p hp; simp [hp])); (case k5 => k_mem); (case k6 => omega); (case k7 => omega); (case k8 => assumption); (case T => k_asm); (case kd => exact rfl); (case d => ktr_room); (case u => ktr_units); k_whole); (intro pl' ks' n' h' tk' F' N' i'); (try k_sweep))) | ((have mk9 : Mark9 := .mk); walk1; all_goals (try clear mk9)))) | (k_unfold; (try dsimp only)) | (k_end; kc_close) | walk1 | (dsimp only; walk1) | (leave1; walk_say "STEP leave1"; (try dsimp only)) | fail "no step"))
        (try refine stop_in ?_)
        (try dsimp only [ForPost])
        (try (repeat' (first | ((with_reducible refine sb_in ?_); (first | ((with_reducible show wpAny _ _ (call _ _ _) _ _ _); (k_here; (with_reducible show wpAny _ _ (call (Value.ref 191) _) _ _ _); k_dflt (refine' ends1_use ?k1 ?k2 ?k3 ?k4 ?k5 ?k6 ?k7 ?k8 ?B ?F ?X ?N ?T ?kd ?d ?u ?_; (case k1 => assumption); (case k2 => assumption); (case k3 => assumption); (case B => k_asm); (case F => k_asm); (case X => k_asm); (case N => k_asm); (case k4 => (intro p hp; simp [hp])); (case k5 => k_mem); (case k6 => omega); (case k7 => omega); (case k8 => assumption); (case T => k_asm); (case kd => exact rfl); (case d => ktr_room); (case u => ktr_units); k_whole); (intro pl' ks' n' h' tk' F' N' i'); (try k_sweep))) | ((have mk9 : Mark9 := .mk); walk1; all_goals (try clear mk9)))) | (k_unfold; (try dsimp only)) | (k_end; kc_close) | walk1 | (dsimp only; walk1) | (leave1; walk_say "STEP leave1"; (try dsimp only)) | fail "no step")))
        (rename Fr h₀ _ _ _ => kF)
        (rename News h₀ _ _ _ => kN)
        (rename (_ ∧ _ ∧ _ ∧ AllLt _ _) => l9)
        exact hret _ _ _ _ _ kF (end_sub kN) (by rw [first_hit hp0 hh hP]; exact i9) (fun p hp => Nat.ne_of_lt (ltAll l9.2.2.2 p (List.mem_append_left _ hp)))
    | false =>
      have hres : (if hit text b sg (p0 + j) = true then [p0 + (j : Int) + 1] else []) = [] := by rw [hh]; rfl
      (repeat' (first | ((with_reducible refine sb_in ?_); (first | ((with_reducible show wpAny _ _ (call _ _ _) _ _ _); (k_here; (with_reducible show wpAny _ _ (call (Value.ref 191) _) _ _ _); k_dflt (refine' ends1_use ?k1 ?k2 ?k3 ?k4 ?k5 ?k6 ?k7 ?k8 ?B ?F ?X ?N ?T ?kd ?d ?u ?_; (case k1 => assumption); (case k2 => assumption); (case k3 => assumption); (case B => k_asm); (case F => k_asm); (case X => k_asm); (case N => k_asm); (case k4 => (intro p hp; simp [hp])); (case k5 => k_mem); (case k6 => omega); (case k7 => omega); (case k8 => assumption); (case T => k_asm); (case kd => exact rfl); (case d => ktr_room); (case u => ktr_units); k_whole); (intro pl' ks' n' h' tk' F' N' i'); (try k_sweep))) | ((have mk9 : Mark9 := .mk); walk1; all_goals (try clear mk9)))) | (k_unfold; (try dsimp only)) | (k_end; kc_close) | walk1 | (dsimp only; walk1) | (leave1; walk_say "STEP leave1"; (try dsimp only)) | fail "no step"))
      (rename News _ _ _ _ => N9)
      (rename Fr _ _ _ _ => F9)
      refine stop_in ⟨(), _, _, _, _, rfl, F9, N9, ?_, ?_, ?_, hoff, ?_⟩
      · intro p hp
        simp only [List.mem_cons, List.not_mem_nil, or_false] at hp
        rcases hp with rfl | rfl <;> rfl
      · exact fun p hp => by simp [hp]
      · exact fun p hp => by simp [hp]
      · intro q hq
        rcases Nat.lt_succ_iff_lt_or_eq.mp hq with h | h
        · exact hP q h
        · rw [h]; exact hh
  · rintro _ u h' tk' hP F3 N3
    (try dsimp only at F3 N3)
    (repeat' (first | ((with_reducible refine sb_in ?_); (first | ((with_reducible show wpAny _ _ (call _ _ _) _ _ _); (k_here; (with_reducible show wpAny _ _ (call (Value.ref 191) _) _ _ _); k_dflt (refine' ends1_use ?k1 ?k2 ?k3 ?k4 ?k5 ?k6 ?k7 ?k8 ?B ?F ?X ?N ?T ?kd ?d ?u ?_; (case k1 => assumption); (case k2 => assumption); (case k3 => assumption); (case B => k_asm); (case F => k_asm); (case X => k_asm); (case N => k_asm); (case k4 => (intro p hp; simp [hp])); (case k5 => k_mem); (case k6 => omega); (case k7 => omega); (case k8 => assumption); (case T => k_asm); (case kd => exact rfl); (case d => ktr_room); (case u => ktr_units); k_whole); (intro pl' ks' n' h' tk' F' N' i'); (try k_sweep))) | ((have mk9 : Mark9 := .mk); walk1; all_goals (try clear mk9)))) | (k_unfold; (try dsimp only)) | (k_end; kc_close) | walk1 | (dsimp only; walk1) | (leave1; walk_say "STEP leave1"; (try dsimp only)) | fail "no step"))
    (rename Fr h₀ _ _ _ => kF)
    (rename News h₀ _ _ _ => kN)
    (rename (∀ p : Addr × Obj, p ∈ news → _) => l9)
    exact hret _ [] _ _ _ kF kN (by rw [first_none hp0 hcnt hP]; exact .nil) (fun p hp => Nat.ne_of_lt (l9 p hp))
end Mine
end

section -- MCmp
open PySem PySem.W PyProof.Rows PySem.Calls
set_option Elab.async false
set_option maxRecDepth 100000
set_option maxHeartbeats 8000000
namespace Mine
section
variable {prog : Program} {w : World} {A : Around} {E : Value → Shared → Prop} {s : Shared} {env : Env} {h₀ h h' : Heap} {L b : Addr} {m : Str → Option Value} {news : Led}
theorem strIter_st {x : Str} {t : Tok} {ty : String} {I : Addr} : ∀ i (h h' : Heap) (o : Obj) (nw : Led), h.IsStrIter I ty x t i → h.get? I = some o → h'.get? I = some o → (∀ b o, h₀.get? b = some o → h'.get? b = some o) → News h₀ L h' nw → True → h'.IsStrIter I ty x t i :=
  fun i h h' o nw st e e' _ _ _ => by
    obtain ⟨o', q, r⟩ := st
    rw [e] at q
    cases q
    exact ⟨o, e', r⟩
noncomputable def SrcX (prog : Program) (w : World) (A : Around) (h₀ : Heap) (L : Addr) (m : Str → Option Value) (env : Env) (elt : Expr) (x : Str) (scope : Scope) (cl : List (Str × Addr)) (Fin : Shared → List Value → Led → Prop) (xv : Value) (s₁ : Shared) : Prop :=
  ∃ tx tt news, xv = .str tx tt ∧ A.handled = none ∧ Fr h₀ L s₁.heap m ∧ News h₀ L s₁.heap news ∧ tx.cps.size ≤ sizeLine ∧
    ∀ s₂ : Shared, (∃ h, s₂ = { s₁ with heap := h }) → LCg.CompRest prog w A h₀ L m env elt x scope cl s₂ (fun _ => True) (SignAt tx) (Fin s₂) tx.cps.size 0 [] news
theorem ListComp_X {elt iter : Expr} {x : Str} {px : Pos} {scope : Scope} {cl : List (Str × Addr)} {pos : Pos} {Q : Value → Shared → Prop} (_F₀ : Fr h₀ L s.heap m)
    (hclos : closureFor scope env = pure cl) (hcell : ∀ y ∈ scope.names, y.2 ≠ .cell) (hkind : scope.kind = .function)
    (hnames : ∀ y ∈ scope.names, y.2 = .local → scope.names.lookup y.1 = some .local) (hx : scope.names.lookup x = some .local)
    (h : wpAny (model prog w) A (eval iter env) (SrcX prog w A h₀ L m env elt x scope cl (fun s₂ => LCg.FinE h₀ L m s₂ Q)) E s)
    (hs : ∀ x, foldedSetIterable iter env x = pure x := by intro _; rfl) :
    wpAny (model prog w) A (eval (.ListComp elt [⟨.Name x px, iter, [], 0⟩] scope pos) env) Q E s := by
  rw [eval_ListComp]
  refine wpAny_comprehension_free (use := none) rfl hs hclos hkind hnames (wpAny_mono h (fun xv s₁ h₁ => ?_) fun _ _ e => e)
  obtain ⟨tx, tt, news, rfl, hh, F, N, hsz, R⟩ := h₁
  have close : ∀ ty : String, (∀ A' : Around, A'.handled = none → Walks prog w A' s₁.heap.objs.size [s₁.heap.objs.size] [s₁.heap.objs.size] tx.cps.size (SignAt tx) (fun i h => h.IsStrIter s₁.heap.objs.size ty tx tt i)) →
      wpAny (model prog w) A (newList []) (fun acc s₃ => wpAny (model prog w) A (newFunctionEnv scope env.globals cl [] env.qual none .none (some env)) (fun cenv s₄ =>
        codeAny (model prog w) A (.compStart (.ListComp elt [⟨.Name x px, iter, [], 0⟩] scope pos) 0 (.ref s₁.heap.objs.size) acc { cenv with scope := relabel scope env }) (compPost (model prog w) A E none Q acc cenv.locals) s₄) E s₃) E { s₁ with heap := s₁.heap.push { cls := .type ty, data := .fields #[.str tx tt, .int 0 0] } } := by
    intro ty W
    have up : ∀ b o', s₁.heap.get? b = some o' → (s₁.heap.push { cls := .type ty, data := .fields #[.str tx tt, .int 0 0] }).get? b = some o' := fun b o' e => Heap.get?_push_of_some _ e
    refine LCg.block_U (RR := fun acc C => compPost (model prog w) A E none Q acc C) (W A hh) hsz (fun i h st => by obtain ⟨o, e, _⟩ := st; exact ⟨o, e⟩) strIter_st hcell hkind hx ⟨_, Heap.get?_push_size _ rfl, rfl, rfl⟩ (fun b hb => ?_)
      (F.keeps up) (N.grown up) (Nat.ne_of_lt F.ns.lt) (next_is_new F) (fun p hp => Nat.ne_of_lt (Heap.lt_size (N p hp).1)) trivial (R _ ⟨_, rfl⟩) ?_
    · rw [List.mem_singleton.mp hb]
      show s₁.heap.objs.size < (s₁.heap.push _).objs.size
      rw [Heap.size_push]; exact Nat.lt_succ_self _
    · intro D C h tk m' ys news' F' N' o1 hn hC₀ hD₀ hCL hDL hCD offC fin
      refine ⟨m', hn, fun h'' hs'' => fin D h'' tk (F'.change hs'' hCL hC₀) (fun p hp => ?_) o1⟩
      refine ⟨hs''.extBut _ _ ?_ (N' p hp).1, (N' p hp).2⟩
      rcases List.mem_cons.mp hp with rfl | hp
      · exact Ne.symm hCD
      · exact offC p hp
  cases ha : tx.cps.all (· < 128)
  · exact wpAny_pyIter_wide ha (close _ fun A' hA => Walks.strWide hA _ tx tt)
  · exact wpAny_pyIter_ascii ha (close _ fun A' hA => Walks.strAscii hA _ tx tt)
/-- what a turn that keeps nothing leaves behind -/
noncomputable def TurnEndZ (h₀ : Heap) (L : Addr) (m : Str → Option Value) (s₁ : Shared) (need : Led) (G : Value → Prop) (y : Value) (s₂ : Shared) : Prop :=
  ∃ h' tk, s₂ = { s₁ with heap := h', toks := tk } ∧ Fr h₀ L h' m ∧ News h₀ L h' need ∧ G y
theorem TurnEndZ.intro {s₁ : Shared} {need all : Led} {G : Value → Prop} {y : Value} {tk : Nat} (F : Fr h₀ L h' m) (N : News h₀ L h' all) (sub : ∀ p ∈ need, p ∈ all) (g : G y) : TurnEndZ h₀ L m s₁ need G y { s₁ with heap := h', toks := tk } := ⟨h', tk, rfl, F, fun p hp => N p (sub p hp), g⟩
noncomputable def Gs (G : Nat → Value → Prop) (ys : List Value) : Prop := ∀ (j : Nat) (y : Value), ys[j]? = some y → G j y
theorem Gs.snoc {G : Nat → Value → Prop} {ys : List Value} {y : Value} (h : Gs G ys) (g : G ys.length y) : Gs G (ys ++ [y]) := by
  intro j z hz
  by_cases hj : j < ys.length
  · rw [List.getElem?_append_left hj] at hz
    exact h j z hz
  · have hl : j < (ys ++ [y]).length := (List.getElem?_eq_some_iff.mp hz).1
    have : j = ys.length := by simp at hl; omega
    subst this
    rw [List.getElem?_append_right (Nat.le_refl _), Nat.sub_self] at hz
    simp at hz
    exact hz ▸ g
theorem rest_same {elt : Expr} {x : Str} {scope : Scope} {cl : List (Str × Addr)} {S : Led → Prop} {P : Nat → Value → Prop} {G : Nat → Value → Prop} {Fin : List Value → Led → Prop} (n : Nat) (hS : S news)
    (turn : ∀ i v I oI C oC D m₂ h tk ys (E' : Value → Shared → Prop), i < n → P i v → LCg.NsObj oC m₂ → m₂ x = some v → Fr h₀ L h m → News h₀ L h ((I, oI) :: (C, oC) :: (D, LCg.lst ys) :: news) → LCg.Off3 I C D news → ((@Ne Nat I C) ∧ (@Ne Nat I D) ∧ (@Ne Nat C D)) →
      wpAny (model prog w) A (eval elt (compEnvC scope cl C env)) (TurnEndZ h₀ L m { s with heap := h, toks := tk } ((I, oI) :: (C, oC) :: (D, LCg.lst ys) :: news) (G i)) E' { s with heap := h, toks := tk })
    (fin : ∀ ys, ys.length = n → Gs G ys → Fin ys news) :
    ∀ k i ys, i + k = n → ys.length = i → Gs G ys → LCg.CompRest prog w A h₀ L m env elt x scope cl s S P Fin k i ys news := by
  intro k
  induction k with
  | zero => exact fun i ys hi hl hg => LCg.CompRest.zero (fin ys (by omega) hg)
  | succ k ih =>
    intro i ys hi hl hg
    refine LCg.CompRest.succ fun v I oI C oC D m₂ h tk E' hP hC hx F N off ne => ?_
    refine wpAny_mono (turn i v I oI C oC D m₂ h tk ys E' (by omega) hP hC hx F N off ne) (fun y s₂ e => ?_) fun _ _ e => e
    obtain ⟨h', tk', rfl, F', N', g⟩ := e
    exact ⟨h', tk', news, rfl, F', N', off, hS, ih (i + 1) (ys ++ [y]) (by omega) (by simp [hl]) (hg.snoc (hl ▸ g))⟩
theorem SrcX.intro {elt : Expr} {x : Str} {scope : Scope} {cl : List (Str × Addr)} {G : Nat → Value → Prop} {Fin : Shared → List Value → Led → Prop} {tx : Str} {tt : Tok} (hh : A.handled = none) (F : Fr h₀ L s.heap m) (N : News h₀ L s.heap news) (hsz : tx.cps.size ≤ sizeLine)
    (turn : ∀ g i v I oI C oC D m₂ h tk ys (E' : Value → Shared → Prop), i < tx.cps.size → SignAt tx i v → LCg.NsObj oC m₂ → m₂ x = some v → Fr h₀ L h m → News h₀ L h ((I, oI) :: (C, oC) :: (D, LCg.lst ys) :: news) → LCg.Off3 I C D news → ((@Ne Nat I C) ∧ (@Ne Nat I D) ∧ (@Ne Nat C D)) →
      wpAny (model prog w) A (eval elt (compEnvC scope cl C env)) (TurnEndZ h₀ L m { { s with heap := g } with heap := h, toks := tk } ((I, oI) :: (C, oC) :: (D, LCg.lst ys) :: news) (G i)) E' { { s with heap := g } with heap := h, toks := tk })
    (fin : ∀ g ys, ys.length = tx.cps.size → Gs G ys → Fin { s with heap := g } ys news) : SrcX prog w A h₀ L m env elt x scope cl Fin (.str tx tt) s :=
  ⟨tx, tt, news, rfl, hh, F, N, hsz, fun _ ⟨g, e⟩ => e ▸ rest_same tx.cps.size trivial (turn g) (fin g) _ 0 [] (by omega) rfl (fun _ _ e => by simp at e)⟩
theorem SrcL.each {elt : Expr} {x : Str} {scope : Scope} {cl : List (Str × Addr)} {G : Nat → Value → Prop} {Fin : Shared → List Value → Led → Prop} {ax : Addr} {vs : List Value} {n : Nat} (hh : A.handled = none) (F : Fr h₀ L s.heap m) (N : News h₀ L s.heap news) (hm : (ax, listOf vs.toArray n) ∈ news) (hsz : vs.length ≤ sizeLine)
    (turn : ∀ g i v I oI C oC D m₂ h tk ys (E' : Value → Shared → Prop), i < vs.length → vs[i]? = some v → LCg.NsObj oC m₂ → m₂ x = some v → Fr h₀ L h m → News h₀ L h ((I, oI) :: (C, oC) :: (D, LCg.lst ys) :: news) → LCg.Off3 I C D news → ((@Ne Nat I C) ∧ (@Ne Nat I D) ∧ (@Ne Nat C D)) →
      wpAny (model prog w) A (eval elt (compEnvC scope cl C env)) (TurnEndZ h₀ L m { { s with heap := g } with heap := h, toks := tk } ((I, oI) :: (C, oC) :: (D, LCg.lst ys) :: news) (G i)) E' { { s with heap := g } with heap := h, toks := tk })
    (fin : ∀ g ys, ys.length = vs.length → Gs G ys → Fin { s with heap := g } ys news) : LCg.CompSrc prog w A h₀ L m env elt x scope cl Fin (.ref ax) s :=
  LCg.CompSrc.ledger (its := vs.toArray) hh F N hm (by simpa using hsz) fun g => by
    have hS : LCg.SrcAt h₀ ax vs.toArray news := .inr ⟨_, hm, rfl, _, rfl⟩
    have e : vs.toArray.size = vs.length := by simp
    rw [e]
    exact rest_same vs.length hS (fun i v I oI C oC D m₂ h tk ys E' hi hP => turn g i v I oI C oC D m₂ h tk ys E' hi (by simpa using hP)) (fin g) _ 0 [] (by omega) rfl (fun _ _ e => by simp at e)
theorem restT_filter {ct : Expr} {x : Str} {px : Pos} {scope : Scope} {cl : List (Str × Addr)} {S : Led → Prop} {p : Value → Bool} {Fin : List Value → Led → Prop} (vs : List Value) (hS : S news)
    (hkind : scope.kind = .function) (hx : scope.names.lookup x = some .local) (hdb : (x == ("__debug__" : Str)) = false)
    (turn : ∀ (i : Nat) v I oI C oC D m₂ h tk ys (E' : Value → Shared → Prop), vs[i]? = some v → LCg.NsObj oC m₂ → m₂ x = some v → Fr h₀ L h m → News h₀ L h ((I, oI) :: (C, oC) :: (D, LCg.lst ys) :: news) → LCg.Off3 I C D news → ((@Ne Nat I C) ∧ (@Ne Nat I D) ∧ (@Ne Nat C D)) →
      wpAny (model prog w) A (isTrue ct (compEnvC scope cl C env) (eval ct (compEnvC scope cl C env))) (fun ok s' => TurnEndZ h₀ L m { s with heap := h, toks := tk } ((I, oI) :: (C, oC) :: (D, LCg.lst ys) :: news) (fun _ => ok = p v) Value.none s') E' { s with heap := h, toks := tk })
    (fin : Fin (vs.filter p) news) :
    ∀ k i, i + k = vs.length → LCt.CompRestT prog w A h₀ L m env ct (.Name x px) x scope cl s S (fun i v => vs.toArray[i]? = some v) Fin k i ((vs.take i).filter p) news := by
  intro k
  induction k with
  | zero =>
    intro i hi
    refine LCt.CompRestT.zero ?_
    rw [List.take_of_length_le (by omega)]
    exact fin
  | succ k ih =>
    intro i hi
    refine LCt.CompRestT.succ fun v I oI C oC D m₂ h tk E' hP hC hx' F N off ne => ?_
    have hP' : vs[i]? = some v := by simpa using hP
    refine wpAny_mono (turn i v I oI C oC D m₂ h tk _ E' hP' hC hx' F N off ne) (fun ok s₂ e => ?_) fun _ _ e => e
    obtain ⟨h', tk', rfl, F', N', g⟩ := e
    have hn := ih (i + 1) (by omega)
    rw [List.take_add_one, hP', List.filter_append] at hn
    cases ok with
    | true =>
      rw [if_pos rfl]
      have zC := (N' (C, oC) (.tail _ (.head _))).1
      refine wpAny_Name (wpAny_loadName_local (by simp [compEnvC, relabel, hkind]) (lookup_relabel_local hx) (hC.ns zC) hx' ?_) hdb
      refine ⟨h', tk', news, rfl, F', N', off, hS, ?_⟩
      have e2 : [v].filter p = [v] := by simp [← g]
      rw [show (some v).toList = [v] from rfl, e2] at hn
      exact hn
    | false =>
      rw [if_neg (by simp)]
      refine ⟨h', tk', news, rfl, F', N', off, hS, ?_⟩
      have e2 : [v].filter p = [] := by simp [← g]
      rw [show (some v).toList = [v] from rfl, e2, List.append_nil] at hn
      exact hn
theorem SrcT.filter {ct : Expr} {x : Str} {px : Pos} {scope : Scope} {cl : List (Str × Addr)} {p : Value → Bool} {Fin : Shared → List Value → Led → Prop} {ax : Addr} {vs : List Value} {n : Nat} (hh : A.handled = none) (F : Fr h₀ L s.heap m) (N : News h₀ L s.heap news) (hm : (ax, listOf vs.toArray n) ∈ news) (hsz : vs.length ≤ sizeLine)
    (hkind : scope.kind = .function) (hx : scope.names.lookup x = some .local) (hdb : (x == ("__debug__" : Str)) = false)
    (turn : ∀ g (i : Nat) v I oI C oC D m₂ h tk ys (E' : Value → Shared → Prop), vs[i]? = some v → LCg.NsObj oC m₂ → m₂ x = some v → Fr h₀ L h m → News h₀ L h ((I, oI) :: (C, oC) :: (D, LCg.lst ys) :: news) → LCg.Off3 I C D news → ((@Ne Nat I C) ∧ (@Ne Nat I D) ∧ (@Ne Nat C D)) →
      wpAny (model prog w) A (isTrue ct (compEnvC scope cl C env) (eval ct (compEnvC scope cl C env))) (fun ok s' => TurnEndZ h₀ L m { { s with heap := g } with heap := h, toks := tk } ((I, oI) :: (C, oC) :: (D, LCg.lst ys) :: news) (fun _ => ok = p v) Value.none s') E' { { s with heap := g } with heap := h, toks := tk })
    (fin : ∀ g, Fin { s with heap := g } (vs.filter p) news) : LCt.CompSrcT prog w A h₀ L m env ct (.Name x px) x scope cl Fin (.ref ax) s :=
  LCt.CompSrcT.ledger (its := vs.toArray) hh F N hm (by simpa using hsz) fun g => by
    have hS : LCg.SrcAt h₀ ax vs.toArray news := .inr ⟨_, hm, rfl, _, rfl⟩
    have e : vs.toArray.size = vs.length := by simp
    rw [e]
    exact restT_filter vs hS hkind hx hdb (turn g) (fin g) vs.length 0 (by omega)
end
end Mine
end

section -- MEscd
open PySem PySem.W PyProof.Rows PySem.Calls
set_option Elab.async false
set_option maxRecDepth 100000
set_option maxHeartbeats 8000000
namespace Mine
theorem flush_MEscd : True := by w_top off; first | walk1 | trivial
noncomputable def tkOf (c : Nat) : Tk := if c = 42 ∨ c = 63 ∨ c = 91 then .brk c else .bare c
theorem strs_of {f : Nat → Str} : ∀ {cs : List Nat} {ys : List Value}, ys.length = cs.length → (∀ (j : Nat) (y : Value) (c : Nat), ys[j]? = some y → cs[j]? = some c → ∃ u, y = .str (f c) u) → StrsAre ys (cs.map f)
  | [], [], _, _ => .nil
  | [], _ :: _, h, _ => by simp at h
  | _ :: _, [], h, _ => by simp at h
  | c :: cs, y :: ys, h, g => by
    obtain ⟨u, rfl⟩ := g 0 y c rfl rfl
    exact .cons _ _ (strs_of (by simpa using h) fun j y c hy hc => g (j + 1) y c hy hc)
theorem tk_brk {c : Nat} (h : c = 42 ∨ c = 63 ∨ c = 91) : Str.ofString "[" ++ (⟨#[c]⟩ : Str) ++ Str.ofString "]" = ⟨(tkOf c).txt.toArray⟩ := by
  unfold tkOf
  rw [if_pos h]
  rcases h with rfl | rfl | rfl <;> decide +kernel
theorem in3 {c : Nat} : c ∈ (Str.ofString "*?[").cps.toList ↔ (c = 42 ∨ c = 63 ∨ c = 91) := by
  have e : (Str.ofString "*?[").cps.toList = [42, 63, 91] := by decide +kernel
  rw [e]
  simp
theorem tk_len (cs : List Nat) : ((cs.map fun c => (⟨(tkOf c).txt.toArray⟩ : Str)).map (·.length)).sum ≤ 3 * cs.length := by
  induction cs with
  | nil => simp
  | cons c r ih =>
    have h : (⟨(tkOf c).txt.toArray⟩ : Str).length ≤ 3 := by
      show (tkOf c).txt.toArray.size ≤ 3
      unfold tkOf
      split <;> simp [Tk.txt]
    simp only [List.map_cons, List.sum_cons, List.length_cons]
    omega
local macro_rules | `(tactic| walk_at "eval ListComp") => `(tactic| ((fail_if_success (with_reducible rename Mark9 => mz)); refine sb_out ?_))
local macro_rules | `(tactic| walk_at "SrcX") => `(tactic| (refine stop_out ?_))
theorem escd_core {w : World} {text : Str} {t1 : Tok} {news : Led} (hlen : text.length ≤ 100) : Con w 201 [.str text t1] 3 60 news (fun r tl => ∃ u, r = .str ⟨((text.cps.toList.map tkOf).flatMap Tk.txt).toArray⟩ u) := by
  delta Con P0
  k_fill
  intro p loose mean mg mb dp un gd cn cs a ccd cl outer A₀ base h₀ L m s Q E B F X N T hkd hroom hun hret
  refine wpAny_call ?_
  k_dflt ktr_enter
  refine fold_AE ?_
  intro A9 e9
  (repeat' (first | ((with_reducible refine sb_in ?_); (first | ((with_reducible show wpAny _ _ (eval _ _) _ _ _); (k_here; (with_reducible show wpAny _ _ (eval (Expr.ListComp _ [⟨Expr.Name _ _, _, [], 0⟩] _ _) _) _ _ _); k_dflt (refine ListComp_X (by k_asm) (by with_unfolding_all rfl) (by decide) (by rfl) (by decide) (by rfl) ?_))) | ((have mk9 : Mark9 := .mk); walk1; all_goals (try clear mk9)))) | (k_unfold; (try dsimp only)) | (k_end; kc_close) | walk1 | (dsimp only; walk1) | (leave1; walk_say "STEP leave1"; (try dsimp only)) | fail "no step"))
  (rename Fr _ _ _ _ => F2)
  (rename News _ _ _ _ => N2)
  refine stop_in (SrcX.intro (G := fun i y => ∀ c, text.cps[i]? = some c → ∃ u, y = .str ⟨(tkOf c).txt.toArray⟩ u) rfl F2 N2 ?_ ?_ ?_)
  · rw [sizeLine_eq]
    exact Nat.le_trans hlen (by decide)
  · rintro g i v I oI C oC D m₂ h tk ys E' hi ⟨c, u, hc, rfl⟩ hC hx F3 N3 off ne
    (repeat' (first | ((with_reducible refine sb_in ?_); (first | ((with_reducible show wpAny _ _ (eval _ _) _ _ _); (k_here; (with_reducible show wpAny _ _ (eval (Expr.ListComp _ [⟨Expr.Name _ _, _, [], 0⟩] _ _) _) _ _ _); k_dflt (refine ListComp_X (by k_asm) (by with_unfolding_all rfl) (by decide) (by rfl) (by decide) (by rfl) ?_))) | ((have mk9 : Mark9 := .mk); walk1; all_goals (try clear mk9)))) | (k_unfold; (try dsimp only)) | (k_end; kc_close) | walk1 | (dsimp only; walk1) | (leave1; walk_say "STEP leave1"; (try dsimp only)) | fail "no step"))
    · (rename (_ = true) => a9)
      rw [empty_one] at a9
      refine TurnEndZ.intro F3 N3 (fun _ h => h) ?_
      intro c' hc'
      rw [hc] at hc'
      cases hc'
      have : ¬ (c = 42 ∨ c = 63 ∨ c = 91) := by
        rw [← in3]
        simpa using a9
      unfold tkOf
      rw [if_neg this]
      exact ⟨_, rfl⟩
    · (rename (List.isEmpty _ = false) => a9)
      rw [empty_one] at a9
      refine TurnEndZ.intro F3 N3 (fun _ h => h) ?_
      intro c' hc'
      rw [hc] at hc'
      cases hc'
      rw [tk_brk (in3.mp (by simpa using a9))]
      exact ⟨_, rfl⟩
  · intro g ys hl hg
    (repeat' (first | ((with_reducible refine sb_in ?_); (first | ((with_reducible show wpAny _ _ (eval _ _) _ _ _); (k_here; (with_reducible show wpAny _ _ (eval (Expr.ListComp _ [⟨Expr.Name _ _, _, [], 0⟩] _ _) _) _ _ _); k_dflt (refine ListComp_X (by k_asm) (by with_unfolding_all rfl) (by decide) (by rfl) (by decide) (by rfl) ?_))) | ((have mk9 : Mark9 := .mk); walk1; all_goals (try clear mk9)))) | (k_unfold; (try dsimp only)) | (k_end; kc_close) | walk1 | (dsimp only; walk1) | (leave1; walk_say "STEP leave1"; (try dsimp only)) | fail "no step"))
    (rename News _ _ _ _ => N9)
    have hst : StrsAre ys.toArray.toList (text.cps.toList.map fun c => ⟨(tkOf c).txt.toArray⟩) := by
      refine strs_of (by rw [hl]; simp) fun j y c hy hc => hg j y (by simpa using hy) c (by simpa using hc)
    have hw := tk_len text.cps.toList
    have hl2 : text.cps.toList.length ≤ 100 := by rw [Array.length_toList]; exact hlen
    refine join_K N9 (.head _) hst (by decide +kernel) (by simp only [List.length_map] at hw ⊢; omega) rfl ?_
    intro t' k'
    (repeat' (first | ((with_reducible refine sb_in ?_); (first | ((with_reducible show wpAny _ _ (eval _ _) _ _ _); (k_here; (with_reducible show wpAny _ _ (eval (Expr.ListComp _ [⟨Expr.Name _ _, _, [], 0⟩] _ _) _) _ _ _); k_dflt (refine ListComp_X (by k_asm) (by with_unfolding_all rfl) (by decide) (by rfl) (by decide) (by rfl) ?_))) | ((have mk9 : Mark9 := .mk); walk1; all_goals (try clear mk9)))) | (k_unfold; (try dsimp only)) | (k_end; kc_close) | walk1 | (dsimp only; walk1) | (leave1; walk_say "STEP leave1"; (try dsimp only)) | fail "no step"))
    (rename Fr h₀ _ _ _ => kF)
    (rename News h₀ _ _ _ => kN)
    have e : Txt.join (Str.ofString "") (text.cps.toList.map fun c => (⟨(tkOf c).txt.toArray⟩ : Str)) = ⟨((text.cps.toList.map tkOf).flatMap Tk.txt).toArray⟩ := str_ext (by
      rw [txt_join, List.flatMap_map, List.flatMap_map])
    rw [e]
    exact hret _ [] _ _ kF (fun p hp => kN p (.tail _ hp)) (fun _ h => nomatch h) ⟨_, rfl⟩
end Mine
end

section -- MRunL
open PySem PySem.W PyProof.Rows PySem.Calls
set_option Elab.async false
set_option maxRecDepth 100000
set_option maxHeartbeats 8000000
namespace Mine
theorem runL_cons {text : Str} {st : Stp} {sts : List Stp} {ks : List Int} : runL text (st :: sts) ks = runL text sts (runStep text st ks) := rfl
theorem runL_append {text : Str} {a b : List Stp} {ks : List Int} : runL text (a ++ b) ks = runL text b (runL text a ks) := by
  unfold runL
  rw [List.foldl_append]
theorem places_in {text : Str} {k : Int} (h : k ∈ places text) : 0 ≤ k ∧ k ≤ (text.length : Int) := by
  obtain ⟨x, hx, rfl⟩ := List.mem_map.mp h
  have := List.mem_range.mp hx
  constructor
  · exact Int.natCast_nonneg x
  · show (x : Int) ≤ _
    omega
theorem step_in {text : Str} {st : Stp} {ks : List Int} (h : ∀ k ∈ ks, 0 ≤ k ∧ k ≤ (text.length : Int)) : ∀ k ∈ runStep text st ks, 0 ≤ k ∧ k ≤ (text.length : Int) := by
  intro k hk
  cases st with
  | one many b sg =>
    by_cases hm : many = 0
    · simp only [runStep, if_pos hm, List.mem_flatMap] at hk
      obtain ⟨p, hp, hk⟩ := hk
      by_cases hh : hit text b sg p = true
      · rw [if_pos hh] at hk
        have h1 := hit_lt hh
        have h2 := h p hp
        rw [List.mem_singleton.mp hk]
        omega
      · rw [if_neg hh] at hk
        cases hk
    · simp only [runStep, if_neg hm, List.mem_filter] at hk
      exact places_in hk.1
  | grp many b sg =>
    simp only [runStep, List.mem_flatMap] at hk
    obtain ⟨p, hp, hk⟩ := hk
    have hk := List.mem_of_mem_take hk
    obtain ⟨q, hq, rfl⟩ := List.mem_map.mp hk
    have hq := List.mem_filter.mp hq
    have h1 := places_in hq.1
    have h2 := hit_lt (Bool.and_eq_true _ _ ▸ hq.2).2
    omega
theorem run_in {text : Str} : ∀ {sts : List Stp} {ks : List Int}, (∀ k ∈ ks, 0 ≤ k ∧ k ≤ (text.length : Int)) → ∀ k ∈ runL text sts ks, 0 ≤ k ∧ k ≤ (text.length : Int)
  | [], _, h => h
  | st :: sts, ks, h => run_in (sts := sts) (step_in (st := st) h)
noncomputable def Stp.calm : Stp → Prop
  | .one many _ _ => many = 0
  | .grp _ _ _ => True
theorem step_le {text : Str} {st : Stp} {ks : List Int} (hc : st.calm) (h : ks.length ≤ 1) : (runStep text st ks).length ≤ 1 := by
  match ks, h with
  | [], _ =>
    cases st with
    | one many b sg =>
      have hm : many = 0 := hc
      simp [runStep, hm]
    | grp many b sg => simp [runStep]
  | [k], _ =>
    cases st with
    | one many b sg =>
      have hm : many = 0 := hc
      simp only [runStep, if_pos hm, List.flatMap_cons, List.flatMap_nil, List.append_nil]
      split <;> simp
    | grp many b sg =>
      simp only [runStep, List.flatMap_cons, List.flatMap_nil, List.append_nil]
      exact first_le1
theorem run_le {text : Str} : ∀ {sts : List Stp} {ks : List Int}, (∀ st ∈ sts, st.calm) → ks.length ≤ 1 → (runL text sts ks).length ≤ 1
  | [], _, _, h => h
  | st :: sts, ks, hc, h => run_le (sts := sts) (fun x hx => hc x (.tail _ hx)) (step_le (hc st (.head _)) h)
theorem all_split (hd0 : List Tk) : allStp hd0 = (hd0.map Tk.stp ++ [Stp.grp 0 true ⟨#[47]⟩]) ++ [Stp.one 1 true ⟨#[]⟩] := by
  unfold allStp
  rw [List.append_assoc]
  rfl
theorem all_le {text : Str} {hd0 : List Tk} : ∀ i, i < (allStp hd0).length → (runL text ((allStp hd0).take i) [0]).length ≤ 1 := by
  intro i hi
  rw [all_split, List.length_append, List.length_singleton] at hi
  rw [all_split, List.take_append_of_le_length (by omega)]
  refine run_le (fun st hs => ?_) (Nat.le_refl _)
  have hs := List.mem_of_mem_take hs
  rcases List.mem_append.mp hs with h | h
  · obtain ⟨t, _, rfl⟩ := List.mem_map.mp h
    rfl
  · rw [List.mem_singleton.mp h]
    trivial
theorem all_fine {hd0 : List Tk} : ∀ st ∈ allStp hd0, StFine st := by
  intro st hs
  rw [all_split] at hs
  rcases List.mem_append.mp hs with h | h
  · rcases List.mem_append.mp h with h | h
    · obtain ⟨t, _, rfl⟩ := List.mem_map.mp h
      exact .inl rfl
    · rw [List.mem_singleton.mp h]
      rfl
  · rw [List.mem_singleton.mp h]
    exact .inr ⟨rfl, rfl, rfl⟩
theorem all_in {text : Str} {sts : List Stp} : ∀ i, ∀ k ∈ runL text (sts.take i) [0], 0 ≤ k ∧ k ≤ (text.length : Int) := fun i => run_in (by
  intro k hk
  rw [List.mem_singleton.mp hk]
  omega)
-- what is taken
noncomputable def takesB (hd x : List Nat) : Bool := decide (hd <+: x) && (x.drop hd.length).any (· != 47)
theorem item_atZ {x : Str} {k c : Nat} (h : x.cps.toList[k]? = some c) : Txt.item x (k : Int) = ⟨#[c]⟩ := by
  have hk : k < x.cps.toList.length := (List.getElem?_eq_some_iff.mp h).1
  have e : x.cps.toList = x.cps.toList.take k ++ c :: x.cps.toList.drop (k + 1) := by
    rw [← (List.getElem?_eq_some_iff.mp h).2, ← List.drop_eq_getElem_cons hk, List.take_append_drop]
  exact item_pre (pre := x.cps.toList.take k) (post := x.cps.toList.drop (k + 1)) e (by rw [List.length_take]; omega)
theorem one_beq2 {c d : Nat} : ((⟨#[c]⟩ : Str) == ⟨#[d]⟩) = decide (c = d) := by
  by_cases h : c = d
  · subst h; simp
  · rw [decide_eq_false h]
    refine beq_eq_false_iff_ne.mpr fun e => h ?_
    have := congrArg (·.cps.toList) e
    simpa using this
theorem hit_at {x : Str} {b : Bool} {d k : Nat} : hit x b ⟨#[d]⟩ (k : Int) = (match x.cps.toList[k]? with | some c => (b != decide (c = d)) | none => false) := by
  unfold hit
  have hl : x.length = x.cps.toList.length := by rw [Array.length_toList]; rfl
  cases e : x.cps.toList[k]? with
  | none =>
    have := List.getElem?_eq_none_iff.mp e
    rw [decide_eq_false (by omega)]
    rfl
  | some c =>
    have hk : k < x.cps.toList.length := (List.getElem?_eq_some_iff.mp e).1
    rw [decide_eq_true (by omega), item_atZ e, one_beq2]
    rfl
theorem run_nil {text : Str} : ∀ {ts : List Tk}, runL text (ts.map Tk.stp) [] = []
  | [] => rfl
  | t :: ts => by
    rw [List.map_cons, runL_cons]
    exact run_nil (ts := ts)
theorem run_head {text : Str} : ∀ {ts : List Tk} {k : Nat}, (∀ t ∈ ts, t.bar = false) → runL text (ts.map Tk.stp) [(k : Int)] = if (ts.map Tk.sg) <+: text.cps.toList.drop k then [((k + ts.length : Nat) : Int)] else []
  | [], k, _ => by simp [runL]
  | t :: ts, k, hb => by
    rw [List.map_cons, runL_cons]
    have e : runStep text t.stp [(k : Int)] = if hit text false ⟨#[t.sg]⟩ k = true then [((k + 1 : Nat) : Int)] else [] := by
      unfold Tk.stp
      rw [hb t (.head _)]
      simp only [runStep, if_true, List.flatMap_cons, List.flatMap_nil, List.append_nil]
      rfl
    rw [e, hit_at]
    cases q : text.cps.toList[k]? with
    | none =>
      have := List.getElem?_eq_none_iff.mp q
      rw [if_neg (by simp), run_nil, List.drop_eq_nil_of_le this]
      simp
    | some c =>
      have hk : k < text.cps.toList.length := (List.getElem?_eq_some_iff.mp q).1
      have ed : text.cps.toList.drop k = c :: text.cps.toList.drop (k + 1) := by
        rw [← (List.getElem?_eq_some_iff.mp q).2, ← List.drop_eq_getElem_cons hk]
      rw [ed, List.map_cons]
      have hiff : (t.sg :: ts.map Tk.sg) <+: (c :: text.cps.toList.drop (k + 1)) ↔ t.sg = c ∧ ts.map Tk.sg <+: text.cps.toList.drop (k + 1) := List.cons_prefix_cons
      by_cases hc : c = t.sg
      · rw [if_pos (by simp [hc]), run_head (ts := ts) (fun t h => hb t (.tail _ h))]
        have e3 : k + 1 + ts.length = k + (t :: ts).length := by simp only [List.length_cons]; omega
        rw [e3]
        by_cases hp : (ts.map Tk.sg) <+: text.cps.toList.drop (k + 1)
        · rw [if_pos hp, if_pos (hiff.mpr ⟨hc.symm, hp⟩)]
        · rw [if_neg hp, if_neg fun h => hp (hiff.mp h).2]
      · rw [if_neg (by simp [hc]), run_nil, if_neg fun h => hc (hiff.mp h).1.symm]
theorem first_some {text : Str} {k : Nat} : (∃ q : Nat, firstL text true ⟨#[47]⟩ (k : Int) = [((q + 1 : Nat) : Int)] ∧ q < text.length) ∨ firstL text true ⟨#[47]⟩ (k : Int) = [] := by
  unfold firstL
  cases e : (places text).filter fun q => decide ((k : Int) ≤ q) && hit text true ⟨#[47]⟩ q with
  | nil => exact .inr rfl
  | cons q r =>
    have hm : q ∈ (places text).filter fun q => decide ((k : Int) ≤ q) && hit text true ⟨#[47]⟩ q := by rw [e]; exact .head _
    have hm := List.mem_filter.mp hm
    obtain ⟨x, hx, rfl⟩ := List.mem_map.mp hm.1
    have h2 := hit_lt (Bool.and_eq_true _ _ ▸ hm.2).2
    refine .inl ⟨x, rfl, ?_⟩
    have : (x : Int) < text.length := h2
    omega
theorem first_any {text : Str} {k : Nat} : (firstL text true ⟨#[47]⟩ (k : Int) = []) ↔ (text.cps.toList.drop k).any (· != 47) = false := by
  have hl : text.length = text.cps.toList.length := by rw [Array.length_toList]; rfl
  unfold firstL
  rw [List.take_eq_nil_iff, List.map_eq_nil_iff, List.filter_eq_nil_iff, List.any_eq_false]
  constructor
  · rintro (h | h)
    · cases h
    · intro c hc
      obtain ⟨i, hi⟩ := List.getElem?_of_mem hc
      rw [List.getElem?_drop] at hi
      have hik : k + i < text.cps.toList.length := (List.getElem?_eq_some_iff.mp hi).1
      have := h ((k + i : Nat) : Int) (List.mem_map.mpr ⟨k + i, List.mem_range.mpr (by omega), rfl⟩)
      rw [hit_at, hi] at this
      simp at this
      simp
      exact this (by omega)
  · intro h
    right
    intro q hq
    obtain ⟨x, hx, rfl⟩ := List.mem_map.mp hq
    show ¬ (decide ((k : Int) ≤ ((x : Nat) : Int)) && hit text true ⟨#[47]⟩ ((x : Nat) : Int)) = true
    rw [hit_at]
    cases e : text.cps.toList[x]? with
    | none => simp
    | some c =>
      by_cases hkx : k ≤ x
      · have hc : c ∈ text.cps.toList.drop k := by
          refine List.mem_of_getElem? (i := x - k) ?_
          rw [List.getElem?_drop, show k + (x - k) = x by omega]
          exact e
        have := h c hc
        simp at this
        simp [this]
      · have : ¬ ((k : Int) ≤ (x : Int)) := by omega
        simp [this]
theorem run_all {text : Str} {hd0 : List Tk} (hb : ∀ t ∈ hd0, t.bar = false) : ((runL text (allStp hd0) [0]).any fun x => x == (text.length : Int)) = takesB (hd0.map Tk.sg) text.cps.toList := by
  rw [all_split, runL_append, runL_append]
  have h0 := run_head (text := text) (ts := hd0) (k := 0) hb
  rw [show ((0 : Nat) : Int) = 0 from rfl, List.drop_zero] at h0
  rw [h0]
  unfold takesB
  by_cases hp : (hd0.map Tk.sg) <+: text.cps.toList
  · rw [if_pos hp, decide_eq_true hp, Bool.true_and, Nat.zero_add, List.length_map]
    have e : runL text [Stp.grp 0 true ⟨#[47]⟩] [((hd0.length : Nat) : Int)] = firstL text true ⟨#[47]⟩ (hd0.length : Int) := by
      simp only [runL, List.foldl_cons, List.foldl_nil, runStep, List.flatMap_cons, List.flatMap_nil, List.append_nil]
    rw [e]
    rcases first_some (text := text) (k := hd0.length) with ⟨q, hq, hl⟩ | hn
    · have h2 : (text.cps.toList.drop hd0.length).any (· != 47) = true := by
        cases z : (text.cps.toList.drop hd0.length).any (· != 47) with
        | true => rfl
        | false =>
          rw [first_any.mpr z] at hq
          cases hq
      rw [hq, h2, List.any_eq_true]
      refine ⟨(text.length : Int), ?_, by simp⟩
      simp only [runL, List.foldl_cons, List.foldl_nil, runStep]
      rw [if_neg (by decide), List.mem_filter]
      refine ⟨List.mem_map.mpr ⟨text.length, List.mem_range.mpr (by omega), rfl⟩, ?_⟩
      simp
      omega
    · rw [hn, first_any.mp hn]
      simp [runL, runStep]
  · rw [if_neg hp, decide_eq_false hp]
    simp [runL, runStep]
end Mine
end

section -- MTkn
open PySem PySem.W PyProof.Rows PySem.Calls
set_option Elab.async false
set_option maxRecDepth 100000
set_option maxHeartbeats 8000000
namespace Mine
theorem flush_MTkn : True := by w_top off; first | walk1 | trivial
section
variable {w : World} {p : Program} {loose : List Str} {mean : ExcName → Option Value} {mg mb : Str → Option Value} {dp un : Nat} {gd : Option (List Code)} {cn : Str} {cs : Scope} {a : Addr} {ccd : Value} {cl : List (Str × Addr)} {outer : List Env} {A₀ : Around} {base h₀ : Heap} {L : Addr} {m : Str → Option Value} {s : Shared} {Q E : Value → Shared → Prop} {news : Led} {hd0 : List Tk} {e0 : Addr × Obj}
noncomputable def HdOk (pat : Str) (hd0 : List Tk) : Prop := pat.length ≤ 200 ∧ pat.cps.toList = (hd0 ++ [Tk.star, Tk.nsl, Tk.star]).flatMap Tk.txt ∧ seqOk true (hd0 ++ [Tk.star, Tk.nsl, Tk.star]) ∧ (∀ t ∈ hd0, t.Ok ∧ t.isStar = false) ∧ (∀ t ∈ hd0, t.bar = false) ∧ hd0.length ≤ 200
theorem tra_use {pat : Str} {t1 : Tok} {ps : Array Value} (hp : HdOk pat hd0)
    (B : Below A₀ base outer h₀) (F : Fr h₀ L s.heap m) (X : (Mine.heapK w.params).In h₀) (N : News h₀ L s.heap (e0 :: (153, tabObj ps) :: news)) (T : Top p loose mean mg mb h₀) (hk : cs.kind = .function) (hd : dp + 8 < recursionLimit) (hu : un + 100 < cLine) (htr : TripR ps.toList) (hne : e0.1 ≠ 153) (hgt : ∀ p ∈ news, p.1 ≠ 153)
    (h : ∀ t h' tk' ps', Fr h₀ L h' m → News h₀ L h' (e0 :: (153, tabObj ps') :: news) → TripR ps'.toList → Q (.str ⟨(fullTxt hd0).toArray⟩ t) { s with heap := h', toks := tk' }) :
    wpAny (model P0 w) (ktrTop dp un gd cn cs L a ccd cl outer) (call (.ref 139) [.str pat t1]) Q E s := by
  refine tra_core (news := e0 :: news) hp.1 hp.2.1 hp.2.2.1 (fun t ht => (hp.2.2.2.1 t ht).2) p loose mean mg mb dp un gd cn cs a ccd cl outer A₀ base h₀ L m s Q E ps B F X ?_ T hk hd hu htr ?_ ?_
  · intro p hp
    rcases List.mem_cons.mp hp with rfl | hp
    · exact N _ (.tail _ (.head _))
    · rcases List.mem_cons.mp hp with rfl | hp
      · exact N _ (.head _)
      · exact N _ (.tail _ (.tail _ hp))
  · intro p hp
    rcases List.mem_cons.mp hp with rfl | hp
    · exact hne
    · exact hgt p hp
  · rintro r tl h' tk' ps' F' N' ht' _ _ ⟨rfl, u, rfl⟩
    refine h u h' tk' ps' F' (fun p hp => N' p ?_) ht'
    simp only [List.mem_cons, List.nil_append] at hp ⊢
    rcases hp with h | h | h
    · exact .inr (.inl h)
    · exact .inl h
    · exact .inr (.inr h)
noncomputable def OffA (b : Addr) (news : Led) : Prop := ∀ (o : Obj), ∀ p ∈ ((153, o) :: news : Led), p.1 ≠ b
theorem read_use {o0 : Obj} {text : Str} {pat : Str} {t1 : Tok} (hp : HdOk pat hd0) (htext : text = ⟨(fullTxt hd0).toArray⟩)
    (B : Below A₀ base outer h₀) (F : Fr h₀ L s.heap m) (X : (Mine.heapK w.params).In h₀) (N : News h₀ L s.heap (e0 :: (153, o0) :: news)) (T : Top p loose mean mg mb h₀) (hk : cs.kind = .function) (hd : dp + 3 < recursionLimit) (hu : un + 60 < cLine) (hoff : OffA e0.1 news)
    (h : ∀ r0 n vs tl h' tk', Fr h₀ L h' m → News h₀ L h' (e0 :: (153, o0) :: (tl ++ news)) → OwnOff (tl ++ news) [e0.1] → (r0, listOf vs.toArray n) ∈ tl ++ news → StAll (tl ++ news) vs (allStp hd0) → 153 ≠ e0.1 → Q (.ref r0) { s with heap := h', toks := tk' }) :
    wpAny (model P0 w) (ktrTop dp un gd cn cs L a ccd cl outer) (call (.ref 179) [.str text t1]) Q E s := by
  refine Con.use (read_core htext hp.2.2.2.2.2 hp.2.2.2.1) B F X N T hk hd hu ?_
  rintro r tl h' tk' F' N' l1 ⟨r0, n, vs, rfl, hm, hs⟩
  refine h r0 n vs tl h' tk' F' (fun p hp => N' p ?_) ?_ (List.mem_append_left _ hm) (hs.mono fun p hp => List.mem_append_left _ hp) (hoff o0 _ (.head _))
  · simp only [List.mem_cons, List.mem_append] at hp ⊢
    rcases hp with h | h | h | h
    · exact .inr (.inl h)
    · exact .inr (.inr (.inl h))
    · exact .inl h
    · exact .inr (.inr (.inr h))
  · intro p hp b hb
    rw [List.mem_singleton.mp hb]
    rcases List.mem_append.mp hp with hp | hp
    · exact Ne.symm (Nat.ne_of_lt (l1 p hp e0 (.head _)))
    · exact hoff o0 p (.tail _ hp)
theorem ends_use {text : Str} {t1 up : Tok} {l pl : Addr} {n np : Nat} {vs : List Value} (htl : text.length ≤ 200) (hl : (l, listOf vs.toArray n) ∈ news) (hst : StAll news vs (allStp hd0)) (hpl : (pl, listOf [Value.int 0 up].toArray np) ∈ news)
    (B : Below A₀ base outer h₀) (F : Fr h₀ L s.heap m) (X : (Mine.heapK w.params).In h₀) (N : News h₀ L s.heap news) (T : Top p loose mean mg mb h₀) (hk : cs.kind = .function) (hroom : dp + 61 < recursionLimit) (hun : un + 2001 < cLine)
    (h : EndRes h₀ L m s news (runL text (allStp hd0) [0]) Q) :
    wpAny (model P0 w) (ktrTop dp un gd cn cs L a ccd cl outer) (call (.ref 191) [.ref l, .str text t1, .ref pl]) Q E s :=
  ends_core htl hl hst hpl all_le (fun i => all_in i) all_fine p loose mean mg mb dp un gd cn cs a ccd cl outer A₀ base h₀ L m s Q E B F X N T hk (by omega) (by omega) (fun many b sg _ => ⟨first_core htl, by omega, by omega⟩) h
end
local macro_rules | `(tactic| walk_at "call ref") => `(tactic| ((fail_if_success (with_reducible rename Mark9 => mz)); refine sb_out ?_))
local macro_rules | `(tactic| walk_at "CompSrcT") => `(tactic| (refine stop_out ?_))
noncomputable def takeV (hd0 : List Tk) : Value → Bool
  | .str x _ => takesB (hd0.map Tk.sg) x.cps.toList
  | _ => false
noncomputable def TkRes (h₀ : Heap) (L : Addr) (m : Str → Option Value) (s : Shared) (news : Led) (res : List Value) (Q : Value → Shared → Prop) : Prop :=
  ∀ D c h' tk' ps', Fr h₀ L h' m → News h₀ L h' ((153, tabObj ps') :: (D, listOf res.toArray c) :: news) → TripR ps'.toList → (∀ p ∈ news, p.1 ≠ D) → D ≠ 153 → Q (.ref D) { s with heap := h', toks := tk' }
theorem taken_core {w : World} {pat : Str} {t1 : Tok} {news : Led} {hd0 : List Tk} {wl : Addr} {wn : Nat} {ws : List Value} (hp : HdOk pat hd0) (hwl : (wl, listOf ws.toArray wn) ∈ news) (hws : ws.length ≤ 100) (htx : ∀ v ∈ ws, ∃ x t, v = .str x t ∧ x.length ≤ 200) :
    ∀ (p : Program) (loose : List Str) (mean : ExcName → Option Value) (mg mb : Str → Option Value) (dp un : Nat) (gd : Option (List Code)) (cn : Str) (cs : Scope) (a : Addr) (ccd : Value) (cl : List (Str × Addr)) (outer : List Env) (A₀ : Around) (base h₀ : Heap) (L : Addr) (m : Str → Option Value) (s : Shared) (Q E : Value → Shared → Prop) (ps : Array Value),
    Below A₀ base outer h₀ → Fr h₀ L s.heap m → (Mine.heapK w.params).In h₀ → News h₀ L s.heap ((153, tabObj ps) :: news) → Top p loose mean mg mb h₀ → cs.kind = .function → dp + 80 < recursionLimit → un + 3000 < cLine → TripR ps.toList → (∀ p ∈ news, p.1 ≠ 153) →
    TkRes h₀ L m s news (ws.filter (takeV hd0)) Q → wpAny (model P0 w) (ktrTop dp un gd cn cs L a ccd cl outer) (call (.ref 196) [.str pat t1, .ref wl]) Q E s := by
  delta P0
  k_fill
  intro p loose mean mg mb dp un gd cn cs a ccd cl outer A₀ base h₀ L m s Q E ps X F B N T hkd hroom hun htr hgt hret
  refine wpAny_call ?_
  k_dflt (refine' code_defC ?k1 ?k2 ?k3 ?k4 ?k5 ?kA ?kF ?kK ?k6 ?k7 ?k8 ?k9 ?kB ?kD ?_ ?c2 ?c3 ?c4; (case kA => exact rfl); (case kF => exact rfl); (case kK => assumption); (case k1 => k_asm); (case k2 => k_asm); (case k3 => k_asm); (case k4 => k_asm); (case k5 => k_asm); (case k6 => k_is); (case k7 => k_is); (case k8 => ktr_room); (case k9 => exact BindsTo.of_eq rfl); (case kB => exact rfl); (case kD => decide +kernel); (case c2 => exact rfl); (case c3 => exact rfl); (case c4 => exact rfl); k_whole; intro g2 L2 hA tkA cells FG F2 N2 Y2 B2 X2 T2 l1; (try k_lt l1); k_cells Y2; (try simp only [List.cons_append, List.nil_append] at N2); (try dsimp only); (try k_fold))
  have n153 : L2 + 1 ≠ 153 := Nat.ne_of_gt (Nat.lt_succ_of_lt l1.1)
  have hoffA : OffA (L2 + 1) news := by
    intro o p hp
    rcases List.mem_cons.mp hp with rfl | hp
    · exact Nat.ne_of_lt (Nat.lt_succ_of_lt l1.1)
    · exact Nat.ne_of_lt (Nat.lt_succ_of_lt (ltAll l1.2 p hp))
  (repeat' (first | ((with_reducible refine sb_in ?_); (first | ((with_reducible show wpAny _ _ (call _ _ _) _ _ _); first | (k_here; (with_reducible show wpAny _ _ (call (Value.ref 191) _) _ _ _); k_dflt (refine' ends_use ?k1 ?k2 ?k3 ?k4 ?B ?F ?X ?N ?T ?kd ?d ?u ?_; (case N => k_asm); (case k1 => assumption); (case k2 => (repeat (first | assumption | refine List.Mem.tail _ ?_))); (case k3 => (refine StAll.mono ?_ (by assumption); intro p hp; (repeat (first | assumption | refine List.Mem.tail _ ?_)))); (case k4 => k_mem); (case B => k_asm); (case F => k_asm); (case X => k_asm); (case T => k_asm); (case kd => exact rfl); (case d => ktr_room); (case u => ktr_units); k_whole); (intro pl' ks' n' h' tk' F' N' i'); (try k_sweep)) | (k_here; (with_reducible show wpAny _ _ (call (Value.ref 179) _) _ _ _); k_dflt (refine read_use (by assumption) (by exact rfl) (by k_asm) (by k_asm) (by k_asm) (by k_asm) (by k_asm) (by exact rfl) (by ktr_room) (by ktr_units) (by assumption) ?_; k_whole); intro r0 rn vs0 tl hh tkr F' N' hoff3 hr0 hs' ne3'; (try k_sweep)) | (k_here; (with_reducible show wpAny _ _ (call (Value.ref 139) _) _ _ _); k_dflt (refine tra_use (by assumption) (by k_asm) (by k_asm) (by k_asm) (by k_asm) (by k_asm) (by exact rfl) (by ktr_room) (by ktr_units) (by assumption) (by assumption) (by assumption) ?_; k_whole); intro t' h' tk' ps' F' N' ht'; (try k_sweep))) | ((have mk9 : Mark9 := .mk); walk1; all_goals (try clear mk9)))) | (k_unfold; (try dsimp only)) | (k_end; kc_close) | walk1 | (dsimp only; walk1) | (leave1; walk_say "STEP leave1"; (try dsimp only)) | fail "no step"))
  (rename Fr _ _ _ _ => F3)
  (rename News _ _ _ _ => N3)
  (rename StAll _ _ _ => sA)
  rename_i hmm oC0 dC0
  refine stop_in (SrcT.filter (p := takeV hd0) rfl F3 N3 (vs := ws) (n := wn) ?_ ?_ rfl rfl rfl ?_ ?_)
  · exact .tail _ (.tail _ (List.mem_append_right _ hwl))
  · rw [sizeLine_eq]
    omega
  · rintro g i v I oI C oC D m₂ h tk ys E' hv hC hx F4 N4 off ne
    obtain ⟨x, t, rfl, hxl⟩ := htx v (List.mem_of_getElem? hv)
    (repeat' (first | ((with_reducible refine sb_in ?_); (first | ((with_reducible show wpAny _ _ (call _ _ _) _ _ _); first | (k_here; (with_reducible show wpAny _ _ (call (Value.ref 191) _) _ _ _); k_dflt (refine' ends_use ?k1 ?k2 ?k3 ?k4 ?B ?F ?X ?N ?T ?kd ?d ?u ?_; (case N => k_asm); (case k1 => assumption); (case k2 => (repeat (first | assumption | refine List.Mem.tail _ ?_))); (case k3 => (refine StAll.mono ?_ (by assumption); intro p hp; (repeat (first | assumption | refine List.Mem.tail _ ?_)))); (case k4 => k_mem); (case B => k_asm); (case F => k_asm); (case X => k_asm); (case T => k_asm); (case kd => exact rfl); (case d => ktr_room); (case u => ktr_units); k_whole); (intro pl' ks' n' h' tk' F' N' i'); (try k_sweep)) | (k_here; (with_reducible show wpAny _ _ (call (Value.ref 179) _) _ _ _); k_dflt (refine read_use (by assumption) (by exact rfl) (by k_asm) (by k_asm) (by k_asm) (by k_asm) (by k_asm) (by exact rfl) (by ktr_room) (by ktr_units) (by assumption) ?_; k_whole); intro r0 rn vs0 tl hh tkr F' N' hoff3 hr0 hs' ne3'; (try k_sweep)) | (k_here; (with_reducible show wpAny _ _ (call (Value.ref 139) _) _ _ _); k_dflt (refine tra_use (by assumption) (by k_asm) (by k_asm) (by k_asm) (by k_asm) (by k_asm) (by exact rfl) (by ktr_room) (by ktr_units) (by assumption) (by assumption) (by assumption) ?_; k_whole); intro t' h' tk' ps' F' N' ht'; (try k_sweep))) | ((have mk9 : Mark9 := .mk); walk1; all_goals (try clear mk9)))) | (k_unfold; (try dsimp only)) | (k_end; kc_close) | walk1 | (dsimp only; walk1) | (leave1; walk_say "STEP leave1"; (try dsimp only)) | fail "no step"))
    (rename Fr _ _ _ _ => F9)
    (rename News _ _ _ _ => N9)
    refine TurnEndZ.intro F9 N9 (fun p hp => .tail _ (.tail _ hp)) ?_
    exact run_all hp.2.2.2.2.1
  · intro g
    (repeat' (first | ((with_reducible refine sb_in ?_); (first | ((with_reducible show wpAny _ _ (call _ _ _) _ _ _); first | (k_here; (with_reducible show wpAny _ _ (call (Value.ref 191) _) _ _ _); k_dflt (refine' ends_use ?k1 ?k2 ?k3 ?k4 ?B ?F ?X ?N ?T ?kd ?d ?u ?_; (case N => k_asm); (case k1 => assumption); (case k2 => (repeat (first | assumption | refine List.Mem.tail _ ?_))); (case k3 => (refine StAll.mono ?_ (by assumption); intro p hp; (repeat (first | assumption | refine List.Mem.tail _ ?_)))); (case k4 => k_mem); (case B => k_asm); (case F => k_asm); (case X => k_asm); (case T => k_asm); (case kd => exact rfl); (case d => ktr_room); (case u => ktr_units); k_whole); (intro pl' ks' n' h' tk' F' N' i'); (try k_sweep)) | (k_here; (with_reducible show wpAny _ _ (call (Value.ref 179) _) _ _ _); k_dflt (refine read_use (by assumption) (by exact rfl) (by k_asm) (by k_asm) (by k_asm) (by k_asm) (by k_asm) (by exact rfl) (by ktr_room) (by ktr_units) (by assumption) ?_; k_whole); intro r0 rn vs0 tl hh tkr F' N' hoff3 hr0 hs' ne3'; (try k_sweep)) | (k_here; (with_reducible show wpAny _ _ (call (Value.ref 139) _) _ _ _); k_dflt (refine tra_use (by assumption) (by k_asm) (by k_asm) (by k_asm) (by k_asm) (by k_asm) (by exact rfl) (by ktr_room) (by ktr_units) (by assumption) (by assumption) (by assumption) ?_; k_whole); intro t' h' tk' ps' F' N' ht'; (try k_sweep))) | ((have mk9 : Mark9 := .mk); walk1; all_goals (try clear mk9)))) | (k_unfold; (try dsimp only)) | (k_end; kc_close) | walk1 | (dsimp only; walk1) | (leave1; walk_say "STEP leave1"; (try dsimp only)) | fail "no step"))
    (rename Fr h₀ _ _ _ => kF)
    (rename News h₀ _ _ _ => kN)
    (rename (_ ∧ _ ∧ LCg.Off1 _ _) => o9)
    (rename TripR _ => kt)
    refine hret _ (ws.filter (takeV hd0)).length _ _ _ kF (fun p hp => kN p ?_) kt (fun p hp => off1_mem o9.2.2 p (List.mem_append_right _ hp)) (Ne.symm o9.2.1)
    simp only [List.mem_cons, List.mem_append] at hp ⊢
    rcases hp with h | h | h
    · exact .inr (.inr (.inl h))
    · exact .inl h
    · exact .inr (.inr (.inr (.inr h)))
end Mine
end

section -- MQ
open PySem PySem.W PyProof.Rows PySem.Calls
set_option Elab.async false
set_option maxRecDepth 100000
set_option maxHeartbeats 8000000
namespace Mine
theorem flush_MQ : True := by w_top off; first | walk1 | trivial
noncomputable abbrev arQ (dp un : Nat) (fr : Option (List Env)) (gd : Option (List Code)) : Around := { handled := none, depth := dp, frames := fr, guards := gd, units := un }
/-- a contract of a def whatever the frames around it; nothing that stood before changes -/
noncomputable def ConQ (w : World) (f : Addr) (vs : List Value) (d u : Nat) (Res : Value → Heap → Prop) : Prop :=
  ∀ (p : Program) (loose : List Str) (mean : ExcName → Option Value) (mg mb : Str → Option Value) (dp un : Nat) (fr : Option (List Env)) (gd : Option (List Code)) (s : Shared) (Q E : Value → Shared → Prop),
    dp + d < recursionLimit → un + u < cLine → (Mine.heapK w.params).In s.heap → Top p loose mean mg mb s.heap →
    (∀ r h' tk', (∀ b o, s.heap.get? b = some o → h'.get? b = some o) → Res r h' → Q r { s with heap := h', toks := tk' }) →
    wpAny (model P0 w) (arQ dp un fr gd) (call (.ref f) vs) Q E s
theorem ConQ.use {w : World} {f : Addr} {vs : List Value} {d u : Nat} {Res : Value → Heap → Prop} {p : Program} {loose : List Str} {mean : ExcName → Option Value} {mg mb : Str → Option Value} {A : Around} {h₀ : Heap} {L : Addr} {m : Str → Option Value} {news : Led} {s : Shared} {Q E : Value → Shared → Prop}
    (C : ConQ w f vs d u Res) (F : Fr h₀ L s.heap m) (X : (Mine.heapK w.params).In h₀) (N : News h₀ L s.heap news) (T : Top p loose mean mg mb h₀) (hh : A.handled = none) (hd : A.depth + d < recursionLimit) (hu : A.units + u < cLine)
    (h : ∀ r h' tk', Fr h₀ L h' m → News h₀ L h' news → Res r h' → Q r { s with heap := h', toks := tk' }) : wpAny (model P0 w) A (call (.ref f) vs) Q E s :=
by
  obtain ⟨ah, ad, af, ag, au⟩ := A
  obtain rfl : ah = none := hh
  exact C p loose mean mg mb ad au af ag s Q E hd hu (X.keeps F.keep) (T.keeps F.keep) fun r h' tk' hk hr => h r h' tk' (F.keeps hk) (N.grown hk) hr
noncomputable def LeaveQ (g0 g : Heap) (R : Result → Shared → Prop) (v : Value) (s' : Shared) : Prop := ∃ L' m', Fr g L' s'.heap m' ∧ ((∀ b o, g0.get? b = some o → s'.heap.get? b = some o) → R (.ok (.ret v)) s')
theorem leaveQ_ {g0 g : Heap} {R : Result → Shared → Prop} {v : Value} {s' : Shared} {L' : Addr} {m' : Str → Option Value} (F : Fr g L' s'.heap m') (h : (∀ b o, g0.get? b = some o → s'.heap.get? b = some o) → R (.ok (.ret v)) s') : LeaveQ g0 g R v s' := ⟨L', m', F, h⟩
theorem code_defQ {w : World} {A : Around} {s : Shared} {K : Frag} {p : Program} {loose : List Str} {mean : ExcName → Option Value} {mg mb : Str → Option Value} {prog : Program} {R : Result → Shared → Prop} {name qual : Str} {params : Arguments} {body : List Stmt} {scope : Scope} {dV kV doc pm cdv ct oc : Value} {an od : Option Addr} {osl : Array (Option Value)} {f : Addr} {args : Args} {binds : List (Str × Value)}
    (X₀ : K.In s.heap) (T : Top p loose mean mg mb s.heap)
    (ho : K.lookup f = some ⟨oc, od, .func (fnOf name qual params body scope dV kV doc pm an cdv ct), osl⟩) (hcd : codeIn K cdv qual = true) (hroom : A.depth < recursionLimit)
    (hbind : BindsTo s (fnOf name qual params body scope dV kV doc pm an cdv ct) args binds) (hloc : ∀ y ∈ binds, scope.names.lookup y.1 = some .local)
    (h : ∀ g L' h₁, Fr g L' h₁ (fun y => binds.reverse.lookup y) → News g L' h₁ [] → K.In g → Top p loose mean mg mb g →
      wpAny (model prog w) (A.deeper (envOf qual scope L' f cdv)) (execs body (envOf qual scope L' f cdv))
        (fun fl s' => LeaveQ s.heap g R (match fl with | .ret v => v | _ => .none) s')
        (fun e s' => wpAny (model prog w) (A.deeper (envOf qual scope L' f cdv)) (leaving (envOf qual scope L' f cdv) e) (fun _ s'' => R (.error e) s'') (fun e' s'' => R (.error e') s'') s')
        { s with heap := h₁, toks := s.toks + binds.length })
    (hco : scope.isCoroutine = false) (hgen : scope.isGenerator = false) (hk : scope.kind = .function)
    (hcell : ∀ x ∈ scope.names, x.2 ≠ .cell) : codeAny (model prog w) A (.call (.ref f) args) R s := by
  refine codeAny_call_def (fd := fnOf name qual params body scope dV kV doc pm an cdv ct) (body := body) (binds := binds) hroom (X₀ _ _ ho) rfl T.nolimit (codeRec_of X₀ hcd) rfl hbind hcell hloc (fun h₁ hns hk₁ => ?_) hco hgen hk
  refine wpAny_mono (h s.heap s.heap.objs.size h₁ ⟨hns, hk₁, Nat.le_refl _⟩ News.nil X₀ T) (fun fl s' hl => ?_) fun _ _ y => y
  obtain ⟨L', m', F', k⟩ := hl
  exact k F'.keep
local macro_rules | `(tactic| walk_at "LeaveQ") => `(tactic| (k_here; refine stop_out ?_))
theorem kind_core {w : World} {nm : Str} {x : Str} {t1 t2 : Tok} : ConQ w 106 [.str nm t1, .str x t2] 2 40 (fun r _ => ∃ u, r = .str (Str.ofString "") u) := by
  delta ConQ P0
  k_fill
  intro p loose mean mg mb dp un fr gd s Q E hroom hun X T hret
  refine wpAny_call ?_
  k_dflt (refine' code_defQ ?k1 ?k2 ?k6 ?k7 ?k8 ?k9 ?kB ?_ ?c2 ?c3 ?c4 ?c5; (case k1 => k_asm); (case k2 => k_asm); (case k6 => k_is); (case k7 => k_is); (case k8 => ktr_room); (case k9 => exact BindsTo.of_eq rfl); (case c5 => decide); (case kB => exact locs rfl); (case c2 => exact rfl); (case c3 => exact rfl); (case c4 => exact rfl); k_whole; intro g' L' h' F' N' X' T'; (try dsimp only); (try k_fold))
  (repeat' (first | ((with_reducible refine sb_in ?_); (first | ((with_reducible show wpAny _ _ (call _ _ _) _ _ _); first | (k_here; (with_reducible show wpAny _ _ (call (Value.ref 113) _) _ _ _); k_dflt (refine fspath_use (by k_asm) (by k_asm) (by k_asm) (by k_asm) (by exact rfl) (by ktr_room) (by ktr_units) ?_; k_whole); intro u' h' tk' F' N'; (try k_sweep)) | (k_here; (with_reducible show wpAny _ _ (call (Value.ref 106) _) _ _ _); k_dflt (refine kind_use (by k_asm) (by k_asm) (by k_asm) (by k_asm) (by exact rfl) (by ktr_room) (by ktr_units) ?_; k_whole); intro u' h' tk' F' N'; (try k_sweep))) | ((have mk9 : Mark9 := .mk); walk1; all_goals (try clear mk9)))) | (k_unfold; (try dsimp only)) | (k_end; kc_close) | walk1 | (dsimp only; walk1) | (leave1; walk_say "STEP leave1"; (try dsimp only)) | fail "no step"))
  (rename Fr _ _ _ _ => F9)
  exact stop_in (leaveQ_ F9 fun hk => hret _ _ _ hk ⟨_, rfl⟩)
theorem kind_use {w : World} {nm x : Str} {t1 t2 : Tok} {p : Program} {loose : List Str} {mean : ExcName → Option Value} {mg mb : Str → Option Value} {A : Around} {h₀ : Heap} {L : Addr} {m : Str → Option Value} {news : Led} {s : Shared} {Q E : Value → Shared → Prop}
    (F : Fr h₀ L s.heap m) (X : (Mine.heapK w.params).In h₀) (N : News h₀ L s.heap news) (T : Top p loose mean mg mb h₀) (hh : A.handled = none) (hd : A.depth + 2 < recursionLimit) (hu : A.units + 40 < cLine)
    (h : ∀ u h' tk', Fr h₀ L h' m → News h₀ L h' news → Q (.str (Str.ofString "") u) { s with heap := h', toks := tk' }) : wpAny (model P0 w) A (call (.ref 106) [.str nm t1, .str x t2]) Q E s :=
  kind_core.use F X N T hh hd hu fun r h' tk' F' N' ⟨u, e⟩ => e ▸ h u h' tk' F' N'
local macro_rules | `(tactic| walk_at "call ref") => `(tactic| ((fail_if_success (with_reducible rename Mark9 => mz)); refine sb_out ?_))
theorem fspath_core {w : World} {nm : Str} {x : Str} {t1 t2 : Tok} : ConQ w 113 [.str nm t1, .str x t2] 4 80 (fun r _ => ∃ u, r = .str x u) := by
  delta ConQ P0
  k_fill
  intro p loose mean mg mb dp un fr gd s Q E hroom hun X T hret
  refine wpAny_call ?_
  k_dflt (refine' code_defQ ?k1 ?k2 ?k6 ?k7 ?k8 ?k9 ?kB ?_ ?c2 ?c3 ?c4 ?c5; (case k1 => k_asm); (case k2 => k_asm); (case k6 => k_is); (case k7 => k_is); (case k8 => ktr_room); (case k9 => exact BindsTo.of_eq rfl); (case c5 => decide); (case kB => exact locs rfl); (case c2 => exact rfl); (case c3 => exact rfl); (case c4 => exact rfl); k_whole; intro g' L' h' F' N' X' T'; (try dsimp only); (try k_fold))
  (repeat' (first | ((with_reducible refine sb_in ?_); (first | ((with_reducible show wpAny _ _ (call _ _ _) _ _ _); first | (k_here; (with_reducible show wpAny _ _ (call (Value.ref 113) _) _ _ _); k_dflt (refine fspath_use (by k_asm) (by k_asm) (by k_asm) (by k_asm) (by exact rfl) (by ktr_room) (by ktr_units) ?_; k_whole); intro u' h' tk' F' N'; (try k_sweep)) | (k_here; (with_reducible show wpAny _ _ (call (Value.ref 106) _) _ _ _); k_dflt (refine kind_use (by k_asm) (by k_asm) (by k_asm) (by k_asm) (by exact rfl) (by ktr_room) (by ktr_units) ?_; k_whole); intro u' h' tk' F' N'; (try k_sweep))) | ((have mk9 : Mark9 := .mk); walk1; all_goals (try clear mk9)))) | (k_unfold; (try dsimp only)) | (k_end; kc_close) | walk1 | (dsimp only; walk1) | (leave1; walk_say "STEP leave1"; (try dsimp only)) | fail "no step"))
  (rename Fr _ _ _ _ => F9)
  exact stop_in (leaveQ_ F9 fun hk => hret _ _ _ hk ⟨_, rfl⟩)
theorem fspath_use {w : World} {nm x : Str} {t1 t2 : Tok} {p : Program} {loose : List Str} {mean : ExcName → Option Value} {mg mb : Str → Option Value} {A : Around} {h₀ : Heap} {L : Addr} {m : Str → Option Value} {news : Led} {s : Shared} {Q E : Value → Shared → Prop}
    (F : Fr h₀ L s.heap m) (X : (Mine.heapK w.params).In h₀) (N : News h₀ L s.heap news) (T : Top p loose mean mg mb h₀) (hh : A.handled = none) (hd : A.depth + 4 < recursionLimit) (hu : A.units + 80 < cLine)
    (h : ∀ u h' tk', Fr h₀ L h' m → News h₀ L h' news → Q (.str x u) { s with heap := h', toks := tk' }) : wpAny (model P0 w) A (call (.ref 113) [.str nm t1, .str x t2]) Q E s :=
  fspath_core.use F X N T hh hd hu fun r h' tk' F' N' ⟨u, e⟩ => e ▸ h u h' tk' F' N'
noncomputable def splitHead (x : Str) : Str :=
  if ((Txt.slice x none (some (Txt.rfind x (Str.ofString "/") + 1))).length : Int) = 0 then Txt.slice x none (some (Txt.rfind x (Str.ofString "/") + 1))
  else if (Txt.slice x none (some (Txt.rfind x (Str.ofString "/") + 1)) != Txt.mul (Str.ofString "/") ((Txt.slice x none (some (Txt.rfind x (Str.ofString "/") + 1))).length : Int)) = true then Txt.rstripChars (Txt.slice x none (some (Txt.rfind x (Str.ofString "/") + 1))) (Str.ofString "/")
  else Txt.slice x none (some (Txt.rfind x (Str.ofString "/") + 1))
theorem tup_res {h₀ h : Heap} {L D : Addr} {x y z : Str} {u1 u2 : Tok} {n : Nat} {rest : Led} (N : News h₀ L h ((D, { cls := .type "tuple", data := .seq #[.str y u1, .str z u2] n }) :: rest)) (e : splitHead x = y) :
    ∃ D' v1 z' v2, Value.ref D = .ref D' ∧ IsTup h D' #[.str (splitHead x) v1, .str z' v2] := ⟨D, u1, z, u2, rfl, by rw [e]; exact News.isTup N (.head _)⟩
theorem split_core {w : World} {x : Str} {t1 : Tok} (hlen : x.length ≤ 100) : ConQ w 120 [.str x t1] 6 120 (fun r h => ∃ D u1 z u2, r = .ref D ∧ IsTup h D #[.str (splitHead x) u1, .str z u2]) := by
  delta ConQ P0
  k_fill
  intro p loose mean mg mb dp un fr gd s Q E hroom hun X T hret
  refine wpAny_call ?_
  k_dflt (refine' code_defQ ?k1 ?k2 ?k6 ?k7 ?k8 ?k9 ?kB ?_ ?c2 ?c3 ?c4 ?c5; (case k1 => k_asm); (case k2 => k_asm); (case k6 => k_is); (case k7 => k_is); (case k8 => ktr_room); (case k9 => exact BindsTo.of_eq rfl); (case c5 => decide); (case kB => exact locs rfl); (case c2 => exact rfl); (case c3 => exact rfl); (case c4 => exact rfl); k_whole; intro g' L' h' F' N' X' T'; (try dsimp only); (try k_fold))
  (repeat' (first | ((with_reducible refine sb_in ?_); (first | ((with_reducible show wpAny _ _ (call _ _ _) _ _ _); first | (k_here; (with_reducible show wpAny _ _ (call (Value.ref 113) _) _ _ _); k_dflt (refine fspath_use (by k_asm) (by k_asm) (by k_asm) (by k_asm) (by exact rfl) (by ktr_room) (by ktr_units) ?_; k_whole); intro u' h' tk' F' N'; (try k_sweep)) | (k_here; (with_reducible show wpAny _ _ (call (Value.ref 106) _) _ _ _); k_dflt (refine kind_use (by k_asm) (by k_asm) (by k_asm) (by k_asm) (by exact rfl) (by ktr_room) (by ktr_units) ?_; k_whole); intro u' h' tk' F' N'; (try k_sweep))) | ((have mk9 : Mark9 := .mk); walk1; all_goals (try clear mk9)))) | (k_unfold; (try dsimp only)) | (k_end; kc_close) | walk1 | (dsimp only; walk1) | (leave1; walk_say "STEP leave1"; (try dsimp only)) | fail "no step"))
  · (rename (_ = true) => a9)
    (rename (_ ≠ (0 : Int)) => a8)
    (rename Fr _ _ _ _ => F9)
    (rename News _ _ _ _ => N9)
    have e : splitHead x = Txt.rstripChars (Txt.slice x none (some (Txt.rfind x (Str.ofString "/") + 1))) (Str.ofString "/") := by
      unfold splitHead
      rw [if_neg a8, if_pos a9]
    exact stop_in (leaveQ_ F9 fun hk => hret _ _ _ hk (tup_res N9 e))
  · (rename (_ = false) => a9)
    (rename (_ ≠ (0 : Int)) => a8)
    (rename Fr _ _ _ _ => F9)
    (rename News _ _ _ _ => N9)
    have e : splitHead x = Txt.slice x none (some (Txt.rfind x (Str.ofString "/") + 1)) := by
      unfold splitHead
      rw [if_neg a8, if_neg (by rw [a9]; simp)]
    exact stop_in (leaveQ_ F9 fun hk => hret _ _ _ hk (tup_res N9 e))
  · (rename (_ = (0 : Int)) => a8)
    (rename Fr _ _ _ _ => F9)
    (rename News _ _ _ _ => N9)
    have e : splitHead x = Txt.slice x none (some (Txt.rfind x (Str.ofString "/") + 1)) := by
      unfold splitHead
      rw [if_pos a8]
    exact stop_in (leaveQ_ F9 fun hk => hret _ _ _ hk (tup_res N9 e))
end Mine
end

section -- MGen
open PySem PySem.W PyProof.Rows PySem.Calls
set_option Elab.async false
set_option maxRecDepth 100000
set_option maxHeartbeats 8000000
namespace Mine
noncomputable def KeptZ (Lg : Addr) (s s' : Shared) : Prop := (∃ h tk, s' = { s with heap := h, toks := tk }) ∧ ∀ b o, b ≠ Lg → s.heap.get? b = some o → s'.heap.get? b = some o
theorem KeptZ.refl {Lg : Addr} {s : Shared} : KeptZ Lg s s := ⟨⟨s.heap, s.toks, rfl⟩, fun _ _ _ e => e⟩
theorem KeptZ.trans {Lg : Addr} {s s' s'' : Shared} (x : KeptZ Lg s s') (y : KeptZ Lg s' s'') : KeptZ Lg s s'' := by
  obtain ⟨⟨h, tk, rfl⟩, k⟩ := x
  obtain ⟨⟨h', tk', rfl⟩, k'⟩ := y
  exact ⟨⟨h', tk', rfl⟩, fun b o hb e => k' b o hb (k b o hb e)⟩
noncomputable def GenFr (hG : Heap) (Lg : Addr) (x : Str) (h : Heap) : Prop := ∃ t m, Fr hG Lg h m ∧ m (Str.ofString "path") = some (.str x t) ∧ x.length ≤ 100
noncomputable def ancY (hG : Heap) (Lg : Addr) (val : Nat → Str) : Protocol := fun n s₀ v s' kap => ∃ u, v = .str (val n) u ∧ KeptZ Lg s₀ s' ∧ GenFr hG Lg (val n) s'.heap ∧ ∀ s'', GenFr hG Lg (val n) s''.heap → kap (.send .none) s''
noncomputable def ancP (Lg : Addr) : Nat → Shared → Shared → Prop := fun n s₀ s₁ => n = 0 ∧ KeptZ Lg s₀ s₁
noncomputable def ancR (Lg : Addr) : GenEnd := fun n s₀ r s₁ => r = .ok (.ret .none) ∧ ancP Lg n s₀ s₁
/-- n yields are left where the loop stands at x -/
inductive Left (tst : Str → Bool) (nxt : Str → Str) (val : Nat → Str) : Nat → Str → Prop
  | done {x : Str} : tst x = false → Left tst nxt val 0 x
  | turn {n : Nat} {x : Str} : tst x = true → val n = x → Left tst nxt val n (nxt x) → Left tst nxt val (n + 1) x
section
variable {prog : Program} {w : World} {A : Around} {env : Env} {test e : Expr} {st : Stmt} {pw py pe : Pos} {hG : Heap} {Lg : Addr} {val : Nat → Str} {tst : Str → Bool} {nxt : Str → Str}
noncomputable abbrev ancBody (e : Expr) (st : Stmt) (py pe : Pos) : List Stmt := [.Expr (.Yield (some e) py) pe, st]
noncomputable abbrev ancLoop (test e : Expr) (st : Stmt) (py pe : Pos) (env : Env) : Code := .whileLoop test (ancBody e st py pe) [] env
theorem anc_loop {c : Code} {kk : Result → Sem Fin} {l : List Value} {p : Pos} (hco : env.scope.isCoroutine = false) (hi : interactive env = false)
    (hkk : kk (.ok .next) = .pure (.done (.ret .none)))
    (hT : ∀ x s (E' : Value → Shared → Prop), GenFr hG Lg x s.heap → wpAny (model prog w) (A.over (ancLoop test e st py pe env) [.ret kk none false l c p []]) (isTrue test env (eval test env)) (fun b s' => b = tst x ∧ KeptZ Lg s s' ∧ GenFr hG Lg x s'.heap) E' s)
    (hE : ∀ x s (E' : Value → Shared → Prop), GenFr hG Lg x s.heap → wpAny (model prog w) (A.over (ancLoop test e st py pe env) [.ret kk none false l c p []]) (eval e env) (fun v s' => (∃ u, v = .str x u) ∧ KeptZ Lg s s' ∧ GenFr hG Lg x s'.heap) E' s)
    (hS : ∀ x s (E' : Value → Shared → Prop), GenFr hG Lg x s.heap → tst x = true → wpAny (model prog w) (A.over (ancLoop test e st py pe env) [.ret kk none false l c p []]) (exec st env) (fun f s' => f = .next ∧ KeptZ Lg s s' ∧ GenFr hG Lg (nxt x) s'.heap) E' s) :
    ∀ {n : Nat} {x : Str} {s₀ s : Shared}, Left tst nxt val n x → KeptZ Lg s₀ s → GenFr hG Lg x s.heap →
      Seg (model prog w) A (ancR Lg) (ancY hG Lg val) n s₀ (ancLoop test e st py pe env) ((model prog w).den (ancLoop test e st py pe env)) [.ret kk none false l c p []] s := by
  intro n x s₀ s hl
  induction hl generalizing s₀ s with
  | done ht =>
    intro hk hg
    refine seg_whileLoop (wpAny_mono (hT _ s _ hg) (fun b s' hb => ?_) fun _ _ z => z)
    obtain ⟨rfl, hk', hg'⟩ := hb
    rw [ht, if_neg Bool.false_ne_true]
    refine seg_execs_nil ?_
    refine seg_leaf (.ok .next) ?_
    rw [hkk]
    exact seg_end (.ok (.ret .none)) ⟨rfl, rfl, hk.trans hk'⟩
  | @turn n x ht hv _ ih =>
    intro hk hg
    refine seg_whileLoop (wpAny_mono (hT _ s _ hg) (fun b s' hb => ?_) fun _ _ z => z)
    obtain ⟨rfl, hk', hg'⟩ := hb
    rw [ht, if_pos rfl]
    refine seg_execs_cons (seg_Expr_Yield rfl rfl rfl (wpAny_mono (hE _ s' _ hg') (fun v s₂ hv2 => ?_) fun _ _ z => z) hco hi)
    obtain ⟨⟨u, rfl⟩, hk2, hg2⟩ := hv2
    intro kap hkap
    refine ⟨u, by rw [hv], (hk.trans hk').trans hk2, by rw [hv]; exact hg2, fun s₃ hg3 => hkap .none s₃ ?_⟩
    rw [hv] at hg3
    show Seg _ A _ _ n s₃ _ _ _ s₃
    refine seg_execs_cons (seg_wrap (wpAny_mono (hS _ s₃ _ hg3 ht) (fun f s₄ hf => ?_) fun _ _ z => z))
    obtain ⟨rfl, hk4, hg4⟩ := hf
    refine seg_execs_nil ?_
    exact seg_again rfl (ih hk4 hg4)
theorem anc_func {st0 : Stmt} {rst : Str → Str} (hco : env.scope.isCoroutine = false) (hi : interactive env = false)
    (h0 : ∀ x s (E' : Value → Shared → Prop), GenFr hG Lg x s.heap → wpAny (model prog w) (A.over (.func [st0, .While test (ancBody e st py pe) [] pw] env) []) (exec st0 env) (fun f s' => f = .next ∧ KeptZ Lg s s' ∧ GenFr hG Lg (rst x) s'.heap) E' s)
    (hT : ∀ kk l p x s (E' : Value → Shared → Prop), GenFr hG Lg x s.heap → wpAny (model prog w) (A.over (ancLoop test e st py pe env) [.ret kk none false l (.func [st0, .While test (ancBody e st py pe) [] pw] env) p []]) (isTrue test env (eval test env)) (fun b s' => b = tst x ∧ KeptZ Lg s s' ∧ GenFr hG Lg x s'.heap) E' s)
    (hE : ∀ kk l p x s (E' : Value → Shared → Prop), GenFr hG Lg x s.heap → wpAny (model prog w) (A.over (ancLoop test e st py pe env) [.ret kk none false l (.func [st0, .While test (ancBody e st py pe) [] pw] env) p []]) (eval e env) (fun v s' => (∃ u, v = .str x u) ∧ KeptZ Lg s s' ∧ GenFr hG Lg x s'.heap) E' s)
    (hS : ∀ kk l p x s (E' : Value → Shared → Prop), GenFr hG Lg x s.heap → tst x = true → wpAny (model prog w) (A.over (ancLoop test e st py pe env) [.ret kk none false l (.func [st0, .While test (ancBody e st py pe) [] pw] env) p []]) (exec st env) (fun f s' => f = .next ∧ KeptZ Lg s s' ∧ GenFr hG Lg (nxt x) s'.heap) E' s)
    {n : Nat} {x : Str} {s : Shared} (hl : Left tst nxt val n (rst x)) (hg : GenFr hG Lg x s.heap) :
    Seg (model prog w) A (ancR Lg) (ancY hG Lg val) n s (.func [st0, .While test (ancBody e st py pe) [] pw] env) ((model prog w).den (.func [st0, .While test (ancBody e st py pe) [] pw] env)) [] s := by
  refine seg_func ?_
  refine seg_execs_cons (seg_wrap (wpAny_mono (h0 _ s _ hg) (fun f s' hf => ?_) fun _ _ z => z))
  obtain ⟨rfl, hk, hg'⟩ := hf
  refine seg_execs_cons (seg_While fun p => ?_)
  exact anc_loop hco hi rfl (hT _ _ _) (hE _ _ _) (hS _ _ _) hl hk hg'
end
end Mine
end

section -- MGn2
open PySem PySem.W PyProof.Rows PySem.Calls
set_option Elab.async false
set_option maxRecDepth 100000
set_option maxHeartbeats 8000000
namespace Mine
theorem flush_MGn2 : True := by w_top off; first | walk1 | trivial
noncomputable abbrev genObj (g : Nat) (nm qn : Value) : Obj := { cls := .type "generator", data := .fields #[.int g 0, nm, qn] }
theorem code_gen {w : World} {A : Around} {s : Shared} {K : Frag} {p : Program} {loose : List Str} {mean : ExcName → Option Value} {mg mb : Str → Option Value} {prog : Program} {R : Result → Shared → Prop} {name qual : Str} {params : Arguments} {body : List Stmt} {scope : Scope} {dV kV doc pm cdv ct oc : Value} {an od : Option Addr} {osl : Array (Option Value)} {f : Addr} {args : Args} {binds : List (Str × Value)}
    (X₀ : K.In s.heap) (T : Top p loose mean mg mb s.heap)
    (ho : K.lookup f = some ⟨oc, od, .func (fnOf name qual params body scope dV kV doc pm an cdv ct), osl⟩) (hcd : codeIn K cdv qual = true) (hroom : A.depth < recursionLimit)
    (hbind : BindsTo s (fnOf name qual params body scope dV kV doc pm an cdv ct) args binds) (hloc : ∀ y ∈ binds, scope.names.lookup y.1 = some .local)
    (h : ∀ (h₁ : Heap) (tk : Nat) (nm qn : Value), h₁.Ns s.heap.objs.size (fun y => binds.reverse.lookup y) → (∀ b o, s.heap.get? b = some o → h₁.get? b = some o) → h₁.objs.size = s.heap.objs.size + 1 →
      R (.ok (.ret (.ref (s.heap.objs.size + 1)))) { s with gens := s.gens.push (.fresh (.func body (envOf qual scope s.heap.objs.size f cdv))), toks := tk, heap := h₁.push (genObj s.gens.size nm qn) })
    (hco : scope.isCoroutine = false) (hgen : scope.isGenerator = true) (hk : scope.kind = .function)
    (hcell : ∀ x ∈ scope.names, x.2 ≠ .cell) : codeAny (model prog w) A (.call (.ref f) args) R s := by
  refine codeAny_call_generator (fd := fnOf name qual params body scope dV kV doc pm an cdv ct) (body := body) hroom (X₀ _ _ ho) rfl hco hgen rfl (codeRec_of X₀ hcd) (hbind _ _ _ _ ?_)
  refine wpAny_newFunctionEnv hcell hloc (fun h₀ hns₀ hsb₀ => ?_) hk
  have hsz : h₀.objs.size = s.heap.objs.size + 1 := by rw [hsb₀.1, Heap.size_push]
  refine ⟨T.nolimit.fresh _ hsb₀, ?_⟩
  have z := h h₀ (s.toks + binds.length + 1 + 1) (.str name (s.toks + binds.length)) (.str qual (s.toks + binds.length + 1)) hns₀ (fun b o e => hsb₀.extBut b o (Nat.ne_of_lt (Heap.lt_size e)) (Heap.get?_push_of_some _ e)) hsz
  rw [← hsz] at z
  exact z
noncomputable def GenAtZ (w : World) (hG : Heap) (Lg : Addr) (val : Nat → Str) (D U n : Nat) (x : Str) (gs : GenState) : Prop :=
  ∀ s : Shared, GenFr hG Lg x s.heap → gs.Goes (model P0 w) (arQ D U none none) (ancR Lg) (ancY hG Lg val) n (.send .none) s
theorem news_all {h₀ h : Heap} (L : Addr) : ∃ news : Led, (∀ p ∈ news, h.get? p.1 = some p.2 ∧ p.1 ≠ L ∧ h₀.get? p.1 = none) ∧ ∀ b o, b ≠ L → h₀.get? b = none → h.get? b = some o → (b, o) ∈ news := by
  refine ⟨(List.range h.objs.size).filterMap fun b => if @decide (b = L) (Nat.decEq b L) then none else if (h₀.get? b).isSome then none else (h.get? b).map fun o => (b, o), ?_, ?_⟩
  · intro p hp
    obtain ⟨b, hb, e⟩ := List.mem_filterMap.mp hp
    by_cases h1 : b = L
    · simp [h1] at e
    · rw [if_neg (by simpa using h1)] at e
      cases q : h₀.get? b with
      | some o' => simp [q] at e
      | none =>
        rw [q] at e
        simp only [Option.isSome_none, Bool.false_eq_true, if_false] at e
        cases q2 : h.get? b with
        | none => simp [q2] at e
        | some o =>
          rw [q2] at e
          cases e
          exact ⟨q2, h1, q⟩
  · intro b o hb h0 h1
    refine List.mem_filterMap.mpr ⟨b, List.mem_range.mpr (Heap.lt_size h1), ?_⟩
    rw [if_neg (by simpa using hb), h0, h1]
    rfl
theorem kept_all {hG : Heap} {Lg : Addr} {s : Shared} {m' : Str → Option Value} {h' : Heap} {tk : Nat} {news own : Led} (hk : ∀ b o, hG.get? b = some o → s.heap.get? b = some o) (hn : ∀ b o, b ≠ Lg → hG.get? b = none → s.heap.get? b = some o → (b, o) ∈ news) (F' : Fr hG Lg h' m') (N' : News hG Lg h' own) (hs : ∀ p ∈ news, p ∈ own) :
    KeptZ Lg s { s with heap := h', toks := tk } := by
  refine ⟨⟨h', tk, rfl⟩, fun b o hb e => ?_⟩
  cases q : hG.get? b with
  | some o' =>
    have := hk b o' q
    rw [e] at this
    cases this
    exact F'.keep b o q
  | none => exact (N' _ (hs _ (hn b o hb q e))).1
noncomputable def rstP (x : Str) : Str := Txt.rstripChars x (Str.ofString "/")
noncomputable def tstP (x : Str) : Bool := decide ((rstP x).length ≠ 0)
theorem tst_eq {y : Str} : (((Txt.rstripChars y (Str.ofString "/")).length : Int) != 0) = tstP y := by
  unfold tstP rstP
  cases h : (Txt.rstripChars y (Str.ofString "/")).length with
  | zero => rfl
  | succ n =>
    rw [decide_eq_true (by omega)]
    refine bne_iff_ne.mpr ?_
    omega
theorem splitHead_len (x : Str) : (splitHead x).length ≤ x.length := by
  have h : (Txt.slice x none (some (Txt.rfind x (Str.ofString "/") + 1))).length ≤ x.length := PyProof.Txt.length_slice_le _ _ _
  unfold splitHead
  split
  · exact h
  · split
    · exact Nat.le_trans (len_rstripChars _ _) h
    · exact h
theorem split_use {w : World} {x : Str} {t1 : Tok} (hlen : x.length ≤ 100) {p : Program} {loose : List Str} {mean : ExcName → Option Value} {mg mb : Str → Option Value} {A : Around} {h₀ : Heap} {L : Addr} {m : Str → Option Value} {news : Led} {s : Shared} {Q E : Value → Shared → Prop}
    (F : Fr h₀ L s.heap m) (X : (Mine.heapK w.params).In h₀) (N : News h₀ L s.heap news) (T : Top p loose mean mg mb h₀) (hh : A.handled = none) (hd : A.depth + 6 < recursionLimit) (hu : A.units + 120 < cLine)
    (h : ∀ D u1 z u2 h' tk', Fr h₀ L h' m → News h₀ L h' news → IsTup h' D #[.str (splitHead x) u1, .str z u2] → Q (.ref D) { s with heap := h', toks := tk' }) : wpAny (model P0 w) A (call (.ref 120) [.str x t1]) Q E s :=
  (split_core hlen).use F X N T hh hd hu fun r h' tk' F' N' ⟨D, u1, z, u2, e, i⟩ => e ▸ h D u1 z u2 h' tk' F' N' i
local macro_rules | `(tactic| walk_at "call ref") => `(tactic| ((fail_if_success (with_reducible rename Mark9 => mz)); refine sb_out ?_))
theorem fr_path {h₀ h : Heap} {L : Addr} {m : Str → Option Value} {x : Str} {v : Value} (F : Fr h₀ L h m) (e : m x = some v) : Fr h₀ L h (kstB m [(x, v)]) := by
  rw [kst_form (by
    intro p hp
    rw [List.mem_singleton.mp hp]
    exact e)]
  exact F
noncomputable def DOk (D : Nat) : Prop := D + 20 < recursionLimit
noncomputable def UOk (U : Nat) : Prop := U + 300 < cLine
theorem anc_make {w : World} {x : Str} {t1 : Tok} {hG : Heap} {D U n : Nat} {val : Nat → Str} (hD0 : DOk D) (hU0 : UOk U) (hlen : x.length ≤ 100) (hl : Left tstP splitHead val n (rstP x))
    (p : Program) (loose : List Str) (mean : ExcName → Option Value) (mg mb : Str → Option Value) (dp un : Nat) (fr : Option (List Env)) (gd : Option (List Code)) (h₀ : Heap) (L : Addr) (m : Str → Option Value) (news : Led) (s : Shared) (Q E : Value → Shared → Prop)
    (hroom : dp + 2 < recursionLimit) (F : Fr h₀ L s.heap m) (X : (Mine.heapK w.params).In h₀) (N : News h₀ L s.heap news) (T : Top p loose mean mg mb h₀) (hGX : (Mine.heapK w.params).In hG) (hGT : Top p loose mean mg mb hG) (hGs : ∀ b o, hG.get? b = some o → h₀.get? b = some o) (hGz : hG.objs.size ≤ h₀.objs.size)
    (hret : ∀ Ga Lg oL mL nm qn h' tk' gs t', Fr h₀ L h' m → News h₀ L h' ((Ga, genObj s.gens.size nm qn) :: (Lg, oL) :: news) → (∀ p ∈ news, p.1 < Lg) → Lg < Ga → LCg.NsObj oL mL → mL (Str.ofString "path") = some (.str x t') → hG.objs.size ≤ Lg → GenAtZ w hG Lg val D U n x gs →
      Q (.ref Ga) { s with heap := h', toks := tk', gens := s.gens.push gs }) :
    wpAny (model P0 w) (arQ dp un fr gd) (call (.ref 127) [.str x t1]) Q E s := by
  have hD : D + 20 < recursionLimit := hD0
  have hU : U + 300 < cLine := hU0
  revert X hGX hret
  delta GenAtZ P0
  k_fill
  intro X hGX hret
  refine wpAny_call ?_
  k_dflt (refine' code_gen (X.keeps F.keep) (T.keeps F.keep) ?k6 ?k7 ?k8 ?k9 ?kB ?_ ?c2 ?c3 ?c4 ?c5; (case k6 => k_is); (case k7 => k_is); (case k8 => ktr_room); (case k9 => exact BindsTo.of_eq rfl); (case c5 => decide); (case kB => exact locs rfl); (case c2 => exact rfl); (case c3 => exact rfl); (case c4 => exact rfl))
  intro h₁ tk nm qn hns hkeep hsz
  obtain ⟨oL, hoL, hnL⟩ := LCg.ns_obj hns
  have hLlt : L < s.heap.objs.size := F.ns.lt
  have Fk : Fr h₀ L (h₁.push (genObj s.gens.size nm qn)) m := F.keeps fun b o e => Heap.get?_push_of_some _ (hkeep b o e)
  have Nk : News h₀ L (h₁.push (genObj s.gens.size nm qn)) ((s.heap.objs.size + 1, genObj s.gens.size nm qn) :: (s.heap.objs.size, oL) :: news) := by
    intro p hp
    rcases List.mem_cons.mp hp with rfl | hp
    · refine ⟨?_, Nat.ne_of_gt (Nat.lt_succ_of_lt hLlt), Heap.get?_none_of_le (Nat.le_trans F.above (Nat.le_succ_of_le (Nat.le_of_lt hLlt)))⟩
      rw [← hsz]
      exact Heap.get?_push_size _ rfl
    · rcases List.mem_cons.mp hp with rfl | hp
      · exact ⟨Heap.get?_push_of_some _ hoL, Nat.ne_of_gt hLlt, Heap.get?_none_of_le (Nat.le_trans F.above (Nat.le_of_lt hLlt))⟩
      · exact ⟨Heap.get?_push_of_some _ (hkeep _ _ (N p hp).1), (N p hp).2⟩
  show Q _ _
  refine hret (s.heap.objs.size + 1) s.heap.objs.size oL _ nm qn _ tk _ t1 Fk Nk (fun p hp => Heap.lt_size (N p hp).1) (Nat.lt_succ_self _) hnL rfl (Nat.le_trans hGz (Nat.le_trans F.above (Nat.le_of_lt hLlt))) ?_
  intro s' hg
  refine ⟨rfl, anc_func (tst := tstP) (nxt := splitHead) (rst := rstP) rfl rfl ?h0 ?hT ?hE ?hS hl hg⟩
  case h0 =>
    rintro y s₁ E' ⟨t₂, m₂, F₂, hm₂, hy⟩
    obtain ⟨nw, hn1, hn2⟩ := news_all (h₀ := hG) (h := s₁.heap) s.heap.objs.size
    have N₂ : News hG s.heap.objs.size s₁.heap nw := hn1
    have hkp := F₂.keep
    replace F₂ := fr_path F₂ hm₂
    show wpAny _ (arQ (D + 1) (U + 3) none none) _ _ _ _
    (repeat' (first | ((with_reducible refine sb_in ?_); (first | ((with_reducible show wpAny _ _ (call _ _ _) _ _ _); (k_here; (with_reducible show wpAny _ _ (call (Value.ref 120) _) _ _ _); k_dflt (refine split_use (by assumption) (by k_asm) (by k_asm) (by k_asm) (by k_asm) (by exact rfl) (by ktr_room) (by ktr_units) ?_; k_whole); intro D' u1' z' u2' h' tk' F' N' i'; (try k_sweep))) | ((have mk9 : Mark9 := .mk); walk1; all_goals (try clear mk9)))) | (k_unfold; (try dsimp only)) | (k_end; kc_close) | walk1 | (dsimp only; walk1) | (leave1; walk_say "STEP leave1"; (try dsimp only)) | fail "no step"))
    · trivial
    · (rename Fr _ _ _ _ => F9)
      (rename News _ _ _ _ => N9)
      exact kept_all hkp hn2 F9 N9 (fun _ h => h)
    · (rename Fr _ _ _ _ => F9)
      exact ⟨_, _, F9, rfl, Nat.le_trans (len_rstripChars y _) hy⟩
  case hT =>
    rintro kk l pp y s₁ E' ⟨t₂, m₂, F₂, hm₂, hy⟩
    obtain ⟨nw, hn1, hn2⟩ := news_all (h₀ := hG) (h := s₁.heap) s.heap.objs.size
    have N₂ : News hG s.heap.objs.size s₁.heap nw := hn1
    have hkp := F₂.keep
    replace F₂ := fr_path F₂ hm₂
    show wpAny _ (arQ (D + 1) (U + 3) none none) _ _ _ _
    (repeat' (first | ((with_reducible refine sb_in ?_); (first | ((with_reducible show wpAny _ _ (call _ _ _) _ _ _); (k_here; (with_reducible show wpAny _ _ (call (Value.ref 120) _) _ _ _); k_dflt (refine split_use (by assumption) (by k_asm) (by k_asm) (by k_asm) (by k_asm) (by exact rfl) (by ktr_room) (by ktr_units) ?_; k_whole); intro D' u1' z' u2' h' tk' F' N' i'; (try k_sweep))) | ((have mk9 : Mark9 := .mk); walk1; all_goals (try clear mk9)))) | (k_unfold; (try dsimp only)) | (k_end; kc_close) | walk1 | (dsimp only; walk1) | (leave1; walk_say "STEP leave1"; (try dsimp only)) | fail "no step"))
    · exact tst_eq
    · exact ⟨⟨_, _, rfl⟩, fun _ _ _ e => e⟩
    · exact ⟨_, _, F₂, rfl, hy⟩
  case hE =>
    rintro kk l pp y s₁ E' ⟨t₂, m₂, F₂, hm₂, hy⟩
    obtain ⟨nw, hn1, hn2⟩ := news_all (h₀ := hG) (h := s₁.heap) s.heap.objs.size
    have N₂ : News hG s.heap.objs.size s₁.heap nw := hn1
    have hkp := F₂.keep
    replace F₂ := fr_path F₂ hm₂
    show wpAny _ (arQ (D + 1) (U + 3) none none) _ _ _ _
    (repeat' (first | ((with_reducible refine sb_in ?_); (first | ((with_reducible show wpAny _ _ (call _ _ _) _ _ _); (k_here; (with_reducible show wpAny _ _ (call (Value.ref 120) _) _ _ _); k_dflt (refine split_use (by assumption) (by k_asm) (by k_asm) (by k_asm) (by k_asm) (by exact rfl) (by ktr_room) (by ktr_units) ?_; k_whole); intro D' u1' z' u2' h' tk' F' N' i'; (try k_sweep))) | ((have mk9 : Mark9 := .mk); walk1; all_goals (try clear mk9)))) | (k_unfold; (try dsimp only)) | (k_end; kc_close) | walk1 | (dsimp only; walk1) | (leave1; walk_say "STEP leave1"; (try dsimp only)) | fail "no step"))
    · exact KeptZ.refl
    · exact ⟨_, _, F₂, rfl, hy⟩
  case hS =>
    rintro kk l pp y s₁ E' ⟨t₂, m₂, F₂, hm₂, hy⟩ ht
    obtain ⟨nw, hn1, hn2⟩ := news_all (h₀ := hG) (h := s₁.heap) s.heap.objs.size
    have N₂ : News hG s.heap.objs.size s₁.heap nw := hn1
    have hkp := F₂.keep
    replace F₂ := fr_path F₂ hm₂
    show wpAny _ (arQ (D + 1) (U + 3) none none) _ _ _ _
    (repeat' (first | ((with_reducible refine sb_in ?_); (first | ((with_reducible show wpAny _ _ (call _ _ _) _ _ _); (k_here; (with_reducible show wpAny _ _ (call (Value.ref 120) _) _ _ _); k_dflt (refine split_use (by assumption) (by k_asm) (by k_asm) (by k_asm) (by k_asm) (by exact rfl) (by ktr_room) (by ktr_units) ?_; k_whole); intro D' u1' z' u2' h' tk' F' N' i'; (try k_sweep))) | ((have mk9 : Mark9 := .mk); walk1; all_goals (try clear mk9)))) | (k_unfold; (try dsimp only)) | (k_end; kc_close) | walk1 | (dsimp only; walk1) | (leave1; walk_say "STEP leave1"; (try dsimp only)) | fail "no step"))
    · trivial
    · (rename Fr _ _ _ _ => F9)
      (rename News _ _ _ _ => N9)
      exact kept_all hkp hn2 F9 N9 (fun _ h => h)
    · (rename Fr _ _ _ _ => F9)
      exact ⟨_, _, F9, rfl, Nat.le_trans (splitHead_len y) hy⟩
theorem in_weak {A A' : Around} {Γ : Ctx} (h : Γ.In A) (h1 : A'.handled = A.handled) (h2 : A.depth ≤ A'.depth) (h3 : A'.frames = none) (h4 : A'.guards = none) (h5 : A.units ≤ A'.units) : Γ.In A' :=
  by
  refine ⟨h.1.trans h1.symm, Nat.le_trans h.2.1 h2, ?_, ?_, Nat.le_trans h.2.2.2.2 h5⟩
  · intro l hl
    rw [h3] at hl
    cases hl
  · intro l hl
    rw [h4] at hl
    cases hl
theorem wpAny_weak {α : Type} {M : Model} {A A' : Around} {x : Sem α} {Q : α → Shared → Prop} {E : Value → Shared → Prop} {s : Shared} (h1 : A'.handled = A.handled) (h2 : A.depth ≤ A'.depth) (h3 : A'.frames = none) (h4 : A'.guards = none) (h5 : A.units ≤ A'.units)
    (h : wpAny M A' x Q E s) : wpAny M A x Q E s := fun Γ p hΓ => h Γ p (in_weak hΓ h1 h2 h3 h4 h5)
end Mine
end

section -- MIsl
open PySem PySem.W PyProof.Rows PySem.Calls
set_option Elab.async false
set_option maxRecDepth 100000
set_option maxHeartbeats 8000000
namespace Mine
theorem code_defV {w : World} {A A₀ : Around} {s : Shared} {K : Frag} {p : Program} {loose : List Str} {mean : ExcName → Option Value} {mg mb : Str → Option Value} {prog : Program} {base h₀ : Heap} {L : Addr} {m : Str → Option Value} {news : Led} {env : Env} {outer : List Env} {R : Result → Shared → Prop} {name qual : Str} {params : Arguments} {body : List Stmt} {scope : Scope} {dV kV doc pm cdv ct oc : Value} {an od : Option Addr} {osl : Array (Option Value)} {f : Addr} {args : Args} {rest : List Value} {binds : Value → List (Str × Value)}
    (B : Below A₀ base outer h₀) (F : Fr h₀ L s.heap m) (X₀ : K.In h₀) (N : News h₀ L s.heap news) (T : Top p loose mean mg mb h₀) (hA : A.frames = some (env :: outer)) (hf : env.frame = some L) (hke : env.scope.kind = .function)
    (ho : K.lookup f = some ⟨oc, od, .func (fnOf name qual params body scope dV kV doc pm an cdv ct), osl⟩) (hcd : codeIn K cdv qual = true) (hroom : A.depth < recursionLimit)
    (hbind : bindArgs (fnOf name qual params body scope dV kV doc pm an cdv ct) args = (newTuple rest >>= fun t => pure (binds t))) (hsz : rest.length ≤ 100) (hloc : ∀ t, ∀ y ∈ binds t, scope.names.lookup y.1 = some .local)
    (h : ∀ T' g L' h₁ tk, Fr h₀ L g m → Fr g L' h₁ (fun y => (binds (.ref T')).reverse.lookup y) → News g L' h₁ ((T', tupOf rest) :: news) → Below A base (env :: outer) g → K.In g → Top p loose mean mg mb g → (∀ q ∈ news, q.1 < T') →
      wpAny (model prog w) (A.deeper (envOf qual scope L' f cdv)) (execs body (envOf qual scope L' f cdv))
        (fun fl s' => LeaveK h₀ L m g R (match fl with | .ret v => v | _ => .none) s')
        (fun e s' => wpAny (model prog w) (A.deeper (envOf qual scope L' f cdv)) (leaving (envOf qual scope L' f cdv) e) (fun _ s'' => R (.error e) s'') (fun e' s'' => R (.error e') s'') s')
        { s with heap := h₁, toks := tk })
    (hco : scope.isCoroutine = false) (hgen : scope.isGenerator = false) (hk : scope.kind = .function)
    (hcell : ∀ x ∈ scope.names, x.2 ≠ .cell) : codeAny (model prog w) A (.call (.ref f) args) R s := by
  have hup : ∀ b o, s.heap.get? b = some o → (s.heap.push (tupOf rest)).get? b = some o := fun b o e => Heap.get?_push_of_some _ e
  have F1 : Fr h₀ L (s.heap.push (tupOf rest)) m := F.push _
  have N1 : News h₀ L (s.heap.push (tupOf rest)) ((s.heap.objs.size, tupOf rest) :: news) := N.push F _
  obtain ⟨FG, BG, st, lv⟩ := groundX (R := R) (s := { s with heap := s.heap.push (tupOf rest) }) B F1 N1 hA hf hke
  refine codeAny_call_function (fd := fnOf name qual params body scope dV kV doc pm an cdv ct) (body := body) hroom ((X₀.keeps F.keep) _ _ ho) rfl hco hgen rfl (codeRec_of (X₀.keeps F.keep) hcd) ?_
  rw [hbind]
  refine wpAny_bind (wpAny_newTuple (wpAny_pure ?_) (by rw [sizeLine_eq]; omega))
  refine wpAny_newFunctionEnv hcell (hloc _) (fun h₁ hns hsb => ⟨(T.nolimit.keeps F1.keep).fresh _ hsb, codeAny_func ?_⟩) hk
  have hk₁ : ∀ b o, (s.heap.push (tupOf rest)).get? b = some o → h₁.get? b = some o := fun b o e => hsb.extBut b o (Nat.ne_of_lt (Heap.lt_size e)) (Heap.get?_push_of_some _ e)
  refine wpAny_mono (h s.heap.objs.size _ (s.heap.push (tupOf rest)).objs.size h₁ _ FG ⟨hns, fun b o e => hk₁ b o (of_hideAll _ e), Nat.le_of_eq (hideAll_size _ _)⟩
    (fun p hp => ⟨hk₁ _ _ (N1 p hp).1, Nat.ne_of_lt (Heap.lt_size (N1 p hp).1), hideAll_none _ (List.mem_map_of_mem hp)⟩) BG (X₀.keeps st) (T.keeps st) (fun p hp => Heap.lt_size (N p hp).1)) (fun fl s' hl => lv _ _ hl) fun _ _ y => y
end Mine
end

section -- MTupT
open PySem PySem.W PyProof.Rows PySem.Calls
set_option Elab.async false
set_option maxRecDepth 100000
set_option maxHeartbeats 8000000
namespace Mine
section
variable {prog : Program} {w : World} {A : Around} {E : Value → Shared → Prop} {Q : Flow → Shared → Prop} {s : Shared} {env : Env} {h₀ : Heap} {target : Expr} {body : List Stmt}
theorem tupT_iter {l : Addr} {vs : List Value} {m₀ : Str → Option Value} {news : Led} (J : Nat → (Str → Option Value) → Led → Prop)
    (hh : A.handled = none) (hl : (l, tupOf vs) ∈ news) (F : Fr h₀ env.locals s.heap m₀) (N : News h₀ env.locals s.heap news) (hj : J 0 m₀ news)
    (turn : ∀ i v m₁ news₁ h tk own, vs[i]? = some v → OwnOff own (news₁.map (·.1)) → (l, tupOf vs) ∈ news₁ → J i m₁ news₁ → Fr h₀ env.locals h m₁ → News h₀ env.locals h (news₁ ++ own) →
      wpAny (model prog w) A (assign target env v) (fun _ s₃ => wpAny (model prog w) A (execs body env) (InvPostG h₀ env.locals (fun m' nx => (l, tupOf vs) ∈ nx ∧ J (i + 1) m' nx) own { s with heap := h, toks := tk } Q) E s₃) E { s with heap := h, toks := tk })
    (done : ∀ m₁ news₁ h tk, J vs.length m₁ news₁ → Fr h₀ env.locals h m₁ → News h₀ env.locals h news₁ → Q .next { s with heap := h, toks := tk }) :
    wpAny (model prog w) A (pyIter (.ref l)) (fun it s₂ => TurnsAt prog w A h₀ env target body Q E it s₂) E s := by
  have hol : s.heap.get? l = some (tupOf vs) := (N _ hl).1
  have hls : s.heap.IsTuple l vs.toArray := ⟨_, hol, rfl, _, rfl⟩
  have hne : l ≠ s.heap.objs.size := Nat.ne_of_lt (Heap.lt_size hol)
  refine wpAny_pyIter_tuple hls ?_
  have W := Walks.tuple (prog := prog) (w := w) hh s.heap.objs.size l hne vs.toArray
  have hlen : vs.toArray.size = vs.length := by simp
  rw [hlen] at W
  have W2 := KTurns.ofWalks (target := target) W fun i v s Q E st q => letGo_tupleiter st.1 q
  refine ⟨_, _, _, vs.length, _, _, _, m₀, news, (fun i m nx => (l, tupOf vs) ∈ nx ∧ J i m nx), rfl, W2, ?_, ?_, ?_, ⟨⟨_, Heap.get?_push_size _ rfl, rfl, rfl⟩, hls.at fun o e => Heap.get?_push_of_some _ e⟩, F.push _, (fun p hp => ⟨Heap.get?_push_of_some _ (N p hp).1, (N p hp).2⟩), ⟨hl, hj⟩, ?_, ?_⟩
  · intro hm
    rcases List.mem_cons.mp hm with e | hm
    · exact absurd F.ns.lt (e ▸ Nat.lt_irrefl _)
    · exact (N _ hl).2.1 ((List.mem_singleton.mp hm).symm)
  · intro b hb
    rw [List.mem_singleton.mp hb]
    exact next_is_new F
  · intro p hp hI
    exact absurd (Heap.lt_size (N p hp).1) ((List.mem_singleton.mp hI) ▸ Nat.lt_irrefl _)
  · rintro i v m₁ news₁ hh' tk' own hin hP ⟨hl₁, hJ⟩ hoff hown hget hfp hst F₁ N₁
    have hP' : vs[i]? = some v := by simpa using hP
    have hI0 : h₀.get? s.heap.objs.size = none := next_is_new F
    obtain ⟨⟨oI, hoI, _⟩, _⟩ := id hst
    have hIown : (s.heap.objs.size, oI) ∈ own.filter fun p => decide (p.1 = s.heap.objs.size) := List.mem_filter.mpr ⟨hfp _ (List.mem_cons.mpr (.inl rfl)) hI0 _ hoI, by simp⟩
    have hsep : OwnOff (own.filter fun p => decide (p.1 = s.heap.objs.size)) (news₁.map (·.1)) := by
      intro p hp b hb e
      obtain ⟨q, hq, rfl⟩ := List.mem_map.mp hb
      have h1 : p.1 = s.heap.objs.size := by simpa using (List.mem_filter.mp hp).2
      exact hoff q hq (List.mem_singleton.mpr (e ▸ h1))
    have N₂ : News h₀ env.locals hh' (news₁ ++ own.filter fun p => decide (p.1 = s.heap.objs.size)) := fun p hp => N₁ p ((List.mem_append.mp hp).elim (fun h => List.mem_append.mpr (.inr h)) fun h => List.mem_append.mpr (.inl ((List.mem_filter.mp h).1)))
    have hlo : hh'.get? l = some (tupOf vs) := (N₁ _ (List.mem_append.mpr (.inr hl₁))).1
    refine wpAny_mono (turn i v m₁ news₁ hh' tk' _ hP' hsep hl₁ hJ F₁ N₂) (fun _ s₃ x => wpAny_mono x (fun f s₂ p => ?_) fun _ _ e => e) fun _ _ e => e
    have fin : InvEndG h₀ env.locals (fun m' nx => (l, tupOf vs) ∈ nx ∧ J (i + 1) m' nx) (own.filter fun p => decide (p.1 = s.heap.objs.size)) { s with heap := hh', toks := tk' } s₂ →
        LoopStepU h₀ env.locals [s.heap.objs.size] own (fun m nx => (l, tupOf vs) ∈ nx ∧ J (i + 1) m nx) { s with heap := hh', toks := tk' } .next s₂ := by
      rintro ⟨h', tk, m', news', nx, e, F', N', hn, ho, ha, hm⟩
      refine ⟨rfl, h', tk, m', nx, e, F', fun p hp => ?_, fun p hp hq => ?_, hm⟩
      · rcases List.mem_append.mp hp with h | h
        · by_cases hI : p.1 = s.heap.objs.size
          · exact N' p (ho p (List.mem_filter.mpr ⟨h, by simpa using hI⟩))
          · have h1 : p.1 = l := by
              rcases List.mem_cons.mp (hown p h) with h2 | h2
              · exact absurd h2 hI
              · exact List.mem_singleton.mp h2
            have h2 : hh'.get? p.1 = some p.2 := hget p h
            rw [h1, hlo] at h2
            have h3 : p = (l, tupOf vs) := Prod.ext h1 (Option.some.inj h2).symm
            rw [h3]
            exact N' _ (hn _ hm.1)
        · exact N' p (hn p h)
      · exact ha _ hIown p.1 (List.mem_map.mpr ⟨p, hp, rfl⟩) (List.mem_singleton.mp hq).symm
    cases f with
    | ret v => exact .ret p
    | brk => exact .brk p
    | next => exact .next (fin p)
    | cont => exact .cont (fin p)
  · rintro h' tk m' news' F' N' _ ⟨_, hJ⟩
    exact done m' news' h' tk hJ F' N'
/-- a for over a tuple of the ledger, its target any pattern -/
theorem forT_tup {σ : Type} {l : Addr} {vs : List Value} {m : Str → Option Value} {news : Led} (ps : σ → List (Str × Value)) (Ld : σ → Led) (P : Nat → σ → Prop) (c₀ : σ)
    (hh : A.handled = none) (hLd : ∀ c, (l, tupOf vs) ∈ Ld c) (F : Fr h₀ env.locals s.heap m) (N : News h₀ env.locals s.heap news)
    (hk : ∀ p ∈ ps c₀, m p.1 = some p.2) (hn : ∀ p ∈ Ld c₀, p ∈ news) (hp : P 0 c₀)
    (turn : ∀ i v c (u : Str → Option Value) h tk own, vs[i]? = some v → P i c → OwnOff own ((Ld c).map (·.1)) → Fr h₀ env.locals h (kstB u (ps c)) → News h₀ env.locals h (Ld c ++ own) →
      wpAny (model prog w) A (assign target env v) (fun _ s₃ => wpAny (model prog w) A (execs body env) (ForPost h₀ env.locals ps Ld (P (i + 1)) own { s with heap := h, toks := tk } Q) E s₃) E { s with heap := h, toks := tk })
    (done : ∀ c (u : Str → Option Value) h tk, P vs.length c → Fr h₀ env.locals h (kstB u (ps c)) → News h₀ env.locals h (Ld c) → Q .next { s with heap := h, toks := tk }) :
    wpAny (model prog w) A (pyIter (.ref l)) (fun it s₂ => TurnsAt prog w A h₀ env target body Q E it s₂) E s := by
  refine tupT_iter (vs := vs) (m₀ := m) (news := Ld c₀) (fun i m nx => ∃ c, nx = Ld c ∧ P i c ∧ ∀ p ∈ ps c, m p.1 = some p.2) hh (hLd c₀) F (fun p h => N p (hn p h)) ⟨c₀, rfl, hp, hk⟩ ?_ ?_
  · rintro i v m₁ nx h tk own hv ho _ ⟨c, rfl, hP, hk₁⟩ F₁ N₁
    refine wpAny_mono (turn i v c m₁ h tk own hv hP ho (by rw [kst_form hk₁]; exact F₁) N₁) (fun _ s₃ x => wpAny_mono x (fun f s₂ p => ?_) fun _ _ e => e) fun _ _ e => e
    have fin : ForEnd h₀ env.locals ps Ld (P (i + 1)) own { s with heap := h, toks := tk } s₂ → InvEndG h₀ env.locals (fun m' nx => (l, tupOf vs) ∈ nx ∧ ∃ c, nx = Ld c ∧ P (i + 1) c ∧ ∀ p ∈ ps c, m' p.1 = some p.2) own { s with heap := h, toks := tk } s₂ := by
      rintro ⟨c', h', tk', m', news', e, F', N', hk', hn', ho', hoff, hP'⟩
      exact ⟨h', tk', m', news', Ld c', e, F', N', hn', ho', hoff, hLd c', c', rfl, hP', hk'⟩
    cases f with
    | ret v => exact p
    | brk => exact p
    | next => exact fin p
    | cont => exact fin p
  · rintro m₁ nx h tk ⟨c, rfl, hP, hk₁⟩ F₁ N₁
    exact done c m₁ h tk hP (by rw [kst_form hk₁]; exact F₁) N₁
end
end Mine
end

section -- MWh
open PySem PySem.W PyProof.Rows PySem.Calls
set_option Elab.async false
set_option maxRecDepth 100000
set_option maxHeartbeats 8000000
namespace Mine
theorem flush_MWh : True := by w_top off; first | walk1 | trivial
local macro_rules | `(tactic| walk_at "LeaveQ") => `(tactic| (k_here; refine stop_out ?_))
theorem isint_core {w : World} {k : Int} {t : Tok} : ConQ w 45 [.int k t] 2 40 (fun r _ => r = .bool true) := by
  delta ConQ P0
  k_fill
  intro p loose mean mg mb dp un fr gd s Q E hroom hun X T hret
  refine wpAny_call ?_
  k_dflt (refine' code_defQ ?k1 ?k2 ?k6 ?k7 ?k8 ?k9 ?kB ?_ ?c2 ?c3 ?c4 ?c5; (case k1 => k_asm); (case k2 => k_asm); (case k6 => k_is); (case k7 => k_is); (case k8 => ktr_room); (case k9 => exact BindsTo.of_eq rfl); (case c5 => decide); (case kB => exact locs rfl); (case c2 => exact rfl); (case c3 => exact rfl); (case c4 => exact rfl); k_whole; intro g' L' h' F' N' X' T'; (try dsimp only); (try k_fold))
  (repeat' (first | ((with_reducible refine sb_in ?_); (first | ((with_reducible show wpAny _ _ (call _ _ _) _ _ _); (k_here; (with_reducible show wpAny _ _ (call (Value.ref 45) _) _ _ _); k_dflt (refine isint_use (by k_asm) (by k_asm) (by k_asm) (by k_asm) (by exact rfl) (by ktr_room) (by ktr_units) ?_; k_whole); intro h' tk' F' N'; (try k_sweep))) | ((have mk9 : Mark9 := .mk); walk1; all_goals (try clear mk9)))) | (k_unfold; (try dsimp only)) | (k_end; kc_close) | walk1 | (dsimp only; walk1) | (leave1; walk_say "STEP leave1"; (try dsimp only)) | fail "no step"))
  all_goals ((rename Fr _ _ _ _ => F9); exact stop_in (leaveQ_ F9 fun hk => hret _ _ _ hk rfl))
theorem isint_use {w : World} {k : Int} {t1 : Tok} {p : Program} {loose : List Str} {mean : ExcName → Option Value} {mg mb : Str → Option Value} {A : Around} {h₀ : Heap} {L : Addr} {m : Str → Option Value} {news : Led} {s : Shared} {Q E : Value → Shared → Prop}
    (F : Fr h₀ L s.heap m) (X : (Mine.heapK w.params).In h₀) (N : News h₀ L s.heap news) (T : Top p loose mean mg mb h₀) (hh : A.handled = none) (hd : A.depth + 2 < recursionLimit) (hu : A.units + 40 < cLine)
    (h : ∀ h' tk', Fr h₀ L h' m → News h₀ L h' news → Q (.bool true) { s with heap := h', toks := tk' }) : wpAny (model P0 w) A (call (.ref 45) [.int k t1]) Q E s :=
  isint_core.use F X N T hh hd hu fun r h' tk' F' N' e => e ▸ h h' tk' F' N'
local macro_rules | `(tactic| walk_at "call ref") => `(tactic| ((fail_if_success (with_reducible rename Mark9 => mz)); refine sb_out ?_))
theorem whole_core {w : World} {k : Int} {y : Str} {t1 t2 t3 : Tok} (h1 : ¬ (999999 < k)) (h2 : ¬ (k < -999999)) : ConQ w 52 [.int k t1, .int 999999 t2, .str y t3] 4 80 (fun r _ => r = .none) := by
  delta ConQ P0
  k_fill
  intro p loose mean mg mb dp un fr gd s Q E hroom hun X T hret
  refine wpAny_call ?_
  k_dflt (refine' code_defQ ?k1 ?k2 ?k6 ?k7 ?k8 ?k9 ?kB ?_ ?c2 ?c3 ?c4 ?c5; (case k1 => k_asm); (case k2 => k_asm); (case k6 => k_is); (case k7 => k_is); (case k8 => ktr_room); (case k9 => exact BindsTo.of_eq rfl); (case c5 => decide); (case kB => exact locs rfl); (case c2 => exact rfl); (case c3 => exact rfl); (case c4 => exact rfl); k_whole; intro g' L' h' F' N' X' T'; (try dsimp only); (try k_fold))
  (repeat' (first | ((with_reducible refine sb_in ?_); (first | ((with_reducible show wpAny _ _ (call _ _ _) _ _ _); (k_here; (with_reducible show wpAny _ _ (call (Value.ref 45) _) _ _ _); k_dflt (refine isint_use (by k_asm) (by k_asm) (by k_asm) (by k_asm) (by exact rfl) (by ktr_room) (by ktr_units) ?_; k_whole); intro h' tk' F' N'; (try k_sweep))) | ((have mk9 : Mark9 := .mk); walk1; all_goals (try clear mk9)))) | (k_unfold; (try dsimp only)) | (k_end; kc_close) | walk1 | (dsimp only; walk1) | (leave1; walk_say "STEP leave1"; (try dsimp only)) | fail "no step"))
  all_goals first | omega | ((rename Fr _ _ _ _ => F9); exact stop_in (leaveQ_ F9 fun hk => hret _ _ _ hk rfl))
end Mine
end

section -- MIsm
open PySem PySem.W PyProof.Rows PySem.Calls
set_option Elab.async false
set_option maxRecDepth 100000
set_option maxHeartbeats 8000000
namespace Mine
theorem flush_MIsm : True := by w_top off; first | walk1 | trivial
local macro_rules
  | `(tactic| walk_at $k:str) => if ["exec For Name Name cons nil", "call ref", "call builtin:iter"].contains k.getString then `(tactic| ((fail_if_success (with_reducible rename Mark9 => mz)); refine sb_out ?_)) else Lean.Macro.throwUnsupported
local macro_rules | `(tactic| walk_at "pyIter ref") => `(tactic| (k_here; refine stop_out ?_))
local macro_rules | `(tactic| walk_at "ForPost") => `(tactic| (refine stop_out ?_))
theorem iter_gen {prog : Program} {w : World} {A : Around} {E : Value → Shared → Prop} {s : Shared} {h₀ : Heap} {L Ga g : Addr} {news : Led} {nm qn : Value} {Q : Value → Shared → Prop} (N : News h₀ L s.heap news) (hm : (Ga, genObj g nm qn) ∈ news) (h : Q (.ref Ga) s) : wpAny (model prog w) A (call (.builtin "iter") [.ref Ga]) Q E s := by
  have hg : s.heap.IsGen Ga g := ⟨_, nm, qn, (N _ hm).1, rfl, rfl, rfl⟩
  refine call_function_entry (by decide +kernel) (by decide +kernel) kdk_entry_iter (kdk_args_iter _) ?_
  unfold Builtin.«iter»
  refine wpAny_bind (m := someArgs "iter" 1 2 _) (wpAny_of_eq (a := [Value.ref Ga]) (by first | rfl | kernel_rfl!) ?_)
  show wpAny _ _ (pyIter (.ref Ga) >>= _) _ _ _
  refine wpAny_bind (wpAny_pyIter_gen hg ?_)
  exact wpAny_pure ⟨_, rfl, h⟩
theorem whole_use {w : World} {k : Int} {y : Str} {t1 t2 t3 : Tok} (h1 : ¬ (999999 < k)) (h2 : ¬ (k < -999999)) {p : Program} {loose : List Str} {mean : ExcName → Option Value} {mg mb : Str → Option Value} {A : Around} {h₀ : Heap} {L : Addr} {m : Str → Option Value} {news : Led} {s : Shared} {Q E : Value → Shared → Prop}
    (F : Fr h₀ L s.heap m) (X : (Mine.heapK w.params).In h₀) (N : News h₀ L s.heap news) (T : Top p loose mean mg mb h₀) (hh : A.handled = none) (hd : A.depth + 4 < recursionLimit) (hu : A.units + 80 < cLine)
    (h : ∀ h' tk', Fr h₀ L h' m → News h₀ L h' news → Q .none { s with heap := h', toks := tk' }) : wpAny (model P0 w) A (call (.ref 52) [.int k t1, .int 999999 t2, .str y t3]) Q E s :=
  (whole_core h1 h2).use F X N T hh hd hu fun r h' tk' F' N' e => e ▸ h h' tk' F' N'
/-- an islice over it: cnt taken, the next wanted at nxt, no stop, step 1 -/
noncomputable abbrev islObj (dx : Addr) (it : Value) (cnt : Int) (u1 : Tok) (nxt : Int) (u2 u3 u4 : Tok) : Obj := { cls := .ref 85, dict := some dx, data := .plain, slots := #[some (.int cnt u1), some it, some (.int nxt u2), some (.int 1 u3), some (.int (-1) u4)] }
theorem isl_make {w : World} {Ga g : Nat} {nm qn : Value} {t1 : Tok} {news : Led} (hGa : (Ga, genObj g nm qn) ∈ news)
    (p : Program) (loose : List Str) (mean : ExcName → Option Value) (mg mb : Str → Option Value) (dp un : Nat) (gd : Option (List Code)) (cn : Str) (cs : Scope) (a : Addr) (ccd : Value) (cl : List (Str × Addr)) (outer : List Env) (A₀ : Around) (base h₀ : Heap) (L : Addr) (m : Str → Option Value) (s : Shared) (Q E : Value → Shared → Prop)
    (B : Below A₀ base outer h₀) (F : Fr h₀ L s.heap m) (X : (Mine.heapK w.params).In h₀) (N : News h₀ L s.heap news) (T : Top p loose mean mg mb h₀) (hkd : cs.kind = .function) (hroom : dp + 20 < recursionLimit) (hun : un + 400 < cLine)
    (hret : ∀ x dx u1 u2 u3 u4 h' tk', Fr h₀ L h' m → News h₀ L h' ((x, islObj dx (.ref Ga) 0 u1 1 u2 u3 u4) :: (dx, dictOf [] 0) :: news) → (∀ p ∈ news, p.1 < dx) → dx < x → Q (.ref x) { s with heap := h', toks := tk' }) :
    wpAny (model P0 w) (ktrTop dp un gd cn cs L a ccd cl outer) (call (.ref 85) [.ref Ga, .int 1 t1, .none]) Q E s := by
  revert X
  delta P0
  k_fill
  intro X
  k_dflt (refine' call_cls ?k1 ?k2 ?k3 ?k4 ?k5 ?k6 ?_; (case k1 => k_asm); (case k2 => k_asm); (case k3 => k_asm); (case k4 => k_is); (case k5 => k_is); (case k6 => k_is); k_whole)
  intro x dx h1 F1 N1 l1 l2
  have hAu : ∀ args, ((ktrTop dp un gd cn cs L a ccd cl outer).under (.builtin "type.__call__" args)).depth ≤ dp + 2 ∧ ((ktrTop dp un gd cn cs L a ccd cl outer).under (.builtin "type.__call__" args)).units ≤ un + 1 ∧ ((ktrTop dp un gd cn cs L a ccd cl outer).under (.builtin "type.__call__" args)).handled = none ∧ ((ktrTop dp un gd cn cs L a ccd cl outer).under (.builtin "type.__call__" args)).frames = some (envX cn cs L a ccd cl :: outer) := by
    intro args
    have e1 : (Code.builtin "type.__call__" args).isFrame = false := rfl
    have e2 : (Code.builtin "type.__call__" args).frames = 0 := rfl
    have e3 : (Code.builtin "type.__call__" args).isGuard = guardIds.contains "type.__call__" := rfl
    have e4 : guardIds.contains "type.__call__" = false := by decide +kernel
    have e5 : (Code.builtin "type.__call__" args).isCaller = false := rfl
    refine ⟨?_, ?_, rfl, rfl⟩
    · show dp + (Code.builtin "type.__call__" args).weight ≤ dp + 2
      unfold Code.weight
      rw [e2, e3, e4, e5]
      simp only [Bool.false_eq_true, if_false]
      split <;> omega
    · show un + (Code.builtin "type.__call__" args).cUnits ≤ un + 1
      show un + (1 + 3 * (Code.builtin "type.__call__" args).frames) ≤ un + 1
      rw [e2]
      exact Nat.le_refl _
  generalize hAe : (ktrTop dp un gd cn cs L a ccd cl outer).under (.builtin "type.__call__" _) = A1
  have hAv := hAu ⟨[.ref 85, .ref Ga, .int 1 t1, .none], []⟩
  rw [hAe] at hAv
  clear hAe hAu
  obtain ⟨ah, ad, af, ag, au⟩ := A1
  obtain ⟨ha1, ha2, ha3, ha4⟩ := hAv
  dsimp only at ha1 ha2 ha3 ha4
  subst ha3 ha4
  k_dflt (refine' code_defV (rest := [_, _]) ?k1 ?k2 ?k3 ?k4 ?k5 ?kA ?kF ?kK ?k6 ?k7 ?k8 ?k9 ?kz ?kB ?_ ?c2 ?c3 ?c4 ?c5; (case kA => exact rfl); (case kF => exact rfl); (case kK => assumption); (case k1 => k_asm); (case k2 => k_asm); (case k3 => k_asm); (case k4 => k_asm); (case k5 => k_asm); (case k6 => k_is); (case k7 => k_is); (case k8 => ktr_room); (case k9 => exact rfl); (case kz => exact Nat.le_of_ble_eq_true rfl); (case c5 => decide); (case kB => (intro t'; exact locs rfl)); (case c2 => exact rfl); (case c3 => exact rfl); (case c4 => exact rfl); k_whole)
  intro T' g2 L2 h2 tk2 FG F2 N2 B2 X2 TT2 l3
  (try dsimp only)
  (try k_fold)
  have l4 := ltN (l3 _ (.head _))
  have l5 := ltN (l3 _ (.tail _ (.head _)))
  have l6 := ltN l2
  dsimp only at l4 l5
  have hoffx : OwnOff news [x, dx] := by
    intro q hq b hb
    have h1 := l1 q hq
    simp only [List.mem_cons, List.not_mem_nil, or_false] at hb
    rcases hb with rfl | rfl
    · exact Nat.ne_of_lt (Nat.lt_trans h1 l2)
    · exact Nat.ne_of_lt h1
  (repeat' (first | ((with_reducible refine sb_in ?_); (first | ((with_reducible show wpAny _ _ (call _ _ _) _ _ _); first | (k_here; (with_reducible show wpAny _ _ (call (Value.builtin "iter") [Value.ref _]) _ _ _); k_dflt (refine iter_gen (by k_asm) (by (first | k_mem | (repeat (first | assumption | refine List.Mem.tail _ ?_)))) ?_; k_whole)) | (k_here; (with_reducible show wpAny _ _ (call (Value.ref 52) _) _ _ _); k_dflt (refine whole_use (by decide) (by decide) (by k_asm) (by k_asm) (by k_asm) (by k_asm) (by exact rfl) (by ktr_room) (by ktr_units) ?_; k_whole); intro h' tk' F' N'; (try k_sweep))) | ((with_reducible show wpAny _ _ (exec _ _) _ _ _); ((with_reducible show wpAny _ _ (exec (Stmt.For (Expr.Name ..) (Expr.Name ..) _ [] _) _) _ _ _); (k_here; (rename Fr _ _ _ _ => lF'); (with_unfolding_all refine' For_turns lF' ?_; k_whole)))) | ((have mk9 : Mark9 := .mk); walk1; all_goals (try clear mk9)))) | (k_unfold; (try dsimp only)) | (k_end; kc_close) | walk1 | (dsimp only; walk1) | (leave1; walk_say "STEP leave1"; (try dsimp only)) | fail "no step"))
  (rename Fr _ _ _ _ => F3)
  (rename News _ _ _ _ => N3)
  show wpAny _ _ _ _ _ _
  refine forT_tup (σ := Unit) (vs := [.int 1 t1, .none]) (ps := fun _ => [(Str.ofString "self", .ref x), (Str.ofString "iterable", .ref Ga), (Str.ofString "args", .ref T')]) (Ld := fun _ => (T', tupOf [.int 1 t1, .none]) :: (x, instObj 85 dx) :: (dx, dictOf [] 0) :: news) (P := fun _ _ => True) () rfl (fun _ => .head _) F3 N3 ?_ (fun _ h => h) trivial ?_ ?_
  · intro p hp
    simp only [List.mem_cons, List.not_mem_nil, or_false] at hp
    rcases hp with rfl | rfl | rfl <;> rfl
  · rintro i v _ u h' tk' own hv _ ho F4 N4
    (try dsimp only at F4 N4)
    rcases i with _ | _ | i
    · obtain rfl : Value.int 1 t1 = v := by simpa using hv
      (repeat' (first | ((with_reducible refine sb_in ?_); (first | ((with_reducible show wpAny _ _ (call _ _ _) _ _ _); first | (k_here; (with_reducible show wpAny _ _ (call (Value.builtin "iter") [Value.ref _]) _ _ _); k_dflt (refine iter_gen (by k_asm) (by (first | k_mem | (repeat (first | assumption | refine List.Mem.tail _ ?_)))) ?_; k_whole)) | (k_here; (with_reducible show wpAny _ _ (call (Value.ref 52) _) _ _ _); k_dflt (refine whole_use (by decide) (by decide) (by k_asm) (by k_asm) (by k_asm) (by k_asm) (by exact rfl) (by ktr_room) (by ktr_units) ?_; k_whole); intro h' tk' F' N'; (try k_sweep))) | ((with_reducible show wpAny _ _ (exec _ _) _ _ _); ((with_reducible show wpAny _ _ (exec (Stmt.For (Expr.Name ..) (Expr.Name ..) _ [] _) _) _ _ _); (k_here; (rename Fr _ _ _ _ => lF'); (with_unfolding_all refine' For_turns lF' ?_; k_whole)))) | ((have mk9 : Mark9 := .mk); walk1; all_goals (try clear mk9)))) | (k_unfold; (try dsimp only)) | (k_end; kc_close) | walk1 | (dsimp only; walk1) | (leave1; walk_say "STEP leave1"; (try dsimp only)) | fail "no step"))
      (rename Fr _ _ _ _ => F5)
      (rename News _ _ _ _ => N5)
      refine stop_in ⟨(), _, _, _, _, rfl, F5, N5, ?_, (fun p hp => List.mem_append_left _ hp), (fun p hp => List.mem_append_right _ hp), ho, trivial⟩
      intro p hp
      simp only [List.mem_cons, List.not_mem_nil, or_false] at hp
      rcases hp with rfl | rfl | rfl <;> rfl
    · obtain rfl : Value.none = v := by simpa using hv
      (repeat' (first | ((with_reducible refine sb_in ?_); (first | ((with_reducible show wpAny _ _ (call _ _ _) _ _ _); first | (k_here; (with_reducible show wpAny _ _ (call (Value.builtin "iter") [Value.ref _]) _ _ _); k_dflt (refine iter_gen (by k_asm) (by (first | k_mem | (repeat (first | assumption | refine List.Mem.tail _ ?_)))) ?_; k_whole)) | (k_here; (with_reducible show wpAny _ _ (call (Value.ref 52) _) _ _ _); k_dflt (refine whole_use (by decide) (by decide) (by k_asm) (by k_asm) (by k_asm) (by k_asm) (by exact rfl) (by ktr_room) (by ktr_units) ?_; k_whole); intro h' tk' F' N'; (try k_sweep))) | ((with_reducible show wpAny _ _ (exec _ _) _ _ _); ((with_reducible show wpAny _ _ (exec (Stmt.For (Expr.Name ..) (Expr.Name ..) _ [] _) _) _ _ _); (k_here; (rename Fr _ _ _ _ => lF'); (with_unfolding_all refine' For_turns lF' ?_; k_whole)))) | ((have mk9 : Mark9 := .mk); walk1; all_goals (try clear mk9)))) | (k_unfold; (try dsimp only)) | (k_end; kc_close) | walk1 | (dsimp only; walk1) | (leave1; walk_say "STEP leave1"; (try dsimp only)) | fail "no step"))
      (rename Fr _ _ _ _ => F5)
      (rename News _ _ _ _ => N5)
      refine stop_in ⟨(), _, _, _, _, rfl, F5, N5, ?_, (fun p hp => List.mem_append_left _ hp), (fun p hp => List.mem_append_right _ hp), ho, trivial⟩
      intro p hp
      simp only [List.mem_cons, List.not_mem_nil, or_false] at hp
      rcases hp with rfl | rfl | rfl <;> rfl
    · simp at hv
  · rintro _ u h' tk' _ F4 N4
    (try dsimp only at F4 N4)
    replace F4 : Fr g2 L2 h' (fun y => if y = Str.ofString "self" then some (.ref x) else if y = Str.ofString "iterable" then some (.ref Ga) else if y = Str.ofString "args" then some (.ref T') else u y) := F4
    (repeat' (first | ((with_reducible refine sb_in ?_); (first | ((with_reducible show wpAny _ _ (call _ _ _) _ _ _); first | (k_here; (with_reducible show wpAny _ _ (call (Value.builtin "iter") [Value.ref _]) _ _ _); k_dflt (refine iter_gen (by k_asm) (by (first | k_mem | (repeat (first | assumption | refine List.Mem.tail _ ?_)))) ?_; k_whole)) | (k_here; (with_reducible show wpAny _ _ (call (Value.ref 52) _) _ _ _); k_dflt (refine whole_use (by decide) (by decide) (by k_asm) (by k_asm) (by k_asm) (by k_asm) (by exact rfl) (by ktr_room) (by ktr_units) ?_; k_whole); intro h' tk' F' N'; (try k_sweep))) | ((with_reducible show wpAny _ _ (exec _ _) _ _ _); ((with_reducible show wpAny _ _ (exec (Stmt.For (Expr.Name ..) (Expr.Name ..) _ [] _) _) _ _ _); (k_here; (rename Fr _ _ _ _ => lF'); (with_unfolding_all refine' For_turns lF' ?_; k_whole)))) | ((have mk9 : Mark9 := .mk); walk1; all_goals (try clear mk9)))) | (k_unfold; (try dsimp only)) | (k_end; kc_close) | walk1 | (dsimp only; walk1) | (leave1; walk_say "STEP leave1"; (try dsimp only)) | fail "no step"))
    (rename Fr h₀ _ _ _ => kF)
    (rename News h₀ _ _ _ => kN)

    exact hret x dx _ _ _ _ _ _ kF (fun p hp => kN p (.tail _ hp)) l1 l2
end Mine
end

section -- MPar
open PySem PySem.W PyProof.Rows PySem.Calls
set_option Elab.async false
set_option maxRecDepth 100000
set_option maxHeartbeats 8000000
namespace Mine
theorem flush_MPar : True := by w_top off; first | walk1 | trivial
local macro_rules | `(tactic| walk_at "call ref") => `(tactic| ((fail_if_success (with_reducible rename Mark9 => mz)); refine sb_out ?_))
noncomputable def ParRes (w : World) (hG : Heap) (val : Nat → Str) (D U n : Nat) (x : Str) (h₀ : Heap) (L : Addr) (m : Str → Option Value) (s : Shared) (news : Led) (Q : Value → Shared → Prop) : Prop :=
  ∀ X dX Ga Lg oL mL nm qn u1 u2 u3 u4 h' tk' gs t', Fr h₀ L h' m → News h₀ L h' ((X, islObj dX (.ref Ga) 0 u1 1 u2 u3 u4) :: (dX, dictOf [] 0) :: (Ga, genObj s.gens.size nm qn) :: (Lg, oL) :: news) → (∀ p ∈ news, p.1 < Lg) → Lg < Ga → Ga < dX → dX < X →
    LCg.NsObj oL mL → mL (Str.ofString "path") = some (.str x t') → hG.objs.size ≤ Lg → GenAtZ w hG Lg val D U n x gs → Q (.ref X) { s with heap := h', toks := tk', gens := s.gens.push gs }
theorem par_core {w : World} {x : Str} {t1 : Tok} {hG : Heap} {D U n : Nat} {val : Nat → Str} (hD : DOk D) (hU : UOk U) (hlen : x.length ≤ 100) (hl : Left tstP splitHead val n (rstP x))
    (p : Program) (loose : List Str) (mean : ExcName → Option Value) (mg mb : Str → Option Value) (dp un : Nat) (gd : Option (List Code)) (cn : Str) (cs : Scope) (a : Addr) (ccd : Value) (cl : List (Str × Addr)) (outer : List Env) (A₀ : Around) (base h₀ : Heap) (L : Addr) (m : Str → Option Value) (news : Led) (s : Shared) (Q E : Value → Shared → Prop)
    (B : Below A₀ base outer h₀) (F : Fr h₀ L s.heap m) (X : (Mine.heapK w.params).In h₀) (N : News h₀ L s.heap news) (T : Top p loose mean mg mb h₀) (hkd : cs.kind = .function) (hroom : dp + 30 < recursionLimit) (hun : un + 500 < cLine)
    (hGX : (Mine.heapK w.params).In hG) (hGT : Top p loose mean mg mb hG) (hGs : ∀ b o, hG.get? b = some o → h₀.get? b = some o) (hGz : hG.objs.size ≤ h₀.objs.size)
    (hret : ParRes w hG val D U n x h₀ L m s news Q) :
    wpAny (model P0 w) (ktrTop dp un gd cn cs L a ccd cl outer) (call (.ref 99) [.str x t1]) Q E s := by
  revert X hGX B
  delta P0
  k_fill
  intro B X hGX
  refine wpAny_call ?_
  k_dflt ktr_enter
  refine fold_AE ?_
  intro A9 e9
  (rename Fr h₀ _ _ _ => FG)
  have hGs2 := fun b o e => FG.keep b o (hGs b o e)
  have hGz2 := Nat.le_trans hGz (Nat.le_trans FG.above (Nat.le_of_lt FG.ns.lt))
  (repeat' (first | ((with_reducible refine sb_in ?_); (first | ((with_reducible show wpAny _ _ (call _ _ _) _ _ _); first | (k_here; (with_reducible show wpAny _ _ (call (Value.ref 85) _) _ _ _); k_dflt (refine' isl_make ?hG _ _ _ _ _ _ _ _ _ _ _ _ _ _ _ _ _ _ _ _ _ _ ?B ?F ?X ?N ?T ?kd ?d ?u ?_; (case B => k_asm); (case F => k_asm); (case X => k_asm); (case N => k_asm); (case hG => k_mem); (case T => k_asm); (case kd => exact rfl); (case d => ktr_room); (case u => ktr_units); k_whole); intro x' dx' u1' u2' u3' u4' h' tk' F' N' l3' l4'; (try k_sweep)) | (k_here; (with_reducible show wpAny _ _ (call (Value.ref 127) _) _ _ _); k_dflt (refine' anc_make ?hD ?hU ?len ?hl _ _ _ _ _ _ _ _ _ _ _ _ _ _ _ _ ?room ?F ?X ?N ?T ?GX ?GT ?Gs ?Gz ?_; (case hD => with_reducible assumption); (case hU => with_reducible assumption); (case len => assumption); (case hl => assumption); (case room => ktr_room); (case F => k_asm); (case X => k_asm); (case N => k_asm); (case T => k_asm); (case Gs => assumption); (case Gz => assumption); (case GX => assumption); (case GT => assumption); k_whole); intro Ga' Lg' oL' mL' nm' qn' h' tk' gs' t' F' N' l1' l2' ns' pa' z' ga'; (try k_sweep))) | ((have mk9 : Mark9 := .mk); walk1; all_goals (try clear mk9)))) | (k_unfold; (try dsimp only)) | (k_end; kc_close) | walk1 | (dsimp only; walk1) | (leave1; walk_say "STEP leave1"; (try dsimp only)) | fail "no step"))
  (rename Fr h₀ _ _ _ => kF)
  (rename News h₀ _ _ _ => kN)
  (rename (∀ p : Addr × Obj, p ∈ (_ :: _) → p.1 < _) => l9)
  exact hret _ _ _ _ _ _ _ _ _ _ _ _ _ _ _ _ kF kN (by assumption) (by assumption) (l9 _ (.head _)) (by assumption) (by assumption) (by assumption) (by assumption) (by assumption)
end Mine
end

section -- MNxt
open PySem PySem.W PyProof.Rows PySem.Calls
set_option Elab.async false
set_option maxRecDepth 100000
set_option maxHeartbeats 8000000
namespace Mine
theorem own_stop : ownMembersOf (.type "StopIteration") [] = #[] := by first | rfl | decide +kernel
theorem newExc_stop {M : Model} {A : Around} {E : Value → Shared → Prop} {s : Shared} {Q : Value → Shared → Prop} (h : ∀ h' e, Heap.MadeExc s.heap h' e "StopIteration" [] → Q (.ref e) { s with heap := h' }) : wpAny M A (newExc (.type "StopIteration") []) Q E s := by
  unfold newExc newTuple
  refine wpAny_bind (wpAny_newObj_type ?_ (by size_fits))
  refine wpAny_bind (m := firstArgMember _ _) (wpAny_of_eq (a := Value.none) (by first | rfl | (simp only [firstArgMember]; rfl)) ?_)
  rw [own_stop]
  refine wpAny_newObj_type (h _ _ ⟨fun b o hb => Heap.get?_push_of_some _ (Heap.get?_push_of_some _ hb), Heap.get?_none_of_le (by simp), s.heap.objs.size, ?_, Heap.get?_none_of_le (Nat.le_refl _), ?_⟩)
  · exact Heap.get?_push_size _ rfl
  · exact Heap.get?_push_of_some _ (Heap.get?_push_size _ rfl)
/-- only generator g may have moved -/
noncomputable def GOnly (g : Nat) (a b : Array GenState) : Prop := ∀ i, i ≠ g → b[i]? = a[i]?
theorem gonly_set {g : Nat} {a : Array GenState} {x y : GenState} : GOnly g a ((a.setIfInBounds g x).setIfInBounds g y) := fun i hi => by
  rw [Array.getElem?_setIfInBounds_ne (Ne.symm hi), Array.getElem?_setIfInBounds_ne (Ne.symm hi)]
noncomputable def FinG (g : Nat) (a b : Array GenState) : Prop := b[g]? = some .finished ∧ GOnly g a b
/-- the generator's own next, both ways -/
theorem gen_special {w : World} {A : Around} {hG : Heap} {Lg a g : Addr} {val : Nat → Str} {D U n : Nat} {x : Str} {gs : GenState} {s : Shared} {Q : Option Value → Shared → Prop} {E : Value → Shared → Prop}
    (hh : A.handled = none) (hd : A.depth ≤ D) (hu : A.units + 1 ≤ U) (hD : D < recursionLimit) (hl : s.heap.NoLimit) (hg : s.heap.IsGen a g) (hgs : s.gens[g]? = some gs) (hgo : GenAtZ w hG Lg val D U n x gs) (hfr : GenFr hG Lg x s.heap)
    (hY : ∀ k u h' tk gens' gs', n = k + 1 → gens'[g]? = some gs' → GOnly g s.gens gens' → (∀ b o, b ≠ Lg → s.heap.get? b = some o → h'.get? b = some o) → GenFr hG Lg (val k) h' → GenAtZ w hG Lg val D U k (val k) gs' → Q (some (.str (val k) u)) { s with heap := h', toks := tk, gens := gens' })
    (hE : ∀ h₁ h' tk gens' e, n = 0 → FinG g s.gens gens' → (∀ b o, b ≠ Lg → s.heap.get? b = some o → h₁.get? b = some o) → Heap.MadeExc h₁ h' e "StopIteration" [] → E (.ref e) { s with heap := h', toks := tk, gens := gens' }) :
    wpAny (model P0 w) A (callSpecial? (.ref a) (Str.ofString "__next__")) Q E s := by
  obtain ⟨U', rfl⟩ : ∃ U', U = U' + 1 := ⟨U - 1, by omega⟩
  have hlt : g < s.gens.size := (Array.getElem?_eq_some_iff.mp hgs).1
  refine wpAny_weak (A' := arQ D U' none none) hh.symm hd rfl rfl (by show A.units ≤ U'; omega) ?_
  refine wpAny_callSpecial?_slot (name := Str.ofString "__next__") hg.typeIs slot_gen_next
    (wpAny_call_entry slot_gen_next hg.typeIs entry_gen_next ?_ (args_gen_next _))
  show wpAny _ _ (Builtin.Generator.genWake (.ref a) (.send .none)) _ _ s
  unfold Builtin.Generator.genWake
  refine wpAny_bind (wpAny_holding (wpAny_genNumber hg (wpAny_bind (wpAny_genState hgs ?_))))
  have hgo' := hgo (s.setGen g .running) hfr
  cases gs with
  | running => exact hgo'.elim
  | finished => exact hgo'.elim
  | _ =>
    refine wpAny_bind (wpAny_roomToWake hl hD ?_)
    show wpAny _ _ (.resume g (.send .none) [] _) _ _ s
    refine wpAny_resume hgs hgo' (fun y s₁ hx => ?_) (fun v s₁ gs' hv => ?_)
    · obtain ⟨rfl, hn, ⟨⟨h1, tk, rfl⟩, hk⟩⟩ := hx
      show wpAny _ _ (newExc (.type "StopIteration") [] >>= _) _ _ _
      refine wpAny_bind (newExc_stop (fun h' e hm => ?_))
      exact wpAny_bind (wpAny_raiseNew_none (A := (arQ D U' none none).in1) rfl (hE h1 h' tk _ e hn ⟨by show ((s.gens.setIfInBounds g .running).setIfInBounds g .finished)[g]? = _; simp [hlt], gonly_set⟩ hk hm))
    · cases n with
      | zero =>
        obtain ⟨u, rfl, ⟨⟨h', tk, rfl⟩, hk⟩, hf, hg2⟩ := hv
        exact (hg2 _ hf).elim
      | succ k =>
        obtain ⟨u, rfl, ⟨⟨h', tk, rfl⟩, hk⟩, hf, hg2⟩ := hv
        refine wpAny_pure ⟨_, rfl, hY k u h' tk _ gs' rfl ?_ gonly_set hk hf fun s'' hf'' => hg2 s'' hf''⟩
        show ((s.gens.setIfInBounds g .running).setIfInBounds g gs')[g]? = some gs'
        simp [hlt]
theorem gen_next_K {w : World} {A : Around} {hG : Heap} {Lg Ga g : Nat} {val : Nat → Str} {D U n : Nat} {x : Str} {gs : GenState} {nm qn : Value} {oL : Obj} {mL : Str → Option Value} {t : Tok} {p : Program} {loose : List Str} {mean : ExcName → Option Value} {mg mb : Str → Option Value} {h₀ : Heap} {L : Addr} {m : Str → Option Value} {pre post : Led} {s : Shared} {Q E : Value → Shared → Prop}
    (F : Fr h₀ L s.heap m) (T : Top p loose mean mg mb h₀) (N : News h₀ L s.heap (pre ++ (Lg, oL) :: post)) (h1 : ∀ q ∈ pre, q.1 ≠ Lg) (h2 : ∀ q ∈ post, q.1 ≠ Lg) (hGa : (Ga, genObj g nm qn) ∈ pre ++ (Lg, oL) :: post)
    (hh : A.handled = none) (hd : A.depth ≤ D) (hu : A.units + 5 ≤ U) (hD : D < recursionLimit) (hgs : s.gens[g]? = some gs) (hgo : GenAtZ w hG Lg val D U n x gs) (hns : LCg.NsObj oL mL) (hpa : mL (Str.ofString "path") = some (.str x t)) (hx : x.length ≤ 100) (hGs : ∀ b o, hG.get? b = some o → h₀.get? b = some o) (hz : hG.objs.size ≤ Lg)
    (hY : ∀ k u h' tk gens' gs' oL' mL' t', n = k + 1 → gens'[g]? = some gs' → GOnly g s.gens gens' → Fr h₀ L h' m → News h₀ L h' (pre ++ (Lg, oL') :: post) → LCg.NsObj oL' mL' → mL' (Str.ofString "path") = some (.str (val k) t') → (val k).length ≤ 100 → GenAtZ w hG Lg val D U k (val k) gs' → Q (.str (val k) u) { s with heap := h', toks := tk, gens := gens' })
    (hE : ∀ h₁ h' tk gens' e, n = 0 → FinG g s.gens gens' → Fr h₀ L h₁ m → News h₀ L h₁ (pre ++ post) → Heap.MadeExc h₁ h' e "StopIteration" [] → E (.ref e) { s with heap := h', toks := tk, gens := gens' }) :
    wpAny (model P0 w) A (call (.builtin "next") [.ref Ga]) Q E s := by
  have hg : s.heap.IsGen Ga g := ⟨_, nm, qn, (N _ hGa).1, rfl, rfl, rfl⟩
  have hLm := N (Lg, oL) (List.mem_append_right _ (.head _))
  have hfr : GenFr hG Lg x s.heap := ⟨t, mL, ⟨hns.ns hLm.1, fun b o e => F.keep b o (hGs b o e), hz⟩, hpa, hx⟩
  have frK : ∀ h', (∀ b o, b ≠ Lg → s.heap.get? b = some o → h'.get? b = some o) → Fr h₀ L h' m := fun h' hk =>
    ⟨F.ns.at fun o e => hk L o (fun q => hLm.2.1 q.symm) e, fun b o e => hk b o (fun q => by rw [q, hLm.2.2] at e; cases e) (F.keep b o e), F.above⟩
  have newsK : ∀ h' oL', (∀ b o, b ≠ Lg → s.heap.get? b = some o → h'.get? b = some o) → h'.get? Lg = some oL' → News h₀ L h' (pre ++ (Lg, oL') :: post) := by
    intro h' oL' hk hL' q hq
    rcases List.mem_append.mp hq with hq | hq
    · have z := N q (List.mem_append_left _ hq)
      exact ⟨hk _ _ (h1 q hq) z.1, z.2⟩
    · rcases List.mem_cons.mp hq with rfl | hq
      · exact ⟨hL', hLm.2⟩
      · have z := N q (List.mem_append_right _ (.tail _ hq))
        exact ⟨hk _ _ (h2 q hq) z.1, z.2⟩
  refine call_function_entry (by decide +kernel) (by decide +kernel) kdk_entry_next (kdk_args_next _) ?_
  unfold Builtin.«next»
  refine wpAny_bind (m := someArgs "next" 1 2 _) (wpAny_of_eq (a := [Value.ref Ga]) (by first | rfl | kernel_rfl!) ?_)
  dsimp only
  refine wpAny_bind (wpAny_specialOf (name := Str.ofString "__next__") hg.typeIs slot_gen_next.lookup ?_)
  refine wpAny_ite_split (fun hab => absurd hab (by decide)) (fun _ => ?_)
  refine wpAny_bind (gen_special (hG := hG) (Lg := Lg) (val := val) (D := D) (U := U) (n := n) (x := x) (gs := gs) hh hd (by show A.units + 1 + 1 ≤ U; omega) hD (T.nolimit.keeps F.keep) hg hgs hgo hfr (fun k u h' tk gens' gs' hn hgs' hgo2 hk hf hgo' => ?_) (fun h₁ h' tk gens' e hn hfg hk hm => ?_))
  · obtain ⟨t', m', F', hp', hl'⟩ := hf
    obtain ⟨oL', hoL', hnL'⟩ := LCg.ns_obj F'.ns
    exact wpAny_pure ⟨_, rfl, hY k u h' tk gens' gs' oL' m' t' hn hgs' hgo2 (frK _ hk) (newsK _ _ hk hoL') hnL' hp' hl' hgo'⟩
  · refine hE h₁ h' tk gens' e hn hfg (frK _ hk) (fun q hq => ?_) hm
    rcases List.mem_append.mp hq with hq | hq
    · have z := N q (List.mem_append_left _ hq)
      exact ⟨hk _ _ (h1 q hq) z.1, z.2⟩
    · have z := N q (List.mem_append_right _ (.tail _ hq))
      exact ⟨hk _ _ (h2 q hq) z.1, z.2⟩
end Mine
end

section -- MExc
open PySem PySem.W PyProof.Rows PySem.Calls
set_option Elab.async false
set_option maxRecDepth 100000
set_option maxHeartbeats 8000000
namespace Mine
section
variable {M : Model} {A : Around} {E : Value → Shared → Prop} {s : Shared}
theorem noteFrame_firstW {base : Heap} {env : Env} {outer : List Env} {L e : Addr} {oe : Obj} {vs : Array Value} {a0 : Value} {Q : Unit → Shared → Prop}
    (hfr : A.frames = some (env :: outer)) (hl : s.heap.FunFrames base (env :: outer)) (hf : env.frame = some L) (he : s.heap.get? e = some oe) (hkb : base.StaysIn s.heap) (hen : base.get? e = none) (hd : oe.data = .fields vs) (h1 : vs[1]? = some .none) (h0 : vs[0]? = some a0)
    (h : ∀ h', Heap.NotedW base (env :: outer) e oe.cls a0 (rawInt L) s.heap h' → Q () { s with heap := h' }) : wpAny M A (noteFrame (.ref e) env) Q E s := by
  unfold noteFrame
  simp only [hf]
  refine wpAny_bind (wpAny_field he hd h1 ?_)
  rw [if_neg (by decide)]
  exact wpAny_entryW hfr hl hf he hkb hen hd (Array.getElem?_eq_some_iff.mp h1).1 h0 h
theorem funFrames_B {base B h : Heap} : ∀ {l : List Env}, h.FunFrames base l → (∀ env ∈ l, ∀ a, env.frame = some a → B.get? a = none) → h.FunFrames B l
  | [], _, _ => trivial
  | env :: _, ⟨hk, ⟨L, o, hf, _, ho, hd⟩, hr⟩, hin => ⟨hk, ⟨L, o, hf, hin env (.head _) L hf, ho, hd⟩, funFrames_B hr fun e he => hin e (.tail _ he)⟩
theorem exists_B (base h : Heap) (news : Led) (h1 : ∀ b o, base.get? b = some o → h.get? b = some o) (h2 : ∀ p ∈ news, h.get? p.1 = some p.2) :
    ∃ B : Heap, (∀ b o, B.get? b = some o → h.get? b = some o) ∧ base.StaysIn B ∧ (∀ p ∈ news, B.get? p.1 = some p.2) ∧ (∀ b, base.get? b = none → (∀ p ∈ news, p.1 ≠ b) → B.get? b = none) := by
  refine ⟨hideAll h ((List.range h.objs.size).filter fun b => (base.get? b).isNone && !(news.any fun p => @decide (p.1 = b) (Nat.decEq p.1 b))), fun b o e => of_hideAll _ e, fun b o e => ?_, fun p hp => ?_, fun b hb hn => ?_⟩
  · refine hideAll_get _ (h1 b o e) fun hm => ?_
    have := (List.mem_filter.mp hm).2
    rw [e] at this
    simp at this
  · refine hideAll_get _ (h2 p hp) fun hm => ?_
    have := (List.mem_filter.mp hm).2
    have h3 : (news.any fun q => @decide (q.1 = p.1) (Nat.decEq q.1 p.1)) = true := List.any_eq_true.mpr ⟨p, hp, by simp⟩
    rw [h3] at this
    simp at this
  · cases q : (hideAll h ((List.range h.objs.size).filter fun b => (base.get? b).isNone && !(news.any fun p => @decide (p.1 = b) (Nat.decEq p.1 b)))).get? b with
    | none => rfl
    | some o =>
      have hq := of_hideAll _ q
      have hm : b ∈ (List.range h.objs.size).filter fun b => (base.get? b).isNone && !(news.any fun p => @decide (p.1 = b) (Nat.decEq p.1 b)) := by
        refine List.mem_filter.mpr ⟨List.mem_range.mpr (Heap.lt_size hq), ?_⟩
        rw [hb]
        have h3 : (news.any fun q => @decide (q.1 = b) (Nat.decEq q.1 b)) = false := by
          rw [List.any_eq_false]
          intro p hp
          simpa using hn p hp
        rw [h3]
        rfl
      rw [hideAll_none _ hm] at q
      cases q
theorem caught_new {B h₁ : Heap} {env : Env} {rest : List Env} {L e : Addr} {Q : Unit → Shared → Prop} (hfr : A.frames = some (env :: rest)) (hf : env.frame = some L) (hl : h₁.FunFrames B (env :: rest)) (hB : B.StaysIn h₁) (hx : Heap.MadeExc h₁ s.heap e "StopIteration" [])
    (h : ∀ h' t, Heap.FlyingW B (env :: rest) e (.type "StopIteration") (.ref t) h' → h₁.UpToSlots h' → Q () { s with heap := h' }) :
    wpAny M A (noteFrame (.ref e) env) (fun _ s₂ => wpAny M A (setFlight (.ref e) none) Q E s₂) E s := by
  obtain ⟨t, he, _, _⟩ := hx.there
  have hen : B.get? e = none := by
    cases q : B.get? e with
    | none => rfl
    | some o =>
      have := hB e o q
      rw [hx.new] at this
      cases this
  have hkb : B.StaysIn s.heap := fun b o q => hx.keeps b o (hB b o q)
  have hl' : s.heap.FunFrames B (env :: rest) := hl.of_keeps fun b o q _ => ⟨o, hx.keeps b o q, rfl⟩
  refine noteFrame_firstW hfr hl' hf he hkb hen rfl rfl rfl fun h' hN => ?_
  obtain ⟨k1, k2, k3, k4⟩ := hN
  refine wpAny_landsW (l := env :: rest) (L := L) ⟨k1, hen, k2, k3⟩ fun h'' hfl hsm => ?_
  exact h h'' t hfl (((Heap.UpToSlots.of_keeps hx.keeps).trans k4).trans hsm)
end
section
variable {prog : Program} {w : World} {A : Around} {E : Value → Shared → Prop} {s : Shared} {base g h₁ : Heap} {L Lw f e : Addr} {m mw : Str → Option Value} {name : Str} {scope : Scope} {cd : Value} {envw : Env}
  {b₀ : Stmt} {suite : List Stmt} {pos np : Pos} {rest : List ExceptHandler} {Q : Flow → Shared → Prop} {news : Led} {mg mb : Str → Option Value}
theorem caught_S (hfr : A.frames = some [envOf name scope L f cd, envw]) (hw : envw.frame = some Lw) (hl : h₁.FunFrames base [envOf name scope L f cd, envw]) (Fk : ∀ b o, base.get? b = some o → h₁.get? b = some o) (hns : h₁.Ns L m) (hnw : h₁.Ns Lw mw) (hz : base.objs.size ≤ L) (hLw : L ≠ Lw)
    (N : ∀ q ∈ news, h₁.get? q.1 = some q.2 ∧ base.get? q.1 = none ∧ q.1 ≠ L ∧ q.1 ≠ Lw) (hx : Heap.MadeExc h₁ s.heap e "StopIteration" []) (Tg : base.Ns mainGlobals mg) (Tb : base.Ns builtinsNs mb) (hmg : mg (Str.ofString "BaseException") = none) (hv : mb (Str.ofString "BaseException") = some (.type "BaseException"))
    (hexc : isSubtype (.type "BaseException") (.type "BaseException") = pure true) (hnt : isSubtype (.type ((Manifest.find? "BaseException").elim "type" fun y => y.metatype)) (.type "tuple") = pure false) (hsub : isSubtype (.type "StopIteration") (.type "BaseException") = pure true)
    (k : ∀ h' oe vs T' oT ts oLw, Fr base L h' m → News base L h' ((e, oe) :: (T', oT) :: (Lw, oLw) :: news) → oe.cls = .type "StopIteration" → oe.data = .fields vs → vs[1]? = some (.ref T') → oT.data = .fields ts → ts[3]? = some .none → LCg.NsObj oLw mw → T' ≠ e → (∀ q ∈ news, q.1 ≠ T' ∧ q.1 ≠ e) → Lw ≠ T' → Lw ≠ e →
      wpAny (model prog w) (A.mark (some (.ref e))) (execs (b₀ :: suite) (envOf name scope L f cd)) Q E { s with heap := h' })
    (hk : scope.kind = .function := by rfl) (hxx : (envOf name scope L f cd).kindOf (Str.ofString "BaseException") = some .globalImplicit := by rfl)
    (hE : PassesOwnAt (model prog w) (A.mark (some (.ref e))) A (envOf name scope L f cd) E := by passes_own) :
    wpAny (model prog w) A (noteFrame (.ref e) (envOf name scope L f cd))
      (fun _ s₂ => wpAny (model prog w) A (setFlight (.ref e) none) (fun _ s₃ =>
        wpAny (model prog w) A (handleBy (.ref e) (envOf name scope L f cd) (.ExceptHandler (some (.Name (Str.ofString "BaseException") np)) none (b₀ :: suite) pos :: rest)) Q E s₃) E s₂) E s := by
  obtain ⟨B, b1, b2, b3, b4⟩ := exists_B base h₁ news Fk fun q hq => (N q hq).1
  have hbn : ∀ env' ∈ [envOf name scope L f cd, envw], ∀ a, env'.frame = some a → B.get? a = none := by
    intro env' he' a ha
    simp only [List.mem_cons, List.not_mem_nil, or_false] at he'
    have hbase := (hl.mem (List.mem_filterMap.mpr ⟨env', by simpa using he', ha⟩)).1
    rcases he' with rfl | rfl
    · have : L = a := Option.some.inj ha
      subst this
      exact b4 _ hbase fun q hq => (N q hq).2.2.1
    · rw [hw] at ha
      have : Lw = a := Option.some.inj ha
      subst this
      exact b4 _ hbase fun q hq => (N q hq).2.2.2
  have hlB := funFrames_B hl hbn
  refine caught_new hfr rfl hlB b1 hx fun h₅ t hfl hsm => ?_
  have F₅ : Fr base L h₅ m := ⟨hsm.ns hns, fun b o q => hfl.1 b o (b2 b o q), hz⟩
  obtain ⟨ob, hob, hobc⟩ := hfl.there
  refine wpAny_handleBy_builtin (X := "StopIteration") (T := "BaseException") (b := true) hexc hnt hsub (ld_builtin_at F₅ Tg hmg Tb hv ⟨rfl, ⟨ob, hob, hobc⟩, ?_⟩ hk hxx (by decide +kernel))
  refine lands_againW hfl fun h₆ hfl₆ hsm₆ => ?_
  have F₆ : Fr base L h₆ m := ⟨(hsm.trans hsm₆).ns hns, fun b o q => hfl₆.1 b o (b2 b o q), hz⟩
  obtain ⟨oLw, hoLw, hnLw⟩ := LCg.ns_obj ((hsm.trans hsm₆).ns hnw)
  obtain ⟨f1, f2, f3, oe, vs, T', oT, ts, a1, ⟨a2, a2'⟩, a3, a4, a5, a6, a7, a8, a9⟩ := hfl₆
  have notB : ∀ b, B.get? b = none → base.get? b = none := fun b hb => by
    cases q : base.get? b with
    | none => rfl
    | some o => have := b2 b o q; rw [hb] at this; cases this
  have hoLfields : ∀ b o, h₆.get? b = some o → (∃ vs, o.data = .fields vs) → b ≠ L := fun b o q ⟨vs', hd⟩ z => by
    obtain ⟨o', es, ep, q', hd', _⟩ := F₆.ns
    rw [z, q'] at q
    cases q
    rw [hd'] at hd
    cases hd
  have hLwb : base.get? Lw = none := (hl.mem (List.mem_filterMap.mpr ⟨envw, by simp, hw⟩)).1
  refine wpAny_passesOwnAt hE (k h₆ oe vs T' oT ts oLw F₆ ?_ a2 a3 a4 a8 a9 hnLw a6 ?_ ?_ ?_)
  rotate_left
  · intro q hq
    refine ⟨fun z => ?_, fun z => ?_⟩
    · have := b3 q hq
      rw [z, a5] at this
      cases this
    · have := b3 q hq
      rw [z, f2] at this
      cases this
  · intro z
    obtain ⟨es, ep, hd, _⟩ := hnLw
    rw [z, a7] at hoLw
    cases hoLw
    rw [hd] at a8
    cases a8
  · intro z
    obtain ⟨es, ep, hd, _⟩ := hnLw
    rw [z, a1] at hoLw
    cases hoLw
    rw [hd] at a3
    cases a3
  intro q hq
  simp only [List.mem_cons] at hq
  rcases hq with rfl | rfl | rfl | hq
  · exact ⟨a1, hoLfields _ _ a1 ⟨_, a3⟩, notB _ f2⟩
  · exact ⟨a7, hoLfields _ _ a7 ⟨_, a8⟩, notB _ a5⟩
  · exact ⟨hoLw, fun z => hLw z.symm, hLwb⟩
  · exact ⟨f1 _ _ (b3 q hq), (N q hq).2.2.1, (N q hq).2.1⟩
end
section
variable {M : Model} {A : Around} {E : Value → Shared → Prop} {s : Shared} {env : Env} {L e T' : Addr} {oe oT : Obj} {vs ts : Array Value}
theorem raise_bare {prog : Program} {w : World} {pos : Pos} {Q : Flow → Shared → Prop} (hf : env.frame = some L) (he : s.heap.get? e = some oe) (hd : oe.data = .fields vs) (h1 : vs[1]? = some (.ref T')) (hT : s.heap.get? T' = some oT) (hdT : oT.data = .fields ts) (h3 : 3 < ts.size)
    (h : ∀ h' oT' ts', Heap.SameBut T' s.heap h' → h'.get? T' = some oT' → oT'.data = .fields ts' → ts'[3]? = some (rawInt L) → E (.ref e) { s with heap := h' }) :
    wpAny (model prog w) (A.mark (some (.ref e))) (exec (.Raise none none pos) env) Q E s := by
  rw [arm_exec_Raise]
  refine wpAny_bind (wpAny_standAt ?_)
  show wpAny _ _ (raiseStmt env none none) _ _ _
  unfold raiseStmt
  refine wpAny_bind (wpAny_handled ?_)
  show wpAny _ _ (rule "raise.bare" >>= _) _ _ _
  refine wpAny_bind (wpAny_rule (wpAny_bind (wpAny_field he hd h1 ?_)))
  rw [if_neg (by simp)]
  refine wpAny_bind ?_
  unfold setFlight
  refine wpAny_bind (wpAny_field he hd h1 ?_)
  rw [if_pos (show (Value.ref T' != Value.none) = true from by simp)]
  rw [hf]
  refine wpAny_setField hT hdT h3 (wpAny_throw ?_)
  have hd3 := Obj.data_mapFields hdT (·.setIfInBounds 3 (rawInt L))
  exact h _ _ _ (Heap.SameBut.update ..) (Heap.get?_update_self _ hT (Obj.isFreed_of_fields hd3)) hd3 (by simp [h3])
theorem leave_again {Q : Unit → Shared → Prop} (hf : env.frame = some L) (he : s.heap.get? e = some oe) (hd : oe.data = .fields vs) (h1 : vs[1]? = some (.ref T')) (hT : s.heap.get? T' = some oT) (hdT : oT.data = .fields ts) (h3 : ts[3]? = some (rawInt L))
    (h : ∀ h', Heap.SameBut T' s.heap h' → Q () { s with heap := h' }) : wpAny M A (leaving env (.ref e)) Q E s := by
  unfold leaving
  refine wpAny_bind (wpAny_noteFrame_inFlight hf he hd h1 hT hdT h3 ?_)
  exact wpAny_setFlight_none he hd h1 hT hdT (Array.getElem?_eq_some_iff.mp h3).1 (h _ (Heap.SameBut.update ..))
end
end Mine
end

section -- MNx2
open PySem PySem.W PyProof.Rows PySem.Calls
set_option Elab.async false
set_option maxRecDepth 100000
set_option maxHeartbeats 8000000
namespace Mine
theorem flush_MNx2 : True := by w_top off; first | walk1 | trivial
structure NxFacts (w : World) (hG h₀ : Heap) (val : Nat → Str) (D U n : Nat) (x : Str) (Lg g : Nat) (oL : Obj) (mL : Str → Option Value) (t : Tok) (gs : GenState) (gens G0 : Array GenState) : Prop where
  gat : gens[g]? = some gs
  only : GOnly g G0 gens
  at_ : GenAtZ w hG Lg val D U n x gs
  ns : LCg.NsObj oL mL
  pa : mL (Str.ofString "path") = some (.str x t)
  len : x.length ≤ 100
  sub : ∀ b o, hG.get? b = some o → h₀.get? b = some o
  z : hG.objs.size ≤ Lg
theorem NxFacts.to {w : World} {hG h₀ h₁ : Heap} {val : Nat → Str} {D U n : Nat} {x : Str} {Lg g : Nat} {oL : Obj} {mL : Str → Option Value} {t : Tok} {gs : GenState} {gens G0 : Array GenState} (N : NxFacts w hG h₀ val D U n x Lg g oL mL t gs gens G0) (h : ∀ b o, hG.get? b = some o → h₁.get? b = some o) : NxFacts w hG h₁ val D U n x Lg g oL mL t gs gens G0 :=
  ⟨N.gat, N.only, N.at_, N.ns, N.pa, N.len, h, N.z⟩
theorem next_use {G0 : Array GenState} {w : World} {A : Around} {hG : Heap} {Lg Ga g : Nat} {val : Nat → Str} {D U n : Nat} {x : Str} {gs : GenState} {nm qn : Value} {oL : Obj} {mL : Str → Option Value} {t : Tok} {p : Program} {loose : List Str} {mean : ExcName → Option Value} {mg mb : Str → Option Value} {h₀ : Heap} {L : Addr} {m : Str → Option Value} {a1 a2 : Addr × Obj} {post : Led} {s : Shared} {Q E : Value → Shared → Prop}
    (F : Fr h₀ L s.heap m) (N : News h₀ L s.heap (a1 :: a2 :: (Ga, genObj g nm qn) :: (Lg, oL) :: post)) (T : Top p loose mean mg mb h₀) (hNx : NxFacts w hG h₀ val D U n x Lg g oL mL t gs s.gens G0) (hD0 : DOk D)
    (h1 : a1.1 ≠ Lg) (h2 : a2.1 ≠ Lg) (h3 : Ga ≠ Lg) (h4 : ∀ q ∈ post, q.1 ≠ Lg)
    (hh : A.handled = none) (hd : A.depth ≤ D) (hu : A.units + 5 ≤ U)
    (hY : ∀ k u h' tk gens' gs' oL' mL' t', n = k + 1 → Fr h₀ L h' m → News h₀ L h' (a1 :: a2 :: (Ga, genObj g nm qn) :: (Lg, oL') :: post) → NxFacts w hG h₀ val D U k (val k) Lg g oL' mL' t' gs' gens' G0 → Q (.str (val k) u) { s with heap := h', toks := tk, gens := gens' })
    (hE : ∀ h₁ h' tk gens' e, n = 0 → FinG g G0 gens' → Fr h₀ L h₁ m → News h₀ L h₁ (a1 :: a2 :: (Ga, genObj g nm qn) :: post) → Heap.MadeExc h₁ h' e "StopIteration" [] → E (.ref e) { s with heap := h', toks := tk, gens := gens' }) :
    wpAny (model P0 w) A (call (.builtin "next") [.ref Ga]) Q E s := by
  have hD : D + 20 < recursionLimit := hD0
  refine gen_next_K (pre := [a1, a2, (Ga, genObj g nm qn)]) (post := post) F T N ?_ h4 (.tail _ (.tail _ (.head _))) hh hd hu (by omega) hNx.gat hNx.at_ hNx.ns hNx.pa hNx.len hNx.sub hNx.z ?_ ?_
  · intro q hq
    simp only [List.mem_cons, List.not_mem_nil, or_false] at hq
    rcases hq with rfl | rfl | rfl <;> assumption
  · intro k u h' tk gens' gs' oL' mL' t' hn hg ho F' N' hns hpa hlen hat
    exact hY k u h' tk gens' gs' oL' mL' t' hn F' N' ⟨hg, fun i hi => (ho i hi).trans (hNx.only i hi), hat, hns, hpa, hlen, hNx.sub, hNx.z⟩
  · exact fun h₁ h' tk gens' e hn hf => hE h₁ h' tk gens' e hn ⟨hf.1, fun i hi => (hf.2 i hi).trans (hNx.only i hi)⟩
local macro_rules | `(tactic| walk_at "call builtin:next") => `(tactic| ((fail_if_success (with_reducible rename Mark9 => mz)); refine sb_out ?_))
local macro_rules | `(tactic| walk_at "WhlIf") => `(tactic| (first | (refine WhlIf.yes (by (simp only [decide_eq_true_eq]; omega)) ?_) | (refine WhlIf.no (by (simp only [decide_eq_false_iff_not]; omega)) ?_)))
theorem boot_BE : bootBuiltins (Str.ofString "BaseException") = some (.type "BaseException") := by decide +kernel
theorem sub_BE : isSubtype (.type "BaseException") (.type "BaseException") = pure true := by rw [isSubtype_type]; kernel_rfl
theorem nt_BE : isSubtype (.type ((Manifest.find? "BaseException").elim "type" fun y => y.metatype)) (.type "tuple") = pure false := by rw [isSubtype_type]; kernel_rfl
theorem sub_SI : isSubtype (.type "StopIteration") (.type "BaseException") = pure true := by rw [isSubtype_type]; kernel_rfl
theorem nxt_same {G0 : Array GenState} {w : World} {hG : Heap} {Lg Ga g X dX : Nat} {val : Nat → Str} {D U n : Nat} {x : Str} {gs : GenState} {nm qn : Value} {oL : Obj} {mL : Str → Option Value} {t u1 u2 u3 u4 : Tok} {news : Led} {j : Int} (hj : 2 ≤ j) (hj2 : j ≤ 1000) (hD : DOk D)
    (p : Program) (loose : List Str) (mean : ExcName → Option Value) (mg mb : Str → Option Value) (dp un : Nat) (gd : Option (List Code)) (cn : Str) (cs : Scope) (a : Addr) (ccd : Value) (cl : List (Str × Addr)) (A₀ : Around) (h₀ : Heap) (L : Addr) (m : Str → Option Value) (s : Shared) (Q E : Value → Shared → Prop)
    (B : Below A₀ h₀ [] h₀) (F : Fr h₀ L s.heap m) (K : (Mine.heapK w.params).In h₀) (N : News h₀ L s.heap ((X, islObj dX (.ref Ga) j u1 j u2 u3 u4) :: (dX, dictOf [] 0) :: (Ga, genObj g nm qn) :: (Lg, oL) :: news)) (T : Top p loose mean mg mb h₀) (hkd : cs.kind = .function) (hroom : dp + 20 < recursionLimit) (hun : un + 400 < cLine) (hDd : dp + 10 ≤ D) (hUu : un + 100 ≤ U)
    (hNx : NxFacts w hG h₀ val D U n x Lg g oL mL t gs s.gens G0) (h1 : X ≠ Lg) (h2 : dX ≠ Lg) (h3 : Ga ≠ Lg) (h4 : ∀ q ∈ news, q.1 ≠ Lg) (h5 : dX ≠ X) (h6 : Ga ≠ X) (h7 : OwnOff news [X])
    (hY : ∀ k u h' tk gens' gs' oL' mL' t' v1 v2, n = k + 1 → Fr h₀ L h' m → News h₀ L h' ((X, islObj dX (.ref Ga) (j + 1) v1 (j + 1) v2 u3 u4) :: (dX, dictOf [] 0) :: (Ga, genObj g nm qn) :: (Lg, oL') :: news) → NxFacts w hG h₀ val D U k (val k) Lg g oL' mL' t' gs' gens' G0 → Q (.str (val k) u) { s with heap := h', toks := tk, gens := gens' })
    (hE : ∀ e h' tk gens', n = 0 → FinG g G0 gens' → Fr h₀ L h' m → News h₀ L h' news → (∃ ob, h'.get? e = some ob ∧ ob.cls = .type "StopIteration") → E (.ref e) { s with heap := h', toks := tk, gens := gens' }) :
    wpAny (model P0 w) (ktrTop dp un gd cn cs L a ccd cl []) (call (.ref 81) [.ref X]) Q E s := by
  revert K
  delta P0
  k_fill
  intro K
  refine wpAny_call ?_
  k_dflt ktr_enter
  (rename Fr h₀ _ _ _ => FG)
  have hGs := hNx.sub
  replace hNx := hNx.to fun b o e => FG.keep b o (hGs b o e)
  (repeat' (first | ((with_reducible refine sb_in ?_); (first | ((with_reducible show wpAny _ _ (call _ _ _) _ _ _); (k_here; (with_reducible show wpAny _ _ (call (Value.builtin "next") [Value.ref _]) _ _ _); k_dflt (refine next_use (by k_asm) (by k_asm) (by k_asm) (by assumption) (by with_reducible assumption) (by assumption) (by assumption) (by assumption) (by assumption) (by exact rfl) (by (dsimp only [Around.deeper]; omega)) (by (dsimp only [Around.deeper]; omega)) ?_ ?_))) | ((have mk9 : Mark9 := .mk); walk1; all_goals (try clear mk9)))) | (k_unfold; (try dsimp only)) | (k_end; kc_close) | walk1 | (dsimp only; walk1) | (leave1; walk_say "STEP leave1"; (try dsimp only)) | fail "no step"))
  · (rename n = _ + 1 => hn)
    (rename NxFacts _ _ _ _ _ _ _ _ _ _ _ _ _ _ _ _ => hNx2)
    (rename Fr h₀ _ _ _ => kF)
    (rename News h₀ _ _ _ => kN)
    exact hY _ _ _ _ _ _ _ _ _ _ _ hn kF kN (hNx2.to hGs)
  · (rename n = 0 => hn)
    (rename FinG _ _ _ => hfg)
    (rename Heap.MadeExc _ _ _ _ _ => hx)
    (rename News _ _ _ _ => N9)
    (rename Fr _ _ _ _ => F9)
    (rename Below _ _ _ _ => B9)
    have hLL : L < _ := Nat.lt_of_lt_of_le FG.ns.lt F9.above
    refine caught_S (base := h₀) (Lw := L) (mw := m) (news := (X, islObj dX (.ref Ga) j u1 j u2 u3 u4) :: (dX, dictOf [] 0) :: (Ga, genObj g nm qn) :: news) rfl rfl (B9.push F9 rfl).frames (fun b o q => F9.keep b o (FG.keep b o q)) F9.ns (FG.ns.keeps F9.keep) (Nat.le_trans FG.above (Nat.le_of_lt hLL)) (Ne.symm (Nat.ne_of_lt hLL)) ?_ hx T.g T.b (mg_none_of K T.g (by k_is)) ((T.builtins _ (by decide +kernel)).trans boot_BE) sub_BE nt_BE sub_SI ?_
    · intro q hq
      have z := N q (by
        simp only [List.mem_cons] at hq ⊢
        rcases hq with h | h | h | h
        · exact .inl h
        · exact .inr (.inl h)
        · exact .inr (.inr (.inl h))
        · exact .inr (.inr (.inr (.inr h))))
      exact ⟨(N9 q hq).1, z.2.2, (N9 q hq).2.1, z.2.1⟩
    · intro h6 oe vs T' oT ts oLw F6 N6 c1 c2 c3 c4 c5 c6 c7 c8 c9 c10
      have d1 := neN (fun z => (c8 _ (.head _)).2 z.symm)
      have d2 := neN (fun z => (c8 _ (.head _)).1 z.symm)
      have d3 := neN (fun z => (N (X, islObj dX (.ref Ga) j u1 j u2 u3 u4) (.head _)).2.1 (z.symm : X = L))
      dsimp only at d1 d2
      (repeat' (first | ((with_reducible refine sb_in ?_); (first | ((with_reducible show wpAny _ _ (call _ _ _) _ _ _); (k_here; (with_reducible show wpAny _ _ (call (Value.builtin "next") [Value.ref _]) _ _ _); k_dflt (refine next_use (by k_asm) (by k_asm) (by k_asm) (by assumption) (by with_reducible assumption) (by assumption) (by assumption) (by assumption) (by assumption) (by exact rfl) (by (dsimp only [Around.deeper]; omega)) (by (dsimp only [Around.deeper]; omega)) ?_ ?_))) | ((have mk9 : Mark9 := .mk); walk1; all_goals (try clear mk9)))) | (k_unfold; (try dsimp only)) | (k_end; kc_close) | walk1 | (dsimp only; walk1) | (leave1; walk_say "STEP leave1"; (try dsimp only)) | fail "no step"))
      (rename News _ _ _ _ => N7)
      (rename Fr _ _ _ _ => F7)
      have zT := N7 _ (.tail _ (.head _))
      refine raise_bare rfl (N7 _ (.head _)).1 c2 c3 zT.1 c4 (Array.getElem?_eq_some_iff.mp c5).1 fun h8 oT' ts' hs8 hT8 hd8 h38 => ?_
      refine leave_again rfl ((hs8.2 _ (Ne.symm c7)).trans (N7 _ (.head _)).1) c2 c3 hT8 hd8 h38 fun h9 hs9 => ?_
      have hs : Heap.SameBut T' _ h9 := hs8.trans hs9
      have up : ∀ b o, b ≠ T' → _ → h9.get? b = some o := fun b o hb q => (hs.2 b hb).trans q
      refine hE _ h9 _ _ hn hfg ⟨c6.ns (up _ _ c9 (N7 _ (.tail _ (.tail _ (.head _)))).1), fun b o q => up b o (fun z => by rw [z, zT.2.2] at q; cases q) (F7.keep b o q), F.above⟩ (fun q hq => ?_) ⟨oe, up _ _ (Ne.symm c7) (N7 _ (.head _)).1, c1⟩
      exact ⟨up _ _ (c8 q (.tail _ (.tail _ (.tail _ hq)))).1 (N7 q (.tail _ (.tail _ (.tail _ (.tail _ (.tail _ (.tail _ hq))))))).1, (N q (.tail _ (.tail _ (.tail _ (.tail _ hq))))).2⟩
end Mine
end

section -- MNx3
open PySem PySem.W PyProof.Rows PySem.Calls
set_option Elab.async false
set_option maxRecDepth 100000
set_option maxHeartbeats 8000000
namespace Mine
theorem flush_MNx3 : True := by w_top off; first | walk1 | trivial
local macro_rules | `(tactic| walk_at "call builtin:next") => `(tactic| ((fail_if_success (with_reducible rename Mark9 => mz)); refine sb_out ?_))
local macro_rules | `(tactic| walk_at "WhlIf") => `(tactic| (first | (refine WhlIf.yes (by (simp only [decide_eq_true_eq]; omega)) ?_) | (refine WhlIf.no (by (simp only [decide_eq_false_iff_not]; omega)) ?_)))
theorem exc_begin {g' h₀ h₁ h₂ : Heap} {L' L : Addr} {X dX Ga Lg : Addr} {ox od oG ox0 od0 oG0 oL : Obj} {news : Led} (N9 : News g' L' h₁ ((X, ox) :: (dX, od) :: (Ga, oG) :: news)) (N : News h₀ L h₂ ((X, ox0) :: (dX, od0) :: (Ga, oG0) :: (Lg, oL) :: news)) :
    ∀ q ∈ (X, ox) :: (dX, od) :: (Ga, oG) :: news, h₁.get? q.1 = some q.2 ∧ h₀.get? q.1 = none ∧ q.1 ≠ L' ∧ q.1 ≠ L := by
  intro q hq
  have z9 := N9 q hq
  simp only [List.mem_cons] at hq
  rcases hq with rfl | rfl | rfl | hq
  · have z := N (X, ox0) (.head _)
    exact ⟨z9.1, z.2.2, z9.2.1, z.2.1⟩
  · have z := N (dX, od0) (.tail _ (.head _))
    exact ⟨z9.1, z.2.2, z9.2.1, z.2.1⟩
  · have z := N (Ga, oG0) (.tail _ (.tail _ (.head _)))
    exact ⟨z9.1, z.2.2, z9.2.1, z.2.1⟩
  · have z := N q (.tail _ (.tail _ (.tail _ (.tail _ hq))))
    exact ⟨z9.1, z.2.2, z9.2.1, z.2.1⟩
theorem nxt_first {G0 : Array GenState} {w : World} {hG : Heap} {Lg Ga g X dX : Nat} {val : Nat → Str} {D U n : Nat} {x : Str} {gs : GenState} {nm qn : Value} {oL : Obj} {mL : Str → Option Value} {t u1 u2 u3 u4 : Tok} {news : Led} (hD : DOk D)
    (p : Program) (loose : List Str) (mean : ExcName → Option Value) (mg mb : Str → Option Value) (dp un : Nat) (gd : Option (List Code)) (cn : Str) (cs : Scope) (a : Addr) (ccd : Value) (cl : List (Str × Addr)) (A₀ : Around) (h₀ : Heap) (L : Addr) (m : Str → Option Value) (s : Shared) (Q E : Value → Shared → Prop)
    (B : Below A₀ h₀ [] h₀) (F : Fr h₀ L s.heap m) (K : (Mine.heapK w.params).In h₀) (N : News h₀ L s.heap ((X, islObj dX (.ref Ga) 0 u1 1 u2 u3 u4) :: (dX, dictOf [] 0) :: (Ga, genObj g nm qn) :: (Lg, oL) :: news)) (T : Top p loose mean mg mb h₀) (hkd : cs.kind = .function) (hroom : dp + 20 < recursionLimit) (hun : un + 400 < cLine) (hDd : dp + 10 ≤ D) (hUu : un + 100 ≤ U)
    (hNx : NxFacts w hG h₀ val D U n x Lg g oL mL t gs s.gens G0) (h1 : X ≠ Lg) (h2 : dX ≠ Lg) (h3 : Ga ≠ Lg) (h4 : ∀ q ∈ news, q.1 ≠ Lg) (h5 : dX ≠ X) (h6 : Ga ≠ X) (h7 : OwnOff news [X])
    (hY : ∀ k u h' tk gens' gs' oL' mL' t' v1 v2, n = k + 2 → Fr h₀ L h' m → News h₀ L h' ((X, islObj dX (.ref Ga) 2 v1 2 v2 u3 u4) :: (dX, dictOf [] 0) :: (Ga, genObj g nm qn) :: (Lg, oL') :: news) → NxFacts w hG h₀ val D U k (val k) Lg g oL' mL' t' gs' gens' G0 → Q (.str (val k) u) { s with heap := h', toks := tk, gens := gens' })
    (hE : ∀ e h' tk gens', n ≤ 1 → FinG g G0 gens' → Fr h₀ L h' m → News h₀ L h' news → (∃ ob, h'.get? e = some ob ∧ ob.cls = .type "StopIteration") → E (.ref e) { s with heap := h', toks := tk, gens := gens' }) :
    wpAny (model P0 w) (ktrTop dp un gd cn cs L a ccd cl []) (call (.ref 81) [.ref X]) Q E s := by
  revert K
  delta P0
  k_fill
  intro K
  refine wpAny_call ?_
  k_dflt ktr_enter
  (rename Fr h₀ _ _ _ => FG)
  have hGs := hNx.sub
  replace hNx := hNx.to fun b o e => FG.keep b o (hGs b o e)
  (repeat' (first | ((with_reducible refine sb_in ?_); (first | ((with_reducible show wpAny _ _ (call _ _ _) _ _ _); (k_here; (with_reducible show wpAny _ _ (call (Value.builtin "next") [Value.ref _]) _ _ _); k_dflt (refine next_use (by k_asm) (by k_asm) (by k_asm) (by assumption) (by with_reducible assumption) (by assumption) (by assumption) (by assumption) (by assumption) (by exact rfl) (by (dsimp only [Around.deeper]; omega)) (by (dsimp only [Around.deeper]; omega)) ?_ ?_))) | ((have mk9 : Mark9 := .mk); walk1; all_goals (try clear mk9)))) | (k_unfold; (try dsimp only)) | (k_end; kc_close) | walk1 | (dsimp only; walk1) | (leave1; walk_say "STEP leave1"; (try dsimp only)) | fail "no step"))
  · (rename _ = _ + 1 => hn)
    (rename n = _ + 1 => hn2)
    (rename NxFacts _ _ _ _ _ _ _ _ _ _ _ _ _ _ _ _ => hNx2)
    (rename Fr h₀ _ _ _ => kF)
    (rename News h₀ _ _ _ => kN)
    exact hY _ _ _ _ _ _ _ _ _ _ _ (by omega) kF kN (hNx2.to hGs)
  · (rename n = _ => hn)
    (rename FinG _ _ _ => hfg)
    (rename Heap.MadeExc _ _ _ _ _ => hx)
    (rename News _ _ _ _ => N9)
    (rename Fr _ _ _ _ => F9)
    (rename Below _ _ _ _ => B9)
    have hLL : L < _ := Nat.lt_of_lt_of_le FG.ns.lt F9.above
    refine caught_S (base := h₀) (Lw := L) (mw := m) rfl rfl (B9.push F9 rfl).frames (fun b o q => F9.keep b o (FG.keep b o q)) F9.ns (FG.ns.keeps F9.keep) (Nat.le_trans FG.above (Nat.le_of_lt hLL)) (Ne.symm (Nat.ne_of_lt hLL)) (exc_begin N9 N) hx T.g T.b (mg_none_of K T.g (by k_is)) ((T.builtins _ (by decide +kernel)).trans boot_BE) sub_BE nt_BE sub_SI ?_
    intro h6 oe vs T' oT ts oLw F6 N6 c1 c2 c3 c4 c5 c6 c7 c8 c9 c10
    have d1 := neN (fun z => (c8 _ (.head _)).2 z.symm)
    have d2 := neN (fun z => (c8 _ (.head _)).1 z.symm)
    have d3 := neN (fun z => (N (X, islObj dX (.ref Ga) 0 u1 1 u2 u3 u4) (.head _)).2.1 (z.symm : X = L))
    dsimp only at d1 d2
    (repeat' (first | ((with_reducible refine sb_in ?_); (first | ((with_reducible show wpAny _ _ (call _ _ _) _ _ _); (k_here; (with_reducible show wpAny _ _ (call (Value.builtin "next") [Value.ref _]) _ _ _); k_dflt (refine next_use (by k_asm) (by k_asm) (by k_asm) (by assumption) (by with_reducible assumption) (by assumption) (by assumption) (by assumption) (by assumption) (by exact rfl) (by (dsimp only [Around.deeper]; omega)) (by (dsimp only [Around.deeper]; omega)) ?_ ?_))) | ((have mk9 : Mark9 := .mk); walk1; all_goals (try clear mk9)))) | (k_unfold; (try dsimp only)) | (k_end; kc_close) | walk1 | (dsimp only; walk1) | (leave1; walk_say "STEP leave1"; (try dsimp only)) | fail "no step"))
    (rename News _ _ _ _ => N7)
    (rename Fr _ _ _ _ => F7)
    have zT := N7 _ (.tail _ (.head _))
    refine raise_bare rfl (N7 _ (.head _)).1 c2 c3 zT.1 c4 (Array.getElem?_eq_some_iff.mp c5).1 fun h8 oT' ts' hs8 hT8 hd8 h38 => ?_
    refine leave_again rfl ((hs8.2 _ (Ne.symm c7)).trans (N7 _ (.head _)).1) c2 c3 hT8 hd8 h38 fun h9 hs9 => ?_
    have hs : Heap.SameBut T' _ h9 := hs8.trans hs9
    have up : ∀ b o, b ≠ T' → _ → h9.get? b = some o := fun b o hb q => (hs.2 b hb).trans q
    refine hE _ h9 _ _ (by omega) hfg ⟨c6.ns (up _ _ c9 (N7 _ (.tail _ (.tail _ (.head _)))).1), fun b o q => up b o (fun z => by rw [z, zT.2.2] at q; cases q) (F7.keep b o q), F.above⟩ (fun q hq => ?_) ⟨oe, up _ _ (Ne.symm c7) (N7 _ (.head _)).1, c1⟩
    exact ⟨up _ _ (c8 q (.tail _ (.tail _ (.tail _ hq)))).1 (N7 q (.tail _ (.tail _ (.tail _ (.tail _ (.tail _ (.tail _ hq))))))).1, (N q (.tail _ (.tail _ (.tail _ (.tail _ hq))))).2⟩
  · (rename n = _ => hn)
    (rename FinG _ _ _ => hfg)
    (rename Heap.MadeExc _ _ _ _ _ => hx)
    (rename News _ _ _ _ => N9)
    (rename Fr _ _ _ _ => F9)
    (rename Below _ _ _ _ => B9)
    have hLL : L < _ := Nat.lt_of_lt_of_le FG.ns.lt F9.above
    refine caught_S (base := h₀) (Lw := L) (mw := m) rfl rfl (B9.push F9 rfl).frames (fun b o q => F9.keep b o (FG.keep b o q)) F9.ns (FG.ns.keeps F9.keep) (Nat.le_trans FG.above (Nat.le_of_lt hLL)) (Ne.symm (Nat.ne_of_lt hLL)) (exc_begin N9 N) hx T.g T.b (mg_none_of K T.g (by k_is)) ((T.builtins _ (by decide +kernel)).trans boot_BE) sub_BE nt_BE sub_SI ?_
    intro h6 oe vs T' oT ts oLw F6 N6 c1 c2 c3 c4 c5 c6 c7 c8 c9 c10
    have d1 := neN (fun z => (c8 _ (.head _)).2 z.symm)
    have d2 := neN (fun z => (c8 _ (.head _)).1 z.symm)
    have d3 := neN (fun z => (N (X, islObj dX (.ref Ga) 0 u1 1 u2 u3 u4) (.head _)).2.1 (z.symm : X = L))
    dsimp only at d1 d2
    (repeat' (first | ((with_reducible refine sb_in ?_); (first | ((with_reducible show wpAny _ _ (call _ _ _) _ _ _); (k_here; (with_reducible show wpAny _ _ (call (Value.builtin "next") [Value.ref _]) _ _ _); k_dflt (refine next_use (by k_asm) (by k_asm) (by k_asm) (by assumption) (by with_reducible assumption) (by assumption) (by assumption) (by assumption) (by assumption) (by exact rfl) (by (dsimp only [Around.deeper]; omega)) (by (dsimp only [Around.deeper]; omega)) ?_ ?_))) | ((have mk9 : Mark9 := .mk); walk1; all_goals (try clear mk9)))) | (k_unfold; (try dsimp only)) | (k_end; kc_close) | walk1 | (dsimp only; walk1) | (leave1; walk_say "STEP leave1"; (try dsimp only)) | fail "no step"))
    (rename News _ _ _ _ => N7)
    (rename Fr _ _ _ _ => F7)
    have zT := N7 _ (.tail _ (.head _))
    refine raise_bare rfl (N7 _ (.head _)).1 c2 c3 zT.1 c4 (Array.getElem?_eq_some_iff.mp c5).1 fun h8 oT' ts' hs8 hT8 hd8 h38 => ?_
    refine leave_again rfl ((hs8.2 _ (Ne.symm c7)).trans (N7 _ (.head _)).1) c2 c3 hT8 hd8 h38 fun h9 hs9 => ?_
    have hs : Heap.SameBut T' _ h9 := hs8.trans hs9
    have up : ∀ b o, b ≠ T' → _ → h9.get? b = some o := fun b o hb q => (hs.2 b hb).trans q
    refine hE _ h9 _ _ (by omega) hfg ⟨c6.ns (up _ _ c9 (N7 _ (.tail _ (.tail _ (.head _)))).1), fun b o q => up b o (fun z => by rw [z, zT.2.2] at q; cases q) (F7.keep b o q), F.above⟩ (fun q hq => ?_) ⟨oe, up _ _ (Ne.symm c7) (N7 _ (.head _)).1, c1⟩
    exact ⟨up _ _ (c8 q (.tail _ (.tail _ (.tail _ hq)))).1 (N7 q (.tail _ (.tail _ (.tail _ (.tail _ (.tail _ (.tail _ hq))))))).1, (N q (.tail _ (.tail _ (.tail _ (.tail _ hq))))).2⟩
end Mine
end

section -- MFnd
open PySem PySem.W PyProof.Rows PySem.Calls
set_option Elab.async false
set_option maxRecDepth 100000
set_option maxHeartbeats 8000000
namespace Mine
theorem flush_MFnd : True := by w_top off; first | walk1 | trivial
theorem find_next (w : World) : (findIn (Mine.heapK w.params) (.ref 85) "__next__" = some (some (.ref 81)) ∧ isFn (Mine.heapK w.params) (.ref 81) = true ∧ findIn (Mine.heapK w.params) (.ref 85) "__len__" = some none ∧ findIn (Mine.heapK w.params) (.ref 85) "__length_hint__" = some none ∧ findIn (Mine.heapK w.params) (.ref 85) "__iter__" = some (some (.ref 74)) ∧ isFn (Mine.heapK w.params) (.ref 74) = true) ∧ (P0 = P0) := by
  delta P0
  k_fill
  refine ⟨⟨?h1, ?h2, ?h3, ?h4, ?h5, ?h6⟩, rfl⟩
  case h1 => k_is
  case h2 => k_is
  case h3 => k_is
  case h4 => k_is
  case h5 => k_is
  case h6 => k_is
local macro_rules | `(tactic| walk_at "LeaveQ") => `(tactic| (k_here; refine stop_out ?_))
theorem iter_core {w : World} {X : Addr} : ConQ w 74 [.ref X] 2 40 (fun r _ => r = .ref X) := by
  delta ConQ P0
  k_fill
  intro p loose mean mg mb dp un fr gd s Q E hroom hun K T hret
  refine wpAny_call ?_
  k_dflt (refine' code_defQ ?k1 ?k2 ?k6 ?k7 ?k8 ?k9 ?kB ?_ ?c2 ?c3 ?c4 ?c5; (case k1 => k_asm); (case k2 => k_asm); (case k6 => k_is); (case k7 => k_is); (case k8 => ktr_room); (case k9 => exact BindsTo.of_eq rfl); (case c5 => decide); (case kB => exact locs rfl); (case c2 => exact rfl); (case c3 => exact rfl); (case c4 => exact rfl); k_whole; intro g' L' h' F' N' X' T'; (try dsimp only); (try k_fold))
  k_steps
  (rename Fr _ _ _ _ => F9)
  exact stop_in (leaveQ_ F9 fun hk => hret _ _ _ hk rfl)
end Mine
end

section -- MLst
open PySem PySem.W PyProof.Rows PySem.Calls
set_option Elab.async false
set_option maxRecDepth 100000
set_option maxHeartbeats 8000000
namespace Mine
noncomputable def outs (val : Nat → Str) (n : Nat) : List Str := (List.range n).reverse.map val
theorem outs_succ (val : Nat → Str) (n : Nat) : outs val (n + 1) = val n :: outs val n := by
  unfold outs
  rw [List.range_succ, List.reverse_append]
  rfl
theorem strs_push {vs : List Value} {ys : List Str} {y : Str} {t : Tok} (h : StrsAre vs ys) : StrsAre (vs ++ [.str y t]) (ys ++ [y]) := by
  induction h with
  | nil => exact .cons _ _ .nil
  | cons z u _ ih => exact .cons _ _ ih
theorem stop_at {M : Model} {A : Around} {E : Value → Shared → Prop} {Q : Option Value → Shared → Prop} {s : Shared} {e : Addr} (h : ∃ ob, s.heap.get? e = some ob ∧ ob.cls = .type "StopIteration") (hq : Q none s) : OwitStop M A Q E (.ref e) s := by
  obtain ⟨ob, ho, hc⟩ := h
  unfold OwitStop
  refine wpAny_isInstance (T := "StopIteration") (b := true) ⟨ob, ho, hc⟩ isSubtype_stop ?_
  rw [if_pos rfl]
  exact hq
theorem isl_inst {h₀ h : Heap} {L X dX : Addr} {c nx : Int} {u1 u2 u3 u4 : Tok} {it : Value} {news : Led} (N : News h₀ L h news) (h1 : (X, islObj dX it c u1 nx u2 u3 u4) ∈ news) (h2 : (dX, dictOf [] 0) ∈ news) : InstAt h X (islObj dX it c u1 nx u2 u3 u4) 85 (some (dictOf [] 0)) := by
  refine InstAt.of_news N h1 h2
noncomputable abbrev lstO (acc : Array Value) (c : Nat) : Obj := { cls := .type "list", dict := none, data := .seq acc c, slots := #[] }
section
variable {G0 : Array GenState} {w : World} {hG : Heap} {Lg Ga g X dX S : Nat} {val : Nat → Str} {D U : Nat} {nm qn : Value} {u3 u4 : Tok} {news : Led} {p : Program} {loose : List Str} {mean : ExcName → Option Value} {mg mb : Str → Option Value} {dp un : Nat} {gd : Option (List Code)} {cn : Str} {cs : Scope} {a : Addr} {ccd : Value} {cl : List (Str × Addr)} {A₀ : Around} {h₀ : Heap} {L : Addr} {m : Str → Option Value} {R : Result → Shared → Prop} {res : Value}
/-- the islice in the ledger, the list ahead of it -/
noncomputable abbrev isled (S X dX Ga Lg : Addr) (acc : Array Value) (c : Nat) (j : Int) (u1 : Tok) (nx : Int) (u2 u3 u4 : Tok) (g : Nat) (nm qn : Value) (oL : Obj) (news : Led) : Led :=
  (X, islObj dX (.ref Ga) j u1 nx u2 u3 u4) :: (dX, dictOf [] 0) :: (Ga, genObj g nm qn) :: (Lg, oL) :: (S, lstO acc c) :: news
structure ApartZ (S X dX Ga Lg : Nat) (news : Led) : Prop where
  SX : S ≠ X
  Sd : S ≠ dX
  SG : S ≠ Ga
  SL : S ≠ Lg
  XL : X ≠ Lg
  dL : dX ≠ Lg
  GL : Ga ≠ Lg
  dX : dX ≠ X
  GX : Ga ≠ X
  nX : ∀ q ∈ news, q.1 ≠ X
  nL : ∀ q ∈ news, q.1 ≠ Lg
  nS : ∀ q ∈ news, q.1 ≠ S
theorem isled_set {S X dX Ga Lg : Nat} {acc acc' : Array Value} {c c' : Nat} {j nx : Int} {u1 u2 u3 u4 : Tok} {oL : Obj} {h₀ h h' : Heap} {L : Addr} (AP : ApartZ S X dX Ga Lg news) (N : News h₀ L h (isled S X dX Ga Lg acc c j u1 nx u2 u3 u4 g nm qn oL news)) (hs : Heap.SameBut S h h') (ho : h'.get? S = some (lstO acc' c')) :
    News h₀ L h' (isled S X dX Ga Lg acc' c' j u1 nx u2 u3 u4 g nm qn oL news) := by
  intro q hq
  simp only [isled, List.mem_cons] at hq
  rcases hq with rfl | rfl | rfl | rfl | rfl | hq
  · have z := N _ (.head _)
    exact ⟨(hs.2 _ (Ne.symm AP.SX)).trans z.1, z.2⟩
  · have z := N _ (.tail _ (.head _))
    exact ⟨(hs.2 _ (Ne.symm AP.Sd)).trans z.1, z.2⟩
  · have z := N _ (.tail _ (.tail _ (.head _)))
    exact ⟨(hs.2 _ (Ne.symm AP.SG)).trans z.1, z.2⟩
  · have z := N _ (.tail _ (.tail _ (.tail _ (.head _))))
    exact ⟨(hs.2 _ (Ne.symm AP.SL)).trans z.1, z.2⟩
  · have z := N (S, lstO acc c) (.tail _ (.tail _ (.tail _ (.tail _ (.head _)))))
    exact ⟨ho, z.2⟩
  · have z := N q (.tail _ (.tail _ (.tail _ (.tail _ (.tail _ hq)))))
    exact ⟨(hs.2 _ (AP.nS q hq)).trans z.1, z.2⟩
theorem ext_same (K : (Mine.heapK w.params).In h₀) (B : Below A₀ h₀ [] h₀) (T : Top p loose mean mg mb h₀) (hD : DOk D) (hkd : cs.kind = .function) (hroom : dp + 20 < recursionLimit) (hun : un + 401 < cLine) (hDd : dp + 10 ≤ D) (hUu : un + 101 ≤ U) (AP : ApartZ S X dX Ga Lg news) :
    ∀ (n : Nat) (j : Int) (u1 u2 : Tok) (x : Str) (oL : Obj) (mL : Str → Option Value) (t : Tok) (gs : GenState) (acc : Array Value) (c : Nat) (pre : List Str) (s : Shared), 2 ≤ j → j + n ≤ 900 → acc.size + n ≤ 900 → StrsAre acc.toList pre →
      Fr h₀ L s.heap m → News h₀ L s.heap (isled S X dX Ga Lg acc c j u1 j u2 u3 u4 g nm qn oL news) → NxFacts w hG h₀ val D U n x Lg g oL mL t gs s.gens G0 →
      (∀ h' tk gens' acc' c', FinG g G0 gens' → Fr h₀ L h' m → News h₀ L h' ((S, lstO acc' c') :: news) → StrsAre acc'.toList (pre ++ outs val n) → R (.ok (.ret res)) { s with heap := h', toks := tk, gens := gens' }) →
      codeAny (model P0 w) (ktrTop dp un gd cn cs L a ccd cl []) (.builtin "list.extend.loop" ⟨[.ref S, .ref X, res], []⟩) R s := by
  intro n
  obtain ⟨f1, f2, _⟩ := (find_next w).1
  have offX : ∀ acc c, OwnOff ((S, lstO acc c) :: news) [X] := by
    intro acc c q hq b hb
    rw [List.mem_singleton.mp hb]
    rcases List.mem_cons.mp hq with rfl | hq
    · exact AP.SX
    · exact AP.nX q hq
  have offL : ∀ acc c, ∀ q ∈ ((S, lstO acc c) :: news : Led), q.1 ≠ Lg := by
    intro acc c q hq
    rcases List.mem_cons.mp hq with rfl | hq
    · exact AP.SL
    · exact AP.nL q hq
  induction n with
  | zero =>
    intro j u1 u2 x oL mL t gs acc c pre s hj hjn hac hpre F N hNx fin
    refine codeAny_builtin PySem.F.entry_extend_loop ?_
    rw [Around.under_plainId PySem.F.plain_extend_loop _]
    show wpAny _ _ (pyNext (.ref X) >>= _) _ _ s
    refine wpAny_bind (owit_next F K (isl_inst N (.head _) (.tail _ (.head _))) f1 f2 ?_)
    refine nxt_same (news := (S, lstO acc c) :: news) hj (by omega) hD p loose mean mg mb dp (un + 1) gd cn cs a ccd cl A₀ h₀ L m s _ _ B F K N T hkd hroom (by omega) hDd (by omega) hNx AP.XL AP.dL AP.GL (offL _ _) AP.dX AP.GX (offX _ _) (fun k u h' tk gens' gs' oL' mL' t' v1 v2 hk => absurd hk (by omega)) fun e h' tk gens' hn hfg F' N' he => ?_
    refine stop_at he ?_
    refine wpAny_pure ?_
    refine fin h' tk gens' acc c hfg F' N' ?_
    simpa [outs] using hpre
  | succ n ih =>
    intro j u1 u2 x oL mL t gs acc c pre s hj hjn hac hpre F N hNx fin
    refine codeAny_builtin PySem.F.entry_extend_loop ?_
    rw [Around.under_plainId PySem.F.plain_extend_loop _]
    show wpAny _ _ (pyNext (.ref X) >>= _) _ _ s
    refine wpAny_bind (owit_next F K (isl_inst N (.head _) (.tail _ (.head _))) f1 f2 ?_)
    refine nxt_same (news := (S, lstO acc c) :: news) hj (by omega) hD p loose mean mg mb dp (un + 1) gd cn cs a ccd cl A₀ h₀ L m s _ _ B F K N T hkd hroom (by omega) hDd (by omega) hNx AP.XL AP.dL AP.GL (offL _ _) AP.dX AP.GX (offX _ _) (fun k u h' tk gens' gs' oL' mL' t' v1 v2 hk F' N' hNx' => ?_) fun e h' tk gens' hn => absurd hn (by omega)
    obtain rfl : n = k := by omega
    show wpAny _ _ (updateSeq S (·.push (.str (val n) u)) >>= _) _ _ _
    have hS' := (N' (S, lstO acc c) (.tail _ (.tail _ (.tail _ (.tail _ (.head _)))))).1
    refine wpAny_bind (wpAny_updateSeq hS' rfl ?_ (by rw [sizeLine_eq]; omega) (by show (acc.push _).size ≤ sizeLine + 1; rw [Array.size_push, sizeLine_eq]; omega))
    refine wpAny_pure ⟨plainId_quiet PySem.F.plain_extend_loop _, ?_⟩
    have hS2 := Heap.get?_update_self (Obj.mapSeq (·.push (.str (val n) u))) hS' rfl
    have hsb := Heap.SameBut.update h' S (Obj.mapSeq (·.push (.str (val n) u)))
    have zS := N' (S, lstO acc c) (.tail _ (.tail _ (.tail _ (.tail _ (.head _)))))
    refine ih (j + 1) v1 v2 (val n) oL' mL' t' gs' (acc.push (.str (val n) u)) _ (pre ++ [val n]) _ (by omega) (by omega) (by rw [Array.size_push]; omega) (by rw [Array.toList_push]; exact strs_push hpre) (F'.change hsb zS.2.1 zS.2.2) (isled_set AP N' hsb hS2) hNx' fun h'' tk'' gens'' acc'' c'' hfg F'' N'' hs'' => ?_
    refine fin h'' tk'' gens'' acc'' c'' hfg F'' N'' ?_
    rw [outs_succ, List.append_cons]
    exact hs''
theorem ext_first (K : (Mine.heapK w.params).In h₀) (B : Below A₀ h₀ [] h₀) (T : Top p loose mean mg mb h₀) (hD : DOk D) (hkd : cs.kind = .function) (hroom : dp + 20 < recursionLimit) (hun : un + 401 < cLine) (hDd : dp + 10 ≤ D) (hUu : un + 101 ≤ U) (AP : ApartZ S X dX Ga Lg news)
    (n : Nat) (hn800 : n ≤ 800) (u1 u2 : Tok) (x : Str) (oL : Obj) (mL : Str → Option Value) (t : Tok) (gs : GenState) (c : Nat) (s : Shared)
    (F : Fr h₀ L s.heap m) (N : News h₀ L s.heap (isled S X dX Ga Lg #[] c 0 u1 1 u2 u3 u4 g nm qn oL news)) (hNx : NxFacts w hG h₀ val D U n x Lg g oL mL t gs s.gens G0)
    (fin : ∀ h' tk gens' acc' c', FinG g G0 gens' → Fr h₀ L h' m → News h₀ L h' ((S, lstO acc' c') :: news) → StrsAre acc'.toList (outs val (n - 1)) → R (.ok (.ret res)) { s with heap := h', toks := tk, gens := gens' }) :
    codeAny (model P0 w) (ktrTop dp un gd cn cs L a ccd cl []) (.builtin "list.extend.loop" ⟨[.ref S, .ref X, res], []⟩) R s := by
  obtain ⟨f1, f2, _⟩ := (find_next w).1
  have offX : OwnOff ((S, lstO #[] c) :: news) [X] := by
    intro q hq b hb
    rw [List.mem_singleton.mp hb]
    rcases List.mem_cons.mp hq with rfl | hq
    · exact AP.SX
    · exact AP.nX q hq
  have offL : ∀ q ∈ ((S, lstO #[] c) :: news : Led), q.1 ≠ Lg := by
    intro q hq
    rcases List.mem_cons.mp hq with rfl | hq
    · exact AP.SL
    · exact AP.nL q hq
  refine codeAny_builtin PySem.F.entry_extend_loop ?_
  rw [Around.under_plainId PySem.F.plain_extend_loop _]
  show wpAny _ _ (pyNext (.ref X) >>= _) _ _ s
  refine wpAny_bind (owit_next F K (isl_inst N (.head _) (.tail _ (.head _))) f1 f2 ?_)
  refine nxt_first (news := (S, lstO #[] c) :: news) hD p loose mean mg mb dp (un + 1) gd cn cs a ccd cl A₀ h₀ L m s _ _ B F K N T hkd hroom (by omega) hDd (by omega) hNx AP.XL AP.dL AP.GL offL AP.dX AP.GX offX (fun k u h' tk gens' gs' oL' mL' t' v1 v2 hk F' N' hNx' => ?_) fun e h' tk gens' hn hfg F' N' he => ?_
  · subst hk
    show wpAny _ _ (updateSeq S (·.push (.str (val k) u)) >>= _) _ _ _
    have zS := N' (S, lstO #[] c) (.tail _ (.tail _ (.tail _ (.tail _ (.head _)))))
    refine wpAny_bind (wpAny_updateSeq zS.1 rfl ?_ (by rw [sizeLine_eq]; exact Nat.zero_le _) (by show (1 : Nat) ≤ sizeLine + 1; omega))
    refine wpAny_pure ⟨plainId_quiet PySem.F.plain_extend_loop _, ?_⟩
    have hS2 := Heap.get?_update_self (Obj.mapSeq (·.push (.str (val k) u))) zS.1 rfl
    have hsb := Heap.SameBut.update h' S (Obj.mapSeq (·.push (.str (val k) u)))
    refine ext_same K B T hD hkd hroom hun hDd hUu AP k 2 v1 v2 (val k) oL' mL' t' gs' (#[].push (.str (val k) u)) _ [val k] _ (by omega) (by omega) (by show 1 + k ≤ 900; omega) (.cons _ _ .nil) (F'.change hsb zS.2.1 zS.2.2) (isled_set AP N' hsb hS2) hNx' fun h'' tk'' gens'' acc'' c'' hfg F'' N'' hs'' => ?_
    refine fin h'' tk'' gens'' acc'' c'' hfg F'' N'' ?_
    rw [show k + 2 - 1 = k + 1 by omega, outs_succ]
    exact hs''
  · refine stop_at he (wpAny_pure (fin h' tk gens' #[] c hfg F' N' ?_))
    rw [show n - 1 = 0 by omega]
    exact .nil
end
section
variable {G0 : Array GenState} {w : World} {hG : Heap} {Lg Ga g X dX : Nat} {val : Nat → Str} {D U : Nat} {nm qn : Value} {u1 u2 u3 u4 : Tok} {news : Led} {p : Program} {loose : List Str} {mean : ExcName → Option Value} {mg mb : Str → Option Value} {dp un : Nat} {gd : Option (List Code)} {cn : Str} {cs : Scope} {a : Addr} {ccd : Value} {cl : List (Str × Addr)} {A₀ : Around} {h₀ : Heap} {L : Addr} {m : Str → Option Value} {s : Shared} {Q E : Value → Shared → Prop}
/-- list(X) of an islice over the generator: what the generator yields, but the first -/
theorem list_isl (K : (Mine.heapK w.params).In h₀) (B : Below A₀ h₀ [] h₀) (T : Top p loose mean mg mb h₀) (hD : DOk D) (hkd : cs.kind = .function) (hroom : dp + 25 < recursionLimit) (hun : un + 450 < cLine) (hDd : dp + 10 ≤ D) (hUu : un + 150 ≤ U)
    (h1 : X ≠ Lg) (h2 : dX ≠ Lg) (h3 : Ga ≠ Lg) (h5 : dX ≠ X) (h6 : Ga ≠ X) (h7 : ∀ q ∈ news, q.1 ≠ X) (h8 : ∀ q ∈ news, q.1 ≠ Lg)
    {n : Nat} (hn800 : n ≤ 800) {x : Str} {oL : Obj} {mL : Str → Option Value} {t : Tok} {gs : GenState}
    (F : Fr h₀ L s.heap m) (N : News h₀ L s.heap ((X, islObj dX (.ref Ga) 0 u1 1 u2 u3 u4) :: (dX, dictOf [] 0) :: (Ga, genObj g nm qn) :: (Lg, oL) :: news)) (hNx : NxFacts w hG h₀ val D U n x Lg g oL mL t gs s.gens G0)
    (fin : ∀ S h' tk gens' acc' c', FinG g G0 gens' → Fr h₀ L h' m → News h₀ L h' ((S, lstO acc' c') :: news) → (∀ q ∈ news, q.1 < S) → StrsAre acc'.toList (outs val (n - 1)) → Q (.ref S) { s with heap := h', toks := tk, gens := gens' }) :
    wpAny (model P0 w) (ktrTop dp un gd cn cs L a ccd cl []) (call (.type "list") [.ref X]) Q E s := by
  obtain ⟨f1, f2, f3, f4, f5, f6⟩ := (find_next w).1
  refine callType_codes (Q₁ := fun obj s₁ => obj = .ref s.heap.objs.size ∧ s₁ = { s with heap := s.heap.push { cls := .type "list", data := .seq #[] } }) PySem.F.called_list (PySem.F.typeCall_list_1 _) PySem.F.entry_list_init
    (code_list_new _ ⟨rfl, rfl⟩) fun obj s₁ h₁ => ?_
  obtain ⟨rfl, rfl⟩ := h₁
  generalize hSe : s.heap.objs.size = S
  have hS : (s.heap.push { cls := .type "list", data := .seq #[] }).get? S = some { cls := .type "list", data := .seq #[] } := by rw [← hSe]; exact Heap.get?_push_size _ rfl
  refine ⟨⟨_, hS, rfl⟩, PySem.F.args_list_init_2 _ _, ?_⟩
  have ltS : ∀ q ∈ (X, islObj dX (.ref Ga) 0 u1 1 u2 u3 u4) :: (dX, dictOf [] 0) :: (Ga, genObj g nm qn) :: (Lg, oL) :: news, @LT.lt Nat _ q.1 S := fun q hq => hSe ▸ Heap.lt_size (N q hq).1
  have lX := ltS _ (.head _)
  have ld := ltS _ (.tail _ (.head _))
  have lG := ltS _ (.tail _ (.tail _ (.head _)))
  have lL := ltS _ (.tail _ (.tail _ (.tail _ (.head _))))
  dsimp only at lX ld lG lL
  have AP : ApartZ S X dX Ga Lg news := ⟨by omega, by omega, by omega, by omega, h1, h2, h3, h5, h6, h7, h8, fun q hq => by
    have := ltS q (.tail _ (.tail _ (.tail _ (.tail _ hq))))
    exact Nat.ne_of_lt this⟩
  have F0 : Fr h₀ L (s.heap.push { cls := .type "list", data := .seq #[] }) m := F.push _
  have N0 : News h₀ L (s.heap.push { cls := .type "list", data := .seq #[] }) (isled S X dX Ga Lg #[] 0 0 u1 1 u2 u3 u4 g nm qn oL news) := by
    intro q hq
    simp only [isled, List.mem_cons] at hq
    have up : ∀ q ∈ (X, islObj dX (.ref Ga) 0 u1 1 u2 u3 u4) :: (dX, dictOf [] 0) :: (Ga, genObj g nm qn) :: (Lg, oL) :: news, (s.heap.push { cls := .type "list", data := .seq #[] }).get? q.1 = some q.2 ∧ q.1 ≠ L ∧ h₀.get? q.1 = none := fun q hq => ⟨Heap.get?_push_of_some _ (N q hq).1, (N q hq).2⟩
    rcases hq with rfl | rfl | rfl | rfl | rfl | hq
    · exact up _ (.head _)
    · exact up _ (.tail _ (.head _))
    · exact up _ (.tail _ (.tail _ (.head _)))
    · exact up _ (.tail _ (.tail _ (.tail _ (.head _))))
    · refine ⟨hS, ?_, ?_⟩
      · rw [← hSe]; exact Nat.ne_of_gt F.ns.lt
      · rw [← hSe]; exact next_is_new F
    · exact up _ (.tail _ (.tail _ (.tail _ (.tail _ hq))))
  show wpAny _ _ (do let old ← Builtin.List.listItems (.ref S); Builtin.List.listUpdate (.ref S) (fun _ => #[]); letGo old.toList.reverse; Builtin.List.listExtendWith (.ref S) (.ref X) .none) _ _ _
  refine wpAny_bind ?_
  unfold Builtin.List.listItems
  refine wpAny_bind (wpAny_seqItems hS rfl (wpAny_pure ?_))
  show wpAny _ _ (updateSeq S (fun _ => #[]) >>= fun _ => letGo (#[] : Array Value).toList.reverse >>= fun _ => Builtin.List.listExtendWith (.ref S) (.ref X) .none) _ _ _
  refine wpAny_bind (wpAny_updateSeq hS rfl ?_)
  have zS : S ≠ L ∧ h₀.get? S = none := (N0 (S, lstO #[] 0) (.tail _ (.tail _ (.tail _ (.tail _ (.head _)))))).2
  have hS1 := Heap.get?_update_self (Obj.mapSeq (fun _ => (#[] : Array Value))) hS rfl
  have sb1 := Heap.SameBut.update (s.heap.push { cls := .type "list", data := .seq #[] }) S (Obj.mapSeq (fun _ => (#[] : Array Value)))
  have F1 := F0.change sb1 zS.1 zS.2
  have N1 := isled_set AP N0 sb1 hS1
  refine wpAny_bind (wpAny_letGo ?_)
  unfold Builtin.List.listExtendWith
  have I1 := isl_inst N1 (.head _) (.tail _ (.head _))
  refine wpAny_bind (I1.type.here ?_)
  have e1 : Builtin.List.listSameRef (.ref S) (.ref X) = false := by simp only [Builtin.List.listSameRef]; exact beq_eq_false_iff_ne.mpr AP.SX
  have e2 : (Value.ref 85 == Value.type "list") = false := by decide
  have e3 : (Value.ref 85 == Value.type "tuple") = false := by decide
  simp only [e1, e2, e3, Bool.or_false, Bool.false_eq_true, if_false]
  refine wpAny_bind (owit_iter F1 K I1 f5 f6 (iter_core.use F1 K N1 T rfl (by show dp + 2 < _; omega) (by show un + 1 + 1 + 40 < _; omega) fun r h2 tk2 F2 N2 er => ?_))
  subst er
  have I2 := isl_inst N2 (.head _) (.tail _ (.head _))
  refine owit_it F2 K I2 f1 ?_
  refine wpAny_bind (wpAny_holding ?_)
  unfold Builtin.List.listLengthHint
  refine wpAny_bind (wpAny_bind (I2.type.here ((looks_findIn (K.keeps F2.keep) f3).here ?_)))
  show wpAny _ _ (specialOf (Value.ref X) (Str.ofString "__length_hint__") >>= _) _ _ _
  refine wpAny_bind (wpAny_bind (I2.type.here ((looks_findIn (K.keeps F2.keep) f4).here ?_)))
  refine wpAny_pure ?_
  show wpAny _ _ (rule "list.extend.makes-room" >>= fun _ => Builtin.List.listTouch (.ref S) >>= fun _ =>
    again (.builtin "list.extend.loop" ⟨[.ref S, .ref X, .none], []⟩)) _ _ _
  refine wpAny_bind (wpAny_rule ?_)
  refine wpAny_bind ?_
  show wpAny _ _ (updateSeq S (·.push .none) >>= fun _ => updateSeq S (·.pop)) _ _ _
  have hS2 := (N2 (S, lstO _ _) (.tail _ (.tail _ (.tail _ (.tail _ (.head _)))))).1
  refine wpAny_bind (wpAny_updateSeq hS2 rfl ?_)
  have hS3 := Heap.get?_update_self (Obj.mapSeq (·.push Value.none)) hS2 rfl
  have sb3 := Heap.SameBut.update h2 S (Obj.mapSeq (·.push Value.none))
  refine wpAny_updateSeq (hz := by seq_fits) hS3 rfl ?_
  have hS4 := Heap.get?_update_self (Obj.mapSeq (·.pop)) hS3 rfl
  have sb4 := sb3.trans (Heap.SameBut.update _ S (Obj.mapSeq (·.pop)))
  refine wpAny_pure ⟨plainId_quiet PySem.F.plain_extend_loop _, ?_⟩
  refine ext_first (un := un + 1) K B T hD hkd (by omega) (by omega) hDd (by omega) AP n hn800 u1 u2 x oL mL t gs _ _ (F2.change sb4 zS.1 zS.2) (isled_set AP N2 sb4 hS4) hNx fun h' tk gens' acc' c' hfg F' N' hs' => ?_
  exact ⟨rfl, fin S h' tk gens' acc' c' hfg F' N' (fun q hq => ltS q (.tail _ (.tail _ (.tail _ (.tail _ hq))))) hs'⟩
end
end Mine
end

section -- MTxts
open PySem PySem.W PyProof.Rows PySem.Calls
set_option Elab.async false
set_option maxRecDepth 100000
set_option maxHeartbeats 8000000
namespace Mine
theorem flush_MTxts : True := by w_top off; first | walk1 | trivial
local macro_rules
  | `(tactic| walk_at $k:str) => if ["exec For Name Subscript cons nil", "subscriptTail Name UnaryOp ref int", "call builtin:len", "call builtin:list.append", "call builtin:divmod", "inplaceOp Add str str", "getItem", "setItem", "subscriptTail Name Name ref int"].contains k.getString then `(tactic| ((fail_if_success (with_reducible rename Mark9 => mz)); refine sb_out ?_)) else Lean.Macro.throwUnsupported
local macro_rules | `(tactic| walk_at "pyIter ref") => `(tactic| (k_here; refine stop_out ?_))
local macro_rules | `(tactic| walk_at "ForPost") => `(tactic| (refine stop_out ?_))
structure TxS where
  vs : List Value
  n : Nat
noncomputable abbrev TxS.names (l : Addr) (_ : TxS) : List (Str × Value) := [(Str.ofString "texts", .ref l)]
noncomputable abbrev TxS.led (l D : Addr) (ws : List Value) (news : Led) (c : TxS) : Led := (D, listOf ws.toArray 0) :: (l, listOf c.vs.toArray c.n) :: news
noncomputable def Sign (c : Nat) : Prop := Bare c ∨ c = 42 ∨ c = 63 ∨ c = 91
noncomputable def GoodT (k : Nat) (x : Str) : Prop := x.length ≤ k ∧ ∀ c ∈ x.cps.toList, Sign c
noncomputable def TxS.Inv (i : Nat) (c : TxS) : Prop := ∃ vp xp x tx, c.vs = vp ++ [.str x tx] ∧ StrsAre (vp ++ [.str x tx]) (xp ++ [x]) ∧ StrsAre vp xp ∧ xp.length ≤ 2 ∧ ∀ y ∈ xp ++ [x], GoodT (5 + 2 * i) y
section
variable {prog : Program} {w : World} {A : Around} {E : Value → Shared → Prop} {s : Shared} {h₀ : Heap} {L D : Addr} {m : Str → Option Value} {news news' : Led}
theorem menu_K {its : List Value} {n : Nat} {i : Int} {u : Tok} {value slice : Expr} {Q : Value → Shared → Prop} (P : Str → Prop) (N : News h₀ L s.heap news) (hm : (D, listOf its.toArray n) ∈ news) (hall : ∀ v ∈ its, ∃ y t, v = .str y t ∧ P y) (h0 : 0 ≤ i) (h1 : i < (its.length : Int)) (hfit : i < 2 ^ 63) (h : ∀ y t, P y → Q (.str y t) s)
    (hs : subscripted slice false (.ref D) (.int i u) = operate [.ref D, .int i u] (getItem (.ref D) (.int i u)) := by with_unfolding_all rfl) :
    wpAny (model prog w) A (subscriptTail value slice (.ref D) (.int i u)) Q E s := by
  have hl := N.isList hm
  have hlt : i.toNat < its.length := by omega
  obtain ⟨y, t, e, hp⟩ := hall _ (List.getElem_mem hlt)
  refine tail_any hl.typeIs slot_list_getitem.lookup (wpAny_getItem_list hl h0 hfit (x := .str y t) ?_ (h y t hp)) hs
  rw [List.getElem?_toArray, List.getElem?_eq_getElem hlt, e]
theorem getLast_K {vp : List Value} {v : Value} {n : Nat} {t : Tok} {Q : Value → Shared → Prop} (N : News h₀ L s.heap news) (hm : (D, listOf (vp ++ [v]).toArray n) ∈ news) (hb : vp.length ≤ 1000) (h : Q v s) : wpAny (model prog w) A (getItem (.ref D) (.int (-1) t)) Q E s := by
  have hl := N.isList hm
  refine wpAny_getItem_list_neg hl (by omega) (by simp only [List.size_toArray, List.length_append, List.length_cons, List.length_nil]; omega) (by omega) ?_ h
  have e : (-1 + ((vp ++ [v]).toArray.size : Int)).toNat = vp.length := by simp only [List.size_toArray, List.length_append, List.length_cons, List.length_nil]; omega
  rw [e, List.getElem?_toArray, List.getElem?_append_right (Nat.le_refl _), Nat.sub_self]
  rfl
theorem lenT_K {vp : List Value} {v : Value} {n : Nat} {Q : Value → Shared → Prop} (N : News h₀ L s.heap news) (hm : (D, listOf (vp ++ [v]).toArray n) ∈ news) (hb : vp.length ≤ 1000) (h : ∀ t tk, Q (.int ((vp.length : Int) + 1) t) { s with toks := tk }) : wpAny (model prog w) A (call (.builtin "len") [.ref D]) Q E s :=
  KM.len_K (n := vp.length + 1) N hm (by simp) (by omega) (by have := h (s.toks + 1) (s.toks + 1 + 1); rwa [show ((vp.length : Int) + 1) = ((vp.length + 1 : Nat) : Int) by omega] at this)
theorem divmod_lt {a b : Int} {t u : Tok} {Q : Value → Shared → Prop} (F : Fr h₀ L s.heap m) (N : News h₀ L s.heap news) (hb : b ≠ 0)
    (h : ∀ D h' t1 t2 tk, Fr h₀ L h' m → News h₀ L h' ((D, { cls := .type "tuple", data := .seq #[.int (a.fdiv b) t1, .int (a.fmod b) t2] }) :: news) → (∀ p ∈ news, p.1 < D) → Q (.ref D) { s with toks := tk, heap := h' })
    (hp : Builtin.divisionGoesByPylong a b = false ∨ PySem.PylongRoom (model prog w) A s) : wpAny (model prog w) A (call (.builtin "divmod") [.int a t, .int b u]) Q E s :=
  divmod_N F N hb (fun h' F' N' => h _ h' _ _ _ F' N' fun p hp => Heap.lt_size (N p hp).1) hp
theorem iadd_txt {x y : Str} {t u : Tok} {Q : Value → Shared → Prop} (hx : x.length ≤ 1000) (hy : y.length ≤ 1000) (h : ∀ t' tk, Q (.str (x ++ y) t') { s with toks := tk }) : wpAny (model prog w) A (inplaceOp .Add (.str x t) (.str y u)) Q E s :=
  PyProof.Rows.iadd_str h (by rw [sizeLine_eq]; omega)
theorem setL_last {vp : List Value} {v v' : Value} : ki_setL (vp ++ [v]) vp.length v' = some (vp ++ [v']) := by
  induction vp with
  | nil => rfl
  | cons a r ih => simp only [List.cons_append, List.length_cons, ki_setL, ih]
theorem setLast_K {vp : List Value} {v v' : Value} {n : Nat} {t : Tok} {Q : Unit → Shared → Prop} (F : Fr h₀ L s.heap m) (N : News h₀ L s.heap news) (U : Upd D (listOf (vp ++ [v]).toArray n) (listOf (vp ++ [v']).toArray n) news news') (hb : vp.length ≤ 1000)
    (h : ∀ h', Fr h₀ L h' m → News h₀ L h' news' → Q () { s with heap := h' }) : wpAny (model prog w) A (setItem (.ref D) (.int (-1) t) v') Q E s := by
  refine ki_setNeg (j := vp.length) F N (by omega) (by omega) ?_ setL_last U h
  rw [PySem.seqIndex_neg (by omega) (by simp only [List.size_toArray, List.length_append, List.length_cons, List.length_nil]; omega)]
  apply congrArg some
  simp only [List.size_toArray, List.length_append, List.length_cons, List.length_nil]
  omega
end
theorem tx_loop {prog : Program} {w : World} {A : Around} {E : Value → Shared → Prop} {Q : Flow → Shared → Prop} {s : Shared} {env : Env} {h₀ : Heap} {body : List Stmt} {target : Expr} {D l : Addr} {ws tv : List Value} {tn : Nat} {m : Str → Option Value} {news : Led}
    (hh : A.handled = none) (hlt : ∀ p ∈ news, p.1 < l) (F : Fr h₀ env.locals s.heap m) (N : News h₀ env.locals s.heap ((D, listOf ws.toArray 0) :: (l, listOf tv.toArray tn) :: news)) (hk : m (Str.ofString "texts") = some (.ref l)) (hp : TxS.Inv 0 ⟨tv, tn⟩)
    (turn : ∀ i v c (u : Str → Option Value) h tk own, ws[i]? = some v → TxS.Inv i c → OwnOff own ((TxS.led l D ws news c).map (·.1)) → OwnOff (news ++ own) [l] → Fr h₀ env.locals h (kstB u (TxS.names l c)) → News h₀ env.locals h (TxS.led l D ws news c ++ own) →
      wpAny (model prog w) A (assign target env v) (fun _ s₃ => wpAny (model prog w) A (execs body env) (ForPost h₀ env.locals (TxS.names l) (TxS.led l D ws news) (TxS.Inv (i + 1)) own { s with heap := h, toks := tk } Q) E s₃) E { s with heap := h, toks := tk })
    (done : ∀ c (u : Str → Option Value) h tk, TxS.Inv ws.length c → Fr h₀ env.locals h (kstB u (TxS.names l c)) → News h₀ env.locals h (TxS.led l D ws news c) → Q .next { s with heap := h, toks := tk }) :
    wpAny (model prog w) A (pyIter (.ref D)) (fun it s₂ => TurnsAt prog w A h₀ env target body Q E it s₂) E s :=
  for_tup (ps := TxS.names l) (Ld := TxS.led l D ws news) (P := TxS.Inv) ⟨tv, tn⟩ hh (fun _ => .head _) F N (fun p hp => by
    rw [List.mem_singleton.mp hp]
    exact hk) (fun _ h => h) hp (fun i v c u h tk own hv hP hoff F1 N1 => turn i v c u h tk own hv hP hoff (fun p hp b hb => by
      rw [List.mem_singleton.mp hb]
      rcases List.mem_append.mp hp with hp | hp
      · exact Nat.ne_of_lt (hlt p hp)
      · exact hoff p hp _ (by simp)) F1 N1) done
noncomputable def signB (c : Nat) : Bool := [47, 97, 98, 33, 93, 42, 63, 91].contains c
theorem sign_ok {c : Nat} (h : signB c = true) : Sign c := by
  have h2 : c ∈ [47, 97, 98, 33, 93, 42, 63, 91] := List.contains_iff_mem.mp h
  rcases List.mem_cons.mp h2 with h | h2
  · exact .inl (.inl h)
  rcases List.mem_cons.mp h2 with h | h2
  · exact .inl (.inr (.inl h))
  rcases List.mem_cons.mp h2 with h | h2
  · exact .inl (.inr (.inr (.inl h)))
  rcases List.mem_cons.mp h2 with h | h2
  · exact .inl (.inr (.inr (.inr (.inl h))))
  rcases List.mem_cons.mp h2 with h | h2
  · exact .inl (.inr (.inr (.inr (.inr (.inl h)))))
  rcases List.mem_cons.mp h2 with h | h2
  · exact .inr (.inl h)
  rcases List.mem_cons.mp h2 with h | h2
  · exact .inr (.inr (.inl h))
  · exact .inr (.inr (.inr (List.mem_singleton.mp h2)))
theorem first_good : GoodT (5 + 2 * 0) (Str.ofString "/a//*") := by
  refine ⟨by decide +kernel, fun c hc => ?_⟩
  have h : (Str.ofString "/a//*").cps.toList.all signB = true := by decide +kernel
  exact sign_ok (List.all_eq_true.mp h c hc)
noncomputable def MenuP (y : Str) : Prop := y.length ≤ 2 ∧ ∀ c ∈ y.cps.toList, Sign c
theorem sign_odd {k : Int} : MenuP ⟨#[(256 + k.fmod 50000).toNat]⟩ := by
  have h1 : 0 ≤ k.fmod 50000 := Int.fmod_nonneg_of_pos _ (by omega)
  have h2 : k.fmod 50000 < 50000 := Int.fmod_lt_of_pos _ (by omega)
  refine ⟨Nat.le_of_ble_eq_true rfl, fun c hc => ?_⟩
  rw [List.mem_singleton.mp hc]
  exact .inl (.inr (.inr (.inr (.inr (.inr ⟨by omega, by omega⟩)))))
theorem menu_lit {x : String} (h : ((Str.ofString x).cps.toList.all signB) = true) (hl : (Str.ofString x).length ≤ 2) : MenuP (Str.ofString x) := by
  refine ⟨hl, fun c hc => ?_⟩
  exact sign_ok (List.all_eq_true.mp h c hc)
theorem ints_at : ∀ {vs : List Value} {ns : List Int} {i : Nat} {v : Value}, IntsAre vs ns → vs[i]? = some v → i < ns.length ∧ ∃ k t, v = .int k t
  | _, _, i, v, .nil, h => by simp at h
  | _, _, 0, v, .cons k t _, h => ⟨by simp, k, t, by simpa using h.symm⟩
  | _, _, i + 1, v, .cons _ _ r, h => by
    obtain ⟨a, b⟩ := ints_at r (by simpa using h)
    exact ⟨by simpa using a, b⟩
theorem GoodT.mono {k k' : Nat} {x : Str} (h : GoodT k x) (hk : k ≤ k') : GoodT k' x := ⟨Nat.le_trans h.1 hk, h.2⟩
theorem tx_push {i n : Nat} {vp : List Value} {xp : List Str} {x y : Str} {tx t : Tok} {j : Int} (hst : StrsAre (vp ++ [.str x tx]) (xp ++ [x])) (hxp : xp.length ≤ 1) (hx : ∀ y ∈ xp ++ [x], GoodT (5 + 2 * i) y) (hj : 0 ≤ j) (hy : y = Txt.slice x none (some j)) : TxS.Inv (i + 1) ⟨vp ++ [.str x tx] ++ [.str y t], n⟩ := by
  refine ⟨vp ++ [.str x tx], xp ++ [x], y, t, rfl, hst.append' (.cons _ _ .nil), hst, by simp; omega, fun z hz => ?_⟩
  rcases List.mem_append.mp hz with hz | hz
  · exact (hx z hz).mono (by omega)
  · rw [List.mem_singleton.mp hz, hy, slice_ns hj]
    have g := hx x (by simp)
    refine ⟨?_, fun c hc => g.2 c (List.mem_of_mem_take hc)⟩
    have e : (⟨(x.cps.toList.take j.toNat).toArray⟩ : Str).length = min j.toNat x.length := by simp [Str.length]
    rw [e]
    have := g.1
    omega
theorem tx_set {i n : Nat} {vp : List Value} {xp : List Str} {x y : Str} {t : Tok} (hsp : StrsAre vp xp) (hxp : xp.length ≤ 2) (hx : ∀ y ∈ xp ++ [x], GoodT (5 + 2 * i) y) (hy : MenuP y) : TxS.Inv (i + 1) ⟨vp ++ [.str (x ++ y) t], n⟩ := by
  refine ⟨vp, xp, x ++ y, t, rfl, hsp.append' (.cons _ _ .nil), hsp, hxp, fun z hz => ?_⟩
  rcases List.mem_append.mp hz with hz | hz
  · exact (hx z (List.mem_append_left _ hz)).mono (by omega)
  · rw [List.mem_singleton.mp hz]
    have g := hx x (by simp)
    refine ⟨?_, fun c hc => ?_⟩
    · rw [PySem.Str.length_append]
      have := g.1
      have := hy.1
      omega
    · rw [app_cps] at hc
      rcases List.mem_append.mp hc with hc | hc
      · exact g.2 c hc
      · exact hy.2 c hc
theorem tx_next {h₀ : Heap} {Lx l D : Addr} {ws : List Value} {news own n' : Led} {h' h : Heap} {m' : Str → Option Value} {s : Shared} {tk tk' : Nat} {i n n0 : Nat} {vs' vs0 : List Value} {Q : Flow → Shared → Prop} (F' : Fr h₀ Lx h' m') (N' : News h₀ Lx h' n') (hm : m' (Str.ofString "texts") = some (.ref l)) (hD : (D, listOf ws.toArray 0) ∈ n') (hl : (l, listOf vs'.toArray n) ∈ n') (hn : ∀ p ∈ news ++ own, p ∈ n') (hoff : OwnOff own ((TxS.led l D ws news ⟨vs0, n0⟩).map (·.1))) (hP : TxS.Inv (i + 1) ⟨vs', n⟩) :
    ForPost h₀ Lx (TxS.names l) (TxS.led l D ws news) (TxS.Inv (i + 1)) own { s with heap := h, toks := tk } Q .next { s with heap := h', toks := tk' } := by
  refine ⟨⟨vs', n⟩, h', tk', m', n', rfl, F', N', ?_, ?_, fun p hp => hn p (List.mem_append_right _ hp), hoff, hP⟩
  · intro p hp
    rw [List.mem_singleton.mp hp]
    exact hm
  · intro p hp
    rcases List.mem_cons.mp hp with rfl | hp
    · exact hD
    · rcases List.mem_cons.mp hp with rfl | hp
      · exact hl
      · exact hn p (List.mem_append_left _ hp)
noncomputable def TxtsRes (h₀ : Heap) (L : Addr) (m : Str → Option Value) (s : Shared) (news : Led) (Q : Value → Shared → Prop) : Prop :=
  ∀ l n vs xs h' tk, Fr h₀ L h' m → News h₀ L h' ((l, listOf vs.toArray n) :: news) → (∀ p ∈ news, p.1 < l) → StrsAre vs xs → 1 ≤ xs.length → xs.length ≤ 3 → (∀ x ∈ xs, GoodT 13 x) → Q (.ref l) { s with heap := h', toks := tk }
theorem texts_core {w : World} {sl : Addr} {vs : List Value} {ns : List Int} {news : Led} (hi : IntsAre vs ns) (hl63 : ns.length ≤ 63)
    (p : Program) (loose : List Str) (mean : ExcName → Option Value) (mg mb : Str → Option Value) (dp un : Nat) (gd : Option (List Code)) (cn : Str) (cs : Scope) (a : Addr) (ccd : Value) (cl : List (Str × Addr)) (outer : List Env) (A₀ : Around) (base h₀ : Heap) (L : Addr) (m : Str → Option Value) (s : Shared) (Q E : Value → Shared → Prop)
    (B : Below A₀ base outer h₀) (F : Fr h₀ L s.heap m) (X : (Mine.heapK w.params).In h₀) (N : News h₀ L s.heap news) (T : Top p loose mean mg mb h₀) (hkd : cs.kind = .function) (hroom : dp + 6 < recursionLimit) (hun : un + 100 < cLine) (hs : h₀.IsList sl vs.toArray) (hret : TxtsRes h₀ L m s news Q) :
    wpAny (model P0 w) (ktrTop dp un gd cn cs L a ccd cl outer) (call (.ref 208) [.ref sl]) Q E s := by
  revert X
  delta P0
  k_fill
  intro X
  refine wpAny_call ?_
  k_dflt ktr_enter
  refine fold_AE ?_
  intro A9 e9
  (rename Fr h₀ _ _ _ => FG)
  have hs2 := hs.at fun o e => FG.keep _ o e
  (repeat' (first | ((with_reducible refine sb_in ?_); (first | ((with_reducible show wpAny _ _ (subscriptTail ..) _ _ _); first | (k_here; k_dflt (refine menu_K MenuP (by k_asm) (by k_mem) (by (intro v hv; simp only [List.mem_cons, List.not_mem_nil, or_false] at hv; rcases hv with h | h | h | h | h | h | h | h | h | h | h | h | h | h <;> exact ⟨_, _, h, by first | exact sign_odd | exact menu_lit (by decide +kernel) (by decide +kernel)⟩)) (by exact Int.fmod_nonneg_of_pos _ (by omega)) (by exact Int.lt_of_lt_of_le (Int.fmod_lt_of_pos _ (by omega)) (by simp only [List.length_cons, List.length_nil]; omega)) (by exact Int.lt_trans (Int.fmod_lt_of_pos _ (by omega)) (by omega)) ?_ (by with_unfolding_all rfl); k_whole); intro y' ty' py'; have ly' := py'.1) | (k_here; k_dflt (refine last_K (by k_asm) (by k_mem) (by exact List.getLast?_concat) (by (simp only [List.length_append, List.length_cons, List.length_nil]; omega)) ?_ (by with_unfolding_all rfl); k_whole))) | ((with_reducible show wpAny _ _ (setItem ..) _ _ _); (k_here; k_dflt (refine setLast_K (by k_asm) (by k_asm) (by k_upd) (by omega) ?_; k_whole); intro h' F' N'; (try k_sweep))) | ((with_reducible show wpAny _ _ (getItem ..) _ _ _); (k_here; k_dflt (refine getLast_K (by k_asm) (by k_mem) (by omega) ?_; k_whole))) | ((with_reducible show wpAny _ _ (inplaceOp ..) _ _ _); (k_here; k_dflt (refine iadd_txt (by omega) (by omega) ?_; k_whole); intro t9 k9)) | ((with_reducible show wpAny _ _ (call _ _ _) _ _ _); first | (k_here; k_dflt (refine divmod_lt (by k_asm) (by k_asm) (by decide) ?_ (by first | exact Or.inl (PyProof.noPylong_of_log2 (by decide +kernel)) | exact Or.inl (PyProof.noPylong_small (by omega)) | exact Or.inr (PySem.PylongRoom.of (by first | assumption | (refine PySem.Heap.NoLimit.keeps ?_ (PyProof.Rows.Fr.keep (by assumption)); first | assumption | exact PyProof.Rows.Glob.nolimit (by assumption) | exact PyProof.Rows.Top.nolimit (by assumption)) | exact PyProof.Rows.Glob.nolimit (by assumption) | exact PyProof.Rows.Top.nolimit (by assumption)) (of_decide_eq_true (by with_unfolding_all rfl)))); k_whole); intro D9 h9 u1 u2 k9 F' N' l8; (try k_lt l8)) | (k_here; (with_reducible show wpAny _ _ (call (Value.builtin _) [Value.ref _, _]) _ _ _); k_dflt (refine append_K (by k_asm) (by k_asm) (by k_upd) ?_ (by (simp only [List.size_toArray, List.length_append, List.length_cons, List.length_nil]; rw [sizeLine_eq]; omega)); k_whole); intro h' F' N'; (try k_sweep)) | (k_here; (with_reducible show wpAny _ _ (call (Value.builtin "len") [Value.ref _]) _ _ _); k_dflt (refine lenT_K (by k_asm) (by k_mem) (by omega) ?_; k_whole); intro t9 k9)) | ((with_reducible show wpAny _ _ (exec _ _) _ _ _); ((with_reducible show wpAny _ _ (exec (Stmt.For (Expr.Name ..) (Expr.Subscript ..) _ [] _) _) _ _ _); (k_here; (rename Fr _ _ _ _ => lF'); (with_unfolding_all refine' For_turns lF' ?_; k_whole)))) | ((have mk9 : Mark9 := .mk); walk1; all_goals (try clear mk9)))) | (k_unfold; (try dsimp only)) | (k_end; kc_close) | walk1 | (dsimp only; walk1) | (leave1; walk_say "STEP leave1"; (try dsimp only)) | fail "no step"))
  (rename Fr _ _ _ _ => F2)
  (rename News _ _ _ _ => N2)
  (rename IntsAre _ _ => i9)
  (rename (∀ p : Addr × Obj, p ∈ news → p.1 < _) => l9)
  refine stop_in (tx_loop rfl l9 F2 N2 rfl ?_ ?_ ?_)
  · refine ⟨[], [], _, _, rfl, .cons _ _ .nil, .nil, by simp, fun y hy => ?_⟩
    rw [List.mem_singleton.mp hy]
    exact first_good
  · rintro i v ⟨tv, tn⟩ u h1 tk1 own hv ⟨vp, xp, x, tx, etv, hst, hsp, hx2, hx⟩ hoff hoff2 F3 N3
    simp only at etv
    subst etv
    simp only [TxS.names, TxS.led, List.cons_append] at F3 N3
    obtain ⟨hi4', k, t, rfl⟩ := ints_at i9 hv
    have hi4 : i < 4 := Nat.lt_of_lt_of_le hi4' (by rw [List.length_take]; omega)
    have hxl : x.length ≤ 13 := Nat.le_trans (hx x (by simp)).1 (by omega)
    have hvl : vp.length ≤ 2 := by rw [hsp.length]; exact hx2
    (repeat' (first | ((with_reducible refine sb_in ?_); (first | ((with_reducible show wpAny _ _ (subscriptTail ..) _ _ _); first | (k_here; k_dflt (refine menu_K MenuP (by k_asm) (by k_mem) (by (intro v hv; simp only [List.mem_cons, List.not_mem_nil, or_false] at hv; rcases hv with h | h | h | h | h | h | h | h | h | h | h | h | h | h <;> exact ⟨_, _, h, by first | exact sign_odd | exact menu_lit (by decide +kernel) (by decide +kernel)⟩)) (by exact Int.fmod_nonneg_of_pos _ (by omega)) (by exact Int.lt_of_lt_of_le (Int.fmod_lt_of_pos _ (by omega)) (by simp only [List.length_cons, List.length_nil]; omega)) (by exact Int.lt_trans (Int.fmod_lt_of_pos _ (by omega)) (by omega)) ?_ (by with_unfolding_all rfl); k_whole); intro y' ty' py'; have ly' := py'.1) | (k_here; k_dflt (refine last_K (by k_asm) (by k_mem) (by exact List.getLast?_concat) (by (simp only [List.length_append, List.length_cons, List.length_nil]; omega)) ?_ (by with_unfolding_all rfl); k_whole))) | ((with_reducible show wpAny _ _ (setItem ..) _ _ _); (k_here; k_dflt (refine setLast_K (by k_asm) (by k_asm) (by k_upd) (by omega) ?_; k_whole); intro h' F' N'; (try k_sweep))) | ((with_reducible show wpAny _ _ (getItem ..) _ _ _); (k_here; k_dflt (refine getLast_K (by k_asm) (by k_mem) (by omega) ?_; k_whole))) | ((with_reducible show wpAny _ _ (inplaceOp ..) _ _ _); (k_here; k_dflt (refine iadd_txt (by omega) (by omega) ?_; k_whole); intro t9 k9)) | ((with_reducible show wpAny _ _ (call _ _ _) _ _ _); first | (k_here; k_dflt (refine divmod_lt (by k_asm) (by k_asm) (by decide) ?_ (by first | exact Or.inl (PyProof.noPylong_of_log2 (by decide +kernel)) | exact Or.inl (PyProof.noPylong_small (by omega)) | exact Or.inr (PySem.PylongRoom.of (by first | assumption | (refine PySem.Heap.NoLimit.keeps ?_ (PyProof.Rows.Fr.keep (by assumption)); first | assumption | exact PyProof.Rows.Glob.nolimit (by assumption) | exact PyProof.Rows.Top.nolimit (by assumption)) | exact PyProof.Rows.Glob.nolimit (by assumption) | exact PyProof.Rows.Top.nolimit (by assumption)) (of_decide_eq_true (by with_unfolding_all rfl)))); k_whole); intro D9 h9 u1 u2 k9 F' N' l8; (try k_lt l8)) | (k_here; (with_reducible show wpAny _ _ (call (Value.builtin _) [Value.ref _, _]) _ _ _); k_dflt (refine append_K (by k_asm) (by k_asm) (by k_upd) ?_ (by (simp only [List.size_toArray, List.length_append, List.length_cons, List.length_nil]; rw [sizeLine_eq]; omega)); k_whole); intro h' F' N'; (try k_sweep)) | (k_here; (with_reducible show wpAny _ _ (call (Value.builtin "len") [Value.ref _]) _ _ _); k_dflt (refine lenT_K (by k_asm) (by k_mem) (by omega) ?_; k_whole); intro t9 k9)) | ((with_reducible show wpAny _ _ (exec _ _) _ _ _); ((with_reducible show wpAny _ _ (exec (Stmt.For (Expr.Name ..) (Expr.Subscript ..) _ [] _) _) _ _ _); (k_here; (rename Fr _ _ _ _ => lF'); (with_unfolding_all refine' For_turns lF' ?_; k_whole)))) | ((have mk9 : Mark9 := .mk); walk1; all_goals (try clear mk9)))) | (k_unfold; (try dsimp only)) | (k_end; kc_close) | walk1 | (dsimp only; walk1) | (leave1; walk_say "STEP leave1"; (try dsimp only)) | fail "no step"))
    · (rename Fr _ _ _ _ => F9)
      (rename News _ _ _ _ => N9)
      (rename (_ < 3) => c9)
      simp only [List.push_toArray] at N9
      refine stop_in (tx_next F9 N9 rfl (.tail _ (.head _)) (.tail _ (.tail _ (.head _))) (fun p hp => .tail _ (.tail _ (.tail _ hp))) hoff (tx_push hst ?_ hx ?_ rfl))
      · rw [← hsp.length]; omega
      · exact Int.fmod_nonneg_of_pos _ (by omega)
    all_goals (
      (rename Fr _ _ _ _ => F9)
      (rename News _ _ _ _ => N9)
      (rename MenuP _ => p9)
      exact stop_in (tx_next F9 N9 rfl (.tail _ (.tail _ (.head _))) (.tail _ (.tail _ (.tail _ (.head _)))) (fun p hp => .tail _ (.tail _ (.tail _ (.tail _ hp)))) hoff (tx_set hsp hx2 hx p9)))
  · rintro ⟨tv, tn⟩ u h1 tk1 ⟨vp, xp, x, tx, etv, hst, hsp, hx2, hx⟩ F3 N3
    simp only at etv
    subst etv
    simp only [TxS.names, TxS.led] at F3 N3
    (repeat' (first | ((with_reducible refine sb_in ?_); (first | ((with_reducible show wpAny _ _ (subscriptTail ..) _ _ _); first | (k_here; k_dflt (refine menu_K MenuP (by k_asm) (by k_mem) (by (intro v hv; simp only [List.mem_cons, List.not_mem_nil, or_false] at hv; rcases hv with h | h | h | h | h | h | h | h | h | h | h | h | h | h <;> exact ⟨_, _, h, by first | exact sign_odd | exact menu_lit (by decide +kernel) (by decide +kernel)⟩)) (by exact Int.fmod_nonneg_of_pos _ (by omega)) (by exact Int.lt_of_lt_of_le (Int.fmod_lt_of_pos _ (by omega)) (by simp only [List.length_cons, List.length_nil]; omega)) (by exact Int.lt_trans (Int.fmod_lt_of_pos _ (by omega)) (by omega)) ?_ (by with_unfolding_all rfl); k_whole); intro y' ty' py'; have ly' := py'.1) | (k_here; k_dflt (refine last_K (by k_asm) (by k_mem) (by exact List.getLast?_concat) (by (simp only [List.length_append, List.length_cons, List.length_nil]; omega)) ?_ (by with_unfolding_all rfl); k_whole))) | ((with_reducible show wpAny _ _ (setItem ..) _ _ _); (k_here; k_dflt (refine setLast_K (by k_asm) (by k_asm) (by k_upd) (by omega) ?_; k_whole); intro h' F' N'; (try k_sweep))) | ((with_reducible show wpAny _ _ (getItem ..) _ _ _); (k_here; k_dflt (refine getLast_K (by k_asm) (by k_mem) (by omega) ?_; k_whole))) | ((with_reducible show wpAny _ _ (inplaceOp ..) _ _ _); (k_here; k_dflt (refine iadd_txt (by omega) (by omega) ?_; k_whole); intro t9 k9)) | ((with_reducible show wpAny _ _ (call _ _ _) _ _ _); first | (k_here; k_dflt (refine divmod_lt (by k_asm) (by k_asm) (by decide) ?_ (by first | exact Or.inl (PyProof.noPylong_of_log2 (by decide +kernel)) | exact Or.inl (PyProof.noPylong_small (by omega)) | exact Or.inr (PySem.PylongRoom.of (by first | assumption | (refine PySem.Heap.NoLimit.keeps ?_ (PyProof.Rows.Fr.keep (by assumption)); first | assumption | exact PyProof.Rows.Glob.nolimit (by assumption) | exact PyProof.Rows.Top.nolimit (by assumption)) | exact PyProof.Rows.Glob.nolimit (by assumption) | exact PyProof.Rows.Top.nolimit (by assumption)) (of_decide_eq_true (by with_unfolding_all rfl)))); k_whole); intro D9 h9 u1 u2 k9 F' N' l8; (try k_lt l8)) | (k_here; (with_reducible show wpAny _ _ (call (Value.builtin _) [Value.ref _, _]) _ _ _); k_dflt (refine append_K (by k_asm) (by k_asm) (by k_upd) ?_ (by (simp only [List.size_toArray, List.length_append, List.length_cons, List.length_nil]; rw [sizeLine_eq]; omega)); k_whole); intro h' F' N'; (try k_sweep)) | (k_here; (with_reducible show wpAny _ _ (call (Value.builtin "len") [Value.ref _]) _ _ _); k_dflt (refine lenT_K (by k_asm) (by k_mem) (by omega) ?_; k_whole); intro t9 k9)) | ((with_reducible show wpAny _ _ (exec _ _) _ _ _); ((with_reducible show wpAny _ _ (exec (Stmt.For (Expr.Name ..) (Expr.Subscript ..) _ [] _) _) _ _ _); (k_here; (rename Fr _ _ _ _ => lF'); (with_unfolding_all refine' For_turns lF' ?_; k_whole)))) | ((have mk9 : Mark9 := .mk); walk1; all_goals (try clear mk9)))) | (k_unfold; (try dsimp only)) | (k_end; kc_close) | walk1 | (dsimp only; walk1) | (leave1; walk_say "STEP leave1"; (try dsimp only)) | fail "no step"))
    (rename Fr h₀ _ _ _ => kF)
    (rename News h₀ _ _ _ => kN)
    have e4 := i9.length
    rw [List.length_take] at e4
    exact hret _ _ _ _ _ _ kF (fun p hp => kN p (.tail _ hp)) l9 hst (by simp) (by simp; omega) fun y hy => (hx y hy).mono (by omega)
end Mine
end

section -- MLaw0
open PySem PySem.W PyProof.Rows PySem.Calls
set_option Elab.async false
set_option maxRecDepth 100000
set_option maxHeartbeats 8000000
namespace Mine
theorem strs_at : ∀ {vs : List Value} {xs : List Str} {i : Nat} {v : Value}, StrsAre vs xs → vs[i]? = some v → ∃ x t, xs[i]? = some x ∧ v = .str x t
  | _, _, i, v, .nil, h => by simp at h
  | _, _, 0, v, .cons x t _, h => ⟨x, t, rfl, by simpa using h.symm⟩
  | _, _, i + 1, v, .cons _ _ r, h => by
    obtain ⟨x, t, a, b⟩ := strs_at r (by simpa using h)
    exact ⟨x, t, by simpa using a, b⟩
theorem wanted_at {xs : List Str} {ys : List Value} (hl : ys.length = xs.length) (hg : Gs (fun i y => ∀ x, xs[i]? = some x → ∃ u, y = .str (x ++ Str.ofString "//a") u) ys) : StrsAre ys (xs.map (· ++ Str.ofString "//a")) := by
  induction ys generalizing xs with
  | nil =>
    have : xs = [] := List.length_eq_zero_iff.mp hl.symm
    subst this
    exact .nil
  | cons y r ih =>
    cases xs with
    | nil => simp at hl
    | cons x q =>
      obtain ⟨u, rfl⟩ := hg 0 _ rfl x rfl
      exact .cons _ _ (ih (by simpa using hl) fun j z hz x' hx' => hg (j + 1) z (by simpa using hz) x' (by simpa using hx'))
section
variable {prog : Program} {w : World} {A : Around} {E : Value → Shared → Prop} {s : Shared} {h₀ : Heap} {L : Addr} {m : Str → Option Value} {news : Led}
theorem add_txt {x y : Str} {t u : Tok} {Q : Value → Shared → Prop} (hx : x.length ≤ 1000) (hy : y.length ≤ 1000) (h : ∀ t' k, Q (.str (x ++ y) t') { s with toks := k }) : wpAny (model prog w) A (binaryOp .Add (.str x t) (.str y u)) Q E s :=
  KXadd.add hx hy (by omega) fun t' k _ => h t' k
theorem add_led {l b : Addr} {vs ws : List Value} {n k : Nat} {Q : Value → Shared → Prop} (F : Fr h₀ L s.heap m) (N : News h₀ L s.heap news) (hl : (l, listOf vs.toArray n) ∈ news) (hb : (b, listOf ws.toArray k) ∈ news) (hsz : vs.length + ws.length ≤ 1000)
    (h : ∀ D h', Fr h₀ L h' m → News h₀ L h' ((D, listOf (vs ++ ws).toArray 0) :: news) → (∀ p ∈ news, p.1 < D) → Q (.ref D) { s with heap := h' }) : wpAny (model prog w) A (binaryOp .Add (.ref l) (.ref b)) Q E s :=
  add_lists (vs := vs) (ws := ws) (hsz := by rw [sizeLine_eq]; omega) F N (N.isList hl) (N.isList hb) fun h' F' N' => h _ h' F' N' fun p hp => Heap.lt_size (N p hp).1
end
/-- the text's first signs -/
noncomputable def pre (t : Str) (k : Nat) : Str := ⟨(t.cps.toList.take k).toArray⟩
noncomputable def hStep (t : Str) (hs : List Str) (k : Nat) : List Str := if t.cps.toList[k]? ≠ some 47 ∧ pre t (k + 1) ∉ hs then hs ++ [pre t (k + 1)] else hs
noncomputable def hIn (t : Str) (hs : List Str) (n : Nat) : List Str := (List.range n).foldl (hStep t) hs
theorem hIn_zero (t : Str) (hs : List Str) : hIn t hs 0 = hs := rfl
theorem hIn_succ (t : Str) (hs : List Str) (n : Nat) : hIn t hs (n + 1) = hStep t (hIn t hs n) n := by
  unfold hIn
  rw [List.range_succ, List.foldl_append]
  rfl
noncomputable def hAll (ts : List Str) : List Str := ts.foldl (fun hs t => hIn t hs t.length) []
theorem hAll_take {ts : List Str} {i : Nat} {t : Str} (h : ts[i]? = some t) : hAll (ts.take (i + 1)) = hIn t (hAll (ts.take i)) t.length := by
  unfold hAll
  rw [List.take_add_one, h, List.foldl_append]
  rfl
theorem hStep_len (t : Str) (hs : List Str) (k : Nat) : (hStep t hs k).length ≤ hs.length + 1 := by
  unfold hStep
  split <;> simp
theorem hIn_len (t : Str) (hs : List Str) (n : Nat) : (hIn t hs n).length ≤ hs.length + n := by
  induction n with
  | zero => exact Nat.le_refl _
  | succ n ih =>
    rw [hIn_succ]
    exact Nat.le_trans (hStep_len _ _ _) (by omega)
theorem hAll_len (ts : List Str) (h : ∀ t ∈ ts, t.length ≤ 13) : ∀ i, (hAll (ts.take i)).length ≤ 13 * i := by
  intro i
  induction i with
  | zero => exact Nat.le_refl _
  | succ i ih =>
    by_cases hi : i < ts.length
    · have e : ts[i]? = some ts[i] := List.getElem?_eq_getElem hi
      rw [hAll_take e]
      have := hIn_len ts[i] (hAll (ts.take i)) ts[i].length
      have := h ts[i] (List.getElem_mem hi)
      omega
    · rw [List.take_of_length_le (by omega)]
      rw [List.take_of_length_le (by omega)] at ih
      omega
theorem hd_bound {xs : List Str} {i j : Nat} {x : Str} (g3 : xs.length ≤ 3) (h : ∀ t ∈ xs, t.length ≤ 13) (hx : xs[i]? = some x) (hj : j ≤ 13) : (hAll (xs.take i)).length + j ≤ 100 := by
  have := hAll_len xs h i
  have := (List.getElem?_eq_some_iff.mp hx).1
  omega
structure HdS where
  oT : Obj
  hv : List Value
  k : Nat
noncomputable abbrev HdS.names (H lT : Addr) (_ : HdS) : List (Str × Value) := [(Str.ofString "heads", .ref H), (Str.ofString "texts", .ref lT)]
noncomputable abbrev HdS.led (H T : Addr) (R : Led) (c : HdS) : Led := (H, listOf c.hv.toArray c.k) :: (T, c.oT) :: R
noncomputable def HdS.Inv (xs : List Str) (i : Nat) (c : HdS) : Prop := StrsAre c.hv (hAll (xs.take i)) ∧ ∃ v, c.oT.data = .cell v
structure HiS where
  hv : List Value
  k : Nat
noncomputable abbrev HiS.names (H lT : Addr) (_ : HiS) : List (Str × Value) := [(Str.ofString "heads", .ref H), (Str.ofString "texts", .ref lT)]
noncomputable abbrev HiS.led (H : Addr) (R : Led) (c : HiS) : Led := (H, listOf c.hv.toArray c.k) :: R
noncomputable def HiS.Inv (t : Str) (hs : List Str) (j : Nat) (c : HiS) : Prop := StrsAre c.hv (hIn t hs j)
section
variable {prog : Program} {w : World} {A : Around} {E : Value → Shared → Prop} {Q : Flow → Shared → Prop} {s : Shared} {env : Env} {h₀ : Heap} {body : List Stmt} {target : Expr} {x : Str} {H T lT : Addr} {vs hv : List Value} {nT k0 : Nat} {oT : Obj} {m : Str → Option Value} {news R : Led} {xs hs : List Str} {t : Str}
theorem size_len1 {n : Nat} : Builtin.Range.rangeSize 1 ((n : Int) + 1) 1 = (n : Int) := by
  unfold Builtin.Range.rangeSize
  rw [if_pos (by omega)]
  split <;> omega
theorem small_len1 {n : Nat} (h : n ≤ 200) : Builtin.Range.small 1 ((n : Int) + 1) 1 = true := by
  unfold Builtin.Range.small
  simp [size_len1, fits_small (i := (n : Int)) (by omega) (by omega), fits_small (i := 1) (by omega) (by omega), fits_small (i := (n : Int) + 1) (by omega) (by omega)]
theorem own_at {own : Led} {l : List Addr} {b : Addr} (h : OwnOff own l) (hb : b ∈ l) : OwnOff own [b] := fun p hp c hc => by
  rw [List.mem_singleton.mp hc]
  exact h p hp b hb
theorem own_app {o1 o2 : Led} {l : List Addr} (h1 : OwnOff o1 l) (h2 : OwnOff o2 l) : OwnOff (o1 ++ o2) l := fun p hp => (List.mem_append.mp hp).elim (h1 p) (h2 p)
theorem hd_loop (hh : A.handled = none) (hlT : (lT, listOf vs.toArray nT) ∈ R) (F : Fr h₀ env.locals s.heap m) (N : News h₀ env.locals s.heap news) (hsub : ∀ p ∈ HdS.led H T R ⟨oT, [], k0⟩, p ∈ news) (hk1 : m (Str.ofString "heads") = some (.ref H)) (hk2 : m (Str.ofString "texts") = some (.ref lT)) (hoT : ∃ v, oT.data = .cell v)
    (turn : ∀ i v c (u : Str → Option Value) h tk own, vs[i]? = some v → HdS.Inv xs i c → OwnOff own ((HdS.led H T R c).map (·.1)) → Fr h₀ env.locals h (kstB u (HdS.names H lT c)) → News h₀ env.locals h (HdS.led H T R c ++ own) →
      wpAny (model prog w) A (assign target env v) (fun _ s₃ => wpAny (model prog w) A (execs body env) (ForPost h₀ env.locals (HdS.names H lT) (HdS.led H T R) (HdS.Inv xs (i + 1)) own { s with heap := h, toks := tk } Q) E s₃) E { s with heap := h, toks := tk })
    (done : ∀ c (u : Str → Option Value) h tk, HdS.Inv xs vs.length c → Fr h₀ env.locals h (kstB u (HdS.names H lT c)) → News h₀ env.locals h (HdS.led H T R c) → Q .next { s with heap := h, toks := tk }) :
    wpAny (model prog w) A (pyIter (.ref lT)) (fun it s₂ => TurnsAt prog w A h₀ env target body Q E it s₂) E s :=
  for_tup (ps := HdS.names H lT) (Ld := HdS.led H T R) (P := HdS.Inv xs) ⟨oT, [], k0⟩ hh (fun _ => .tail _ (.tail _ hlT)) F N (fun p hp => by
    rcases List.mem_cons.mp hp with rfl | hp
    · exact hk1
    · rw [List.mem_singleton.mp hp]
      exact hk2) hsub ⟨.nil, hoT⟩ turn done
theorem hd_loop' {W D L3 L2 a : Addr} {oW oD o3 o2 ot : Obj} (hh : A.handled = none) (F : Fr h₀ env.locals s.heap m) (N : News h₀ env.locals s.heap [(H, listOf ([] : List Value).toArray k0), (W, oW), (D, oD), (lT, listOf vs.toArray nT), (L3, o3), (L2, o2), (T, oT), (a, ot)]) (hk1 : m (Str.ofString "heads") = some (.ref H)) (hk2 : m (Str.ofString "texts") = some (.ref lT)) (hoT : ∃ v, oT.data = .cell v)
    (turn : ∀ i v c (u : Str → Option Value) h tk own, vs[i]? = some v → HdS.Inv xs i c → OwnOff own ((HdS.led H T [(W, oW), (lT, listOf vs.toArray nT), (L3, o3), (L2, o2), (a, ot)] c).map (·.1)) → Fr h₀ env.locals h (kstB u (HdS.names H lT c)) → News h₀ env.locals h (HdS.led H T [(W, oW), (lT, listOf vs.toArray nT), (L3, o3), (L2, o2), (a, ot)] c ++ own) →
      wpAny (model prog w) A (assign target env v) (fun _ s₃ => wpAny (model prog w) A (execs body env) (ForPost h₀ env.locals (HdS.names H lT) (HdS.led H T [(W, oW), (lT, listOf vs.toArray nT), (L3, o3), (L2, o2), (a, ot)]) (HdS.Inv xs (i + 1)) own { s with heap := h, toks := tk } Q) E s₃) E { s with heap := h, toks := tk })
    (done : ∀ c (u : Str → Option Value) h tk, HdS.Inv xs vs.length c → Fr h₀ env.locals h (kstB u (HdS.names H lT c)) → News h₀ env.locals h (HdS.led H T [(W, oW), (lT, listOf vs.toArray nT), (L3, o3), (L2, o2), (a, ot)] c) → Q .next { s with heap := h, toks := tk }) :
    wpAny (model prog w) A (pyIter (.ref lT)) (fun it s₂ => TurnsAt prog w A h₀ env target body Q E it s₂) E s := by
  refine hd_loop (oT := oT) (k0 := k0) hh (.tail _ (.head _)) F N ?_ hk1 hk2 hoT turn done
  intro p hp
  simp only [List.mem_cons, List.not_mem_nil, or_false] at hp ⊢
  rcases hp with h | h | h | h | h | h | h <;> simp only [h, true_or, or_true]
theorem hi_loop {r : Addr} {a₀ b₀ : Int} {t₀ u₀ v₀ : Tok} (hh : A.handled = none) (hr : IsRange s.heap r a₀ b₀ 1 t₀ u₀ v₀) (ha : a₀ = 1) (hb : b₀ = (t.length : Int) + 1) (hlen : t.length ≤ 200) (F : Fr h₀ env.locals s.heap m) (N : News h₀ env.locals s.heap news) (hsub : ∀ p ∈ HiS.led H R ⟨hv, k0⟩, p ∈ news) (hk1 : m (Str.ofString "heads") = some (.ref H)) (hk2 : m (Str.ofString "texts") = some (.ref lT)) (hst : StrsAre hv hs)
    (turn : ∀ (i : Nat) tt c (u : Str → Option Value) h tk own, i < t.length → HiS.Inv t hs i c → OwnOff own ((HiS.led H R c).map (·.1)) → Fr h₀ env.locals h (fun y => if y = x then some (.int (1 + i) tt) else kstB u (HiS.names H lT c) y) → News h₀ env.locals h (HiS.led H R c ++ own) →
      wpAny (model prog w) A (execs body env) (ForPost h₀ env.locals (HiS.names H lT) (HiS.led H R) (HiS.Inv t hs (i + 1)) own { s with heap := h, toks := tk } Q) E { s with heap := h, toks := tk })
    (done : ∀ c (u : Str → Option Value) h tk, HiS.Inv t hs t.length c → Fr h₀ env.locals h (kstB u (HiS.names H lT c)) → News h₀ env.locals h (HiS.led H R c) → Q .next { s with heap := h, toks := tk }) :
    wpAny (model prog w) A (pyIter (.ref r)) (fun it s₂ => LoopAtV prog w A h₀ env x body Q E it s₂) E s := by
  subst ha hb
  refine for_range (ps := HiS.names H lT) (Ld := HiS.led H R) (P := HiS.Inv t hs) (n := t.length) ⟨hv, k0⟩ hh hr ?_ ?_ F N (fun p hp => by
    rcases List.mem_cons.mp hp with rfl | hp
    · exact hk1
    · rw [List.mem_singleton.mp hp]
      exact hk2) hsub hst turn done
  · exact small_len1 hlen
  · exact size_len1
end
theorem hi_next {h₀ : Heap} {Lx H lT : Addr} {R own n' : Led} {h' h : Heap} {m' : Str → Option Value} {s : Shared} {tk tk' : Nat} {j k' : Nat} {v' : List Value} {c0 : HiS} {Q : Flow → Shared → Prop} {t : Str} {hs : List Str} (F' : Fr h₀ Lx h' m') (N' : News h₀ Lx h' n') (hk1 : m' (Str.ofString "heads") = some (.ref H)) (hk2 : m' (Str.ofString "texts") = some (.ref lT)) (hH : (H, listOf v'.toArray k') ∈ n') (hR : ∀ p ∈ R, p ∈ n') (hown : ∀ p ∈ own, p ∈ n') (hoff : OwnOff own ((HiS.led H R c0).map (·.1))) (hP : HiS.Inv t hs (j + 1) ⟨v', k'⟩) :
    ForPost h₀ Lx (HiS.names H lT) (HiS.led H R) (HiS.Inv t hs (j + 1)) own { s with heap := h, toks := tk } Q .next { s with heap := h', toks := tk' } := by
  refine ⟨⟨v', k'⟩, h', tk', m', n', rfl, F', N', ?_, ?_, hown, hoff, hP⟩
  · intro p hp
    rcases List.mem_cons.mp hp with rfl | hp
    · exact hk1
    · rw [List.mem_singleton.mp hp]
      exact hk2
  · intro p hp
    rcases List.mem_cons.mp hp with rfl | hp
    · exact hH
    · exact hR p hp
theorem hd_next {h₀ : Heap} {Lx H T lT : Addr} {R own n' : Led} {h' h : Heap} {m' : Str → Option Value} {s : Shared} {tk tk' : Nat} {j k' : Nat} {v' : List Value} {oT : Obj} {c0 : HdS} {Q : Flow → Shared → Prop} {xs : List Str} (F' : Fr h₀ Lx h' m') (N' : News h₀ Lx h' n') (hk1 : m' (Str.ofString "heads") = some (.ref H)) (hk2 : m' (Str.ofString "texts") = some (.ref lT)) (hsub : ∀ p ∈ HdS.led H T R ⟨oT, v', k'⟩ ++ own, p ∈ n') (hoff : OwnOff own ((HdS.led H T R c0).map (·.1))) (hP : HdS.Inv xs (j + 1) ⟨oT, v', k'⟩) :
    ForPost h₀ Lx (HdS.names H lT) (HdS.led H T R) (HdS.Inv xs (j + 1)) own { s with heap := h, toks := tk } Q .next { s with heap := h', toks := tk' } := by
  refine ⟨⟨oT, v', k'⟩, h', tk', m', n', rfl, F', N', ?_, fun p hp => hsub p (List.mem_append_left _ hp), fun p hp => hsub p (List.mem_append_right _ hp), hoff, hP⟩
  intro p hp
  rcases List.mem_cons.mp hp with rfl | hp
  · exact hk1
  · rw [List.mem_singleton.mp hp]
    exact hk2
theorem slice_pre {x : Str} {j : Nat} : Txt.slice x none (some (1 + (j : Int))) = pre x (j + 1) := by
  rw [slice_ns (by omega)]
  unfold pre
  rw [show (1 + (j : Int)).toNat = j + 1 by omega]
theorem item_pre1 {x : Str} {j : Nat} (h : j < x.length) : ∃ c, x.cps.toList[j]? = some c ∧ Txt.item x (1 + (j : Int) - 1) = ⟨#[c]⟩ := by
  have hl : j < x.cps.toList.length := by simpa [Str.length] using h
  refine ⟨x.cps.toList[j], List.getElem?_eq_getElem hl, ?_⟩
  refine item_pre (pre := x.cps.toList.take j) (post := x.cps.toList.drop (j + 1)) ?_ ?_
  · rw [List.getElem_cons_drop, List.take_append_drop]
  · rw [List.length_take]
    omega
theorem step_slash {x : Str} {hs : List Str} {j : Nat} (h : j < x.length) (ht : (Txt.item x (1 + (j : Int) - 1) != Str.ofString "/") = false) : hStep x hs j = hs := by
  obtain ⟨c, hc, e⟩ := item_pre1 h
  rw [e, show Str.ofString "/" = ⟨#[47]⟩ by decide +kernel] at ht
  have : c = 47 := by simpa using ht
  subst this
  unfold hStep
  rw [if_neg (by rw [hc]; simp)]
theorem step_dup {x : Str} {hs : List Str} {j : Nat} (ha : (hs.any fun z => z == Txt.slice x none (some (1 + (j : Int)))) = true) : hStep x hs j = hs := by
  rw [slice_pre] at ha
  unfold hStep
  rw [if_neg]
  rintro ⟨_, h⟩
  obtain ⟨z, hz, e⟩ := List.any_eq_true.mp ha
  exact h (by rw [← eq_of_beq e]; exact hz)
theorem step_add {x : Str} {hs : List Str} {j : Nat} (h : j < x.length) (ht : (Txt.item x (1 + (j : Int) - 1) != Str.ofString "/") = true) (ha : (hs.any fun z => z == Txt.slice x none (some (1 + (j : Int)))) = false) : hStep x hs j = hs ++ [Txt.slice x none (some (1 + (j : Int)))] := by
  obtain ⟨c, hc, e⟩ := item_pre1 h
  rw [e, show Str.ofString "/" = ⟨#[47]⟩ by decide +kernel] at ht
  rw [slice_pre] at ha ⊢
  unfold hStep
  rw [if_pos]
  refine ⟨?_, fun hm => ?_⟩
  · rw [hc]
    intro e
    cases e
    simp at ht
  · have := List.any_eq_false.mp ha _ hm
    simp at this
end Mine
end

section -- MDc
open PySem PySem.W PyProof.Rows PySem.Calls
set_option Elab.async false
set_option maxRecDepth 100000
set_option maxHeartbeats 8000000
namespace Mine
section
variable {prog : Program} {w : World} {A : Around} {E : Value → Shared → Prop} {s : Shared} {env : Env} {h₀ h h' : Heap} {L b : Addr} {m : Str → Option Value} {news : Led}
structure Dw (prog : Program) (w : World) (h₀ : Heap) (L : Addr) (m : Str → Option Value) (I C D ax : Addr) (i : Nat) (kvs : List (Str × Value)) (oD : Obj) (news : Led) (h : Heap) : Prop where
  F : Fr h₀ L h m
  N : News h₀ L h ((D, oD) :: news)
  d : oD.IsDictOf (PySem.strKind prog w) kvs
  off : LCg.Off3 I C D news
  it : h.IsListIter I ax i
  C : ∃ mc, h.Ns C mc
/-- what a turn of a dict comprehension leaves behind -/
noncomputable def DcEnd (h₀ : Heap) (L : Addr) (m : Str → Option Value) (s₁ : Shared) (I : Addr) (oI : Obj) (C : Addr) (oC : Obj) (D : Addr) (oD : Obj) (J : Str → Value → Led → Prop) (kv vv : Value) (s₂ : Shared) : Prop :=
  ∃ k t h' tk nw, kv = .str k t ∧ s₂ = { s₁ with heap := h', toks := tk } ∧ Fr h₀ L h' m ∧ News h₀ L h' ((I, oI) :: (C, oC) :: (D, oD) :: nw) ∧ LCg.Off3 I C D nw ∧ J k vv nw
theorem DcEnd.intro {s₁ : Shared} {I C D : Addr} {oI oC oD : Obj} {J : Str → Value → Led → Prop} {k : Str} {t : Tok} {vv : Value} {tk : Nat} {all : Led} (F : Fr h₀ L h' m) (N : News h₀ L h' all) (nw : Led) (sub : ∀ p ∈ (I, oI) :: (C, oC) :: (D, oD) :: nw, p ∈ all) (off : LCg.Off3 I C D nw) (j : J k vv nw) :
    DcEnd h₀ L m s₁ I oI C oC D oD J (.str k t) vv { s₁ with heap := h', toks := tk } := ⟨k, t, h', tk, nw, rfl, rfl, F, fun p hp => N p (sub p hp), off, j⟩
/-- a dict comprehension of one clause over a list of the ledger -/
noncomputable def DcSrc (prog : Program) (w : World) (A : Around) (h₀ : Heap) (L : Addr) (m : Str → Option Value) (env : Env) (kx vx : Expr) (x : Str) (scope : Scope) (cl : List (Str × Addr)) (Q : Value → Shared → Prop) (xv : Value) (s₁ : Shared) : Prop :=
  ∃ (J : Nat → List (Str × Value) → Led → Prop) (ax : Addr) (vs : List Value) (n : Nat) (news : Led), xv = .ref ax ∧ A.handled = none ∧ Fr h₀ L s₁.heap m ∧ News h₀ L s₁.heap news ∧ (∀ i kvs nw, J i kvs nw → (ax, listOf vs.toArray n) ∈ nw) ∧ vs.length ≤ 1000 ∧ J 0 [] news ∧
    (∀ i v kvs nw I oI C oC D oD m₂ h tk (E' : Value → Shared → Prop), vs[i]? = some v → J i kvs nw → LCg.NsObj oC m₂ → m₂ x = some v → Fr h₀ L h m → News h₀ L h ((I, oI) :: (C, oC) :: (D, oD) :: nw) → LCg.Off3 I C D nw → ((@Ne Nat I C) ∧ (@Ne Nat I D) ∧ (@Ne Nat C D)) →
      wpAny (model prog w) A (eval kx (compEnvC scope cl C env)) (fun kv s₃ => wpAny (model prog w) A (eval vx (compEnvC scope cl C env)) (DcEnd h₀ L m { s₁ with heap := h, toks := tk } I oI C oC D oD (fun k vv nw' => J (i + 1) (stored kvs k vv) nw') kv) E' s₃) E' { s₁ with heap := h, toks := tk }) ∧
    (∀ D oD h tk kvs nw, J vs.length kvs nw → oD.IsDictOf (PySem.strKind prog w) kvs → Fr h₀ L h m → News h₀ L h ((D, oD) :: nw) → LCg.Off1 D nw → Q (.ref D) { s₁ with heap := h, toks := tk })
theorem block_dc {iter kx vx : Expr} {x : Str} {px : Pos} {scope : Scope} {cl : List (Str × Addr)} {pos : Pos} {Q : Value → Shared → Prop} {RR : Value → Addr → Result → Shared → Prop} {xv : Value} {s₁ : Shared}
    (hcell : ∀ y ∈ scope.names, y.2 ≠ .cell) (hkind : scope.kind = .function) (hx : scope.names.lookup x = some .local)
    (h₁ : DcSrc prog w A h₀ L m env kx vx x scope cl Q xv s₁)
    (hRR : ∀ D C h tk m', (∀ h'' tk', Fr h₀ L h'' m → Heap.SameBut C h h'' → Q (.ref D) { s₁ with heap := h'', toks := tk' }) → Fr h₀ L h m → h.Ns C m' → h₀.get? C = none → C ≠ L → RR (.ref D) C (.ok .next) { s₁ with heap := h, toks := tk }) :
    wpAny (model prog w) A (pyIter xv) (fun it s₂ => wpAny (model prog w) A newDict (fun acc s₃ => wpAny (model prog w) A (newFunctionEnv scope env.globals cl [] env.qual none .none (some env)) (fun cenv s₄ =>
      codeAny (model prog w) A (.compStart (.DictComp kx vx [⟨.Name x px, iter, [], 0⟩] scope pos) 0 it acc { cenv with scope := relabel scope env }) (RR acc cenv.locals) s₄) E s₃) E s₂) E s₁ := by
  obtain ⟨J, ax, its, n, news, rfl, hh, F, N, hax, hle, hJ0, hturn, hfin⟩ := h₁
  refine wpAny_pyIter_list (items := its.toArray) ⟨_, (N _ (hax _ _ _ hJ0)).1, rfl, n, rfl⟩ ?_
  refine wpAny_newObj_type (wpAny_newFunctionEnv hcell (by intro y hy; simp at hy) (fun h₁ hns₁ hsb₁ => ?_) hkind)
  dsimp only at hns₁ hsb₁ ⊢
  generalize hI : s₁.heap.objs.size = I at *
  generalize hH1 : s₁.heap.push { cls := .type "list_iterator", data := .fields #[.ref ax, .int 0 0] } = H1 at hns₁ hsb₁ ⊢
  have hD : H1.objs.size = I + 1 := by rw [← hH1, Heap.size_push, hI]
  have hnew : (H1.push { cls := .type "dict", dict := none, data := .dict #[] }).DictOf (PySem.strKind prog w) H1.objs.size [] := Heap.DictOf.new H1
  generalize hH2 : H1.push { cls := .type "dict", dict := none, data := .dict #[] } = H2 at hns₁ hsb₁ hnew ⊢
  have hC : H2.objs.size = H1.objs.size + 1 := by rw [← hH2, Heap.size_push]
  generalize hDe : H1.objs.size = D at *
  generalize hCe : H2.objs.size = C at *
  have lt1 : ∀ b o, s₁.heap.get? b = some o → b < I := fun b o e => hI ▸ Heap.lt_size e
  have ne1 : ∀ b o, s₁.heap.get? b = some o → b ≠ I ∧ b ≠ C ∧ b ≠ D := fun b o e => by
    have z : @LT.lt Nat _ b I := lt1 b o e
    have h1 : @Eq Nat D (I + 1) := hD
    have h2 : @Eq Nat C (D + 1) := hC
    refine ⟨?_, ?_, ?_⟩
    · show @Ne Nat b I; omega
    · show @Ne Nat b C; omega
    · show @Ne Nat b D; omega
  have up : ∀ b o, s₁.heap.get? b = some o → h₁.get? b = some o := fun b o e => hsb₁.extBut b o (ne1 b o e).2.1 (Heap.get?_push_of_some _ (by rw [← hH2]; exact Heap.get?_push_of_some _ (by rw [← hH1]; exact Heap.get?_push_of_some _ e)))
  have k0 : ∀ b, (∀ o, s₁.heap.get? b ≠ some o) → h₀.get? b = none := fun b hb => by
    cases e : h₀.get? b with
    | none => rfl
    | some o => exact absurd (F.keep b o e) (hb o)
  obtain ⟨oL, hL⟩ : ∃ o, s₁.heap.get? L = some o := by obtain ⟨o, es, ep, e, _⟩ := F.ns; exact ⟨o, e⟩
  have k : TwC h₀ L I C D := by
    have h1 : @Eq Nat D (I + 1) := hD
    have h2 : @Eq Nat C (D + 1) := hC
    refine ⟨k0 _ fun o e => (ne1 _ _ e).1 rfl, k0 _ fun o e => (ne1 _ _ e).2.1 rfl, k0 _ fun o e => (ne1 _ _ e).2.2 rfl, ?_, ?_, ?_, Ne.symm (ne1 _ _ hL).1, Ne.symm (ne1 _ _ hL).2.1, Ne.symm (ne1 _ _ hL).2.2⟩
    · show @Ne Nat I C; omega
    · show @Ne Nat I D; omega
    · show @Ne Nat C D; omega
  have hIt : H1.IsListIter I ax 0 := by
    have e : (s₁.heap.push { cls := .type "list_iterator", data := .fields #[.ref ax, .int 0 0] }).get? s₁.heap.objs.size = some { cls := .type "list_iterator", data := .fields #[.ref ax, .int 0 0] } := Heap.get?_push_size _ rfl
    rw [hI, hH1] at e
    exact ⟨_, e, rfl, rfl⟩
  have hIt1 : h₁.IsListIter I ax 0 := hIt.at fun o e => hsb₁.extBut _ _ k.IC (Heap.get?_push_of_some _ (by rw [← hH2]; exact Heap.get?_push_of_some _ e))
  obtain ⟨oD0, hDo, hdD⟩ := Heap.dictOf_iff.mp (Heap.DictOf.at hnew fun o e => hsb₁.extBut _ _ (Ne.symm k.CD) (Heap.get?_push_of_some _ e))
  have T : Dw prog w h₀ L m I C D ax 0 [] oD0 news h₁ := by
    refine ⟨F.keeps up, ?_, hdD, LCg.Off3.of fun p hp => ne1 _ _ (N p hp).1, hIt1, ⟨_, hns₁⟩⟩
    intro p hp
    rcases List.mem_cons.mp hp with rfl | hp
    · exact ⟨hDo, k.DL, k.D0⟩
    · exact ⟨up _ _ (N p hp).1, (N p hp).2⟩
  have loop : ∀ s₃ : Shared, (∃ tk, s₃ = { s₁ with heap := h₁, toks := tk }) →
      codeAny (model prog w) A (.compLoop (.DictComp kx vx [⟨.Name x px, iter, [], 0⟩] scope pos) 0 (.ref I) (.ref D) (compEnvC scope cl C env)) (RR (.ref D) C) s₃ := by
    rintro s₃ ⟨tk₃, rfl⟩
    refine codeAny_compLoop_testsD (fun q s' => ∃ h' tk i kvs oD nw, s' = { s₁ with heap := h', toks := tk } ∧ i ≤ its.length ∧ q = its.length - i ∧ kvs.length ≤ i ∧ J i kvs nw ∧ Dw prog w h₀ L m I C D ax i kvs oD nw h') ?_ its.length ⟨h₁, tk₃, 0, [], oD0, news, rfl, Nat.zero_le _, rfl, Nat.le_refl _, hJ0, T⟩
    rintro q s' ⟨h', tk, i, kvs, oD, nw, rfl, hi, rfl, hkl, hJ, T⟩
    have hli : h'.IsList ax its.toArray := ⟨_, (T.N _ (.tail _ (hax _ _ _ hJ))).1, rfl, n, rfl⟩
    have off3 := T.off.mem
    obtain ⟨mc, hmc⟩ := T.C
    by_cases hlt : i < its.length
    · refine wpAny_pyNext_list_item T.it hli (x := its[i]) (by simp [hlt]) fun h2 hI2 hs2 => ?_
      have hs2 : Heap.SameBut I h' h2 := hs2
      refine wpAny_assign_Name (wpAny_storeName_local (lookup_relabel_local hx) (hmc.extBut hs2.extBut (Ne.symm k.IC)) (fun h3 hn3 hs3 => ?_) (by simp [compEnvC, relabel, hkind]))
      have hs3 : Heap.SameBut C h2 h3 := hs3
      refine wpAny_tests_nil ?_
      simp only [if_true]
      have F3 : Fr h₀ L h3 m := fr_ext (fr_ext T.F hs2.extBut k.IL k.I0) hs3.extBut k.CL k.C0
      obtain ⟨oI, heI, hoI⟩ := hI2.extBut hs3.extBut k.IC
      obtain ⟨oC, heC, hoC⟩ := LCg.ns_obj hn3
      have N3 : News h₀ L h3 ((I, oI) :: (C, oC) :: (D, oD) :: nw) := fun p hp => by
        rcases List.mem_cons.mp hp with rfl | hp
        · exact ⟨heI, k.IL, k.I0⟩
        · rcases List.mem_cons.mp hp with rfl | hp
          · exact ⟨heC, k.CL, k.C0⟩
          · have z := T.N p hp
            refine ⟨hs3.extBut _ _ ?_ (hs2.extBut _ _ ?_ z.1), z.2⟩
            · rcases List.mem_cons.mp hp with rfl | hp
              · exact Ne.symm k.CD
              · exact (off3 p hp).2.1
            · rcases List.mem_cons.mp hp with rfl | hp
              · exact Ne.symm k.ID
              · exact (off3 p hp).1
      refine wpAny_mono (hturn i its[i] kvs nw I oI C oC D oD _ h3 _ _ (by simp [hlt]) hJ hoC (by simp) F3 N3 T.off ⟨k.IC, k.ID, k.CD⟩) (fun kv s₄ h₄ => wpAny_mono h₄ (fun vv s₅ h₅ => ?_) fun _ _ e => e) fun _ _ e => e
      obtain ⟨kk, t, h5, tk5, nw', rfl, rfl, F5, N5, off5, hJ5⟩ := h₅
      have off5m := off5.mem
      have zD := (N5 (D, oD) (.tail _ (.tail _ (.head _)))).1
      have zI := (N5 (I, oI) (.head _)).1
      have zC := (N5 (C, oC) (.tail _ (.head _))).1
      refine wpAny_dictSet_pairs (hsz := by rw [sizeLine_eq]; omega) (strKind_is _ _ kk t) (Heap.dictOf_iff.mpr ⟨oD, zD, T.d⟩) fun h6 hl6 hs6 => ?_
      obtain ⟨oD6, hD6, hd6⟩ := Heap.dictOf_iff.mp hl6
      refine ⟨its.length - (i + 1), by omega, h6, _, i + 1, stored kvs kk vv, oD6, nw', rfl, hlt, rfl, Nat.le_trans (stored_length_le _ _ _) (by omega), hJ5, fr_ext F5 hs6.extBut k.DL k.D0, ?_, hd6, off5, ?_, ?_⟩
      · intro p hp
        rcases List.mem_cons.mp hp with rfl | hp
        · exact ⟨hD6, k.DL, k.D0⟩
        · exact ⟨hs6.extBut _ _ (off5m p hp).2.2 (N5 p (.tail _ (.tail _ (.tail _ hp)))).1, (N5 p (.tail _ (.tail _ (.tail _ hp)))).2⟩
      · exact Heap.IsListIter.extBut ⟨oI, zI, hoI⟩ hs6.extBut k.ID
      · exact ⟨_, (hoC.ns zC).extBut hs6.extBut k.CD⟩
    · have hin : i = its.length := by omega
      subst hin
      refine wpAny_pyNext_list_end hh T.it hli (by simp) fun h2 hs => ?_
      have F2 : Fr h₀ L h2 m := fr_ext T.F hs k.IL k.I0
      have N2 : News h₀ L h2 ((D, oD) :: nw) := news_ext T.N hs (by
        intro p hp
        rcases List.mem_cons.mp hp with rfl | hp
        · exact Ne.symm k.ID
        · exact (off3 p hp).1)
      refine hRR D C h2 _ mc (fun h'' tk' F'' hs'' => ?_) F2 (hmc.extBut hs (Ne.symm k.IC)) k.C0 k.CL
      have hs'' : Heap.SameBut C h2 h'' := hs''
      exact hfin D oD h'' tk' kvs nw hJ T.d F'' (news_ext N2 hs''.extBut (by
        intro p hp
        rcases List.mem_cons.mp hp with rfl | hp
        · exact Ne.symm k.CD
        · exact (off3 p hp).2.1)) T.off.one
  exact codeAny_compStart_dict (loop _ ⟨_, rfl⟩) (wpAny_pyIter_listiter hIt1 (loop _ ⟨_, rfl⟩))
theorem DictComp_K {kx vx iter : Expr} {x : Str} {px : Pos} {scope : Scope} {cl : List (Str × Addr)} {pos : Pos} {Q : Value → Shared → Prop} (_F₀ : Fr h₀ L s.heap m)
    (hclos : closureFor scope env = pure cl) (hcell : ∀ y ∈ scope.names, y.2 ≠ .cell) (hkind : scope.kind = .function)
    (hnames : ∀ y ∈ scope.names, y.2 = .local → scope.names.lookup y.1 = some .local) (hx : scope.names.lookup x = some .local)
    (h : wpAny (model prog w) A (eval iter env) (DcSrc prog w A h₀ L m env kx vx x scope cl Q) E s)
    (hs : ∀ x, foldedSetIterable iter env x = pure x := by intro _; rfl) :
    wpAny (model prog w) A (eval (.DictComp kx vx [⟨.Name x px, iter, [], 0⟩] scope pos) env) Q E s := by
  rw [arm_eval_DictComp]
  refine wpAny_comprehension_free (use := none) rfl hs hclos hkind hnames (wpAny_mono h (fun xv s₁ h₁ => ?_) fun _ _ e => e)
  refine block_dc (RR := fun acc C => compPost (model prog w) A E none Q acc C) hcell hkind hx h₁ ?_
  intro D C h tk m' fin F' hn hC₀ hCL
  refine ⟨m', hn, fun h'' hs'' => fin h'' tk (F'.change hs'' hCL hC₀) hs''⟩
end
end Mine
end

section -- MLaw1
open PySem PySem.W PyProof.Rows PySem.Calls
set_option Elab.async false
set_option maxRecDepth 100000
set_option maxHeartbeats 8000000
namespace Mine
noncomputable def escT (x : Str) : Str := ⟨((x.cps.toList.map tkOf).flatMap Tk.txt).toArray⟩
noncomputable def hdOf (x : Str) : List Tk := x.cps.toList.map tkOf ++ [Tk.bare 47]
theorem tk_ok {c : Nat} (h : Sign c) : (tkOf c).Ok ∧ (tkOf c).isStar = false ∧ (tkOf c).bar = false := by
  unfold tkOf
  by_cases e : c = 42 ∨ c = 63 ∨ c = 91
  · rw [if_pos e]
    exact ⟨e, rfl, rfl⟩
  · rw [if_neg e]
    refine ⟨?_, rfl, rfl⟩
    rcases h with h | h
    · exact h
    · exact absurd h e
theorem txt_le3 (c : Nat) : (tkOf c).txt.length ≤ 3 := by
  unfold tkOf
  split <;> simp [Tk.txt]
theorem esc_len3 (cs : List Nat) : ((cs.map tkOf).flatMap Tk.txt).length ≤ 3 * cs.length := by
  induction cs with
  | nil => exact Nat.le_refl _
  | cons c r ih =>
    have := txt_le3 c
    simp only [List.map_cons, List.flatMap_cons, List.length_append, List.length_cons]
    omega
theorem escT_len {x : Str} {k : Nat} (h : x.length ≤ k) : (escT x).length ≤ 3 * k := by
  have e : (escT x).length = ((x.cps.toList.map tkOf).flatMap Tk.txt).length := by simp [escT, Str.length]
  have := esc_len3 x.cps.toList
  have e2 : x.cps.toList.length = x.length := by simp [Str.length]
  omega
theorem seq_tail {hd : List Tk} : ∀ b, hd ≠ [] → (∀ t ∈ hd, t.Ok ∧ t.isStar = false) → seqOk b (hd ++ [Tk.star, Tk.nsl, Tk.star]) := by
  induction hd with
  | nil => intro b h; exact absurd rfl h
  | cons t r ih =>
    intro b _ h
    obtain ⟨h1, h2⟩ := h t (.head _)
    refine And.intro h1 (And.intro (fun e => absurd e (by rw [h2]; decide)) ?_)
    show seqOk t.isStar (r ++ [Tk.star, Tk.nsl, Tk.star])
    rw [h2]
    cases r with
    | nil => exact ⟨trivial, fun _ => rfl, trivial, (fun e => by cases e), trivial, fun _ => rfl, trivial⟩
    | cons q z => exact ih _ (by simp) fun t ht => h t (.tail _ ht)
theorem hd_ok {x : Str} {k : Nat} (h : GoodT k x) (hk : k ≤ 13) : HdOk (escT x ++ Str.ofString "/*[!/]*") (hdOf x) := by
  have hl : x.length ≤ 13 := Nat.le_trans h.1 hk
  have e2 : x.cps.toList.length = x.length := by simp [Str.length]
  have hall : ∀ t ∈ hdOf x, t.Ok ∧ t.isStar = false ∧ t.bar = false := by
    intro t ht
    rcases List.mem_append.mp ht with ht | ht
    · obtain ⟨c, hc, rfl⟩ := List.mem_map.mp ht
      exact tk_ok (h.2 c hc)
    · rw [List.mem_singleton.mp ht]
      exact ⟨.inl rfl, rfl, rfl⟩
  have b1 : (Str.ofString "/*[!/]*").cps.toList = [47, 42, 91, 33, 47, 93, 42] := by decide +kernel
  have b2 : (Str.ofString "/*[!/]*").length = 7 := by decide +kernel
  refine ⟨?_, ?_, ?_, fun t ht => ⟨(hall t ht).1, (hall t ht).2.1⟩, fun t ht => (hall t ht).2.2, ?_⟩
  · rw [PySem.Str.length_append, b2]
    have := escT_len hl
    omega
  · rw [app_cps, b1]
    simp [escT, hdOf, Tk.txt]
  · exact seq_tail _ (by simp [hdOf]) fun t ht => ⟨(hall t ht).1, (hall t ht).2.1⟩
  · simp only [hdOf, List.length_append, List.length_map, List.length_cons, List.length_nil]
    omega
theorem escd_use {w : World} {x : Str} {t1 : Tok} {news : Led} {p : Program} {loose : List Str} {mean : ExcName → Option Value} {mg mb : Str → Option Value} {dp un : Nat} {gd : Option (List Code)} {cn : Str} {cs : Scope} {a : Addr} {ccd : Value} {cl : List (Str × Addr)} {outer : List Env} {A₀ : Around} {base h₀ : Heap} {L : Addr} {m : Str → Option Value} {s : Shared} {Q E : Value → Shared → Prop}
    (hlen : x.length ≤ 100) (B : Below A₀ base outer h₀) (F : Fr h₀ L s.heap m) (X : (Mine.heapK w.params).In h₀) (N : News h₀ L s.heap news) (T : Top p loose mean mg mb h₀) (hk : cs.kind = .function) (hd : dp + 3 < recursionLimit) (hu : un + 60 < cLine)
    (h : ∀ u h' tk', Fr h₀ L h' m → News h₀ L h' news → Q (.str (escT x) u) { s with heap := h', toks := tk' }) :
    wpAny (model P0 w) (ktrTop dp un gd cn cs L a ccd cl outer) (call (.ref 201) [.str x t1]) Q E s :=
  (escd_core hlen).use B F X N T hk hd hu fun r tl h' tk' F' N' _ hr => by
    obtain ⟨u, rfl⟩ := hr
    exact h u h' tk' F' fun p hp => N' p (List.mem_append_right _ hp)
/-- the dict of what each head's pattern takes -/
noncomputable def BelowIs (hs : List Str) (ws : List Value) (i : Nat) (kvs : List (Str × Value)) (bl : Led) : Prop := ∀ j x, j < i → hs[j]? = some x → ∃ r nr, valueAt kvs x = some (.ref r) ∧ (r, listOf (ws.filter (takeV (hdOf x))).toArray nr) ∈ bl
noncomputable def DJ (R : Led) (hs : List Str) (ws : List Value) (i : Nat) (kvs : List (Str × Value)) (nw : Led) : Prop := ∃ ps bl, nw = (153, tabObj ps) :: (R ++ bl) ∧ TripR ps.toList ∧ (∀ p ∈ R ++ bl, p.1 ≠ 153) ∧ (∀ p ∈ bl, ∀ q ∈ R, p.1 ≠ q.1) ∧ BelowIs hs ws i kvs bl
theorem val_stored (kvs : List (Str × Value)) (k x : Str) (v : Value) : valueAt (stored kvs k v) x = if x = k then some v else valueAt kvs x := by
  unfold stored
  by_cases ha : (kvs.any fun kv => decide (kv.1 = k)) = true
  · rw [if_pos ha]
    unfold valueAt
    induction kvs with
    | nil => cases ha
    | cons p r ih =>
      rw [List.map_cons, List.find?_cons, List.find?_cons]
      by_cases hp : p.1 = k
      · rw [if_pos hp]
        by_cases e : x = k
        · rw [if_pos e]
          have : decide ((p.1, v).1 = x) = true := by simp [hp, e]
          rw [this]
          rfl
        · rw [if_neg e]
          have h1 : decide ((p.1, v).1 = x) = false := by simp [hp]; exact fun h => e h.symm
          have h2 : decide (p.1 = x) = false := by simp [hp]; exact fun h => e h.symm
          simp only [h2]
          clear ih ha
          induction r with
          | nil => rfl
          | cons q z ih2 =>
            rw [List.map_cons, List.find?_cons, List.find?_cons]
            by_cases hq : q.1 = k
            · rw [if_pos hq]
              have h1 : decide ((q.1, v).1 = x) = false := by simp [hq]; exact fun h => e h.symm
              have h2 : decide (q.1 = x) = false := by simp [hq]; exact fun h => e h.symm
              simp only [h2]
              exact ih2
            · rw [if_neg hq]
              by_cases hqx : q.1 = x
              · simp [hqx]
              · simp only [hqx, decide_false]
                exact ih2
      · rw [if_neg hp]
        have ha' : (r.any fun kv => decide (kv.1 = k)) = true := by
          rw [List.any_cons] at ha
          simpa [hp] using ha
        by_cases hpx : p.1 = x
        · have e : ¬ x = k := fun h => hp (hpx.trans h)
          rw [if_neg e]
          simp [hpx]
        · simp only [hpx, decide_false]
          exact ih ha'
  · rw [if_neg ha]
    unfold valueAt
    rw [List.find?_append]
    by_cases e : x = k
    · rw [if_pos e]
      have hn : kvs.find? (fun kv => decide (kv.1 = x)) = none := by
        rw [List.find?_eq_none]
        intro p hp hpx
        apply ha
        rw [List.any_eq_true]
        exact ⟨p, hp, by rw [e] at hpx; exact hpx⟩
      rw [hn]
      simp [e]
    · rw [if_neg e]
      have : List.find? (fun kv : Str × Value => decide (kv.1 = x)) [(k, v)] = none := by
        rw [List.find?_eq_none]
        intro p hp
        rw [List.mem_singleton.mp hp]
        simp
        exact fun h => e h.symm
      rw [this, Option.or_none]
theorem BelowIs.step {hs : List Str} {ws : List Value} {i : Nat} {kvs : List (Str × Value)} {bl bl' : Led} {x : Str} {D : Addr} {c : Nat} (h : BelowIs hs ws i kvs bl) (hx : hs[i]? = some x) (hsub : ∀ p ∈ bl, p ∈ bl') (hD : (D, listOf (ws.filter (takeV (hdOf x))).toArray c) ∈ bl') : BelowIs hs ws (i + 1) (stored kvs x (.ref D)) bl' := by
  intro j y hj hy
  rw [val_stored]
  by_cases e : y = x
  · subst e
    rw [if_pos rfl]
    exact ⟨D, c, rfl, hD⟩
  · rw [if_neg e]
    by_cases hji : j = i
    · subst hji
      rw [hx] at hy
      exact absurd (Option.some.inj hy).symm e
    · obtain ⟨r, nr, h1, h2⟩ := h j y (by omega) hy
      exact ⟨r, nr, h1, hsub _ h2⟩
end Mine
end

section -- MLaw2
open PySem PySem.W PyProof.Rows PySem.Calls
set_option Elab.async false
set_option maxRecDepth 100000
set_option maxHeartbeats 8000000
namespace Mine
/-- what the heads are -/
noncomputable def IsHead (ts : List Str) (x : Str) : Prop := ∃ t ∈ ts, ∃ j, j < t.length ∧ t.cps.toList[j]? ≠ some 47 ∧ x = pre t (j + 1)
theorem hStep_is {ts : List Str} {t : Str} {hs : List Str} {j : Nat} (ht : t ∈ ts) (hj : j < t.length) (h : ∀ x ∈ hs, IsHead ts x) : ∀ x ∈ hStep t hs j, IsHead ts x := by
  intro x hx
  unfold hStep at hx
  split at hx
  · rename_i hc
    rcases List.mem_append.mp hx with hx | hx
    · exact h x hx
    · exact ⟨t, ht, j, hj, hc.1, List.mem_singleton.mp hx⟩
  · exact h x hx
theorem hIn_is {ts : List Str} {t : Str} {hs : List Str} (ht : t ∈ ts) (h : ∀ x ∈ hs, IsHead ts x) : ∀ n, n ≤ t.length → ∀ x ∈ hIn t hs n, IsHead ts x := by
  intro n
  induction n with
  | zero => exact fun _ => h
  | succ n ih =>
    intro hn
    rw [hIn_succ]
    exact hStep_is ht hn (ih (by omega))
theorem hAll_is (ts : List Str) : ∀ x ∈ hAll ts, IsHead ts x := by
  suffices ∀ i, ∀ x ∈ hAll (ts.take i), IsHead ts x by
    have h := this ts.length
    rwa [List.take_length] at h
  intro i
  induction i with
  | zero => intro x hx; cases hx
  | succ i ih =>
    by_cases hi : i < ts.length
    · rw [hAll_take (List.getElem?_eq_getElem hi)]
      exact hIn_is (List.getElem_mem hi) ih _ (Nat.le_refl _)
    · rw [List.take_of_length_le (by omega)] at ih ⊢
      exact ih
theorem hAll_goodT {ts : List Str} {x : Str} (h : ∀ t ∈ ts, GoodT 13 t) (hx : x ∈ hAll ts) : GoodT 13 x := by
  obtain ⟨t, ht, j, hj, _, rfl⟩ := hAll_is ts x hx
  have g := h t ht
  refine ⟨?_, fun c hc => g.2 c (List.mem_of_mem_take hc)⟩
  have e : (pre t (j + 1)).length = min (j + 1) t.length := by simp [pre, Str.length]
  rw [e]
  have := g.1
  omega
theorem off1_of_inv {D : Addr} : ∀ {l : Led}, LCg.Off1 D l → ∀ p ∈ l, p.1 ≠ D
  | [], _, p, hp => by cases hp
  | q :: r, h, p, hp => by
    rcases List.mem_cons.mp hp with rfl | hp
    · exact h.1
    · exact off1_of_inv h.2 p hp
section
variable {prog : Program} {w : World} {A : Around} {E : Value → Shared → Prop} {s : Shared} {env : Env} {h₀ : Heap} {L : Addr} {m : Str → Option Value} {H T W lT L3 L2 : Addr} {hv ws : List Value} {k wn : Nat} {oT olT o3 o2 : Obj} {hs : List Str}
theorem law_dc {kx vx : Expr} {y : Str} {scope : Scope} {cl : List (Str × Addr)} {Q : Value → Shared → Prop} (hh : A.handled = none) (F : Fr h₀ L s.heap m)
    (N : News h₀ L s.heap [(H, listOf hv.toArray k), (T, oT), (W, listOf ws.toArray wn), (lT, olT), (L3, o3), (L2, o2), (153, tabObj #[])]) (hst : StrsAre hv hs) (hl : hv.length ≤ 1000)
    (h153 : ∀ p ∈ [(H, listOf hv.toArray k), (T, oT), (W, listOf ws.toArray wn), (lT, olT), (L3, o3), (L2, o2)], p.1 ≠ 153)
    (turn : ∀ i x t kvs ps bl I oI C oC D oD m₂ h tk (E' : Value → Shared → Prop), hs[i]? = some x → TripR ps.toList → (∀ p ∈ [(H, listOf hv.toArray k), (T, oT), (W, listOf ws.toArray wn), (lT, olT), (L3, o3), (L2, o2)] ++ bl, p.1 ≠ 153) → (∀ p ∈ bl, ∀ q ∈ [(H, listOf hv.toArray k), (T, oT), (W, listOf ws.toArray wn), (lT, olT), (L3, o3), (L2, o2)], p.1 ≠ q.1) →
      BelowIs hs ws i kvs bl → LCg.NsObj oC m₂ → m₂ y = some (.str x t) → Fr h₀ L h m → News h₀ L h ((I, oI) :: (C, oC) :: (D, oD) :: (153, tabObj ps) :: (H, listOf hv.toArray k) :: (T, oT) :: (W, listOf ws.toArray wn) :: (lT, olT) :: (L3, o3) :: (L2, o2) :: bl) →
      LCg.Off3 I C D ((153, tabObj ps) :: (H, listOf hv.toArray k) :: (T, oT) :: (W, listOf ws.toArray wn) :: (lT, olT) :: (L3, o3) :: (L2, o2) :: bl) → ((@Ne Nat I C) ∧ (@Ne Nat I D) ∧ (@Ne Nat C D)) →
      wpAny (model prog w) A (eval kx (compEnvC scope cl C env)) (fun kv s₃ => wpAny (model prog w) A (eval vx (compEnvC scope cl C env)) (DcEnd h₀ L m { s with heap := h, toks := tk } I oI C oC D oD (fun k' vv nw' => DJ [(H, listOf hv.toArray k), (T, oT), (W, listOf ws.toArray wn), (lT, olT), (L3, o3), (L2, o2)] hs ws (i + 1) (stored kvs k' vv) nw') kv) E' s₃) E' { s with heap := h, toks := tk })
    (fin : ∀ D oD h tk kvs ps bl, TripR ps.toList → BelowIs hs ws hs.length kvs bl → oD.IsDictOf (PySem.strKind prog w) kvs → (∀ p ∈ bl, ∀ q ∈ [(H, listOf hv.toArray k), (T, oT), (W, listOf ws.toArray wn), (lT, olT), (L3, o3), (L2, o2)], p.1 ≠ q.1) → Fr h₀ L h m → News h₀ L h ((D, oD) :: (153, tabObj ps) :: (H, listOf hv.toArray k) :: (T, oT) :: (W, listOf ws.toArray wn) :: (lT, olT) :: (L3, o3) :: (L2, o2) :: bl) →
      (∀ p ∈ (153, tabObj ps) :: (H, listOf hv.toArray k) :: (T, oT) :: (W, listOf ws.toArray wn) :: (lT, olT) :: (L3, o3) :: (L2, o2) :: bl, p.1 ≠ D) → (∀ p ∈ bl, p.1 ≠ 153) → Q (.ref D) { s with heap := h, toks := tk }) :
    DcSrc prog w A h₀ L m env kx vx y scope cl Q (.ref H) s := by
  refine ⟨DJ [(H, listOf hv.toArray k), (T, oT), (W, listOf ws.toArray wn), (lT, olT), (L3, o3), (L2, o2)] hs ws, H, hv, k, (153, tabObj #[]) :: ([(H, listOf hv.toArray k), (T, oT), (W, listOf ws.toArray wn), (lT, olT), (L3, o3), (L2, o2)] ++ []), rfl, hh, F, ?_, ?_, hl, ?_, ?_, ?_⟩
  · intro p hp
    refine N p ?_
    simp only [List.mem_cons, List.append_nil, List.not_mem_nil, or_false] at hp ⊢
    rcases hp with h | h | h | h | h | h | h <;> simp only [h, true_or, or_true]
  · rintro i kvs nw ⟨ps, bl, rfl, _⟩
    exact .tail _ (.head _)
  · exact ⟨#[], [], rfl, trivial, by rw [List.append_nil]; exact h153, And.intro (fun p hp => nomatch hp) (fun j x hj => absurd hj (Nat.not_lt_zero _))⟩
  · rintro i v kvs nw I oI C oC D oD m₂ h tk E' hv' ⟨ps, bl, rfl, h1, h2, h3, h4⟩ hC hx F' N' off ne
    obtain ⟨x, t, hx1, rfl⟩ := strs_at hst hv'
    exact turn i x t kvs ps bl I oI C oC D oD m₂ h tk E' hx1 h1 h2 h3 h4 hC hx F' N' off ne
  · rintro D oD h tk kvs nw ⟨ps, bl, rfl, h1, h2, h3, h4⟩ hd F' N' off
    rw [hst.length] at h4
    exact fin D oD h tk kvs ps bl h1 h4 hd h3 F' N' (off1_of_inv off) fun p hp => h2 p (List.mem_append_right _ hp)
end
theorem taken_use {w : World} {x : Str} {t1 : Tok} {I C D W : Addr} {oI oC oD : Obj} {rest : Led} {ws : List Value} {wn : Nat} {ps : Array Value} {p : Program} {loose : List Str} {mean : ExcName → Option Value} {mg mb : Str → Option Value} {dp un : Nat} {gd : Option (List Code)} {cn : Str} {cs : Scope} {a : Addr} {ccd : Value} {cl : List (Str × Addr)} {outer : List Env} {A₀ : Around} {base h₀ : Heap} {L : Addr} {m : Str → Option Value} {s : Shared} {Q E : Value → Shared → Prop}
    (F : Fr h₀ L s.heap m) (N : News h₀ L s.heap ((I, oI) :: (C, oC) :: (D, oD) :: (153, tabObj ps) :: rest)) (hx : GoodT 13 x) (hwl : (W, listOf ws.toArray wn) ∈ rest) (hws : ws.length ≤ 100) (htx : ∀ v ∈ ws, ∃ x t, v = .str x t ∧ x.length ≤ 200) (off : LCg.Off3 I C D ((153, tabObj ps) :: rest)) (hr : ∀ p ∈ rest, p.1 ≠ 153) (htr : TripR ps.toList)
    (B : Below A₀ base outer h₀) (X : (Mine.heapK w.params).In h₀) (T : Top p loose mean mg mb h₀) (hk : cs.kind = .function) (hd : dp + 80 < recursionLimit) (hu : un + 3000 < cLine)
    (h : ∀ Dr c h' tk' ps', Fr h₀ L h' m → News h₀ L h' ((I, oI) :: (C, oC) :: (D, oD) :: (153, tabObj ps') :: (rest ++ [(Dr, listOf (ws.filter (takeV (hdOf x))).toArray c)])) → TripR ps'.toList → (∀ p ∈ (I, oI) :: (C, oC) :: (D, oD) :: rest, p.1 ≠ Dr) → Dr ≠ 153 → Q (.ref Dr) { s with heap := h', toks := tk' }) :
    wpAny (model P0 w) (ktrTop dp un gd cn cs L a ccd cl outer) (call (.ref 196) [.str (escT x ++ Str.ofString "/*[!/]*") t1, .ref W]) Q E s := by
  have o := off.mem _ (.head _)
  refine taken_core (news := (I, oI) :: (C, oC) :: (D, oD) :: rest) (hd_ok hx (Nat.le_refl _)) (.tail _ (.tail _ (.tail _ hwl))) hws htx p loose mean mg mb dp un gd cn cs a ccd cl outer A₀ base h₀ L m s Q E ps B F X (fun q hq => N q ?_) T hk hd hu htr ?_ ?_
  · simp only [List.mem_cons] at hq ⊢
    rcases hq with h | h | h | h | h <;> simp only [h, true_or, or_true]
  · intro q hq
    simp only [List.mem_cons] at hq
    rcases hq with h | h | h | h
    · subst h; exact Ne.symm o.1
    · subst h; exact Ne.symm o.2.1
    · subst h; exact Ne.symm o.2.2
    · exact hr q h
  · intro Dr c h' tk' ps' F' N' htr' hne h153
    refine h Dr c h' tk' ps' F' (fun q hq => N' q ?_) htr' hne h153
    simp only [List.mem_cons, List.mem_append, List.not_mem_nil, or_false] at hq ⊢
    rcases hq with h | h | h | h | h | h <;> simp only [h, true_or, or_true]
theorem short_ws {vs : List Value} {xs : List Str} {k : Nat} (h : StrsAre vs xs) (hl : ∀ x ∈ xs, x.length ≤ k) : ∀ v ∈ vs, ∃ x t, v = .str x t ∧ x.length ≤ k := by
  intro v hv
  obtain ⟨i, hi⟩ := List.mem_iff_getElem?.mp hv
  obtain ⟨x, t, hx, rfl⟩ := strs_at h hi
  exact ⟨x, t, rfl, hl x (List.mem_of_getElem? hx)⟩
theorem wanted_len {xs : List Str} (h : ∀ x ∈ xs, GoodT 13 x) : ∀ x ∈ xs ++ xs.map (· ++ Str.ofString "//a"), x.length ≤ 200 := by
  intro x hx
  rcases List.mem_append.mp hx with hx | hx
  · exact Nat.le_trans (h x hx).1 (by decide)
  · obtain ⟨y, hy, rfl⟩ := List.mem_map.mp hx
    rw [PySem.Str.length_append, show (Str.ofString "//a").length = 3 by decide +kernel]
    have := (h y hy).1
    omega
theorem dc_step {R : Led} {hs : List Str} {ws : List Value} {i : Nat} {x : Str} {kvs : List (Str × Value)} {bl : Led} {ps' : Array Value} {Dr c : Addr} {pre3 : Led} (hx : hs[i]? = some x) (htr' : TripR ps'.toList) (h153 : ∀ p ∈ R ++ bl, p.1 ≠ 153) (hoff : ∀ p ∈ bl, ∀ q ∈ R, p.1 ≠ q.1) (hb : BelowIs hs ws i kvs bl) (hne : ∀ p ∈ pre3 ++ (R ++ bl), p.1 ≠ Dr) (hD : Dr ≠ 153) :
    DJ R hs ws (i + 1) (stored kvs x (.ref Dr)) ((153, tabObj ps') :: (R ++ (bl ++ [(Dr, listOf (ws.filter (takeV (hdOf x))).toArray c)]))) := by
  refine ⟨ps', _, rfl, htr', ?_, ?_, hb.step hx (fun p hp => List.mem_append_left _ hp) (List.mem_append_right _ (.head _))⟩
  · intro p hp
    rw [← List.append_assoc] at hp
    rcases List.mem_append.mp hp with hp | hp
    · exact h153 p hp
    · rw [List.mem_singleton.mp hp]
      exact hD
  · intro p hp q hq
    rcases List.mem_append.mp hp with hp | hp
    · exact hoff p hp q hq
    · rw [List.mem_singleton.mp hp]
      exact Ne.symm (hne q (List.mem_append_right _ (List.mem_append_left _ hq)))
theorem off_snoc {I C D Dr : Addr} {o : Obj} {l : Led} {oI oC oD : Obj} {ps ps' : Array Value} (h : LCg.Off3 I C D ((153, tabObj ps) :: l)) (hne : ∀ p ∈ (I, oI) :: (C, oC) :: (D, oD) :: l, p.1 ≠ Dr) : LCg.Off3 I C D ((153, tabObj ps') :: (l ++ [(Dr, o)])) := by
  have hm := h.mem
  refine LCg.Off3.of fun p hp => ?_
  rcases List.mem_cons.mp hp with rfl | hp
  · exact hm (153, tabObj ps) (.head _)
  · rcases List.mem_append.mp hp with hp | hp
    · exact hm _ (.tail _ hp)
    · rw [List.mem_singleton.mp hp]
      exact ⟨Ne.symm (hne _ (.head _)), Ne.symm (hne _ (.tail _ (.head _))), Ne.symm (hne _ (.tail _ (.tail _ (.head _))))⟩
end Mine
end

section -- MFor
open PySem PySem.W PyProof.Rows PySem.Calls
set_option Elab.async false
set_option maxRecDepth 100000
set_option maxHeartbeats 8000000
namespace Mine
section
variable {prog : Program} {w : World} {A : Around} {E : Value → Shared → Prop} {Q : Flow → Shared → Prop} {s : Shared} {env : Env} {h₀ : Heap} {target : Expr} {body : List Stmt}
noncomputable abbrev GJ := Nat → Array GenState → (Str → Option Value) → Led → Prop
/-- the end of a turn of a for whose turns may change the generators -/
noncomputable def GPost (h₀ : Heap) (L : Addr) (J : Array GenState → (Str → Option Value) → Led → Prop) (s₁ : Shared) (I : Addr) (oI : Obj) (Q : Flow → Shared → Prop) (f : Flow) (s₂ : Shared) : Prop :=
  match f with
  | .ret v => Q (.ret v) s₂
  | .brk => Q .next s₂
  | _ => ∃ h' tk' g' m' nw', s₂ = { s₁ with heap := h', toks := tk', gens := g' } ∧ Fr h₀ L h' m' ∧ News h₀ L h' ((I, oI) :: nw') ∧ (∀ p ∈ nw', p.1 ≠ I) ∧ J g' m' nw'
noncomputable def GensAt (prog : Program) (w : World) (A : Around) (h₀ : Heap) (env : Env) (target : Expr) (body : List Stmt) (Q : Flow → Shared → Prop) (E : Value → Shared → Prop) (xv : Value) (s₁ : Shared) : Prop :=
  ∃ (l : Addr) (vs : List Value) (n : Nat) (J : GJ) (m : Str → Option Value) (news : Led), xv = .ref l ∧ A.handled = none ∧ Fr h₀ env.locals s₁.heap m ∧ News h₀ env.locals s₁.heap news ∧ (∀ i g m nw, J i g m nw → (l, listOf vs.toArray n) ∈ nw) ∧ J 0 s₁.gens m news ∧
    (∀ i v g m nw I oI h tk, vs[i]? = some v → J i g m nw → Fr h₀ env.locals h m → News h₀ env.locals h ((I, oI) :: nw) → (∀ p ∈ nw, p.1 ≠ I) →
      wpAny (model prog w) A (assign target env v) (fun _ s₃ => wpAny (model prog w) A (execs body env) (GPost h₀ env.locals (J (i + 1)) s₁ I oI Q) E s₃) E { s₁ with heap := h, toks := tk, gens := g }) ∧
    (∀ g m nw h tk, J vs.length g m nw → Fr h₀ env.locals h m → News h₀ env.locals h nw → Q .next { s₁ with heap := h, toks := tk, gens := g })
theorem For_gens {iter : Expr} {pos : Pos} (h : wpAny (model prog w) A (eval iter env) (GensAt prog w A h₀ env target body Q E) E s)
    (hs : ∀ x, foldedSetIterable iter env x = pure x := by intro _; rfl) (ht : ∀ it v, letOwnedTupleGo target it v = pure () := by intro _ _; rfl)
    (hE : PassesOwn (model prog w) A env E := by passes_own) :
    wpAny (model prog w) A (exec (.For target iter body [] pos) env) Q E s := by
  refine wpAny_For (wpAny_mono h (fun xv s₁ h₁ => ?_) fun _ _ e => e) hs
  obtain ⟨l, vs, n, J, m, news, rfl, hh, F, N, hJl, hJ0, hturn, hdone⟩ := h₁
  refine wpAny_pyIter_list (items := vs.toArray) ⟨_, (N _ (hJl _ _ _ _ hJ0)).1, rfl, n, rfl⟩ ?_
  generalize hI : s₁.heap.objs.size = I
  generalize hH1 : s₁.heap.push { cls := .type "list_iterator", data := .fields #[.ref l, .int 0 0] } = H1
  have up : ∀ b o, s₁.heap.get? b = some o → H1.get? b = some o := fun b o e => by rw [← hH1]; exact Heap.get?_push_of_some _ e
  have hIt : H1.IsListIter I l 0 := by
    have e : (s₁.heap.push { cls := .type "list_iterator", data := .fields #[.ref l, .int 0 0] }).get? s₁.heap.objs.size = some { cls := .type "list_iterator", data := .fields #[.ref l, .int 0 0] } := Heap.get?_push_size _ rfl
    rw [hI, hH1] at e
    exact ⟨_, e, rfl, rfl⟩
  have hI0 : h₀.get? I = none := hI ▸ next_is_new F
  have hIL : I ≠ env.locals := by
    rw [← hI]
    exact Ne.symm (Nat.ne_of_lt F.ns.lt)
  refine codeAny_forLoop (R := fun r s' => match r with | .ok f => Q f s' | .error e => cameBackBy (model prog w) A env E e s') (fun q s' => ∃ h' tk g m' nw i, s' = { s₁ with heap := h', toks := tk, gens := g } ∧ i ≤ vs.length ∧ q = vs.length - i ∧ h'.IsListIter I l i ∧ Fr h₀ env.locals h' m' ∧ News h₀ env.locals h' nw ∧ (∀ p ∈ nw, p.1 ≠ I) ∧ J i g m' nw) ?_ vs.length
    ⟨H1, s₁.toks, s₁.gens, m, news, 0, rfl, Nat.zero_le _, rfl, hIt, F.keeps up, fun p hp => ⟨up _ _ (N p hp).1, (N p hp).2⟩, fun p hp => hI ▸ Nat.ne_of_lt (Heap.lt_size (N p hp).1), hJ0⟩ (ht _)
  rintro q s' ⟨h', tk, g, m', nw, i, rfl, hi, rfl, hit, F', N', off, hJ⟩
  have hli : h'.IsList l vs.toArray := ⟨_, (N' _ (hJl _ _ _ _ hJ)).1, rfl, n, rfl⟩
  by_cases hlt : i < vs.length
  · refine wpAny_pyNext_list_item hit hli (x := vs[i]) (by simp [hlt]) fun h2 hI2 hs2 => ?_
    have hs2 : Heap.SameBut I h' h2 := hs2
    obtain ⟨oI, heI, hoI⟩ := hI2
    have F2 : Fr h₀ env.locals h2 m' := fr_ext F' hs2.extBut hIL hI0
    have N2 : News h₀ env.locals h2 ((I, oI) :: nw) := fun p hp => by
      rcases List.mem_cons.mp hp with rfl | hp
      · exact ⟨heI, hIL, hI0⟩
      · exact ⟨hs2.extBut _ _ (off p hp) (N' p hp).1, (N' p hp).2⟩
    refine wpAny_mono (wpAny_mono (hturn i vs[i] g m' nw I oI h2 _ (by simp [hlt]) hJ F2 N2 off) (fun _ _ x => wpAny_passesOwn hE x) hE) (fun _ s₃ h₃ => wpAny_mono h₃ (fun f s₄ h₄ => ?_) fun _ _ e => e) fun _ _ e => e
    have fin : (∃ h' tk' g' m' nw', s₄ = { s₁ with heap := h', toks := tk', gens := g' } ∧ Fr h₀ env.locals h' m' ∧ News h₀ env.locals h' ((I, oI) :: nw') ∧ (∀ p ∈ nw', p.1 ≠ I) ∧ J (i + 1) g' m' nw') → ∃ k, k < vs.length - i ∧ ∃ h' tk g m' nw j, s₄ = { s₁ with heap := h', toks := tk, gens := g } ∧ j ≤ vs.length ∧ k = vs.length - j ∧ h'.IsListIter I l j ∧ Fr h₀ env.locals h' m' ∧ News h₀ env.locals h' nw ∧ (∀ p ∈ nw, p.1 ≠ I) ∧ J j g m' nw := by
      rintro ⟨h5, tk5, g5, m5, nw5, rfl, F5, N5, off5, J5⟩
      exact ⟨vs.length - (i + 1), by omega, h5, tk5, g5, m5, nw5, i + 1, rfl, hlt, rfl, ⟨oI, (N5 _ (.head _)).1, hoI⟩, F5, fun p hp => N5 p (.tail _ hp), off5, J5⟩
    cases f with
    | ret v => exact h₄
    | brk => exact h₄
    | next => exact fin h₄
    | cont => exact fin h₄
  · have hin : i = vs.length := by omega
    subst hin
    refine wpAny_pyNext_list_end hh hit hli (by simp) fun h2 hs => ?_
    refine wpAny_execs_nil (hdone g m' nw h2 _ hJ (fr_ext F' hs hIL hI0) (news_ext N' hs off))
end
end Mine
end

section -- MLaw3
open PySem PySem.W PyProof.Rows PySem.Calls PySem.Spec
set_option Elab.async false
set_option maxRecDepth 100000
set_option maxHeartbeats 8000000
namespace Mine
section
variable {prog : Program} {w : World} {A : Around} {E : Value → Shared → Prop} {s : Shared} {h₀ : Heap} {L : Addr} {m : Str → Option Value} {news : Led} {Q : Value → Shared → Prop}
noncomputable def strOfZ : Value → Str
  | .str x _ => x
  | _ => ⟨#[]⟩
theorem strs_mapZ : ∀ {vs : List Value}, (∀ v ∈ vs, ∃ x t, v = .str x t) → StrsAre vs (vs.map strOfZ)
  | [], _ => .nil
  | v :: r, h => by
    obtain ⟨x, t, rfl⟩ := h v (.head _)
    exact .cons x t (strs_mapZ fun v hv => h v (.tail _ hv))
theorem strs_mem {vs : List Value} {xs : List Str} (h : StrsAre vs xs) : (∀ v ∈ vs, ∃ x t, v = .str x t) ∧ vs.map strOfZ = xs := by
  induction h with
  | nil => exact ⟨fun v hv => (nomatch hv), rfl⟩
  | cons x t _ ih =>
    refine ⟨fun v hv => ?_, ?_⟩
    · rcases List.mem_cons.mp hv with rfl | hv
      · exact ⟨x, t, rfl⟩
      · exact ih.1 v hv
    · rw [List.map_cons, ih.2]
      rfl
theorem sort_len (a : Addr) : Builtin.«list.sort» ⟨[.ref a], [(Str.ofString "key", .builtin "len"), (Str.ofString "reverse", .bool true)]⟩ = ksk_tree a (.builtin "len") true := rfl
theorem sorted_len {l : Addr} {vs : List Value} {xs : List Str} {n : Nat} (F : Fr h₀ L s.heap m) (N : News h₀ L s.heap news) (hl : (l, listOf vs.toArray n) ∈ news) (hst : StrsAre vs xs) (h64 : vs.length < 64) (hb : ∀ x ∈ xs, x.length ≤ 1000)
    (h : ∀ D c h' tk vs' xs', Fr h₀ L h' m → News h₀ L h' ((D, listOf vs'.toArray c) :: news) → (∀ q ∈ news, q.1 < D) → StrsAre vs' xs' → xs'.Perm xs → xs'.Pairwise (fun a b => b.length ≤ a.length) → Q (.ref D) { s with heap := h', toks := tk }) :
    wpAny (model prog w) A (call (.builtin "sorted") [.ref l] [(Str.ofString "key", .builtin "len"), (Str.ofString "reverse", .bool true)]) Q E s := by
  have hlen := hst.length
  obtain ⟨hstr, hmap⟩ := strs_mem hst
  refine ksk_sorted (kz := vs.map fun v => ((strOfZ v).length : Int)) (b := true) F N (N.isList hl) (by simp) h64 (ksk_s2 _ _ _) (fun x => ksk_l2 _ _ _) sort_len (fun i v k hv hk h tk own F' N' => ?_) fun D h' tk out c F' N' l1 ko => ?_
  · obtain ⟨x, t, hx, rfl⟩ := strs_at hst hv
    have hk' : k = (x.length : Int) := by
      rw [List.getElem?_map, hv] at hk
      exact (Option.some.inj hk).symm
    subst hk'
    have := hb x (List.mem_of_getElem? hx)
    exact len_writK _ rfl (by omega) (KskEnd.intro F' N' fun _ h => h)
  · obtain ⟨ps, hp, ho, hs⟩ := ko
    have hzip : (vs.map fun v => ((strOfZ v).length : Int)).zip vs = vs.map fun v => (((strOfZ v).length : Int), v) := by
      clear h64 hst hl hstr hmap hlen hp
      induction vs with
      | nil => rfl
      | cons v r ih => rw [List.map_cons, List.zip_cons_cons, ih]; rfl
    rw [hzip] at hp
    have hps : ∀ p ∈ ps, ∃ x t, p.2 = .str x t ∧ p.1 = (x.length : Int) := by
      intro p hpm
      obtain ⟨v, hv, rfl⟩ := List.mem_map.mp (hp.mem_iff.mp hpm)
      obtain ⟨x, t, rfl⟩ := hstr v hv
      exact ⟨x, t, rfl, rfl⟩
    refine h D c h' tk out.toList (out.toList.map strOfZ) F' N' l1 (strs_mapZ fun v hv => ?_) ?_ ?_
    · rw [ho] at hv
      obtain ⟨p, hpm, rfl⟩ := List.mem_map.mp hv
      obtain ⟨x, t, e, _⟩ := hps p hpm
      exact ⟨x, t, e⟩
    · rw [ho, ← hmap]
      refine List.Perm.map _ ?_
      have := List.Perm.map Prod.snd hp
      rw [List.map_map, show (Prod.snd ∘ fun v => (((strOfZ v).length : Int), v)) = id from rfl, List.map_id] at this
      exact this
    · rw [ho, List.map_map]
      rw [List.pairwise_map]
      refine List.Pairwise.imp_of_mem (fun {p q} hp1 hq1 hpq => ?_) hs
      obtain ⟨x, t, e1, e2⟩ := hps p hp1
      obtain ⟨y, u, e3, e4⟩ := hps q hq1
      simp only [Function.comp, e1, e3, strOfZ]
      simp only [if_true] at hpq
      omega
theorem sameS : ∀ (ns ms : List Str), PySem.Spec.sameAll (ns.map PyData.str) (ms.map PyData.str) = decide (ns = ms)
  | [], [] => by simp [PySem.Spec.sameAll]
  | [], _ :: _ => by simp [PySem.Spec.sameAll]
  | _ :: _, [] => by simp [PySem.Spec.sameAll]
  | a :: r, b :: t => by
    simp only [List.map_cons, PySem.Spec.sameAll, PySem.Spec.same, sameS r t]
    by_cases h : a = b <;> by_cases h' : r = t <;> simp [h, h']
theorem carriedS : ∀ {vs : List Value} {ns : List Str}, StrsAre vs ns → CarriedAll vs (ns.map PyData.str)
  | _, _, .nil => .nil
  | _, _, .cons _ t r => .cons (.str _ t) (carriedS r)
theorem layS : ∀ ns : List Str, (∀ x ∈ ns, PyData.strOk x = true) → PyData.canLayAll0 (ns.map PyData.str) = true
  | [], _ => rfl
  | x :: r, h => by simp [PyData.canLayAll0, PyData.canLay0, layS r fun y hy => h y (.tail _ hy), h x (.head _)]
theorem depthS : ∀ ns : List Str, PyData.depthAll (ns.map PyData.str) = 0
  | [] => rfl
  | _ :: r => by simp [PyData.depthAll, PyData.depth, depthS r]
theorem shapedS (ns : List Str) (h : ∀ x ∈ ns, PyData.strOk x = true) : SeqAt.shaped (.list (ns.map PyData.str)) = true := by
  simp [SeqAt.shaped, PyData.canLay0, PyData.depth, layS ns h, depthS]
theorem ne_strs {a b : Addr} {xs ys : List Value} {ns ms : List Str} {k n : Nat} (N : News h₀ L s.heap news) (ha : (a, listOf xs.toArray k) ∈ news) (hb : (b, listOf ys.toArray n) ∈ news) (hi : StrsAre xs ns) (hj : StrsAre ys ms) (hns : ∀ x ∈ ns, PyData.strOk x = true) (hms : ∀ x ∈ ms, PyData.strOk x = true) (hu : A.units + 64 < cLine) (h : Q (.bool (!decide (ns = ms))) s) :
    wpAny (model prog w) A (compareOp .NotEq (.ref a) (.ref b)) Q E s :=
  ne_dataH_same (reads_newData (N.isList ha) (carriedS hi)) (reads_newData (N.isList hb) (carriedS hj)) (shapedS _ hns) (shapedS _ hms) hu (SeqAt.noMix_of_shape (.list .str) rfl _ _ (list_map_has fun _ => rfl) (list_map_has fun _ => rfl)) (by
    have e : PySem.Spec.same (.list (ns.map PyData.str)) (.list (ms.map PyData.str)) = decide (ns = ms) := by
      simp only [PySem.Spec.same]
      exact sameS ns ms
    rw [e]
    exact h)
theorem in_strs {r : Addr} {vs : List Value} {ys : List Str} {n : Nat} {x : Str} {t : Tok} (N : News h₀ L s.heap news) (hr : (r, listOf vs.toArray n) ∈ news) (hi : StrsAre vs ys) (h : Q (.bool (ys.any (· == x))) s) : wpAny (model prog w) A (compareOp .In (.str x t) (.ref r)) Q E s :=
  in_list_strs (N.isList hr) hi h
theorem below_item {D : Addr} {oD : Obj} {kvs : List (Str × Value)} {x : Str} {t : Tok} {v : Value} {value slice : Expr} (N : News h₀ L s.heap news) (hp : (D, oD) ∈ news) (hd : oD.IsDictOf (PySem.strKind prog w) kvs) (hv : valueAt kvs x = some v) (h : Q v { s with toks := s.toks + 1 })
    (hs : subscripted slice false (.ref D) (.str x t) = operate [.ref D, .str x t] (getItem (.ref D) (.str x t)) := by with_unfolding_all rfl) (hg : ∀ r, letTemporaryGo value (.ref D) r = pure () := by intro _; with_unfolding_all rfl) :
    wpAny (model prog w) A (subscriptTail value slice (.ref D) (.str x t)) Q E s := kda_item N hp hd (strKind_is _ _ _ _) hv h hs hg
end
/-- what the filter of below keeps -/
theorem taken_strs {ws : List Value} {ss : List Str} {hd0 : List Tk} (h : StrsAre ws ss) : StrsAre (ws.filter (takeV hd0)) (ss.filter fun x => takesB (hd0.map Tk.sg) x.cps.toList) := by
  induction h with
  | nil => exact .nil
  | cons x t r ih =>
    rw [List.filter_cons, List.filter_cons]
    show StrsAre (if takesB (hd0.map Tk.sg) x.cps.toList = true then _ else _) _
    split
    · exact .cons x t ih
    · exact ih
theorem filt_strs {q : Str → Bool} {vs : List Value} {ss : List Str} (h : StrsAre vs ss) : StrsAre (vs.filter fun v => q (strOfZ v)) (ss.filter q) := by
  induction h with
  | nil => exact .nil
  | cons x t r ih =>
    rw [List.filter_cons, List.filter_cons]
    show StrsAre (if q x = true then _ else _) _
    split
    · exact .cons x t ih
    · exact ih
/-- the heads whose pattern takes the text -/
noncomputable def takers (ts : List Str) (x : Str) : List Str := (hAll ts).filter fun y => takesB ((hdOf y).map Tk.sg) x.cps.toList
theorem any_filter {ss : List Str} {x : Str} {p : Str → Bool} (hx : x ∈ ss) : ((ss.filter p).any (· == x)) = p x := by
  cases hp : p x with
  | true => exact List.any_eq_true.mpr ⟨x, List.mem_filter.mpr ⟨hx, hp⟩, by simp⟩
  | false =>
    refine List.any_eq_false.mpr fun y hy => ?_
    have := (List.mem_filter.mp hy).2
    intro e
    rw [eq_of_beq e, hp] at this
    cases this
theorem wanted_len16 {xs : List Str} (h : ∀ x ∈ xs, GoodT 13 x) : ∀ x ∈ xs ++ xs.map (· ++ Str.ofString "//a"), x.length ≤ 16 := by
  intro x hx
  rcases List.mem_append.mp hx with hx | hx
  · exact Nat.le_trans (h x hx).1 (by decide)
  · obtain ⟨y, hy, rfl⟩ := List.mem_map.mp hx
    rw [PySem.Str.length_append, show (Str.ofString "//a").length = 3 by decide +kernel]
    have := (h y hy).1
    omega
theorem bare_push {G g' : Array GenState} (hG : AllBare G) (h : FinG G.size G g') : AllBare g' := by
  intro y hy
  obtain ⟨i, hi, rfl⟩ := Array.mem_iff_getElem.mp hy
  have e : g'[i]? = some g'[i] := Array.getElem?_eq_getElem hi
  by_cases hg : i = G.size
  · subst hg
    rw [h.1] at e
    rw [← Option.some.inj e]
    rfl
  · rw [h.2 i hg] at e
    exact hG _ (Array.mem_of_getElem? e)
section
variable {prog : Program} {w : World} {A : Around} {E : Value → Shared → Prop} {Q : Flow → Shared → Prop} {s : Shared} {env : Env} {h₀ : Heap} {target : Expr} {body : List Stmt} {T lW H : Addr} {R : Led} {ws : List Value} {wn : Nat} {m : Str → Option Value} {news : Led} {oT : Obj}
noncomputable def LJ (H T : Addr) (R : Led) : GJ := fun _ g m nw => AllBare g ∧ m (Str.ofString "heads") = some (.ref H) ∧ ∃ oT vT, oT.data = .cell vT ∧ nw = (T, oT) :: R
theorem law_last (hh : A.handled = none) (F : Fr h₀ env.locals s.heap m) (N : News h₀ env.locals s.heap ((T, oT) :: R)) (hW : (lW, listOf ws.toArray wn) ∈ R) (hm : m (Str.ofString "heads") = some (.ref H)) (hoT : ∃ v, oT.data = .cell v) (hg : AllBare s.gens)
    (turn : ∀ i v g (u : Str → Option Value) I oI oT h tk, ws[i]? = some v → AllBare g → (∃ v, oT.data = .cell v) → Fr h₀ env.locals h (kstB u [(Str.ofString "heads", .ref H)]) → News h₀ env.locals h ((I, oI) :: (T, oT) :: R) → (∀ p ∈ (T, oT) :: R, p.1 ≠ I) →
      wpAny (model prog w) A (assign target env v) (fun _ s₃ => wpAny (model prog w) A (execs body env) (GPost h₀ env.locals (LJ H T R (i + 1)) s I oI Q) E s₃) E { s with heap := h, toks := tk, gens := g })
    (done : ∀ g (u : Str → Option Value) oT h tk, AllBare g → Fr h₀ env.locals h (kstB u [(Str.ofString "heads", .ref H)]) → News h₀ env.locals h ((T, oT) :: R) → Q .next { s with heap := h, toks := tk, gens := g }) :
    GensAt prog w A h₀ env target body Q E (.ref lW) s := by
  refine ⟨lW, ws, wn, LJ H T R, m, _, rfl, hh, F, N, ?_, ⟨hg, hm, oT, hoT.choose, hoT.choose_spec, rfl⟩, ?_, ?_⟩
  · rintro i g m nw ⟨_, _, _, _, _, rfl⟩
    exact .tail _ hW
  · rintro i v g m nw I oI h tk hv ⟨hg, hm, oT, vT, hoT, rfl⟩ F' N' off
    refine turn i v g m I oI oT h tk hv hg ⟨_, hoT⟩ ?_ N' off
    rw [kst_form (fun p hp => by rw [List.mem_singleton.mp hp]; exact hm)]
    exact F'
  · rintro g m nw h tk ⟨hg, hm, oT, vT, hoT, rfl⟩ F' N'
    refine done g m oT h tk hg ?_ N'
    rw [kst_form (fun p hp => by rw [List.mem_singleton.mp hp]; exact hm)]
    exact F'
theorem last_next {H T I : Addr} {R nw' : Led} {oI oT : Obj} {i : Nat} {g' : Array GenState} {h' : Heap} {tk' : Nat} {L : Addr} (F' : Fr h₀ L h' m) (N' : News h₀ L h' nw') (hsub : ∀ p ∈ (I, oI) :: (T, oT) :: R, p ∈ nw') (off : ∀ p ∈ (T, oT) :: R, p.1 ≠ I) (hg : AllBare g') (hm : m (Str.ofString "heads") = some (.ref H)) (hoT : ∃ v, oT.data = .cell v) :
    GPost h₀ L (LJ H T R (i + 1)) s I oI Q .next { s with heap := h', toks := tk', gens := g' } :=
  ⟨h', tk', g', m, _, rfl, F', fun p hp => N' p (hsub p hp), off, hg, hm, oT, hoT.choose, hoT.choose_spec, rfl⟩
end
end Mine
end

section -- MEnd
open PySem PySem.W PyProof.Rows PySem.Calls
set_option Elab.async false
set_option maxRecDepth 100000
set_option maxHeartbeats 8000000
namespace Mine
/-- the law's end: True, what was there is there, no generator to clean up -/
noncomputable def GoodB (s₁ : Shared) (r : Result) (s' : Shared) : Prop := r = .ok (.ret (.bool true)) ∧ (∀ b o, s₁.heap.get? b = some o → s'.heap.get? b = some o) ∧ s'.os = s₁.os ∧ AllBare s'.gens
theorem bare_post {M : Model} {A : Around} {cd : Code} {s s₁ : Shared} {cw : ClaimW} {cl : Str → Option Addr} {mean : ExcName → Option Value} {args : List WData} {tabs : List (Addr × Addr)} (hT : TabsAt tabs s₁.heap) (hr : ∀ a x, cw.raises a x = false) (hp : cw.post args (.bool true) args = true)
    (h : codeAny M A cd (fun r s' => GoodB { s₁ with heap := ghostOf s₁.heap tabs } r s' ∧ GrownAll tabs s'.heap) s) : codeAny M A cd (GoodWG cw cl mean args s₁) s := by
  refine codeAny_mono h fun r s' hh => ?_
  obtain ⟨⟨rfl, hk, hos, hg⟩, hgr⟩ := hh
  have cases_on : ∀ b o, s₁.heap.get? b = some o → s'.heap.get? b = some o ∨ (isCodeTable s₁.heap b ∧ o = tabObj #[] ∧ ∃ ps, s'.heap.get? b = some (tabObj ps)) := fun b o e => by
    by_cases hb : b ∈ tabs.map (·.2)
    · obtain ⟨q, hq, rfl⟩ := List.mem_map.mp hb
      obtain ⟨t1, t2⟩ := hT q hq
      refine .inr ⟨(t1.tab t2).isCodeTable, ?_, hgr.get q hq⟩
      rw [t2] at e
      exact (Option.some.inj e).symm
    · exact .inl (hk b o (ghost_ne e hb))
  refine ⟨.inl ⟨_, .bool true, [], rfl, hr args, .bool true, hp, fun _ => ⟨List.nodup_nil, fun a ha => (nomatch ha)⟩⟩, ⟨fun b o e => ?_, fun b o e => ?_⟩, hos, hg⟩
  · rcases cases_on b o e with h | ⟨ht, rfl, ps, hP⟩
    · exact .inl h
    · exact .inr (.inl ⟨ht, rfl, #[], ps, rfl, by rw [Array.empty_append]; exact hP⟩)
  · rcases cases_on b o e with h | ⟨_, _, ps, hP⟩
    · exact ⟨_, h⟩
    · exact ⟨_, hP⟩
theorem good_end {s₁ s' : Shared} {L : Addr} {m : Str → Option Value} {news : Led} {ps : Array Value} {c : Addr} (F : Fr s₁.heap L s'.heap m) (N : News s₁.heap L s'.heap news) (hm : (153, tabObj ps) ∈ news) (hg : AllBare s'.gens) (hos : s'.os = s₁.os) :
    GoodB s₁ (.ok (.ret (.bool true))) s' ∧ GrownAll [(c, 153)] s'.heap := ⟨⟨rfl, F.keep, hos, hg⟩, ⟨ps, (N _ hm).1⟩, trivial⟩
end Mine
end

section -- MLaw4
open PySem PySem.W PyProof.Rows PySem.Calls
set_option Elab.async false
set_option maxRecDepth 100000
set_option maxHeartbeats 8000000
namespace Mine
theorem d900 : DOk 900 := by
  unfold DOk
  show 920 < 1000
  omega
theorem u9000 : UOk 9000 := by
  unfold UOk
  show 9300 < 9900
  omega
section
variable {w : World} {val : Nat → Str} {n : Nat} {p : Program} {loose : List Str} {mean : ExcName → Option Value} {mg mb : Str → Option Value} {dp un : Nat} {gd : Option (List Code)} {cn : Str} {cs : Scope} {a : Addr} {ccd : Value} {cl : List (Str × Addr)} {outer : List Env} {A₀ : Around} {base h₀ : Heap} {L : Addr} {m : Str → Option Value} {s : Shared} {news : Led} {Q E : Value → Shared → Prop} {x : Str} {t1 : Tok}
theorem par_use (hl : Left tstP splitHead val n (rstP x)) (hlen : x.length ≤ 100) (B : Below A₀ base outer h₀) (F : Fr h₀ L s.heap m) (X : (Mine.heapK w.params).In h₀) (N : News h₀ L s.heap news) (T : Top p loose mean mg mb h₀) (hkd : cs.kind = .function) (hroom : dp + 30 < recursionLimit) (hun : un + 500 < cLine)
    (h : ∀ Xi dX Ga Lg oL mL nm qn u1 u2 u3 u4 h' tk' gs t', Fr h₀ L h' m → News h₀ L h' ((Xi, islObj dX (.ref Ga) 0 u1 1 u2 u3 u4) :: (dX, dictOf [] 0) :: (Ga, genObj s.gens.size nm qn) :: (Lg, oL) :: news) → (∀ p ∈ news, p.1 < Lg) → Lg < Ga → Ga < dX → dX < Xi →
      NxFacts w h₀ h₀ val 900 9000 n x Lg s.gens.size oL mL t' gs (s.gens.push gs) s.gens → Q (.ref Xi) { s with heap := h', toks := tk', gens := s.gens.push gs }) :
    wpAny (model P0 w) (ktrTop dp un gd cn cs L a ccd cl outer) (call (.ref 99) [.str x t1]) Q E s := by
  refine par_core (hG := h₀) d900 u9000 hlen hl p loose mean mg mb dp un gd cn cs a ccd cl outer A₀ base h₀ L m news s Q E B F X N T hkd hroom hun X T (fun _ _ e => e) (Nat.le_refl _) ?_
  intro Xi dX Ga Lg oL mL nm qn u1 u2 u3 u4 h' tk' gs t' F' N' l0 l1 l2 l3 hns hpa hz hat
  refine h Xi dX Ga Lg oL mL nm qn u1 u2 u3 u4 h' tk' gs t' F' N' l0 l1 l2 l3 ⟨by simp, fun i hi => ?_, hat, hns, hpa, hlen, fun _ _ e => e, hz⟩
  rw [Array.getElem?_push]
  rw [if_neg hi]
theorem list_use {Xi dX Ga Lg : Addr} {oL : Obj} {mL : Str → Option Value} {nm qn : Value} {u1 u2 u3 u4 t : Tok} {gs : GenState} {G0 : Array GenState} (K : (Mine.heapK w.params).In h₀) (B : Below A₀ h₀ [] h₀) (T : Top p loose mean mg mb h₀) (hkd : cs.kind = .function) (hroom : dp + 25 < recursionLimit) (hun : un + 450 < cLine) (hDd : dp + 10 ≤ 900) (hUu : un + 150 ≤ 9000)
    (l0 : ∀ p ∈ news, p.1 < Lg) (l1 : Lg < Ga) (l2 : Ga < dX) (l3 : dX < Xi) (hn : n ≤ 800) (F : Fr h₀ L s.heap m) (N : News h₀ L s.heap ((Xi, islObj dX (.ref Ga) 0 u1 1 u2 u3 u4) :: (dX, dictOf [] 0) :: (Ga, genObj G0.size nm qn) :: (Lg, oL) :: news)) (hNx : NxFacts w h₀ h₀ val 900 9000 n x Lg G0.size oL mL t gs s.gens G0) (hG : AllBare G0)
    (fin : ∀ S h' tk gens' vs' c', AllBare gens' → Fr h₀ L h' m → News h₀ L h' ((S, listOf vs'.toArray c') :: news) → (∀ q ∈ news, q.1 < S) → StrsAre vs' (outs val (n - 1)) → Q (.ref S) { s with heap := h', toks := tk, gens := gens' }) :
    wpAny (model P0 w) (ktrTop dp un gd cn cs L a ccd cl []) (call (.type "list") [.ref Xi]) Q E s := by
  have e1 : @LT.lt Nat _ Lg Ga := l1
  have e2 : @LT.lt Nat _ Ga dX := l2
  have e3 : @LT.lt Nat _ dX Xi := l3
  refine list_isl K B T d900 hkd hroom hun hDd hUu ?_ ?_ ?_ ?_ ?_ ?_ ?_ hn F N hNx fun S h' tk gens' acc' c' hfin F' N' lS hst => fin S h' tk gens' acc'.toList c' (bare_push hG hfin) F' N' lS hst
  · show @Ne Nat Xi Lg; omega
  · show @Ne Nat dX Lg; omega
  · show @Ne Nat Ga Lg; omega
  · show @Ne Nat dX Xi; omega
  · show @Ne Nat Ga Xi; omega
  · intro q hq
    have e0 : @LT.lt Nat _ q.1 Lg := l0 q hq
    show @Ne Nat q.1 Xi
    omega
  · intro q hq
    have e0 : @LT.lt Nat _ q.1 Lg := l0 q hq
    show @Ne Nat q.1 Lg
    omega
end
section
variable {prog : Program} {w : World} {A : Around} {E : Value → Shared → Prop} {s : Shared} {h₀ : Heap} {L : Addr} {m : Str → Option Value} {news : Led} {Q : Value → Shared → Prop}
theorem same_strs {a b : Addr} {xs ys : List Value} {ns ms : List Str} {k n : Nat} (N : News h₀ L s.heap news) (ha : (a, listOf xs.toArray k) ∈ news) (hb : (b, listOf ys.toArray n) ∈ news) (hi : StrsAre xs ns) (hj : StrsAre ys ms) (e : ns = ms) (hms : ∀ x ∈ ms, PyData.strOk x = true) (hu : A.units + 64 < cLine) (h : Q (.bool false) s) :
    wpAny (model prog w) A (compareOp .NotEq (.ref a) (.ref b)) Q E s :=
  ne_strs N ha hb hi hj (e ▸ hms) hms hu (by
    have : (!decide (ns = ms)) = false := by simp [e]
    rw [this]
    exact h)
end
theorem good_ok {x : Str} {k : Nat} (h : GoodT k x) : PyData.strOk x = true := by
  unfold PyData.strOk
  rw [Array.all_eq_true']
  intro c hc
  have := h.2 c (by simpa using hc)
  unfold Sign Bare at this
  simp only [decide_eq_true_eq]
  omega
end Mine
end

section -- MPl0
open PySem PySem.W PyProof.Rows PySem.Calls PySem.Builtin PySem.Builtin.Str
set_option Elab.async false
namespace Mine
theorem sub_pre (x : Str) (k : Nat) : strSub x 0 k = pre x k := by
  unfold strSub pre
  apply congrArg Str.mk
  apply Array.toList_inj.mp
  simp [Array.toList_extract, List.extract]
theorem slash_has (c : Nat) : (Str.ofString "/").cps.contains c = true ↔ c = 47 := by
  rw [show (Str.ofString "/").cps = #[47] by decide +kernel]
  simp
/-- rstrip("/") cuts the slashes at the end, and no more -/
theorem rst_cut (x : Str) : ∃ hi : Nat, hi ≤ x.length ∧ rstP x = pre x hi ∧ (∀ k, hi ≤ k → k < x.length → x.cps.toList[k]? = some 47) ∧ (hi = 0 ∨ x.cps.toList[hi - 1]? ≠ some 47) := by
  obtain ⟨_, h0, h1, h2⟩ := hi_facts (Str.ofString "/").cps.contains x 0 (Nat.zero_le _)
  have get : ∀ k, k < x.length → x.cps.toList[k]? = some (x.cps.getD k 0) := fun k hk => by
    have hk' : k < x.cps.size := hk
    rw [Array.getElem?_toList, Array.getElem?_eq_getElem hk']
    simp [Array.getD, hk']
  refine ⟨stripHi (Str.ofString "/").cps.contains true x 0, h0, ?_, fun k hk hk2 => ?_, ?_⟩
  · unfold rstP Txt.rstripChars
    rw [PyProof.Rows.stripBy_eq, ← sub_pre]
    rfl
  · rw [get k hk2]
    exact congrArg some ((slash_has _).mp (h1 k hk hk2))
  · rcases h2 with h | h
    · exact .inl h
    · by_cases hh : stripHi (Str.ofString "/").cps.contains true x 0 = 0
      · exact .inl hh
      · refine .inr ?_
        rw [get _ (by omega)]
        intro e
        have := (slash_has _).mpr (Option.some.inj e)
        rw [h] at this
        cases this
theorem pre_len {x : Str} {k : Nat} (h : k ≤ x.length) : (pre x k).length = k := by
  have : (pre x k).length = min k x.length := by simp [pre, Str.length]
  omega
theorem pre_cps (x : Str) (k : Nat) : (pre x k).cps.toList = x.cps.toList.take k := by simp [pre]
theorem pre_pre (x : Str) {j k : Nat} (h : j ≤ k) : pre (pre x k) j = pre x j := by
  unfold pre
  apply congrArg Str.mk
  apply Array.toList_inj.mp
  simp [List.take_take, Nat.min_eq_left h]
/-- rfind("/") + 1: behind the last slash -/
theorem rf_cut (x : Str) : ∃ i : Nat, i ≤ x.length ∧ Txt.rfind x (Str.ofString "/") + 1 = (i : Int) ∧ (i = 0 ∨ x.cps.toList[i - 1]? = some 47) ∧ ∀ k, i ≤ k → x.cps.toList[k]? ≠ some 47 := by
  have b1 : (Str.ofString "/").length = 1 := by decide +kernel
  have at_iff : ∀ i, StrLaws.At x (Str.ofString "/") x.length i ↔ x.cps.toList[i]? = some 47 := by
    intro i
    unfold StrLaws.At subAt
    rw [b1, show (Str.ofString "/").cps = #[47] by decide +kernel]
    constructor
    · rintro ⟨h1, h2⟩
      have h3 := congrArg Array.toList (eq_of_beq h2)
      have hi : i < x.cps.toList.length := by have : x.cps.toList.length = x.length := by simp [Str.length]
                                              omega
      rw [Array.toList_extract, List.extract] at h3
      rw [List.getElem?_eq_getElem hi]
      rw [show i + 1 - i = 1 by omega, List.drop_eq_getElem_cons hi] at h3
      simpa using h3
    · intro h
      have hi : i < x.cps.toList.length := (List.getElem?_eq_some_iff.mp h).1
      have hl : x.cps.toList.length = x.length := by simp [Str.length]
      refine ⟨by omega, beq_iff_eq.mpr (Array.toList_inj.mp ?_)⟩
      rw [Array.toList_extract, List.extract, show i + 1 - i = 1 by omega, List.drop_eq_getElem_cons hi]
      rw [List.getElem?_eq_getElem hi] at h
      simp [Option.some.inj h]
  rcases rfind_whole x (Str.ofString "/") with ⟨e, hn⟩ | ⟨i, e, hi, hn⟩
  · refine ⟨0, Nat.zero_le _, by rw [e]; rfl, .inl rfl, fun k _ h => hn k ((at_iff k).mpr h)⟩
  · refine ⟨i + 1, by have := hi.1; omega, by rw [e]; omega, .inr ((at_iff i).mp hi), fun k hk h => hn k (by omega) ((at_iff k).mpr h)⟩
end Mine
end

section -- MPl1
open PySem PySem.W PyProof.Rows PySem.Calls PySem.Builtin PySem.Builtin.Str
set_option Elab.async false
namespace Mine
theorem fold_allZ {l : List (Array Nat)} (h : ∀ a ∈ l, ∀ c ∈ a.toList, c = 47) : ∀ acc : Array Nat, (∀ c ∈ acc.toList, c = 47) → ∀ c ∈ (l.foldl (· ++ ·) acc).toList, c = 47 := by
  induction l with
  | nil => exact fun acc h => h
  | cons a r ih =>
    intro acc hacc
    rw [List.foldl_cons]
    refine ih (fun b hb => h b (.tail _ hb)) _ fun c hc => ?_
    rw [Array.toList_append] at hc
    rcases List.mem_append.mp hc with hc | hc
    · exact hacc c hc
    · exact h a (.head _) c hc
theorem slash_list : (Str.ofString "/").cps = #[47] := by decide +kernel
theorem mul_all (n : Int) : ∀ c ∈ (Txt.mul (Str.ofString "/") n).cps.toList, c = 47 := by
  intro c hc
  unfold Txt.mul at hc
  split at hc
  · simp [Str.empty] at hc
  · split at hc
    · rw [slash_list] at hc
      simpa using hc
    · refine fold_allZ (l := List.replicate n.toNat (Str.ofString "/").cps) (fun a ha c hc => ?_) #[] (fun c hc => by simp at hc) c hc
      rw [(List.mem_replicate.mp ha).2, slash_list] at hc
      simpa using hc
theorem rst_idem (x : Str) : rstP (rstP x) = rstP x := by
  obtain ⟨hi, h1, h2, h3, h4⟩ := rst_cut x
  obtain ⟨hj, j1, j2, j3, j4⟩ := rst_cut (pre x hi)
  rw [pre_len h1] at j1 j3
  rw [h2, j2]
  by_cases e : hj = hi
  · rw [e, pre_pre x (Nat.le_refl _)]
  · have hlt : hj < hi := by omega
    have a := j3 (hi - 1) (by omega) (by omega)
    rw [pre_cps, List.getElem?_take_of_lt (by omega)] at a
    rcases h4 with h4 | h4
    · omega
    · exact absurd a h4
theorem tst_len {x : Str} (h : x.length = 0) : tstP x = false := by
  obtain ⟨hi, h1, h2, _⟩ := rst_cut x
  unfold tstP
  rw [h2, pre_len h1]
  simp
  omega
theorem tst_all {x : Str} (h : ∀ c ∈ x.cps.toList, c = 47) : tstP x = false := by
  obtain ⟨hi, h1, h2, _, h4⟩ := rst_cut x
  unfold tstP
  rw [h2, pre_len h1]
  rcases h4 with h4 | h4
  · simp [h4]
  · by_cases h0 : hi = 0
    · simp [h0]
    · have hl : x.cps.toList.length = x.length := by simp [Str.length]
      have hlt : hi - 1 < x.cps.toList.length := by omega
      rw [List.getElem?_eq_getElem hlt] at h4
      exact absurd (congrArg some (h _ (List.getElem_mem hlt))) h4
/-- the head of split: the text before the last slash, its slashes at the end cut, if anything is left -/
theorem split_cut (x : Str) : ∃ i : Nat, i ≤ x.length ∧ (i = 0 ∨ x.cps.toList[i - 1]? = some 47) ∧ (∀ k, i ≤ k → x.cps.toList[k]? ≠ some 47) ∧ tstP (splitHead x) = tstP (pre x i) ∧ (tstP (pre x i) = true → splitHead x = rstP (pre x i)) := by
  obtain ⟨i, h1, h2, h3, h4⟩ := rf_cut x
  refine ⟨i, h1, h3, h4, ?_⟩
  have e : Txt.slice x none (some (Txt.rfind x (Str.ofString "/") + 1)) = pre x i := by
    rw [h2, slice_ns (by omega)]
    unfold pre
    rw [Int.toNat_natCast]
  unfold splitHead
  rw [e]
  split
  · rename_i h
    have h0 : (pre x i).length = 0 := by omega
    exact ⟨rfl, fun ht => by rw [tst_len h0] at ht; cases ht⟩
  · split
    · refine ⟨?_, fun _ => rfl⟩
      show tstP (rstP (pre x i)) = _
      unfold tstP
      rw [rst_idem]
    · rename_i h
      have e2 : pre x i = Txt.mul (Str.ofString "/") ((pre x i).length : Int) := by
        simpa using h
      refine ⟨rfl, fun ht => ?_⟩
      rw [tst_all (by rw [e2]; exact mul_all _)] at ht
      cases ht
end Mine
end

section -- MPl2
open PySem PySem.W PyProof.Rows PySem.Calls
set_option Elab.async false
namespace Mine
noncomputable def Fine (p : Str) : Prop := 0 < p.length ∧ p.cps.toList[p.length - 1]? ≠ some 47
noncomputable def IsAnc (p q : Str) : Prop := ∃ k, 1 ≤ k ∧ k < p.length ∧ p.cps.toList[k - 1]? ≠ some 47 ∧ p.cps.toList[k]? = some 47 ∧ q = pre p k
theorem left_congr {tst : Str → Bool} {nxt : Str → Str} {val val' : Nat → Str} {n : Nat} {x : Str} (h : Left tst nxt val n x) : (∀ j, j < n → val j = val' j) → Left tst nxt val' n x := by
  induction h with
  | done h => exact fun _ => .done h
  | turn h1 h2 _ ih => exact fun hv => .turn h1 ((hv _ (Nat.lt_succ_self _)).symm.trans h2) (ih fun j hj => hv j (Nat.lt_succ_of_lt hj))
theorem outs_congr {val val' : Nat → Str} {n : Nat} (h : ∀ j, j < n → val j = val' j) : outs val n = outs val' n := by
  unfold outs
  refine List.map_congr_left fun j hj => h j ?_
  simpa using hj
theorem fine_tst {p : Str} (h : Fine p) : tstP p = true := by
  obtain ⟨hi, h1, h2, h3, _⟩ := rst_cut p
  unfold tstP
  rw [h2, pre_len h1]
  refine decide_eq_true fun e => h.2 (h3 _ (by omega) ?_)
  have := h.1
  omega
theorem pre_get {x : Str} {k j : Nat} (h : j < k) : (pre x k).cps.toList[j]? = x.cps.toList[j]? := by
  rw [pre_cps, List.getElem?_take_of_lt h]
theorem chain : ∀ (N : Nat) (p : Str), p.length ≤ N → Fine p → ∃ val n, Left tstP splitHead val (n + 1) p ∧ val n = p ∧ n + 1 ≤ p.length ∧ (∀ q, q ∈ outs val n ↔ IsAnc p q) ∧ (outs val n).Pairwise (fun a b => b.length < a.length) := by
  intro N
  induction N with
  | zero => intro p h hf; exact absurd hf.1 (by omega)
  | succ N ih =>
    intro p hN hf
    obtain ⟨i, i1, i2, i3, i4, i5⟩ := split_cut p
    have htp := fine_tst hf
    have below_i : ∀ k, p.cps.toList[k]? = some 47 → k < i := fun k hk => by
      false_or_by_contra
      exact i3 k (by omega) hk
    obtain ⟨hi, h1, h2, h3, h4⟩ := rst_cut (pre p i)
    rw [pre_len i1] at h1 h3
    cases ht : tstP (pre p i) with
    | false =>
      refine ⟨fun _ => p, 0, .turn htp rfl (.done (by rw [i4]; exact ht)), rfl, hf.1, fun q => ?_, .nil⟩
      constructor
      · intro h; cases h
      · rintro ⟨k, k1, k2, k3, k4, _⟩
        have hki := below_i k k4
        have : hi ≠ 0 := by
          intro e
          have := h3 (k - 1) (by omega) (by omega)
          rw [pre_get (by omega)] at this
          exact k3 this
        unfold tstP at ht
        rw [h2, pre_len (by rw [pre_len i1]; exact h1)] at ht
        simp [this] at ht
    | true =>
      have hi0 : hi ≠ 0 := by
        intro e
        unfold tstP at ht
        rw [h2, pre_len (by rw [pre_len i1]; exact h1)] at ht
        simp [e] at ht
      have hs := i5 ht
      rw [h2, pre_pre p h1] at hs
      have hlast : p.cps.toList[hi - 1]? ≠ some 47 := by
        rcases h4 with h4 | h4
        · exact absurd h4 hi0
        · rwa [pre_get (by omega)] at h4
      have hlt : hi < i := by
        false_or_by_contra
        have e : hi = i := by omega
        rcases i2 with i2 | i2
        · omega
        · exact hlast (e ▸ i2)
      have hil : i < p.length := by
        false_or_by_contra
        have e : i = p.length := by omega
        rcases i2 with i2 | i2
        · omega
        · exact hf.2 (e ▸ i2)
      have hp' : (pre p hi).length = hi := pre_len (by omega)
      have hf' : Fine (pre p hi) := ⟨by omega, by rw [hp', pre_get (by omega)]; exact hlast⟩
      obtain ⟨val, n, v1, v2, v3, v4, v5⟩ := ih (pre p hi) (by omega) hf'
      have hc : ∀ j, j < n + 1 → val j = (fun j => if j = n + 1 then p else val j) j := fun j hj => by
        simp only
        rw [if_neg (by omega)]
      refine ⟨fun j => if j = n + 1 then p else val j, n + 1, .turn htp (by simp) (by rw [hs]; exact left_congr v1 hc), by simp, by omega, fun q => ?_, ?_⟩
      · rw [outs_succ, List.mem_cons, ← outs_congr (n := n) (fun j hj => hc j (by omega)), v4, if_neg (show ¬ n = n + 1 by omega), v2]
        constructor
        · rintro (rfl | ⟨k, k1, k2, k3, k4, rfl⟩)
          · have a := h3 hi (Nat.le_refl _) hlt
            rw [pre_get hlt] at a
            exact ⟨hi, by omega, by omega, hlast, a, rfl⟩
          · rw [hp'] at k2
            rw [pre_get (by omega)] at k3
            rw [pre_get k2] at k4
            exact ⟨k, k1, by omega, k3, k4, pre_pre p (by omega)⟩
        · rintro ⟨k, k1, k2, k3, k4, rfl⟩
          have hki := below_i k k4
          by_cases e : k = hi
          · exact .inl (by rw [e])
          · have hk : k < hi := by
              false_or_by_contra
              have := h3 (k - 1) (by omega) (by omega)
              rw [pre_get (by omega)] at this
              exact k3 this
            exact .inr ⟨k, k1, by omega, by rw [pre_get (by omega)]; exact k3, by rw [pre_get hk]; exact k4, (pre_pre p (by omega)).symm⟩
      · rw [outs_succ, ← outs_congr (n := n) (fun j hj => hc j (by omega)), if_neg (show ¬ n = n + 1 by omega), v2]
        refine .cons (fun q hq => ?_) v5
        obtain ⟨k, k1, k2, k3, k4, rfl⟩ := (v4 q).mp hq
        rw [pre_len (by omega)]
        exact k2
end Mine
end

section -- MPl3
open PySem PySem.W PyProof.Rows PySem.Calls
set_option Elab.async false
namespace Mine
theorem hStep_sub (t : Str) (hs : List Str) (j : Nat) : ∀ x ∈ hs, x ∈ hStep t hs j := by
  intro x hx
  unfold hStep
  split
  · exact List.mem_append_left _ hx
  · exact hx
theorem hStep_has {t : Str} {hs : List Str} {j : Nat} (h : t.cps.toList[j]? ≠ some 47) : pre t (j + 1) ∈ hStep t hs j := by
  unfold hStep
  by_cases hm : pre t (j + 1) ∈ hs
  · rw [if_neg (fun c => c.2 hm)]
    exact hm
  · rw [if_pos ⟨h, hm⟩]
    exact List.mem_append_right _ (.head _)
theorem hIn_sub (t : Str) (hs : List Str) : ∀ n, ∀ x ∈ hs, x ∈ hIn t hs n := by
  intro n
  induction n with
  | zero => exact fun x h => h
  | succ n ih =>
    intro x hx
    rw [hIn_succ]
    exact hStep_sub _ _ _ x (ih x hx)
theorem hIn_has {t : Str} {hs : List Str} {j : Nat} (h : t.cps.toList[j]? ≠ some 47) : ∀ n, j < n → pre t (j + 1) ∈ hIn t hs n := by
  intro n
  induction n with
  | zero => intro h; exact absurd h (Nat.not_lt_zero _)
  | succ n ih =>
    intro hj
    rw [hIn_succ]
    by_cases e : j = n
    · subst e
      exact hStep_has h
    · exact hStep_sub _ _ _ _ (ih (by omega))
theorem fold_sub : ∀ (ts : List Str) (hs : List Str), ∀ x ∈ hs, x ∈ ts.foldl (fun hs t => hIn t hs t.length) hs := by
  intro ts
  induction ts with
  | nil => exact fun hs x h => h
  | cons t r ih => exact fun hs x h => ih _ x (hIn_sub _ _ _ x h)
theorem hAll_has {ts : List Str} {t : Str} {j : Nat} (ht : t ∈ ts) (hj : j < t.length) (h : t.cps.toList[j]? ≠ some 47) : pre t (j + 1) ∈ hAll ts := by
  unfold hAll
  generalize ([] : List Str) = hs
  induction ts generalizing hs with
  | nil => cases ht
  | cons u r ih =>
    rw [List.foldl_cons]
    rcases List.mem_cons.mp ht with rfl | ht
    · exact fold_sub _ _ _ (hIn_has h _ hj)
    · exact ih ht _
theorem hStep_nd {t : Str} {hs : List Str} {j : Nat} (h : hs.Nodup) : (hStep t hs j).Nodup := by
  unfold hStep
  split
  · rename_i hc
    refine List.nodup_append.mpr ⟨h, by simp, fun a ha b hb e => ?_⟩
    rw [List.mem_singleton.mp hb] at e
    exact hc.2 (e ▸ ha)
  · exact h
theorem hIn_nd {t : Str} {hs : List Str} (h : hs.Nodup) : ∀ n, (hIn t hs n).Nodup := by
  intro n
  induction n with
  | zero => exact h
  | succ n ih => rw [hIn_succ]; exact hStep_nd ih
theorem hAll_nd (ts : List Str) : (hAll ts).Nodup := by
  unfold hAll
  have : ∀ (ts hs : List Str), hs.Nodup → (ts.foldl (fun hs t => hIn t hs t.length) hs).Nodup := by
    intro ts
    induction ts with
    | nil => exact fun hs h => h
    | cons t r ih => exact fun hs h => ih _ (hIn_nd h _)
  exact this ts [] List.nodup_nil
theorem sg_hd (y : Str) : (hdOf y).map Tk.sg = y.cps.toList ++ [47] := by
  unfold hdOf
  rw [List.map_append, List.map_map]
  have : (Tk.sg ∘ tkOf) = id := by
    funext c
    simp only [Function.comp, tkOf]
    split <;> rfl
  rw [this, List.map_id]
  rfl
end Mine
end

section -- MPlain
open PySem PySem.W PyProof.Rows PySem.Calls
set_option Elab.async false
namespace Mine
theorem takes_iff {y x : Str} : takesB ((hdOf y).map Tk.sg) x.cps.toList = true ↔ (y = pre x y.length ∧ x.cps.toList[y.length]? = some 47 ∧ ∃ m c, y.length < m ∧ x.cps.toList[m]? = some c ∧ c ≠ 47) := by
  have hy : y.cps.toList.length = y.length := by simp [Str.length]
  unfold takesB
  rw [sg_hd, Bool.and_eq_true, decide_eq_true_eq, List.any_eq_true]
  constructor
  · rintro ⟨⟨r, hr⟩, c, hc, hne⟩
    have e1 : y = pre x y.length := by
      apply str_ext
      rw [pre_cps, ← hr, List.append_assoc, ← hy, List.take_left']
      rfl
    have e2 : x.cps.toList[y.length]? = some 47 := by
      rw [← hr, List.append_assoc, List.getElem?_append_right (by omega), hy, Nat.sub_self]
      rfl
    refine ⟨e1, e2, ?_⟩
    obtain ⟨i, hi⟩ := List.mem_iff_getElem?.mp hc
    rw [List.getElem?_drop] at hi
    refine ⟨_, c, ?_, hi, by simpa using hne⟩
    rw [List.length_append, hy]
    simp
    omega
  · rintro ⟨e1, e2, m, c, h1, h2, h3⟩
    have hl : y.length < x.cps.toList.length := (List.getElem?_eq_some_iff.mp e2).1
    have e3 : y.cps.toList = x.cps.toList.take y.length := by
      have := congrArg (fun z : Str => z.cps.toList) e1
      simpa [pre] using this
    have e4 : y.cps.toList ++ [47] = x.cps.toList.take (y.length + 1) := by
      rw [List.take_add_one, e2, ← e3]
      rfl
    refine ⟨by rw [e4]; exact List.take_prefix _ _, c, ?_, by simpa using h3⟩
    rw [List.length_append, hy]
    refine List.mem_iff_getElem?.mpr ⟨m - (y.length + 1), ?_⟩
    rw [List.getElem?_drop]
    rw [show y.length + [47].length + (m - (y.length + 1)) = m by simp; omega]
    exact h2
theorem taker_iff {ts : List Str} {x : Str} (hx : x ∈ ts ++ ts.map (· ++ Str.ofString "//a")) {h0 : Nat} (h1 : h0 ≤ x.length) (h3 : ∀ k, h0 ≤ k → k < x.length → x.cps.toList[k]? = some 47) (h4 : h0 = 0 ∨ x.cps.toList[h0 - 1]? ≠ some 47) (q : Str) :
    q ∈ takers ts x ↔ ∃ k, 1 ≤ k ∧ k < h0 ∧ x.cps.toList[k - 1]? ≠ some 47 ∧ x.cps.toList[k]? = some 47 ∧ q = pre x k := by
  have hxl : x.cps.toList.length = x.length := by simp [Str.length]
  unfold takers
  rw [List.mem_filter, takes_iff]
  constructor
  · rintro ⟨hq, e1, e2, m, c, m1, m2, m3⟩
    obtain ⟨t, ht, j, hj, hne, rfl⟩ := hAll_is ts q hq
    have hpl : (pre t (j + 1)).length = j + 1 := pre_len hj
    have hm : m < x.length := by
      have := (List.getElem?_eq_some_iff.mp m2).1
      omega
    have hmh : m < h0 := by
      false_or_by_contra
      have := h3 m (by omega) hm
      rw [m2] at this
      exact m3 (Option.some.inj this)
    rw [hpl] at e1 e2 m1
    refine ⟨j + 1, by omega, by omega, ?_, e2, e1⟩
    have : x.cps.toList[j]? = t.cps.toList[j]? := by
      rw [← pre_get (x := x) (k := j + 1) (by omega), ← e1, pre_get (by omega)]
    rw [show j + 1 - 1 = j by omega, this]
    exact hne
  · rintro ⟨k, k1, k2, k3, k4, rfl⟩
    have hpl : (pre x k).length = k := pre_len (by omega)
    have hlast : x.cps.toList[h0 - 1]? ≠ some 47 := by
      rcases h4 with h4 | h4
      · omega
      · exact h4
    have hk : k < h0 - 1 := by
      false_or_by_contra
      have e : k = h0 - 1 := by omega
      exact hlast (e ▸ k4)
    refine ⟨?_, by rw [hpl], by rw [hpl]; exact k4, h0 - 1, x.cps.toList[h0 - 1]'(by omega), by rw [hpl]; exact hk, List.getElem?_eq_getElem _, fun e => hlast (by rw [List.getElem?_eq_getElem (by omega), e])⟩
    rcases List.mem_append.mp hx with hx | hx
    · have := hAll_has (j := k - 1) hx (by omega) k3
      rwa [show k - 1 + 1 = k by omega] at this
    · obtain ⟨t, ht, rfl⟩ := List.mem_map.mp hx
      have ea : (t ++ Str.ofString "//a").cps.toList = t.cps.toList ++ [47, 47, 97] := by
        rw [app_cps, show (Str.ofString "//a").cps.toList = [47, 47, 97] by decide +kernel]
      have htl : t.cps.toList.length = t.length := by simp [Str.length]
      rw [ea] at k3 k4
      have hkt : k ≤ t.length := by
        false_or_by_contra
        by_cases e : k = t.length + 1
        · rw [List.getElem?_append_right (by omega), htl, show k - 1 - t.length = 0 by omega] at k3
          exact k3 rfl
        · rw [List.getElem?_append_right (by omega), htl] at k4
          have hb : k - t.length = 2 ∨ 3 ≤ k - t.length := by omega
          rcases hb with hb | hb
          · rw [hb] at k4
            cases k4
          · rw [List.getElem?_eq_none (by simp; omega)] at k4
            cases k4
      have e5 : pre (t ++ Str.ofString "//a") k = pre t k := by
        apply str_ext
        rw [pre_cps, pre_cps, ea, List.take_append_of_le_length (by omega)]
      rw [e5]
      have := hAll_has (j := k - 1) ht (by omega) (by rwa [List.getElem?_append_left (by omega)] at k3)
      rwa [show k - 1 + 1 = k by omega] at this
theorem plainZ {ts : List Str} {x : Str} (gd : ∀ t ∈ ts, GoodT 13 t) (hx : x ∈ ts ++ ts.map (· ++ Str.ofString "//a")) :
    ∃ val n, Left tstP splitHead val n (rstP x) ∧ n ≤ 800 ∧ ∀ out : List Str, out.Perm (takers ts x) → out.Pairwise (fun a b => b.length ≤ a.length) → outs val (n - 1) = out := by
  obtain ⟨h0, h1, h2, h3, h4⟩ := rst_cut x
  have mem := taker_iff hx h1 h3 h4
  by_cases e : h0 = 0
  · refine ⟨fun _ => x, 0, .done ?_, by omega, fun out hp _ => ?_⟩
    · rw [h2]
      exact tst_len (by rw [pre_len h1]; exact e)
    · have : takers ts x = [] := List.eq_nil_iff_forall_not_mem.mpr fun q hq => by
        obtain ⟨k, _, hk, _⟩ := (mem q).mp hq
        omega
      rw [this] at hp
      rw [List.Perm.eq_nil hp]
      rfl
  · have hf : Fine (pre x h0) := ⟨by rw [pre_len h1]; omega, by
      rw [pre_len h1, pre_get (by omega)]
      rcases h4 with h4 | h4
      · exact absurd h4 e
      · exact h4⟩
    obtain ⟨val, n, v1, v2, v3, v4, v5⟩ := chain _ (pre x h0) (Nat.le_refl _) hf
    have hxl : x.length ≤ 16 := wanted_len16 gd x hx
    rw [pre_len h1] at v3
    refine ⟨val, n + 1, by rw [h2]; exact v1, by omega, fun out hp hs => ?_⟩
    have hsame : ∀ q, q ∈ outs val n ↔ q ∈ takers ts x := fun q => by
      rw [v4, mem]
      constructor
      · rintro ⟨k, k1, k2, k3, k4, rfl⟩
        rw [pre_len h1] at k2
        rw [pre_get (by omega)] at k3
        rw [pre_get k2] at k4
        exact ⟨k, k1, k2, k3, k4, pre_pre x (by omega)⟩
      · rintro ⟨k, k1, k2, k3, k4, rfl⟩
        exact ⟨k, k1, by rw [pre_len h1]; exact k2, by rw [pre_get (by omega)]; exact k3, by rw [pre_get k2]; exact k4, (pre_pre x (by omega)).symm⟩
    have hnd : (outs val n).Nodup := v5.imp fun h e => by rw [e] at h; exact Nat.lt_irrefl _ h
    have hnd2 : (takers ts x).Nodup := (hAll_nd ts).filter _
    have hperm : (outs val n).Perm out := ((List.perm_ext_iff_of_nodup hnd hnd2).mpr hsame).trans hp.symm
    refine List.Perm.eq_of_pairwise (le := fun a b => b.length ≤ a.length) (fun a b ha hb hab hba => ?_) (v5.imp fun h => Nat.le_of_lt h) hs hperm
    obtain ⟨k, _, k2, _, _, rfl⟩ := (mem a).mp ((hsame a).mp ha)
    obtain ⟨k', _, k2', _, _, rfl⟩ := (mem b).mp (hp.mem_iff.mp hb)
    rw [pre_len (by omega), pre_len (by omega)] at hab hba
    rw [show k = k' by omega]
end Mine
end

section -- MLaw
open PySem PySem.W PyProof.Rows PySem.Calls
set_option Elab.async false
set_option maxRecDepth 100000
set_option maxHeartbeats 8000000
namespace Mine
theorem flush_MLaw : True := by w_top off; first | walk1 | trivial
local macro_rules
  | `(tactic| walk_at $k:str) => if ["call ref", "binaryOp Add str str", "binaryOp Add ref ref", "call builtin:list.append", "eval DictComp", "subscriptTail Name Name ref str", "compareOp In str ref", "call builtin:sorted", "call type:list", "compareOp NotEq ref ref"].contains k.getString then `(tactic| ((fail_if_success (with_reducible rename Mark9 => mz)); refine sb_out ?_)) else Lean.Macro.throwUnsupported
local macro_rules | `(tactic| walk_at "eval ListComp") => `(tactic| (k_here; (with_reducible show wpAny _ _ (eval (Expr.ListComp _ [⟨Expr.Name _ _, _, [], 0⟩] _ _) _) _ _ _); k_dflt (refine LCg.ListComp_U (F₀ := by k_asm) (by with_unfolding_all rfl) (by decide) (by rfl) (by decide) (by rfl) ?_)))
local macro_rules
  | `(tactic| walk_at $k:str) => if ["CompSrc", "ForPost", "DcSrc", "DcEnd", "GensAt", "GPost", "CompSrcT"].contains k.getString then `(tactic| (refine stop_out ?_)) else Lean.Macro.throwUnsupported
local macro_rules | `(tactic| walk_at "pyIter ref") => `(tactic| (k_here; refine stop_out ?_))
local macro_rules | `(tactic| walk_at "exec For Name Name cons nil") => `(tactic| (k_here; (rename Fr _ _ _ _ => lF'); (with_unfolding_all refine' For_turns lF' ?_; k_whole)))
local macro_rules | `(tactic| walk_at "exec For Name Name cons nil") => `(tactic| (k_here; (with_reducible show wpAny _ _ (exec (Stmt.For _ (Expr.Name (Str.ofString "wanted") _) _ _ _) _) _ _ _); refine stop_out ?_))
theorem law_perm {h₀ h : Heap} {L D a1 a2 T a4 a5 a6 a7 : Addr} {oD o1 o2 oT o4 o5 o6 o7 : Obj} {bl : Led} (N : News h₀ L h ((D, oD) :: (a1, o1) :: (a2, o2) :: (T, oT) :: (a4, o4) :: (a5, o5) :: (a6, o6) :: (a7, o7) :: bl)) : News h₀ L h ((T, oT) :: ((D, oD) :: (a1, o1) :: (a2, o2) :: (a4, o4) :: (a6, o6) :: (a7, o7) :: bl)) := fun p hp => N p (by
  simp only [List.mem_cons] at hp ⊢
  rcases hp with h | h | h | h | h | h | h | h <;> simp only [h, true_or, or_true])
theorem off_at2 {bl R : Led} (h : ∀ p ∈ bl, ∀ q ∈ R, p.1 ≠ q.1) {q q' : Addr × Obj} (hq : q ∈ R) (hq' : q' ∈ R) : OwnOff bl [q.1, q'.1] := fun p hp b hb => by
  rcases List.mem_cons.mp hb with rfl | hb
  · exact h p hp q hq
  · rw [List.mem_singleton.mp hb]
    exact h p hp q' hq'
local macro_rules | `(tactic| walk_at "And") => `(tactic| ((with_reducible show GoodB _ _ _ ∧ _); refine stop_out ?_))
theorem law_all : PySem.Challenge.rw_ij0104_01.Holds := by
  refine hd (by rfl) (by rfl) (by rfl) ?_
  k_fill
  intro w s₀ s₁ mg mb G Y fa o pm cd doc dV kV ho hd hcd hD hmg hg args vals as hpre hlay hrd hwl hlo
  have KX := km_in_of Y
  km_tabs Y
  have X := (Ground.X G).1
  have V := (Ground.X G).2
  refine Ground.open G ?_
  intro T B D TE TW
  try (refine guard_noD D (by decide +kernel) ?_; clear D)
  km_lay T hmg ho hd cd
  clear hmg
  wrow_args hpre hlay hrd hwl hlo
  all_goals (
    first | refine callC_kw (enter_call ?_) | refine enter_call ?_
    w_top on
    refine bare_post hT9 (fun _ _ => rfl) (by with_unfolding_all rfl) ?_
    w_call any ho hd hcd hD T F
    clear hd
    kn_ghosts F T
    k_drop)
  all_goals try k_fold
  (rename Below callerA _ _ _ => K')
  generalize ghostOf _ _ = h₀ at *
  (rename CodeHd _ _ _ => cHd)
  (rename (_ < Array.size _) => l0)
  (repeat' (first | ((with_reducible refine sb_in ?_); (first | ((with_reducible show wpAny _ _ (compareOp ..) _ _ _); first | (k_here; k_dflt (refine same_strs (by exact NL) (by exact List.Mem.head _) (by exact List.Mem.tail _ (List.Mem.head _)) (by exact stL) (by exact stS) (by exact hplain _ pS wS) (by exact (fun y hy => good_ok (hAll_goodT gd (List.mem_filter.mp (pS.mem_iff.mp hy)).1))) (by ktr_units) ?_; k_whole)) | (k_here; k_dflt (refine in_strs (by k_asm) (by (repeat (first | exact hmemr | refine List.Mem.tail _ ?_))) (by exact hstr) ?_; k_whole))) | ((with_reducible show wpAny _ _ (call _ _ _) _ _ _); first | (k_here; k_dflt (refine' list_use ?X ?B ?T ?kd ?d ?u ?d2 ?u2 ?l0 ?l1 ?l2 ?l3 ?n8 ?F ?N ?nx ?hg ?_; (case F => exact FP); (case N => exact NP); (case X => k_asm); (case B => k_asm); (case T => k_asm); (case kd => exact rfl); (case d => ktr_room); (case u => ktr_units); (case d2 => decide); (case u2 => decide); (case l0 => exact lP0); (case l1 => exact lP1); (case l2 => exact lP2); (case l3 => exact lP3); (case n8 => exact hn8); (case nx => exact nxP); (case hg => exact hgb); k_whole); intro SL hL tkL gL vL cL gbL FL NL lL stL) | (k_here; (with_reducible show wpAny _ _ (call (Value.ref 99) _) _ _ _); k_dflt (refine' par_use ?k1 ?k2 ?B ?F ?X ?N ?T ?kd ?d ?u ?_; (case F => k_asm); (case B => k_asm); (case X => k_asm); (case N => k_asm); (case T => k_asm); (case k1 => exact hleft); (case k2 => exact hxl); (case kd => exact rfl); (case d => ktr_room); (case u => ktr_units); k_whole); intro XP dP GP LP oP mP nmP qnP u1P u2P u3P u4P hP tkP gsP tP FP NP lP0 lP1 lP2 lP3 nxP) | (k_here; ksk_kw; with_unfolding_all (refine sorted_len (by k_asm) (by k_asm) (by (first | k_mem | exact List.Mem.head _)) (by exact hstf) (by exact hlf) (by exact hbf) ?_; k_whole); intro DS cS hS tkS vS sS FS NS lS stS pS wS; (try k_lt lS); (try k_sweep)) | (k_here; (with_reducible show wpAny _ _ (call (Value.ref 196) _) _ _ _); k_dflt (refine taken_use (by k_asm) (by k_asm) (by assumption) (by k_mem) (by (rw [List.length_append]; omega)) (by assumption) (by assumption) (by exact h153) (by assumption) (by k_asm) (by k_asm) (by k_asm) (by exact rfl) (by ktr_room) (by ktr_units) ?_; k_whole); intro Dr cR hR tkR psR FR NR htrR hneR h153R) | (k_here; (with_reducible show wpAny _ _ (call (Value.ref 201) _) _ _ _); k_dflt (refine' escd_use ?k1 ?B ?F ?X ?N ?T ?kd ?d ?u ?_; (case F => k_asm); (case B => k_asm); (case X => k_asm); (case N => k_asm); (case T => k_asm); (case k1 => omega); (case kd => exact rfl); (case d => ktr_room); (case u => ktr_units); k_whole); intro uE h' tk' F' N'; (try k_sweep)) | (k_here; k_dflt (refine append_K (by k_asm) (by k_asm) (by k_upd) ?_ (by (simp only [List.size_toArray]; rw [sizeLine_eq]; omega)); k_whole); intro h' F' N'; (try k_sweep)) | (k_here; (with_reducible show wpAny _ _ (call (Value.ref 208) _) _ _ _); k_dflt (refine' texts_core ?hi ?h63 _ _ _ _ _ _ _ _ _ _ _ _ _ _ _ _ _ _ _ _ _ _ ?B ?F ?X ?N ?T ?kd ?d ?u ?hs ?_; (case F => k_asm); (case B => k_asm); (case X => k_asm); (case N => k_asm); (case T => k_asm); (case hi => assumption); (case h63 => omega); (case kd => exact rfl); (case d => ktr_room); (case u => ktr_units); (case hs => assumption); k_whole); delta TxtsRes; intro lT nT vs xs hT tkT F' N' lTl st g1 g3 gd; (try k_lt lTl); (try k_sweep))) | ((with_reducible show wpAny _ _ (subscriptTail ..) _ _ _); (k_here; k_dflt (refine below_item (by k_asm) (by k_mem) (by exact hdD) (by exact hval) ?_ (by with_unfolding_all rfl) (by (intro _; with_unfolding_all rfl)); k_whole))) | ((with_reducible show wpAny _ _ (eval _ _) _ _ _); ((with_reducible show wpAny _ _ (eval (Expr.DictComp ..) _) _ _ _); (k_here; k_dflt (refine DictComp_K (by k_asm) (by with_unfolding_all rfl) (by decide) (by rfl) (by decide) (by rfl) ?_)))) | ((with_reducible show wpAny _ _ (binaryOp ..) _ _ _); first | (k_here; k_dflt (refine add_led (by k_asm) (by k_asm) (by k_mem) (by first | k_mem | exact List.Mem.head _) (by omega) ?_; k_whole); intro lW h' F' N' lWl; (try k_lt lWl); (try k_sweep)) | (k_here; k_dflt (refine add_txt (by first | omega | decide +kernel) (by first | omega | decide +kernel) ?_); intro t9 k9)) | ((have mk9 : Mark9 := .mk); walk1; all_goals (try clear mk9)))) | (k_unfold; (try dsimp only)) | (k_end; kc_close) | walk1 | (dsimp only; walk1) | (leave1; walk_say "STEP leave1"; (try dsimp only)) | fail "no step"))
  (rename Fr h₀ _ _ _ => F2)
  (rename News _ _ _ _ => N2)
  have hvs : vs.length = xs.length := st.length
  refine stop_in (SrcL.each (G := fun i y => ∀ x, xs[i]? = some x → ∃ u, y = .str (x ++ Str.ofString "//a") u) rfl F2 N2 (by k_mem) (by rw [hvs, sizeLine_eq]; omega) ?_ ?_)
  · rintro g i v I oI C oC D m₂ h tk ys E' hi hv hC hx F3 N3 off ne
    obtain ⟨x, t, hx1, rfl⟩ := strs_at st hv
    have hxl : x.length ≤ 13 := (gd x (List.mem_of_getElem? hx1)).1
    (repeat' (first | ((with_reducible refine sb_in ?_); (first | ((with_reducible show wpAny _ _ (compareOp ..) _ _ _); first | (k_here; k_dflt (refine same_strs (by exact NL) (by exact List.Mem.head _) (by exact List.Mem.tail _ (List.Mem.head _)) (by exact stL) (by exact stS) (by exact hplain _ pS wS) (by exact (fun y hy => good_ok (hAll_goodT gd (List.mem_filter.mp (pS.mem_iff.mp hy)).1))) (by ktr_units) ?_; k_whole)) | (k_here; k_dflt (refine in_strs (by k_asm) (by (repeat (first | exact hmemr | refine List.Mem.tail _ ?_))) (by exact hstr) ?_; k_whole))) | ((with_reducible show wpAny _ _ (call _ _ _) _ _ _); first | (k_here; k_dflt (refine' list_use ?X ?B ?T ?kd ?d ?u ?d2 ?u2 ?l0 ?l1 ?l2 ?l3 ?n8 ?F ?N ?nx ?hg ?_; (case F => exact FP); (case N => exact NP); (case X => k_asm); (case B => k_asm); (case T => k_asm); (case kd => exact rfl); (case d => ktr_room); (case u => ktr_units); (case d2 => decide); (case u2 => decide); (case l0 => exact lP0); (case l1 => exact lP1); (case l2 => exact lP2); (case l3 => exact lP3); (case n8 => exact hn8); (case nx => exact nxP); (case hg => exact hgb); k_whole); intro SL hL tkL gL vL cL gbL FL NL lL stL) | (k_here; (with_reducible show wpAny _ _ (call (Value.ref 99) _) _ _ _); k_dflt (refine' par_use ?k1 ?k2 ?B ?F ?X ?N ?T ?kd ?d ?u ?_; (case F => k_asm); (case B => k_asm); (case X => k_asm); (case N => k_asm); (case T => k_asm); (case k1 => exact hleft); (case k2 => exact hxl); (case kd => exact rfl); (case d => ktr_room); (case u => ktr_units); k_whole); intro XP dP GP LP oP mP nmP qnP u1P u2P u3P u4P hP tkP gsP tP FP NP lP0 lP1 lP2 lP3 nxP) | (k_here; ksk_kw; with_unfolding_all (refine sorted_len (by k_asm) (by k_asm) (by (first | k_mem | exact List.Mem.head _)) (by exact hstf) (by exact hlf) (by exact hbf) ?_; k_whole); intro DS cS hS tkS vS sS FS NS lS stS pS wS; (try k_lt lS); (try k_sweep)) | (k_here; (with_reducible show wpAny _ _ (call (Value.ref 196) _) _ _ _); k_dflt (refine taken_use (by k_asm) (by k_asm) (by assumption) (by k_mem) (by (rw [List.length_append]; omega)) (by assumption) (by assumption) (by exact h153) (by assumption) (by k_asm) (by k_asm) (by k_asm) (by exact rfl) (by ktr_room) (by ktr_units) ?_; k_whole); intro Dr cR hR tkR psR FR NR htrR hneR h153R) | (k_here; (with_reducible show wpAny _ _ (call (Value.ref 201) _) _ _ _); k_dflt (refine' escd_use ?k1 ?B ?F ?X ?N ?T ?kd ?d ?u ?_; (case F => k_asm); (case B => k_asm); (case X => k_asm); (case N => k_asm); (case T => k_asm); (case k1 => omega); (case kd => exact rfl); (case d => ktr_room); (case u => ktr_units); k_whole); intro uE h' tk' F' N'; (try k_sweep)) | (k_here; k_dflt (refine append_K (by k_asm) (by k_asm) (by k_upd) ?_ (by (simp only [List.size_toArray]; rw [sizeLine_eq]; omega)); k_whole); intro h' F' N'; (try k_sweep)) | (k_here; (with_reducible show wpAny _ _ (call (Value.ref 208) _) _ _ _); k_dflt (refine' texts_core ?hi ?h63 _ _ _ _ _ _ _ _ _ _ _ _ _ _ _ _ _ _ _ _ _ _ ?B ?F ?X ?N ?T ?kd ?d ?u ?hs ?_; (case F => k_asm); (case B => k_asm); (case X => k_asm); (case N => k_asm); (case T => k_asm); (case hi => assumption); (case h63 => omega); (case kd => exact rfl); (case d => ktr_room); (case u => ktr_units); (case hs => assumption); k_whole); delta TxtsRes; intro lT nT vs xs hT tkT F' N' lTl st g1 g3 gd; (try k_lt lTl); (try k_sweep))) | ((with_reducible show wpAny _ _ (subscriptTail ..) _ _ _); (k_here; k_dflt (refine below_item (by k_asm) (by k_mem) (by exact hdD) (by exact hval) ?_ (by with_unfolding_all rfl) (by (intro _; with_unfolding_all rfl)); k_whole))) | ((with_reducible show wpAny _ _ (eval _ _) _ _ _); ((with_reducible show wpAny _ _ (eval (Expr.DictComp ..) _) _ _ _); (k_here; k_dflt (refine DictComp_K (by k_asm) (by with_unfolding_all rfl) (by decide) (by rfl) (by decide) (by rfl) ?_)))) | ((with_reducible show wpAny _ _ (binaryOp ..) _ _ _); first | (k_here; k_dflt (refine add_led (by k_asm) (by k_asm) (by k_mem) (by first | k_mem | exact List.Mem.head _) (by omega) ?_; k_whole); intro lW h' F' N' lWl; (try k_lt lWl); (try k_sweep)) | (k_here; k_dflt (refine add_txt (by first | omega | decide +kernel) (by first | omega | decide +kernel) ?_); intro t9 k9)) | ((have mk9 : Mark9 := .mk); walk1; all_goals (try clear mk9)))) | (k_unfold; (try dsimp only)) | (k_end; kc_close) | walk1 | (dsimp only; walk1) | (leave1; walk_say "STEP leave1"; (try dsimp only)) | fail "no step"))
    refine TurnEndZ.intro F3 N3 (fun _ h => h) ?_
    intro x' hx'
    rw [hx1] at hx'
    cases hx'
    exact ⟨_, rfl⟩
  · intro g ys hl hg
    have st2 := wanted_at (xs := xs) (by rw [hl, hvs]) hg
    have st3 := st.append' st2
    (repeat' (first | ((with_reducible refine sb_in ?_); (first | ((with_reducible show wpAny _ _ (compareOp ..) _ _ _); first | (k_here; k_dflt (refine same_strs (by exact NL) (by exact List.Mem.head _) (by exact List.Mem.tail _ (List.Mem.head _)) (by exact stL) (by exact stS) (by exact hplain _ pS wS) (by exact (fun y hy => good_ok (hAll_goodT gd (List.mem_filter.mp (pS.mem_iff.mp hy)).1))) (by ktr_units) ?_; k_whole)) | (k_here; k_dflt (refine in_strs (by k_asm) (by (repeat (first | exact hmemr | refine List.Mem.tail _ ?_))) (by exact hstr) ?_; k_whole))) | ((with_reducible show wpAny _ _ (call _ _ _) _ _ _); first | (k_here; k_dflt (refine' list_use ?X ?B ?T ?kd ?d ?u ?d2 ?u2 ?l0 ?l1 ?l2 ?l3 ?n8 ?F ?N ?nx ?hg ?_; (case F => exact FP); (case N => exact NP); (case X => k_asm); (case B => k_asm); (case T => k_asm); (case kd => exact rfl); (case d => ktr_room); (case u => ktr_units); (case d2 => decide); (case u2 => decide); (case l0 => exact lP0); (case l1 => exact lP1); (case l2 => exact lP2); (case l3 => exact lP3); (case n8 => exact hn8); (case nx => exact nxP); (case hg => exact hgb); k_whole); intro SL hL tkL gL vL cL gbL FL NL lL stL) | (k_here; (with_reducible show wpAny _ _ (call (Value.ref 99) _) _ _ _); k_dflt (refine' par_use ?k1 ?k2 ?B ?F ?X ?N ?T ?kd ?d ?u ?_; (case F => k_asm); (case B => k_asm); (case X => k_asm); (case N => k_asm); (case T => k_asm); (case k1 => exact hleft); (case k2 => exact hxl); (case kd => exact rfl); (case d => ktr_room); (case u => ktr_units); k_whole); intro XP dP GP LP oP mP nmP qnP u1P u2P u3P u4P hP tkP gsP tP FP NP lP0 lP1 lP2 lP3 nxP) | (k_here; ksk_kw; with_unfolding_all (refine sorted_len (by k_asm) (by k_asm) (by (first | k_mem | exact List.Mem.head _)) (by exact hstf) (by exact hlf) (by exact hbf) ?_; k_whole); intro DS cS hS tkS vS sS FS NS lS stS pS wS; (try k_lt lS); (try k_sweep)) | (k_here; (with_reducible show wpAny _ _ (call (Value.ref 196) _) _ _ _); k_dflt (refine taken_use (by k_asm) (by k_asm) (by assumption) (by k_mem) (by (rw [List.length_append]; omega)) (by assumption) (by assumption) (by exact h153) (by assumption) (by k_asm) (by k_asm) (by k_asm) (by exact rfl) (by ktr_room) (by ktr_units) ?_; k_whole); intro Dr cR hR tkR psR FR NR htrR hneR h153R) | (k_here; (with_reducible show wpAny _ _ (call (Value.ref 201) _) _ _ _); k_dflt (refine' escd_use ?k1 ?B ?F ?X ?N ?T ?kd ?d ?u ?_; (case F => k_asm); (case B => k_asm); (case X => k_asm); (case N => k_asm); (case T => k_asm); (case k1 => omega); (case kd => exact rfl); (case d => ktr_room); (case u => ktr_units); k_whole); intro uE h' tk' F' N'; (try k_sweep)) | (k_here; k_dflt (refine append_K (by k_asm) (by k_asm) (by k_upd) ?_ (by (simp only [List.size_toArray]; rw [sizeLine_eq]; omega)); k_whole); intro h' F' N'; (try k_sweep)) | (k_here; (with_reducible show wpAny _ _ (call (Value.ref 208) _) _ _ _); k_dflt (refine' texts_core ?hi ?h63 _ _ _ _ _ _ _ _ _ _ _ _ _ _ _ _ _ _ _ _ _ _ ?B ?F ?X ?N ?T ?kd ?d ?u ?hs ?_; (case F => k_asm); (case B => k_asm); (case X => k_asm); (case N => k_asm); (case T => k_asm); (case hi => assumption); (case h63 => omega); (case kd => exact rfl); (case d => ktr_room); (case u => ktr_units); (case hs => assumption); k_whole); delta TxtsRes; intro lT nT vs xs hT tkT F' N' lTl st g1 g3 gd; (try k_lt lTl); (try k_sweep))) | ((with_reducible show wpAny _ _ (subscriptTail ..) _ _ _); (k_here; k_dflt (refine below_item (by k_asm) (by k_mem) (by exact hdD) (by exact hval) ?_ (by with_unfolding_all rfl) (by (intro _; with_unfolding_all rfl)); k_whole))) | ((with_reducible show wpAny _ _ (eval _ _) _ _ _); ((with_reducible show wpAny _ _ (eval (Expr.DictComp ..) _) _ _ _); (k_here; k_dflt (refine DictComp_K (by k_asm) (by with_unfolding_all rfl) (by decide) (by rfl) (by decide) (by rfl) ?_)))) | ((with_reducible show wpAny _ _ (binaryOp ..) _ _ _); first | (k_here; k_dflt (refine add_led (by k_asm) (by k_asm) (by k_mem) (by first | k_mem | exact List.Mem.head _) (by omega) ?_; k_whole); intro lW h' F' N' lWl; (try k_lt lWl); (try k_sweep)) | (k_here; k_dflt (refine add_txt (by first | omega | decide +kernel) (by first | omega | decide +kernel) ?_); intro t9 k9)) | ((have mk9 : Mark9 := .mk); walk1; all_goals (try clear mk9)))) | (k_unfold; (try dsimp only)) | (k_end; kc_close) | walk1 | (dsimp only; walk1) | (leave1; walk_say "STEP leave1"; (try dsimp only)) | fail "no step"))
    (rename Fr h₀ _ _ _ => F4)
    (rename News _ _ _ _ => N4)
    refine stop_in (hd_loop' (xs := xs) rfl F4 N4 rfl rfl ⟨_, by assumption⟩ ?_ ?_)
    · rintro i v ⟨oT, hv, k⟩ u h1 tk1 own hvi ⟨hst, ⟨vT, hoT⟩⟩ hoff F5 N5
      obtain ⟨x, t, hx1, rfl⟩ := strs_at st hvi
      have hxl : x.length ≤ 13 := (gd x (List.mem_of_getElem? hx1)).1
      simp only [HdS.names, HdS.led, List.cons_append, List.nil_append] at F5 N5
      have hoffT := own_at hoff (.tail _ (.head _))
      (repeat' (first | ((with_reducible refine sb_in ?_); (first | ((with_reducible show wpAny _ _ (compareOp ..) _ _ _); first | (k_here; k_dflt (refine same_strs (by exact NL) (by exact List.Mem.head _) (by exact List.Mem.tail _ (List.Mem.head _)) (by exact stL) (by exact stS) (by exact hplain _ pS wS) (by exact (fun y hy => good_ok (hAll_goodT gd (List.mem_filter.mp (pS.mem_iff.mp hy)).1))) (by ktr_units) ?_; k_whole)) | (k_here; k_dflt (refine in_strs (by k_asm) (by (repeat (first | exact hmemr | refine List.Mem.tail _ ?_))) (by exact hstr) ?_; k_whole))) | ((with_reducible show wpAny _ _ (call _ _ _) _ _ _); first | (k_here; k_dflt (refine' list_use ?X ?B ?T ?kd ?d ?u ?d2 ?u2 ?l0 ?l1 ?l2 ?l3 ?n8 ?F ?N ?nx ?hg ?_; (case F => exact FP); (case N => exact NP); (case X => k_asm); (case B => k_asm); (case T => k_asm); (case kd => exact rfl); (case d => ktr_room); (case u => ktr_units); (case d2 => decide); (case u2 => decide); (case l0 => exact lP0); (case l1 => exact lP1); (case l2 => exact lP2); (case l3 => exact lP3); (case n8 => exact hn8); (case nx => exact nxP); (case hg => exact hgb); k_whole); intro SL hL tkL gL vL cL gbL FL NL lL stL) | (k_here; (with_reducible show wpAny _ _ (call (Value.ref 99) _) _ _ _); k_dflt (refine' par_use ?k1 ?k2 ?B ?F ?X ?N ?T ?kd ?d ?u ?_; (case F => k_asm); (case B => k_asm); (case X => k_asm); (case N => k_asm); (case T => k_asm); (case k1 => exact hleft); (case k2 => exact hxl); (case kd => exact rfl); (case d => ktr_room); (case u => ktr_units); k_whole); intro XP dP GP LP oP mP nmP qnP u1P u2P u3P u4P hP tkP gsP tP FP NP lP0 lP1 lP2 lP3 nxP) | (k_here; ksk_kw; with_unfolding_all (refine sorted_len (by k_asm) (by k_asm) (by (first | k_mem | exact List.Mem.head _)) (by exact hstf) (by exact hlf) (by exact hbf) ?_; k_whole); intro DS cS hS tkS vS sS FS NS lS stS pS wS; (try k_lt lS); (try k_sweep)) | (k_here; (with_reducible show wpAny _ _ (call (Value.ref 196) _) _ _ _); k_dflt (refine taken_use (by k_asm) (by k_asm) (by assumption) (by k_mem) (by (rw [List.length_append]; omega)) (by assumption) (by assumption) (by exact h153) (by assumption) (by k_asm) (by k_asm) (by k_asm) (by exact rfl) (by ktr_room) (by ktr_units) ?_; k_whole); intro Dr cR hR tkR psR FR NR htrR hneR h153R) | (k_here; (with_reducible show wpAny _ _ (call (Value.ref 201) _) _ _ _); k_dflt (refine' escd_use ?k1 ?B ?F ?X ?N ?T ?kd ?d ?u ?_; (case F => k_asm); (case B => k_asm); (case X => k_asm); (case N => k_asm); (case T => k_asm); (case k1 => omega); (case kd => exact rfl); (case d => ktr_room); (case u => ktr_units); k_whole); intro uE h' tk' F' N'; (try k_sweep)) | (k_here; k_dflt (refine append_K (by k_asm) (by k_asm) (by k_upd) ?_ (by (simp only [List.size_toArray]; rw [sizeLine_eq]; omega)); k_whole); intro h' F' N'; (try k_sweep)) | (k_here; (with_reducible show wpAny _ _ (call (Value.ref 208) _) _ _ _); k_dflt (refine' texts_core ?hi ?h63 _ _ _ _ _ _ _ _ _ _ _ _ _ _ _ _ _ _ _ _ _ _ ?B ?F ?X ?N ?T ?kd ?d ?u ?hs ?_; (case F => k_asm); (case B => k_asm); (case X => k_asm); (case N => k_asm); (case T => k_asm); (case hi => assumption); (case h63 => omega); (case kd => exact rfl); (case d => ktr_room); (case u => ktr_units); (case hs => assumption); k_whole); delta TxtsRes; intro lT nT vs xs hT tkT F' N' lTl st g1 g3 gd; (try k_lt lTl); (try k_sweep))) | ((with_reducible show wpAny _ _ (subscriptTail ..) _ _ _); (k_here; k_dflt (refine below_item (by k_asm) (by k_mem) (by exact hdD) (by exact hval) ?_ (by with_unfolding_all rfl) (by (intro _; with_unfolding_all rfl)); k_whole))) | ((with_reducible show wpAny _ _ (eval _ _) _ _ _); ((with_reducible show wpAny _ _ (eval (Expr.DictComp ..) _) _ _ _); (k_here; k_dflt (refine DictComp_K (by k_asm) (by with_unfolding_all rfl) (by decide) (by rfl) (by decide) (by rfl) ?_)))) | ((with_reducible show wpAny _ _ (binaryOp ..) _ _ _); first | (k_here; k_dflt (refine add_led (by k_asm) (by k_asm) (by k_mem) (by first | k_mem | exact List.Mem.head _) (by omega) ?_; k_whole); intro lW h' F' N' lWl; (try k_lt lWl); (try k_sweep)) | (k_here; k_dflt (refine add_txt (by first | omega | decide +kernel) (by first | omega | decide +kernel) ?_); intro t9 k9)) | ((have mk9 : Mark9 := .mk); walk1; all_goals (try clear mk9)))) | (k_unfold; (try dsimp only)) | (k_end; kc_close) | walk1 | (dsimp only; walk1) | (leave1; walk_say "STEP leave1"; (try dsimp only)) | fail "no step"))
      (rename Fr h₀ _ _ _ => F6)
      (rename News _ _ _ _ => N6)
      (rename IsRange _ _ _ _ _ _ _ _ => r6)
      refine stop_in (hi_loop (t := x) (hs := hAll (xs.take i)) rfl r6 rfl rfl (by omega) F6 N6 (fun _ h => h) rfl rfl hst ?_ ?_)
      · rintro j tt ⟨iv, ik⟩ u7 h7 tk7 own7 hj hji hoff7 F7 N7
        have hoffH := own_app (own_at hoff (.head _)) (own_at hoff7 (.head _))
        simp only [HiS.names, HiS.led, List.cons_append, List.append_assoc] at F7 N7
        unfold HiS.Inv at hji
        simp only at hji
        have ivl : iv.length ≤ 100 := by
          rw [hji.length]
          exact Nat.le_trans (hIn_len _ _ _) (hd_bound g3 (fun t ht => (gd t ht).1) hx1 (by omega))
        (repeat' (first | ((with_reducible refine sb_in ?_); (first | ((with_reducible show wpAny _ _ (compareOp ..) _ _ _); first | (k_here; k_dflt (refine same_strs (by exact NL) (by exact List.Mem.head _) (by exact List.Mem.tail _ (List.Mem.head _)) (by exact stL) (by exact stS) (by exact hplain _ pS wS) (by exact (fun y hy => good_ok (hAll_goodT gd (List.mem_filter.mp (pS.mem_iff.mp hy)).1))) (by ktr_units) ?_; k_whole)) | (k_here; k_dflt (refine in_strs (by k_asm) (by (repeat (first | exact hmemr | refine List.Mem.tail _ ?_))) (by exact hstr) ?_; k_whole))) | ((with_reducible show wpAny _ _ (call _ _ _) _ _ _); first | (k_here; k_dflt (refine' list_use ?X ?B ?T ?kd ?d ?u ?d2 ?u2 ?l0 ?l1 ?l2 ?l3 ?n8 ?F ?N ?nx ?hg ?_; (case F => exact FP); (case N => exact NP); (case X => k_asm); (case B => k_asm); (case T => k_asm); (case kd => exact rfl); (case d => ktr_room); (case u => ktr_units); (case d2 => decide); (case u2 => decide); (case l0 => exact lP0); (case l1 => exact lP1); (case l2 => exact lP2); (case l3 => exact lP3); (case n8 => exact hn8); (case nx => exact nxP); (case hg => exact hgb); k_whole); intro SL hL tkL gL vL cL gbL FL NL lL stL) | (k_here; (with_reducible show wpAny _ _ (call (Value.ref 99) _) _ _ _); k_dflt (refine' par_use ?k1 ?k2 ?B ?F ?X ?N ?T ?kd ?d ?u ?_; (case F => k_asm); (case B => k_asm); (case X => k_asm); (case N => k_asm); (case T => k_asm); (case k1 => exact hleft); (case k2 => exact hxl); (case kd => exact rfl); (case d => ktr_room); (case u => ktr_units); k_whole); intro XP dP GP LP oP mP nmP qnP u1P u2P u3P u4P hP tkP gsP tP FP NP lP0 lP1 lP2 lP3 nxP) | (k_here; ksk_kw; with_unfolding_all (refine sorted_len (by k_asm) (by k_asm) (by (first | k_mem | exact List.Mem.head _)) (by exact hstf) (by exact hlf) (by exact hbf) ?_; k_whole); intro DS cS hS tkS vS sS FS NS lS stS pS wS; (try k_lt lS); (try k_sweep)) | (k_here; (with_reducible show wpAny _ _ (call (Value.ref 196) _) _ _ _); k_dflt (refine taken_use (by k_asm) (by k_asm) (by assumption) (by k_mem) (by (rw [List.length_append]; omega)) (by assumption) (by assumption) (by exact h153) (by assumption) (by k_asm) (by k_asm) (by k_asm) (by exact rfl) (by ktr_room) (by ktr_units) ?_; k_whole); intro Dr cR hR tkR psR FR NR htrR hneR h153R) | (k_here; (with_reducible show wpAny _ _ (call (Value.ref 201) _) _ _ _); k_dflt (refine' escd_use ?k1 ?B ?F ?X ?N ?T ?kd ?d ?u ?_; (case F => k_asm); (case B => k_asm); (case X => k_asm); (case N => k_asm); (case T => k_asm); (case k1 => omega); (case kd => exact rfl); (case d => ktr_room); (case u => ktr_units); k_whole); intro uE h' tk' F' N'; (try k_sweep)) | (k_here; k_dflt (refine append_K (by k_asm) (by k_asm) (by k_upd) ?_ (by (simp only [List.size_toArray]; rw [sizeLine_eq]; omega)); k_whole); intro h' F' N'; (try k_sweep)) | (k_here; (with_reducible show wpAny _ _ (call (Value.ref 208) _) _ _ _); k_dflt (refine' texts_core ?hi ?h63 _ _ _ _ _ _ _ _ _ _ _ _ _ _ _ _ _ _ _ _ _ _ ?B ?F ?X ?N ?T ?kd ?d ?u ?hs ?_; (case F => k_asm); (case B => k_asm); (case X => k_asm); (case N => k_asm); (case T => k_asm); (case hi => assumption); (case h63 => omega); (case kd => exact rfl); (case d => ktr_room); (case u => ktr_units); (case hs => assumption); k_whole); delta TxtsRes; intro lT nT vs xs hT tkT F' N' lTl st g1 g3 gd; (try k_lt lTl); (try k_sweep))) | ((with_reducible show wpAny _ _ (subscriptTail ..) _ _ _); (k_here; k_dflt (refine below_item (by k_asm) (by k_mem) (by exact hdD) (by exact hval) ?_ (by with_unfolding_all rfl) (by (intro _; with_unfolding_all rfl)); k_whole))) | ((with_reducible show wpAny _ _ (eval _ _) _ _ _); ((with_reducible show wpAny _ _ (eval (Expr.DictComp ..) _) _ _ _); (k_here; k_dflt (refine DictComp_K (by k_asm) (by with_unfolding_all rfl) (by decide) (by rfl) (by decide) (by rfl) ?_)))) | ((with_reducible show wpAny _ _ (binaryOp ..) _ _ _); first | (k_here; k_dflt (refine add_led (by k_asm) (by k_asm) (by k_mem) (by first | k_mem | exact List.Mem.head _) (by omega) ?_; k_whole); intro lW h' F' N' lWl; (try k_lt lWl); (try k_sweep)) | (k_here; k_dflt (refine add_txt (by first | omega | decide +kernel) (by first | omega | decide +kernel) ?_); intro t9 k9)) | ((have mk9 : Mark9 := .mk); walk1; all_goals (try clear mk9)))) | (k_unfold; (try dsimp only)) | (k_end; kc_close) | walk1 | (dsimp only; walk1) | (leave1; walk_say "STEP leave1"; (try dsimp only)) | fail "no step"))
        · (rename (List.any _ _ = true) => a9)
          (rename Fr h₀ _ _ _ => F8)
          (rename News _ _ _ _ => N8)
          refine stop_in (hi_next F8 N8 rfl rfl (.head _) (fun p hp => ?_) (fun p hp => ?_) hoff7 ?_)
          · simp only [List.mem_cons, List.mem_append] at hp ⊢; rcases hp with h | h | h | h | h | h | h <;> simp only [h, true_or, or_true]
          · repeat (first | exact List.mem_append_right _ hp | refine List.Mem.tail _ ?_)
          · unfold HiS.Inv
            rw [hIn_succ, step_dup a9]
            exact hji
        · (rename (List.any _ _ = false) => a9)
          (rename ((_ != _) = true) => a8)
          (rename Fr h₀ _ _ _ => F8)
          (rename News _ _ _ _ => N8)
          (try simp only [List.push_toArray] at N8)
          refine stop_in (hi_next F8 N8 rfl rfl (.head _) (fun p hp => ?_) (fun p hp => ?_) hoff7 ?_)
          · simp only [List.mem_cons, List.mem_append] at hp ⊢; rcases hp with h | h | h | h | h | h | h <;> simp only [h, true_or, or_true]
          · repeat (first | exact List.mem_append_right _ hp | refine List.Mem.tail _ ?_)
          · unfold HiS.Inv
            rw [hIn_succ, step_add hj a8 a9]
            exact hji.append' (.cons _ _ .nil)
        · (rename ((_ != _) = false) => a8)
          (rename Fr h₀ _ _ _ => F8)
          (rename News _ _ _ _ => N8)
          refine stop_in (hi_next F8 N8 rfl rfl (.head _) (fun p hp => ?_) (fun p hp => ?_) hoff7 ?_)
          · simp only [List.mem_cons, List.mem_append] at hp ⊢; rcases hp with h | h | h | h | h | h | h <;> simp only [h, true_or, or_true]
          · repeat (first | exact List.mem_append_right _ hp | refine List.Mem.tail _ ?_)
          · unfold HiS.Inv
            rw [hIn_succ, step_slash hj a8]
            exact hji
      · rintro ⟨iv, ik⟩ u7 h7 tk7 hji F7 N7
        simp only [HiS.names, HiS.led] at F7 N7
        unfold HiS.Inv at hji
        (repeat' (first | ((with_reducible refine sb_in ?_); (first | ((with_reducible show wpAny _ _ (compareOp ..) _ _ _); first | (k_here; k_dflt (refine same_strs (by exact NL) (by exact List.Mem.head _) (by exact List.Mem.tail _ (List.Mem.head _)) (by exact stL) (by exact stS) (by exact hplain _ pS wS) (by exact (fun y hy => good_ok (hAll_goodT gd (List.mem_filter.mp (pS.mem_iff.mp hy)).1))) (by ktr_units) ?_; k_whole)) | (k_here; k_dflt (refine in_strs (by k_asm) (by (repeat (first | exact hmemr | refine List.Mem.tail _ ?_))) (by exact hstr) ?_; k_whole))) | ((with_reducible show wpAny _ _ (call _ _ _) _ _ _); first | (k_here; k_dflt (refine' list_use ?X ?B ?T ?kd ?d ?u ?d2 ?u2 ?l0 ?l1 ?l2 ?l3 ?n8 ?F ?N ?nx ?hg ?_; (case F => exact FP); (case N => exact NP); (case X => k_asm); (case B => k_asm); (case T => k_asm); (case kd => exact rfl); (case d => ktr_room); (case u => ktr_units); (case d2 => decide); (case u2 => decide); (case l0 => exact lP0); (case l1 => exact lP1); (case l2 => exact lP2); (case l3 => exact lP3); (case n8 => exact hn8); (case nx => exact nxP); (case hg => exact hgb); k_whole); intro SL hL tkL gL vL cL gbL FL NL lL stL) | (k_here; (with_reducible show wpAny _ _ (call (Value.ref 99) _) _ _ _); k_dflt (refine' par_use ?k1 ?k2 ?B ?F ?X ?N ?T ?kd ?d ?u ?_; (case F => k_asm); (case B => k_asm); (case X => k_asm); (case N => k_asm); (case T => k_asm); (case k1 => exact hleft); (case k2 => exact hxl); (case kd => exact rfl); (case d => ktr_room); (case u => ktr_units); k_whole); intro XP dP GP LP oP mP nmP qnP u1P u2P u3P u4P hP tkP gsP tP FP NP lP0 lP1 lP2 lP3 nxP) | (k_here; ksk_kw; with_unfolding_all (refine sorted_len (by k_asm) (by k_asm) (by (first | k_mem | exact List.Mem.head _)) (by exact hstf) (by exact hlf) (by exact hbf) ?_; k_whole); intro DS cS hS tkS vS sS FS NS lS stS pS wS; (try k_lt lS); (try k_sweep)) | (k_here; (with_reducible show wpAny _ _ (call (Value.ref 196) _) _ _ _); k_dflt (refine taken_use (by k_asm) (by k_asm) (by assumption) (by k_mem) (by (rw [List.length_append]; omega)) (by assumption) (by assumption) (by exact h153) (by assumption) (by k_asm) (by k_asm) (by k_asm) (by exact rfl) (by ktr_room) (by ktr_units) ?_; k_whole); intro Dr cR hR tkR psR FR NR htrR hneR h153R) | (k_here; (with_reducible show wpAny _ _ (call (Value.ref 201) _) _ _ _); k_dflt (refine' escd_use ?k1 ?B ?F ?X ?N ?T ?kd ?d ?u ?_; (case F => k_asm); (case B => k_asm); (case X => k_asm); (case N => k_asm); (case T => k_asm); (case k1 => omega); (case kd => exact rfl); (case d => ktr_room); (case u => ktr_units); k_whole); intro uE h' tk' F' N'; (try k_sweep)) | (k_here; k_dflt (refine append_K (by k_asm) (by k_asm) (by k_upd) ?_ (by (simp only [List.size_toArray]; rw [sizeLine_eq]; omega)); k_whole); intro h' F' N'; (try k_sweep)) | (k_here; (with_reducible show wpAny _ _ (call (Value.ref 208) _) _ _ _); k_dflt (refine' texts_core ?hi ?h63 _ _ _ _ _ _ _ _ _ _ _ _ _ _ _ _ _ _ _ _ _ _ ?B ?F ?X ?N ?T ?kd ?d ?u ?hs ?_; (case F => k_asm); (case B => k_asm); (case X => k_asm); (case N => k_asm); (case T => k_asm); (case hi => assumption); (case h63 => omega); (case kd => exact rfl); (case d => ktr_room); (case u => ktr_units); (case hs => assumption); k_whole); delta TxtsRes; intro lT nT vs xs hT tkT F' N' lTl st g1 g3 gd; (try k_lt lTl); (try k_sweep))) | ((with_reducible show wpAny _ _ (subscriptTail ..) _ _ _); (k_here; k_dflt (refine below_item (by k_asm) (by k_mem) (by exact hdD) (by exact hval) ?_ (by with_unfolding_all rfl) (by (intro _; with_unfolding_all rfl)); k_whole))) | ((with_reducible show wpAny _ _ (eval _ _) _ _ _); ((with_reducible show wpAny _ _ (eval (Expr.DictComp ..) _) _ _ _); (k_here; k_dflt (refine DictComp_K (by k_asm) (by with_unfolding_all rfl) (by decide) (by rfl) (by decide) (by rfl) ?_)))) | ((with_reducible show wpAny _ _ (binaryOp ..) _ _ _); first | (k_here; k_dflt (refine add_led (by k_asm) (by k_asm) (by k_mem) (by first | k_mem | exact List.Mem.head _) (by omega) ?_; k_whole); intro lW h' F' N' lWl; (try k_lt lWl); (try k_sweep)) | (k_here; k_dflt (refine add_txt (by first | omega | decide +kernel) (by first | omega | decide +kernel) ?_); intro t9 k9)) | ((have mk9 : Mark9 := .mk); walk1; all_goals (try clear mk9)))) | (k_unfold; (try dsimp only)) | (k_end; kc_close) | walk1 | (dsimp only; walk1) | (leave1; walk_say "STEP leave1"; (try dsimp only)) | fail "no step"))
        (rename Fr h₀ _ _ _ => F8)
        (rename News _ _ _ _ => N8)
        refine stop_in (hd_next F8 N8 rfl rfl (fun p hp => hp) hoff ⟨?_, _, by assumption⟩)
        rw [hAll_take hx1]
        exact hji
    · rintro ⟨oT, hv9, k9⟩ u h1 tk1 ⟨hst, ⟨vT, hoT⟩⟩ F5 N5
      simp only [HdS.names, HdS.led] at F5 N5
      have hvl : hv9.length ≤ 39 := by
        rw [hst.length]
        exact Nat.le_trans (hAll_len xs (fun t ht => (gd t ht).1) _) (by omega)
      rw [hvs, List.take_length] at hst
      have hws200 := short_ws st3 (wanted_len gd)
      (repeat' (first | ((with_reducible refine sb_in ?_); (first | ((with_reducible show wpAny _ _ (compareOp ..) _ _ _); first | (k_here; k_dflt (refine same_strs (by exact NL) (by exact List.Mem.head _) (by exact List.Mem.tail _ (List.Mem.head _)) (by exact stL) (by exact stS) (by exact hplain _ pS wS) (by exact (fun y hy => good_ok (hAll_goodT gd (List.mem_filter.mp (pS.mem_iff.mp hy)).1))) (by ktr_units) ?_; k_whole)) | (k_here; k_dflt (refine in_strs (by k_asm) (by (repeat (first | exact hmemr | refine List.Mem.tail _ ?_))) (by exact hstr) ?_; k_whole))) | ((with_reducible show wpAny _ _ (call _ _ _) _ _ _); first | (k_here; k_dflt (refine' list_use ?X ?B ?T ?kd ?d ?u ?d2 ?u2 ?l0 ?l1 ?l2 ?l3 ?n8 ?F ?N ?nx ?hg ?_; (case F => exact FP); (case N => exact NP); (case X => k_asm); (case B => k_asm); (case T => k_asm); (case kd => exact rfl); (case d => ktr_room); (case u => ktr_units); (case d2 => decide); (case u2 => decide); (case l0 => exact lP0); (case l1 => exact lP1); (case l2 => exact lP2); (case l3 => exact lP3); (case n8 => exact hn8); (case nx => exact nxP); (case hg => exact hgb); k_whole); intro SL hL tkL gL vL cL gbL FL NL lL stL) | (k_here; (with_reducible show wpAny _ _ (call (Value.ref 99) _) _ _ _); k_dflt (refine' par_use ?k1 ?k2 ?B ?F ?X ?N ?T ?kd ?d ?u ?_; (case F => k_asm); (case B => k_asm); (case X => k_asm); (case N => k_asm); (case T => k_asm); (case k1 => exact hleft); (case k2 => exact hxl); (case kd => exact rfl); (case d => ktr_room); (case u => ktr_units); k_whole); intro XP dP GP LP oP mP nmP qnP u1P u2P u3P u4P hP tkP gsP tP FP NP lP0 lP1 lP2 lP3 nxP) | (k_here; ksk_kw; with_unfolding_all (refine sorted_len (by k_asm) (by k_asm) (by (first | k_mem | exact List.Mem.head _)) (by exact hstf) (by exact hlf) (by exact hbf) ?_; k_whole); intro DS cS hS tkS vS sS FS NS lS stS pS wS; (try k_lt lS); (try k_sweep)) | (k_here; (with_reducible show wpAny _ _ (call (Value.ref 196) _) _ _ _); k_dflt (refine taken_use (by k_asm) (by k_asm) (by assumption) (by k_mem) (by (rw [List.length_append]; omega)) (by assumption) (by assumption) (by exact h153) (by assumption) (by k_asm) (by k_asm) (by k_asm) (by exact rfl) (by ktr_room) (by ktr_units) ?_; k_whole); intro Dr cR hR tkR psR FR NR htrR hneR h153R) | (k_here; (with_reducible show wpAny _ _ (call (Value.ref 201) _) _ _ _); k_dflt (refine' escd_use ?k1 ?B ?F ?X ?N ?T ?kd ?d ?u ?_; (case F => k_asm); (case B => k_asm); (case X => k_asm); (case N => k_asm); (case T => k_asm); (case k1 => omega); (case kd => exact rfl); (case d => ktr_room); (case u => ktr_units); k_whole); intro uE h' tk' F' N'; (try k_sweep)) | (k_here; k_dflt (refine append_K (by k_asm) (by k_asm) (by k_upd) ?_ (by (simp only [List.size_toArray]; rw [sizeLine_eq]; omega)); k_whole); intro h' F' N'; (try k_sweep)) | (k_here; (with_reducible show wpAny _ _ (call (Value.ref 208) _) _ _ _); k_dflt (refine' texts_core ?hi ?h63 _ _ _ _ _ _ _ _ _ _ _ _ _ _ _ _ _ _ _ _ _ _ ?B ?F ?X ?N ?T ?kd ?d ?u ?hs ?_; (case F => k_asm); (case B => k_asm); (case X => k_asm); (case N => k_asm); (case T => k_asm); (case hi => assumption); (case h63 => omega); (case kd => exact rfl); (case d => ktr_room); (case u => ktr_units); (case hs => assumption); k_whole); delta TxtsRes; intro lT nT vs xs hT tkT F' N' lTl st g1 g3 gd; (try k_lt lTl); (try k_sweep))) | ((with_reducible show wpAny _ _ (subscriptTail ..) _ _ _); (k_here; k_dflt (refine below_item (by k_asm) (by k_mem) (by exact hdD) (by exact hval) ?_ (by with_unfolding_all rfl) (by (intro _; with_unfolding_all rfl)); k_whole))) | ((with_reducible show wpAny _ _ (eval _ _) _ _ _); ((with_reducible show wpAny _ _ (eval (Expr.DictComp ..) _) _ _ _); (k_here; k_dflt (refine DictComp_K (by k_asm) (by with_unfolding_all rfl) (by decide) (by rfl) (by decide) (by rfl) ?_)))) | ((with_reducible show wpAny _ _ (binaryOp ..) _ _ _); first | (k_here; k_dflt (refine add_led (by k_asm) (by k_asm) (by k_mem) (by first | k_mem | exact List.Mem.head _) (by omega) ?_; k_whole); intro lW h' F' N' lWl; (try k_lt lWl); (try k_sweep)) | (k_here; k_dflt (refine add_txt (by first | omega | decide +kernel) (by first | omega | decide +kernel) ?_); intro t9 k9)) | ((have mk9 : Mark9 := .mk); walk1; all_goals (try clear mk9)))) | (k_unfold; (try dsimp only)) | (k_end; kc_close) | walk1 | (dsimp only; walk1) | (leave1; walk_say "STEP leave1"; (try dsimp only)) | fail "no step"))
      (rename Fr h₀ _ _ _ => F6)
      (rename News _ _ _ _ => N6)
      (rename (_ < _ ∧ _ ∧ _ ∧ _ ∧ _ ∧ _ ∧ _) => l9)
      refine stop_in (law_dc (hs := hAll xs) rfl F6 N6 hst (by omega) ?_ ?_ ?_)
      · intro p hp
        simp only [List.mem_cons, List.not_mem_nil, or_false] at hp
        rcases hp with h | h | h | h | h | h <;> subst h <;> exact Nat.ne_of_gt (by first | exact l9.2.2.2.2.2.2 | exact lWl.2.2.2.2.2 | exact lTl.2.2.2 | exact Nat.lt_of_lt_of_le l0 (Nat.le_add_right _ _) | exact Nat.lt_succ_of_lt (Nat.lt_succ_of_lt (Nat.lt_succ_of_lt l0)) | exact Nat.lt_succ_of_lt (Nat.lt_succ_of_lt l0) | exact Nat.lt_succ_of_lt l0)
      · intro i x t kvs ps bl I oI C oC D oD m₂ h tk E' hx1 htr h153 hoffb hbel hC hxm F7 N7 off7 ne7
        have hxg : GoodT 13 x := hAll_goodT gd (List.mem_of_getElem? hx1)
        have hxl : x.length ≤ 13 := hxg.1
        have hel : (escT x).length ≤ 39 := escT_len hxl
        (repeat' (first | ((with_reducible refine sb_in ?_); (first | ((with_reducible show wpAny _ _ (compareOp ..) _ _ _); first | (k_here; k_dflt (refine same_strs (by exact NL) (by exact List.Mem.head _) (by exact List.Mem.tail _ (List.Mem.head _)) (by exact stL) (by exact stS) (by exact hplain _ pS wS) (by exact (fun y hy => good_ok (hAll_goodT gd (List.mem_filter.mp (pS.mem_iff.mp hy)).1))) (by ktr_units) ?_; k_whole)) | (k_here; k_dflt (refine in_strs (by k_asm) (by (repeat (first | exact hmemr | refine List.Mem.tail _ ?_))) (by exact hstr) ?_; k_whole))) | ((with_reducible show wpAny _ _ (call _ _ _) _ _ _); first | (k_here; k_dflt (refine' list_use ?X ?B ?T ?kd ?d ?u ?d2 ?u2 ?l0 ?l1 ?l2 ?l3 ?n8 ?F ?N ?nx ?hg ?_; (case F => exact FP); (case N => exact NP); (case X => k_asm); (case B => k_asm); (case T => k_asm); (case kd => exact rfl); (case d => ktr_room); (case u => ktr_units); (case d2 => decide); (case u2 => decide); (case l0 => exact lP0); (case l1 => exact lP1); (case l2 => exact lP2); (case l3 => exact lP3); (case n8 => exact hn8); (case nx => exact nxP); (case hg => exact hgb); k_whole); intro SL hL tkL gL vL cL gbL FL NL lL stL) | (k_here; (with_reducible show wpAny _ _ (call (Value.ref 99) _) _ _ _); k_dflt (refine' par_use ?k1 ?k2 ?B ?F ?X ?N ?T ?kd ?d ?u ?_; (case F => k_asm); (case B => k_asm); (case X => k_asm); (case N => k_asm); (case T => k_asm); (case k1 => exact hleft); (case k2 => exact hxl); (case kd => exact rfl); (case d => ktr_room); (case u => ktr_units); k_whole); intro XP dP GP LP oP mP nmP qnP u1P u2P u3P u4P hP tkP gsP tP FP NP lP0 lP1 lP2 lP3 nxP) | (k_here; ksk_kw; with_unfolding_all (refine sorted_len (by k_asm) (by k_asm) (by (first | k_mem | exact List.Mem.head _)) (by exact hstf) (by exact hlf) (by exact hbf) ?_; k_whole); intro DS cS hS tkS vS sS FS NS lS stS pS wS; (try k_lt lS); (try k_sweep)) | (k_here; (with_reducible show wpAny _ _ (call (Value.ref 196) _) _ _ _); k_dflt (refine taken_use (by k_asm) (by k_asm) (by assumption) (by k_mem) (by (rw [List.length_append]; omega)) (by assumption) (by assumption) (by exact h153) (by assumption) (by k_asm) (by k_asm) (by k_asm) (by exact rfl) (by ktr_room) (by ktr_units) ?_; k_whole); intro Dr cR hR tkR psR FR NR htrR hneR h153R) | (k_here; (with_reducible show wpAny _ _ (call (Value.ref 201) _) _ _ _); k_dflt (refine' escd_use ?k1 ?B ?F ?X ?N ?T ?kd ?d ?u ?_; (case F => k_asm); (case B => k_asm); (case X => k_asm); (case N => k_asm); (case T => k_asm); (case k1 => omega); (case kd => exact rfl); (case d => ktr_room); (case u => ktr_units); k_whole); intro uE h' tk' F' N'; (try k_sweep)) | (k_here; k_dflt (refine append_K (by k_asm) (by k_asm) (by k_upd) ?_ (by (simp only [List.size_toArray]; rw [sizeLine_eq]; omega)); k_whole); intro h' F' N'; (try k_sweep)) | (k_here; (with_reducible show wpAny _ _ (call (Value.ref 208) _) _ _ _); k_dflt (refine' texts_core ?hi ?h63 _ _ _ _ _ _ _ _ _ _ _ _ _ _ _ _ _ _ _ _ _ _ ?B ?F ?X ?N ?T ?kd ?d ?u ?hs ?_; (case F => k_asm); (case B => k_asm); (case X => k_asm); (case N => k_asm); (case T => k_asm); (case hi => assumption); (case h63 => omega); (case kd => exact rfl); (case d => ktr_room); (case u => ktr_units); (case hs => assumption); k_whole); delta TxtsRes; intro lT nT vs xs hT tkT F' N' lTl st g1 g3 gd; (try k_lt lTl); (try k_sweep))) | ((with_reducible show wpAny _ _ (subscriptTail ..) _ _ _); (k_here; k_dflt (refine below_item (by k_asm) (by k_mem) (by exact hdD) (by exact hval) ?_ (by with_unfolding_all rfl) (by (intro _; with_unfolding_all rfl)); k_whole))) | ((with_reducible show wpAny _ _ (eval _ _) _ _ _); ((with_reducible show wpAny _ _ (eval (Expr.DictComp ..) _) _ _ _); (k_here; k_dflt (refine DictComp_K (by k_asm) (by with_unfolding_all rfl) (by decide) (by rfl) (by decide) (by rfl) ?_)))) | ((with_reducible show wpAny _ _ (binaryOp ..) _ _ _); first | (k_here; k_dflt (refine add_led (by k_asm) (by k_asm) (by k_mem) (by first | k_mem | exact List.Mem.head _) (by omega) ?_; k_whole); intro lW h' F' N' lWl; (try k_lt lWl); (try k_sweep)) | (k_here; k_dflt (refine add_txt (by first | omega | decide +kernel) (by first | omega | decide +kernel) ?_); intro t9 k9)) | ((have mk9 : Mark9 := .mk); walk1; all_goals (try clear mk9)))) | (k_unfold; (try dsimp only)) | (k_end; kc_close) | walk1 | (dsimp only; walk1) | (leave1; walk_say "STEP leave1"; (try dsimp only)) | fail "no step"))
        refine stop_in (DcEnd.intro FR NR _ (fun _ h => h) (off_snoc off7 hneR) (dc_step (pre3 := [(I, oI), (C, oC), (D, oD)]) hx1 htrR h153 hoffb hbel hneR h153R))
      · intro D oD h tk kvs ps bl htrp hbel hdD hoffb F7 N7 hoffD h153
        have hoff2 := off_at2 hoffb (.tail _ (.tail _ (.tail _ (.tail _ (.head _))))) (.tail _ (.head _))
        have hD3 : @Ne Nat _ D := hoffD _ (.tail _ (.tail _ (.tail _ (.tail _ (.tail _ (.head _))))))
        have hDT : @Ne Nat _ D := hoffD _ (.tail _ (.tail _ (.head _)))
        dsimp only at hD3 hDT hoff2
        (repeat' (first | ((with_reducible refine sb_in ?_); (first | ((with_reducible show wpAny _ _ (compareOp ..) _ _ _); first | (k_here; k_dflt (refine same_strs (by exact NL) (by exact List.Mem.head _) (by exact List.Mem.tail _ (List.Mem.head _)) (by exact stL) (by exact stS) (by exact hplain _ pS wS) (by exact (fun y hy => good_ok (hAll_goodT gd (List.mem_filter.mp (pS.mem_iff.mp hy)).1))) (by ktr_units) ?_; k_whole)) | (k_here; k_dflt (refine in_strs (by k_asm) (by (repeat (first | exact hmemr | refine List.Mem.tail _ ?_))) (by exact hstr) ?_; k_whole))) | ((with_reducible show wpAny _ _ (call _ _ _) _ _ _); first | (k_here; k_dflt (refine' list_use ?X ?B ?T ?kd ?d ?u ?d2 ?u2 ?l0 ?l1 ?l2 ?l3 ?n8 ?F ?N ?nx ?hg ?_; (case F => exact FP); (case N => exact NP); (case X => k_asm); (case B => k_asm); (case T => k_asm); (case kd => exact rfl); (case d => ktr_room); (case u => ktr_units); (case d2 => decide); (case u2 => decide); (case l0 => exact lP0); (case l1 => exact lP1); (case l2 => exact lP2); (case l3 => exact lP3); (case n8 => exact hn8); (case nx => exact nxP); (case hg => exact hgb); k_whole); intro SL hL tkL gL vL cL gbL FL NL lL stL) | (k_here; (with_reducible show wpAny _ _ (call (Value.ref 99) _) _ _ _); k_dflt (refine' par_use ?k1 ?k2 ?B ?F ?X ?N ?T ?kd ?d ?u ?_; (case F => k_asm); (case B => k_asm); (case X => k_asm); (case N => k_asm); (case T => k_asm); (case k1 => exact hleft); (case k2 => exact hxl); (case kd => exact rfl); (case d => ktr_room); (case u => ktr_units); k_whole); intro XP dP GP LP oP mP nmP qnP u1P u2P u3P u4P hP tkP gsP tP FP NP lP0 lP1 lP2 lP3 nxP) | (k_here; ksk_kw; with_unfolding_all (refine sorted_len (by k_asm) (by k_asm) (by (first | k_mem | exact List.Mem.head _)) (by exact hstf) (by exact hlf) (by exact hbf) ?_; k_whole); intro DS cS hS tkS vS sS FS NS lS stS pS wS; (try k_lt lS); (try k_sweep)) | (k_here; (with_reducible show wpAny _ _ (call (Value.ref 196) _) _ _ _); k_dflt (refine taken_use (by k_asm) (by k_asm) (by assumption) (by k_mem) (by (rw [List.length_append]; omega)) (by assumption) (by assumption) (by exact h153) (by assumption) (by k_asm) (by k_asm) (by k_asm) (by exact rfl) (by ktr_room) (by ktr_units) ?_; k_whole); intro Dr cR hR tkR psR FR NR htrR hneR h153R) | (k_here; (with_reducible show wpAny _ _ (call (Value.ref 201) _) _ _ _); k_dflt (refine' escd_use ?k1 ?B ?F ?X ?N ?T ?kd ?d ?u ?_; (case F => k_asm); (case B => k_asm); (case X => k_asm); (case N => k_asm); (case T => k_asm); (case k1 => omega); (case kd => exact rfl); (case d => ktr_room); (case u => ktr_units); k_whole); intro uE h' tk' F' N'; (try k_sweep)) | (k_here; k_dflt (refine append_K (by k_asm) (by k_asm) (by k_upd) ?_ (by (simp only [List.size_toArray]; rw [sizeLine_eq]; omega)); k_whole); intro h' F' N'; (try k_sweep)) | (k_here; (with_reducible show wpAny _ _ (call (Value.ref 208) _) _ _ _); k_dflt (refine' texts_core ?hi ?h63 _ _ _ _ _ _ _ _ _ _ _ _ _ _ _ _ _ _ _ _ _ _ ?B ?F ?X ?N ?T ?kd ?d ?u ?hs ?_; (case F => k_asm); (case B => k_asm); (case X => k_asm); (case N => k_asm); (case T => k_asm); (case hi => assumption); (case h63 => omega); (case kd => exact rfl); (case d => ktr_room); (case u => ktr_units); (case hs => assumption); k_whole); delta TxtsRes; intro lT nT vs xs hT tkT F' N' lTl st g1 g3 gd; (try k_lt lTl); (try k_sweep))) | ((with_reducible show wpAny _ _ (subscriptTail ..) _ _ _); (k_here; k_dflt (refine below_item (by k_asm) (by k_mem) (by exact hdD) (by exact hval) ?_ (by with_unfolding_all rfl) (by (intro _; with_unfolding_all rfl)); k_whole))) | ((with_reducible show wpAny _ _ (eval _ _) _ _ _); ((with_reducible show wpAny _ _ (eval (Expr.DictComp ..) _) _ _ _); (k_here; k_dflt (refine DictComp_K (by k_asm) (by with_unfolding_all rfl) (by decide) (by rfl) (by decide) (by rfl) ?_)))) | ((with_reducible show wpAny _ _ (binaryOp ..) _ _ _); first | (k_here; k_dflt (refine add_led (by k_asm) (by k_asm) (by k_mem) (by first | k_mem | exact List.Mem.head _) (by omega) ?_; k_whole); intro lW h' F' N' lWl; (try k_lt lWl); (try k_sweep)) | (k_here; k_dflt (refine add_txt (by first | omega | decide +kernel) (by first | omega | decide +kernel) ?_); intro t9 k9)) | ((have mk9 : Mark9 := .mk); walk1; all_goals (try clear mk9)))) | (k_unfold; (try dsimp only)) | (k_end; kc_close) | walk1 | (dsimp only; walk1) | (leave1; walk_say "STEP leave1"; (try dsimp only)) | fail "no step"))
        refine stop_in ?_
        refine For_gens (h₀ := h₀) ?_
        (repeat' (first | ((with_reducible refine sb_in ?_); (first | ((with_reducible show wpAny _ _ (compareOp ..) _ _ _); first | (k_here; k_dflt (refine same_strs (by exact NL) (by exact List.Mem.head _) (by exact List.Mem.tail _ (List.Mem.head _)) (by exact stL) (by exact stS) (by exact hplain _ pS wS) (by exact (fun y hy => good_ok (hAll_goodT gd (List.mem_filter.mp (pS.mem_iff.mp hy)).1))) (by ktr_units) ?_; k_whole)) | (k_here; k_dflt (refine in_strs (by k_asm) (by (repeat (first | exact hmemr | refine List.Mem.tail _ ?_))) (by exact hstr) ?_; k_whole))) | ((with_reducible show wpAny _ _ (call _ _ _) _ _ _); first | (k_here; k_dflt (refine' list_use ?X ?B ?T ?kd ?d ?u ?d2 ?u2 ?l0 ?l1 ?l2 ?l3 ?n8 ?F ?N ?nx ?hg ?_; (case F => exact FP); (case N => exact NP); (case X => k_asm); (case B => k_asm); (case T => k_asm); (case kd => exact rfl); (case d => ktr_room); (case u => ktr_units); (case d2 => decide); (case u2 => decide); (case l0 => exact lP0); (case l1 => exact lP1); (case l2 => exact lP2); (case l3 => exact lP3); (case n8 => exact hn8); (case nx => exact nxP); (case hg => exact hgb); k_whole); intro SL hL tkL gL vL cL gbL FL NL lL stL) | (k_here; (with_reducible show wpAny _ _ (call (Value.ref 99) _) _ _ _); k_dflt (refine' par_use ?k1 ?k2 ?B ?F ?X ?N ?T ?kd ?d ?u ?_; (case F => k_asm); (case B => k_asm); (case X => k_asm); (case N => k_asm); (case T => k_asm); (case k1 => exact hleft); (case k2 => exact hxl); (case kd => exact rfl); (case d => ktr_room); (case u => ktr_units); k_whole); intro XP dP GP LP oP mP nmP qnP u1P u2P u3P u4P hP tkP gsP tP FP NP lP0 lP1 lP2 lP3 nxP) | (k_here; ksk_kw; with_unfolding_all (refine sorted_len (by k_asm) (by k_asm) (by (first | k_mem | exact List.Mem.head _)) (by exact hstf) (by exact hlf) (by exact hbf) ?_; k_whole); intro DS cS hS tkS vS sS FS NS lS stS pS wS; (try k_lt lS); (try k_sweep)) | (k_here; (with_reducible show wpAny _ _ (call (Value.ref 196) _) _ _ _); k_dflt (refine taken_use (by k_asm) (by k_asm) (by assumption) (by k_mem) (by (rw [List.length_append]; omega)) (by assumption) (by assumption) (by exact h153) (by assumption) (by k_asm) (by k_asm) (by k_asm) (by exact rfl) (by ktr_room) (by ktr_units) ?_; k_whole); intro Dr cR hR tkR psR FR NR htrR hneR h153R) | (k_here; (with_reducible show wpAny _ _ (call (Value.ref 201) _) _ _ _); k_dflt (refine' escd_use ?k1 ?B ?F ?X ?N ?T ?kd ?d ?u ?_; (case F => k_asm); (case B => k_asm); (case X => k_asm); (case N => k_asm); (case T => k_asm); (case k1 => omega); (case kd => exact rfl); (case d => ktr_room); (case u => ktr_units); k_whole); intro uE h' tk' F' N'; (try k_sweep)) | (k_here; k_dflt (refine append_K (by k_asm) (by k_asm) (by k_upd) ?_ (by (simp only [List.size_toArray]; rw [sizeLine_eq]; omega)); k_whole); intro h' F' N'; (try k_sweep)) | (k_here; (with_reducible show wpAny _ _ (call (Value.ref 208) _) _ _ _); k_dflt (refine' texts_core ?hi ?h63 _ _ _ _ _ _ _ _ _ _ _ _ _ _ _ _ _ _ _ _ _ _ ?B ?F ?X ?N ?T ?kd ?d ?u ?hs ?_; (case F => k_asm); (case B => k_asm); (case X => k_asm); (case N => k_asm); (case T => k_asm); (case hi => assumption); (case h63 => omega); (case kd => exact rfl); (case d => ktr_room); (case u => ktr_units); (case hs => assumption); k_whole); delta TxtsRes; intro lT nT vs xs hT tkT F' N' lTl st g1 g3 gd; (try k_lt lTl); (try k_sweep))) | ((with_reducible show wpAny _ _ (subscriptTail ..) _ _ _); (k_here; k_dflt (refine below_item (by k_asm) (by k_mem) (by exact hdD) (by exact hval) ?_ (by with_unfolding_all rfl) (by (intro _; with_unfolding_all rfl)); k_whole))) | ((with_reducible show wpAny _ _ (eval _ _) _ _ _); ((with_reducible show wpAny _ _ (eval (Expr.DictComp ..) _) _ _ _); (k_here; k_dflt (refine DictComp_K (by k_asm) (by with_unfolding_all rfl) (by decide) (by rfl) (by decide) (by rfl) ?_)))) | ((with_reducible show wpAny _ _ (binaryOp ..) _ _ _); first | (k_here; k_dflt (refine add_led (by k_asm) (by k_asm) (by k_mem) (by first | k_mem | exact List.Mem.head _) (by omega) ?_; k_whole); intro lW h' F' N' lWl; (try k_lt lWl); (try k_sweep)) | (k_here; k_dflt (refine add_txt (by first | omega | decide +kernel) (by first | omega | decide +kernel) ?_); intro t9 k9)) | ((have mk9 : Mark9 := .mk); walk1; all_goals (try clear mk9)))) | (k_unfold; (try dsimp only)) | (k_end; kc_close) | walk1 | (dsimp only; walk1) | (leave1; walk_say "STEP leave1"; (try dsimp only)) | fail "no step"))
        (rename Fr h₀ _ _ _ => F8)
        (rename News _ _ _ _ => N8)
        refine stop_in (law_last (ws := vs ++ ys) (wn := 0) rfl F8 (law_perm N8) (.tail _ (.tail _ (.tail _ (.head _)))) rfl ⟨_, by assumption⟩ (.of_eq (by assumption)) ?_ ?_)
        · intro i v g u I oI oT h tk hv hgb hoT F9 N9 off9
          obtain ⟨x, t, hx1, rfl⟩ := strs_at st3 hv
          have hxl : x.length ≤ 100 := by have := wanted_len gd x (List.mem_of_getElem? hx1); exact Nat.le_trans (wanted_len16 gd x (List.mem_of_getElem? hx1)) (by decide)
          obtain ⟨val, n, hleft, hn8, hplain⟩ := plainZ gd (List.mem_of_getElem? hx1)
          obtain ⟨vT, hoT⟩ := hoT
          have hIT : @Ne Nat _ I := off9 _ (.head _)
          dsimp only at hIT
          (repeat' (first | ((with_reducible refine sb_in ?_); (first | ((with_reducible show wpAny _ _ (compareOp ..) _ _ _); first | (k_here; k_dflt (refine same_strs (by exact NL) (by exact List.Mem.head _) (by exact List.Mem.tail _ (List.Mem.head _)) (by exact stL) (by exact stS) (by exact hplain _ pS wS) (by exact (fun y hy => good_ok (hAll_goodT gd (List.mem_filter.mp (pS.mem_iff.mp hy)).1))) (by ktr_units) ?_; k_whole)) | (k_here; k_dflt (refine in_strs (by k_asm) (by (repeat (first | exact hmemr | refine List.Mem.tail _ ?_))) (by exact hstr) ?_; k_whole))) | ((with_reducible show wpAny _ _ (call _ _ _) _ _ _); first | (k_here; k_dflt (refine' list_use ?X ?B ?T ?kd ?d ?u ?d2 ?u2 ?l0 ?l1 ?l2 ?l3 ?n8 ?F ?N ?nx ?hg ?_; (case F => exact FP); (case N => exact NP); (case X => k_asm); (case B => k_asm); (case T => k_asm); (case kd => exact rfl); (case d => ktr_room); (case u => ktr_units); (case d2 => decide); (case u2 => decide); (case l0 => exact lP0); (case l1 => exact lP1); (case l2 => exact lP2); (case l3 => exact lP3); (case n8 => exact hn8); (case nx => exact nxP); (case hg => exact hgb); k_whole); intro SL hL tkL gL vL cL gbL FL NL lL stL) | (k_here; (with_reducible show wpAny _ _ (call (Value.ref 99) _) _ _ _); k_dflt (refine' par_use ?k1 ?k2 ?B ?F ?X ?N ?T ?kd ?d ?u ?_; (case F => k_asm); (case B => k_asm); (case X => k_asm); (case N => k_asm); (case T => k_asm); (case k1 => exact hleft); (case k2 => exact hxl); (case kd => exact rfl); (case d => ktr_room); (case u => ktr_units); k_whole); intro XP dP GP LP oP mP nmP qnP u1P u2P u3P u4P hP tkP gsP tP FP NP lP0 lP1 lP2 lP3 nxP) | (k_here; ksk_kw; with_unfolding_all (refine sorted_len (by k_asm) (by k_asm) (by (first | k_mem | exact List.Mem.head _)) (by exact hstf) (by exact hlf) (by exact hbf) ?_; k_whole); intro DS cS hS tkS vS sS FS NS lS stS pS wS; (try k_lt lS); (try k_sweep)) | (k_here; (with_reducible show wpAny _ _ (call (Value.ref 196) _) _ _ _); k_dflt (refine taken_use (by k_asm) (by k_asm) (by assumption) (by k_mem) (by (rw [List.length_append]; omega)) (by assumption) (by assumption) (by exact h153) (by assumption) (by k_asm) (by k_asm) (by k_asm) (by exact rfl) (by ktr_room) (by ktr_units) ?_; k_whole); intro Dr cR hR tkR psR FR NR htrR hneR h153R) | (k_here; (with_reducible show wpAny _ _ (call (Value.ref 201) _) _ _ _); k_dflt (refine' escd_use ?k1 ?B ?F ?X ?N ?T ?kd ?d ?u ?_; (case F => k_asm); (case B => k_asm); (case X => k_asm); (case N => k_asm); (case T => k_asm); (case k1 => omega); (case kd => exact rfl); (case d => ktr_room); (case u => ktr_units); k_whole); intro uE h' tk' F' N'; (try k_sweep)) | (k_here; k_dflt (refine append_K (by k_asm) (by k_asm) (by k_upd) ?_ (by (simp only [List.size_toArray]; rw [sizeLine_eq]; omega)); k_whole); intro h' F' N'; (try k_sweep)) | (k_here; (with_reducible show wpAny _ _ (call (Value.ref 208) _) _ _ _); k_dflt (refine' texts_core ?hi ?h63 _ _ _ _ _ _ _ _ _ _ _ _ _ _ _ _ _ _ _ _ _ _ ?B ?F ?X ?N ?T ?kd ?d ?u ?hs ?_; (case F => k_asm); (case B => k_asm); (case X => k_asm); (case N => k_asm); (case T => k_asm); (case hi => assumption); (case h63 => omega); (case kd => exact rfl); (case d => ktr_room); (case u => ktr_units); (case hs => assumption); k_whole); delta TxtsRes; intro lT nT vs xs hT tkT F' N' lTl st g1 g3 gd; (try k_lt lTl); (try k_sweep))) | ((with_reducible show wpAny _ _ (subscriptTail ..) _ _ _); (k_here; k_dflt (refine below_item (by k_asm) (by k_mem) (by exact hdD) (by exact hval) ?_ (by with_unfolding_all rfl) (by (intro _; with_unfolding_all rfl)); k_whole))) | ((with_reducible show wpAny _ _ (eval _ _) _ _ _); ((with_reducible show wpAny _ _ (eval (Expr.DictComp ..) _) _ _ _); (k_here; k_dflt (refine DictComp_K (by k_asm) (by with_unfolding_all rfl) (by decide) (by rfl) (by decide) (by rfl) ?_)))) | ((with_reducible show wpAny _ _ (binaryOp ..) _ _ _); first | (k_here; k_dflt (refine add_led (by k_asm) (by k_asm) (by k_mem) (by first | k_mem | exact List.Mem.head _) (by omega) ?_; k_whole); intro lW h' F' N' lWl; (try k_lt lWl); (try k_sweep)) | (k_here; k_dflt (refine add_txt (by first | omega | decide +kernel) (by first | omega | decide +kernel) ?_); intro t9 k9)) | ((have mk9 : Mark9 := .mk); walk1; all_goals (try clear mk9)))) | (k_unfold; (try dsimp only)) | (k_end; kc_close) | walk1 | (dsimp only; walk1) | (leave1; walk_say "STEP leave1"; (try dsimp only)) | fail "no step"))
          (rename Fr h₀ _ _ _ => Fa)
          (rename News _ _ _ _ => Na)
          refine stop_in (SrcT.filter (p := fun v => takesB ((hdOf (strOfZ v)).map Tk.sg) x.cps.toList) rfl Fa Na (vs := hv9) (n := k9) ?_ ?_ rfl rfl rfl ?_ ?_)
          · k_mem
          · rw [sizeLine_eq]; omega
          · rintro gH j v Ic oIc Cc oCc Dc mc hc tkc ysc Ec hvj hCc hxc Fc Nc offc nec
            obtain ⟨y, ty, hy, rfl⟩ := strs_at hst hvj
            obtain ⟨r, nr, hval, hmemr⟩ := hbel j y (List.getElem?_eq_some_iff.mp hy).1 hy
            have hstr := taken_strs (hd0 := hdOf y) st3
            (repeat' (first | ((with_reducible refine sb_in ?_); (first | ((with_reducible show wpAny _ _ (compareOp ..) _ _ _); first | (k_here; k_dflt (refine same_strs (by exact NL) (by exact List.Mem.head _) (by exact List.Mem.tail _ (List.Mem.head _)) (by exact stL) (by exact stS) (by exact hplain _ pS wS) (by exact (fun y hy => good_ok (hAll_goodT gd (List.mem_filter.mp (pS.mem_iff.mp hy)).1))) (by ktr_units) ?_; k_whole)) | (k_here; k_dflt (refine in_strs (by k_asm) (by (repeat (first | exact hmemr | refine List.Mem.tail _ ?_))) (by exact hstr) ?_; k_whole))) | ((with_reducible show wpAny _ _ (call _ _ _) _ _ _); first | (k_here; k_dflt (refine' list_use ?X ?B ?T ?kd ?d ?u ?d2 ?u2 ?l0 ?l1 ?l2 ?l3 ?n8 ?F ?N ?nx ?hg ?_; (case F => exact FP); (case N => exact NP); (case X => k_asm); (case B => k_asm); (case T => k_asm); (case kd => exact rfl); (case d => ktr_room); (case u => ktr_units); (case d2 => decide); (case u2 => decide); (case l0 => exact lP0); (case l1 => exact lP1); (case l2 => exact lP2); (case l3 => exact lP3); (case n8 => exact hn8); (case nx => exact nxP); (case hg => exact hgb); k_whole); intro SL hL tkL gL vL cL gbL FL NL lL stL) | (k_here; (with_reducible show wpAny _ _ (call (Value.ref 99) _) _ _ _); k_dflt (refine' par_use ?k1 ?k2 ?B ?F ?X ?N ?T ?kd ?d ?u ?_; (case F => k_asm); (case B => k_asm); (case X => k_asm); (case N => k_asm); (case T => k_asm); (case k1 => exact hleft); (case k2 => exact hxl); (case kd => exact rfl); (case d => ktr_room); (case u => ktr_units); k_whole); intro XP dP GP LP oP mP nmP qnP u1P u2P u3P u4P hP tkP gsP tP FP NP lP0 lP1 lP2 lP3 nxP) | (k_here; ksk_kw; with_unfolding_all (refine sorted_len (by k_asm) (by k_asm) (by (first | k_mem | exact List.Mem.head _)) (by exact hstf) (by exact hlf) (by exact hbf) ?_; k_whole); intro DS cS hS tkS vS sS FS NS lS stS pS wS; (try k_lt lS); (try k_sweep)) | (k_here; (with_reducible show wpAny _ _ (call (Value.ref 196) _) _ _ _); k_dflt (refine taken_use (by k_asm) (by k_asm) (by assumption) (by k_mem) (by (rw [List.length_append]; omega)) (by assumption) (by assumption) (by exact h153) (by assumption) (by k_asm) (by k_asm) (by k_asm) (by exact rfl) (by ktr_room) (by ktr_units) ?_; k_whole); intro Dr cR hR tkR psR FR NR htrR hneR h153R) | (k_here; (with_reducible show wpAny _ _ (call (Value.ref 201) _) _ _ _); k_dflt (refine' escd_use ?k1 ?B ?F ?X ?N ?T ?kd ?d ?u ?_; (case F => k_asm); (case B => k_asm); (case X => k_asm); (case N => k_asm); (case T => k_asm); (case k1 => omega); (case kd => exact rfl); (case d => ktr_room); (case u => ktr_units); k_whole); intro uE h' tk' F' N'; (try k_sweep)) | (k_here; k_dflt (refine append_K (by k_asm) (by k_asm) (by k_upd) ?_ (by (simp only [List.size_toArray]; rw [sizeLine_eq]; omega)); k_whole); intro h' F' N'; (try k_sweep)) | (k_here; (with_reducible show wpAny _ _ (call (Value.ref 208) _) _ _ _); k_dflt (refine' texts_core ?hi ?h63 _ _ _ _ _ _ _ _ _ _ _ _ _ _ _ _ _ _ _ _ _ _ ?B ?F ?X ?N ?T ?kd ?d ?u ?hs ?_; (case F => k_asm); (case B => k_asm); (case X => k_asm); (case N => k_asm); (case T => k_asm); (case hi => assumption); (case h63 => omega); (case kd => exact rfl); (case d => ktr_room); (case u => ktr_units); (case hs => assumption); k_whole); delta TxtsRes; intro lT nT vs xs hT tkT F' N' lTl st g1 g3 gd; (try k_lt lTl); (try k_sweep))) | ((with_reducible show wpAny _ _ (subscriptTail ..) _ _ _); (k_here; k_dflt (refine below_item (by k_asm) (by k_mem) (by exact hdD) (by exact hval) ?_ (by with_unfolding_all rfl) (by (intro _; with_unfolding_all rfl)); k_whole))) | ((with_reducible show wpAny _ _ (eval _ _) _ _ _); ((with_reducible show wpAny _ _ (eval (Expr.DictComp ..) _) _ _ _); (k_here; k_dflt (refine DictComp_K (by k_asm) (by with_unfolding_all rfl) (by decide) (by rfl) (by decide) (by rfl) ?_)))) | ((with_reducible show wpAny _ _ (binaryOp ..) _ _ _); first | (k_here; k_dflt (refine add_led (by k_asm) (by k_asm) (by k_mem) (by first | k_mem | exact List.Mem.head _) (by omega) ?_; k_whole); intro lW h' F' N' lWl; (try k_lt lWl); (try k_sweep)) | (k_here; k_dflt (refine add_txt (by first | omega | decide +kernel) (by first | omega | decide +kernel) ?_); intro t9 k9)) | ((have mk9 : Mark9 := .mk); walk1; all_goals (try clear mk9)))) | (k_unfold; (try dsimp only)) | (k_end; kc_close) | walk1 | (dsimp only; walk1) | (leave1; walk_say "STEP leave1"; (try dsimp only)) | fail "no step"))
            exact TurnEndZ.intro Fc Nc (fun _ h => h) (any_filter (List.mem_of_getElem? hx1))
          · intro gH
            have hstf : StrsAre _ (takers xs x) := filt_strs (q := fun y => takesB ((hdOf y).map Tk.sg) x.cps.toList) hst
            have hlf : (hv9.filter fun v => takesB ((hdOf (strOfZ v)).map Tk.sg) x.cps.toList).length < 64 := Nat.lt_of_le_of_lt (List.length_filter_le _ _) (by omega)
            have hbf : ∀ y ∈ takers xs x, y.length ≤ 1000 := fun y hy => Nat.le_trans (hAll_goodT gd (List.mem_filter.mp hy).1).1 (by decide)
            (repeat' (first | ((with_reducible refine sb_in ?_); (first | ((with_reducible show wpAny _ _ (compareOp ..) _ _ _); first | (k_here; k_dflt (refine same_strs (by exact NL) (by exact List.Mem.head _) (by exact List.Mem.tail _ (List.Mem.head _)) (by exact stL) (by exact stS) (by exact hplain _ pS wS) (by exact (fun y hy => good_ok (hAll_goodT gd (List.mem_filter.mp (pS.mem_iff.mp hy)).1))) (by ktr_units) ?_; k_whole)) | (k_here; k_dflt (refine in_strs (by k_asm) (by (repeat (first | exact hmemr | refine List.Mem.tail _ ?_))) (by exact hstr) ?_; k_whole))) | ((with_reducible show wpAny _ _ (call _ _ _) _ _ _); first | (k_here; k_dflt (refine' list_use ?X ?B ?T ?kd ?d ?u ?d2 ?u2 ?l0 ?l1 ?l2 ?l3 ?n8 ?F ?N ?nx ?hg ?_; (case F => exact FP); (case N => exact NP); (case X => k_asm); (case B => k_asm); (case T => k_asm); (case kd => exact rfl); (case d => ktr_room); (case u => ktr_units); (case d2 => decide); (case u2 => decide); (case l0 => exact lP0); (case l1 => exact lP1); (case l2 => exact lP2); (case l3 => exact lP3); (case n8 => exact hn8); (case nx => exact nxP); (case hg => exact hgb); k_whole); intro SL hL tkL gL vL cL gbL FL NL lL stL) | (k_here; (with_reducible show wpAny _ _ (call (Value.ref 99) _) _ _ _); k_dflt (refine' par_use ?k1 ?k2 ?B ?F ?X ?N ?T ?kd ?d ?u ?_; (case F => k_asm); (case B => k_asm); (case X => k_asm); (case N => k_asm); (case T => k_asm); (case k1 => exact hleft); (case k2 => exact hxl); (case kd => exact rfl); (case d => ktr_room); (case u => ktr_units); k_whole); intro XP dP GP LP oP mP nmP qnP u1P u2P u3P u4P hP tkP gsP tP FP NP lP0 lP1 lP2 lP3 nxP) | (k_here; ksk_kw; with_unfolding_all (refine sorted_len (by k_asm) (by k_asm) (by (first | k_mem | exact List.Mem.head _)) (by exact hstf) (by exact hlf) (by exact hbf) ?_; k_whole); intro DS cS hS tkS vS sS FS NS lS stS pS wS; (try k_lt lS); (try k_sweep)) | (k_here; (with_reducible show wpAny _ _ (call (Value.ref 196) _) _ _ _); k_dflt (refine taken_use (by k_asm) (by k_asm) (by assumption) (by k_mem) (by (rw [List.length_append]; omega)) (by assumption) (by assumption) (by exact h153) (by assumption) (by k_asm) (by k_asm) (by k_asm) (by exact rfl) (by ktr_room) (by ktr_units) ?_; k_whole); intro Dr cR hR tkR psR FR NR htrR hneR h153R) | (k_here; (with_reducible show wpAny _ _ (call (Value.ref 201) _) _ _ _); k_dflt (refine' escd_use ?k1 ?B ?F ?X ?N ?T ?kd ?d ?u ?_; (case F => k_asm); (case B => k_asm); (case X => k_asm); (case N => k_asm); (case T => k_asm); (case k1 => omega); (case kd => exact rfl); (case d => ktr_room); (case u => ktr_units); k_whole); intro uE h' tk' F' N'; (try k_sweep)) | (k_here; k_dflt (refine append_K (by k_asm) (by k_asm) (by k_upd) ?_ (by (simp only [List.size_toArray]; rw [sizeLine_eq]; omega)); k_whole); intro h' F' N'; (try k_sweep)) | (k_here; (with_reducible show wpAny _ _ (call (Value.ref 208) _) _ _ _); k_dflt (refine' texts_core ?hi ?h63 _ _ _ _ _ _ _ _ _ _ _ _ _ _ _ _ _ _ _ _ _ _ ?B ?F ?X ?N ?T ?kd ?d ?u ?hs ?_; (case F => k_asm); (case B => k_asm); (case X => k_asm); (case N => k_asm); (case T => k_asm); (case hi => assumption); (case h63 => omega); (case kd => exact rfl); (case d => ktr_room); (case u => ktr_units); (case hs => assumption); k_whole); delta TxtsRes; intro lT nT vs xs hT tkT F' N' lTl st g1 g3 gd; (try k_lt lTl); (try k_sweep))) | ((with_reducible show wpAny _ _ (subscriptTail ..) _ _ _); (k_here; k_dflt (refine below_item (by k_asm) (by k_mem) (by exact hdD) (by exact hval) ?_ (by with_unfolding_all rfl) (by (intro _; with_unfolding_all rfl)); k_whole))) | ((with_reducible show wpAny _ _ (eval _ _) _ _ _); ((with_reducible show wpAny _ _ (eval (Expr.DictComp ..) _) _ _ _); (k_here; k_dflt (refine DictComp_K (by k_asm) (by with_unfolding_all rfl) (by decide) (by rfl) (by decide) (by rfl) ?_)))) | ((with_reducible show wpAny _ _ (binaryOp ..) _ _ _); first | (k_here; k_dflt (refine add_led (by k_asm) (by k_asm) (by k_mem) (by first | k_mem | exact List.Mem.head _) (by omega) ?_; k_whole); intro lW h' F' N' lWl; (try k_lt lWl); (try k_sweep)) | (k_here; k_dflt (refine add_txt (by first | omega | decide +kernel) (by first | omega | decide +kernel) ?_); intro t9 k9)) | ((have mk9 : Mark9 := .mk); walk1; all_goals (try clear mk9)))) | (k_unfold; (try dsimp only)) | (k_end; kc_close) | walk1 | (dsimp only; walk1) | (leave1; walk_say "STEP leave1"; (try dsimp only)) | fail "no step"))
            (rename Fr h₀ _ _ _ => Fz)
            (rename News _ _ _ _ => Nz)
            refine stop_in (last_next Fz Nz (fun p hp => .tail _ (.tail _ (.tail _ hp))) (fun p hp => ?_) gbL rfl ⟨_, by assumption⟩)
            rcases List.mem_cons.mp hp with h9 | hp
            · rw [h9]
              exact hIT
            · exact off9 _ (.tail _ hp)
        · intro g u oT h tk hgb F9 N9
          (repeat' (first | ((with_reducible refine sb_in ?_); (first | ((with_reducible show wpAny _ _ (compareOp ..) _ _ _); first | (k_here; k_dflt (refine same_strs (by exact NL) (by exact List.Mem.head _) (by exact List.Mem.tail _ (List.Mem.head _)) (by exact stL) (by exact stS) (by exact hplain _ pS wS) (by exact (fun y hy => good_ok (hAll_goodT gd (List.mem_filter.mp (pS.mem_iff.mp hy)).1))) (by ktr_units) ?_; k_whole)) | (k_here; k_dflt (refine in_strs (by k_asm) (by (repeat (first | exact hmemr | refine List.Mem.tail _ ?_))) (by exact hstr) ?_; k_whole))) | ((with_reducible show wpAny _ _ (call _ _ _) _ _ _); first | (k_here; k_dflt (refine' list_use ?X ?B ?T ?kd ?d ?u ?d2 ?u2 ?l0 ?l1 ?l2 ?l3 ?n8 ?F ?N ?nx ?hg ?_; (case F => exact FP); (case N => exact NP); (case X => k_asm); (case B => k_asm); (case T => k_asm); (case kd => exact rfl); (case d => ktr_room); (case u => ktr_units); (case d2 => decide); (case u2 => decide); (case l0 => exact lP0); (case l1 => exact lP1); (case l2 => exact lP2); (case l3 => exact lP3); (case n8 => exact hn8); (case nx => exact nxP); (case hg => exact hgb); k_whole); intro SL hL tkL gL vL cL gbL FL NL lL stL) | (k_here; (with_reducible show wpAny _ _ (call (Value.ref 99) _) _ _ _); k_dflt (refine' par_use ?k1 ?k2 ?B ?F ?X ?N ?T ?kd ?d ?u ?_; (case F => k_asm); (case B => k_asm); (case X => k_asm); (case N => k_asm); (case T => k_asm); (case k1 => exact hleft); (case k2 => exact hxl); (case kd => exact rfl); (case d => ktr_room); (case u => ktr_units); k_whole); intro XP dP GP LP oP mP nmP qnP u1P u2P u3P u4P hP tkP gsP tP FP NP lP0 lP1 lP2 lP3 nxP) | (k_here; ksk_kw; with_unfolding_all (refine sorted_len (by k_asm) (by k_asm) (by (first | k_mem | exact List.Mem.head _)) (by exact hstf) (by exact hlf) (by exact hbf) ?_; k_whole); intro DS cS hS tkS vS sS FS NS lS stS pS wS; (try k_lt lS); (try k_sweep)) | (k_here; (with_reducible show wpAny _ _ (call (Value.ref 196) _) _ _ _); k_dflt (refine taken_use (by k_asm) (by k_asm) (by assumption) (by k_mem) (by (rw [List.length_append]; omega)) (by assumption) (by assumption) (by exact h153) (by assumption) (by k_asm) (by k_asm) (by k_asm) (by exact rfl) (by ktr_room) (by ktr_units) ?_; k_whole); intro Dr cR hR tkR psR FR NR htrR hneR h153R) | (k_here; (with_reducible show wpAny _ _ (call (Value.ref 201) _) _ _ _); k_dflt (refine' escd_use ?k1 ?B ?F ?X ?N ?T ?kd ?d ?u ?_; (case F => k_asm); (case B => k_asm); (case X => k_asm); (case N => k_asm); (case T => k_asm); (case k1 => omega); (case kd => exact rfl); (case d => ktr_room); (case u => ktr_units); k_whole); intro uE h' tk' F' N'; (try k_sweep)) | (k_here; k_dflt (refine append_K (by k_asm) (by k_asm) (by k_upd) ?_ (by (simp only [List.size_toArray]; rw [sizeLine_eq]; omega)); k_whole); intro h' F' N'; (try k_sweep)) | (k_here; (with_reducible show wpAny _ _ (call (Value.ref 208) _) _ _ _); k_dflt (refine' texts_core ?hi ?h63 _ _ _ _ _ _ _ _ _ _ _ _ _ _ _ _ _ _ _ _ _ _ ?B ?F ?X ?N ?T ?kd ?d ?u ?hs ?_; (case F => k_asm); (case B => k_asm); (case X => k_asm); (case N => k_asm); (case T => k_asm); (case hi => assumption); (case h63 => omega); (case kd => exact rfl); (case d => ktr_room); (case u => ktr_units); (case hs => assumption); k_whole); delta TxtsRes; intro lT nT vs xs hT tkT F' N' lTl st g1 g3 gd; (try k_lt lTl); (try k_sweep))) | ((with_reducible show wpAny _ _ (subscriptTail ..) _ _ _); (k_here; k_dflt (refine below_item (by k_asm) (by k_mem) (by exact hdD) (by exact hval) ?_ (by with_unfolding_all rfl) (by (intro _; with_unfolding_all rfl)); k_whole))) | ((with_reducible show wpAny _ _ (eval _ _) _ _ _); ((with_reducible show wpAny _ _ (eval (Expr.DictComp ..) _) _ _ _); (k_here; k_dflt (refine DictComp_K (by k_asm) (by with_unfolding_all rfl) (by decide) (by rfl) (by decide) (by rfl) ?_)))) | ((with_reducible show wpAny _ _ (binaryOp ..) _ _ _); first | (k_here; k_dflt (refine add_led (by k_asm) (by k_asm) (by k_mem) (by first | k_mem | exact List.Mem.head _) (by omega) ?_; k_whole); intro lW h' F' N' lWl; (try k_lt lWl); (try k_sweep)) | (k_here; k_dflt (refine add_txt (by first | omega | decide +kernel) (by first | omega | decide +kernel) ?_); intro t9 k9)) | ((have mk9 : Mark9 := .mk); walk1; all_goals (try clear mk9)))) | (k_unfold; (try dsimp only)) | (k_end; kc_close) | walk1 | (dsimp only; walk1) | (leave1; walk_say "STEP leave1"; (try dsimp only)) | fail "no step"))
          exact stop_in (good_end F9 N9 (.tail _ (.tail _ (.head _))) hgb rfl)
end Mine
end

end
theorem PySem.Challenge.cw_ij0104_01_holds : PySem.Challenge.rw_ij0104_01.Holds := by
  exact Mine.law_all
