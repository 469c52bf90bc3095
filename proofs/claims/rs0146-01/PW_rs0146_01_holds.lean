import PyProof.Rows.All
import Wide.All
import OpenK.AllK
import Wide.FinOn
import KE.KBits
import KE.IntBitsLaws
import KE.KListMore
import KE.KSetInts
import KE.KPar
import KE.KRevSl
import KE.KRevIter
import KE.KPairComp
import KE.KTurns
import KE.KLcTest
import KE.KTextTable
import PyProof.StrLawsTight
import PyProof.StrLawsJoin
import KE.KEqSeq
import PyProof.Rows.StrInSeq3
import KE.BitLaws
import Lean
import PySem.Challenge.RW_rs0146_01
set_option Elab.async false
set_option maxRecDepth 100000
set_option maxHeartbeats 8000000
set_option rowWalk.seconds 0
set_option linter.all false
set_option compiler.extract_closed false
section
namespace Mine
universe u
theorem kn_1 {α : Type} {a b : α} (h : a ≠ b) : b ≠ a := h.symm
theorem ne_1 (a : Nat) : a ≠ a + 1 := Nat.ne_of_lt (Nat.lt_succ_self _)
theorem ne_2 (a : Nat) : a ≠ a + 1 + 1 := Nat.ne_of_lt (Nat.lt_succ_of_lt (Nat.lt_succ_self _))
theorem ne_3 (a : Nat) : a ≠ a + 1 + 1 + 1 := Nat.ne_of_lt (Nat.lt_succ_of_lt (Nat.lt_succ_of_lt (Nat.lt_succ_self _)))
theorem ne_37 {a : Nat} (h : 37 < a) : 37 ≠ a := Nat.ne_of_lt h
theorem ne_30 {a : Nat} (h : 37 < a) : 30 ≠ a := Nat.ne_of_lt (Nat.lt_trans (by decide) h)
theorem kz_nn (n : Nat) : (0 : Int) ≤ (n : Int) := Int.natCast_nonneg n
theorem kz_lt {n k : Nat} (h : n < k) : (n : Int) < (k : Int) := Int.ofNat_lt.mpr h
theorem kz_le {n k : Nat} (h : n ≤ k) : (n : Int) ≤ (k : Int) := Int.ofNat_le.mpr h
theorem kz_lt' {n k m : Nat} (h : n < k) (h2 : k ≤ m) : (n : Int) < (m : Int) := Int.ofNat_lt.mpr (Nat.lt_of_lt_of_le h h2)
theorem kz_le' {n k m : Nat} (h : n ≤ k) (h2 : k ≤ m) : (n : Int) ≤ (m : Int) := Int.ofNat_le.mpr (Nat.le_trans h h2)
theorem kz_lle {n k m : Nat} (h : n < k) (h2 : k ≤ m) : (n : Int) ≤ (m : Int) := Int.le_of_lt (kz_lt' h h2)
theorem nat4 {i : Nat} (h : i < 4) : i = 0 ∨ i = 1 ∨ i = 2 ∨ i = 3 := by
  have key : ∀ i < 4, i = 0 ∨ i = 1 ∨ i = 2 ∨ i = 3 := by decide
  exact key i h
theorem int4 {v : Int} (h0 : 0 ≤ v) (h1 : v < 4) : v = 0 ∨ v = 1 ∨ v = 2 ∨ v = 3 := by
  obtain ⟨n, rfl⟩ := Int.eq_ofNat_of_zero_le h0
  rcases nat4 (Int.ofNat_lt.mp h1) with rfl | rfl | rfl | rfl
  · exact .inl rfl
  · exact .inr (.inl rfl)
  · exact .inr (.inr (.inl rfl))
  · exact .inr (.inr (.inr rfl))
theorem int4' {v : Int} (h : 0 ≤ v ∧ v < 4) : v = 0 ∨ v = 1 ∨ v = 2 ∨ v = 3 := int4 h.1 h.2
/-- behind «generalize .. = x at *»: x stays a name in the term (else the term is put in for it everywhere) -/
theorem genV {α : Sort u} {P : α → Prop} (x : α) (h : ∀ y, P y) : P x := h x
end Mine
end
open PySem PySem.W PyProof.Rows PySem.Calls PySem.Spec Mine
local macro_rules | `(tactic| walk_at "mine short") => `(tactic| first | with_reducible assumption | decide | with_reducible first | exact kn_1 (by assumption) | exact Nat.le_trans (by assumption) (by decide) | exact Int.le_trans (by assumption) (by decide) | exact And.left (by assumption) | exact And.right (by assumption) | exact kz_nn _ | exact kz_lt' (by assumption) (by decide) | exact kz_lle (by assumption) (by decide) | exact ne_1 _ | exact ne_2 _ | exact ne_3 _ | exact kn_1 (ne_1 _) | exact kn_1 (ne_2 _) | exact kn_1 (ne_3 _) | exact ne_37 (by assumption) | exact ne_30 (by assumption) | exact nat4 (by assumption) | exact int4 (by assumption) (by assumption) | exact int4' (by assumption))
section
open PySem PySem.W PyProof.Rows
namespace Mine
/-- the text's statements, one by one -/
def cell (i : Nat) : Stmt := (PySem.Challenge.pw_rs0146_01.main.body.drop i).headD (.Pass ⟨0, 0, 0, 0⟩)
/-- the same text, its statements told by their numbers: what the head writes of it stays short -/
def pr : Program := { PySem.Challenge.pw_rs0146_01 with main := { PySem.Challenge.pw_rs0146_01.main with body := [cell 0, cell 1, cell 2, cell 3, cell 4, cell 5, cell 6, cell 7, cell 8, cell 9, cell 10, cell 11, cell 12, cell 13, cell 14, cell 15, cell 16, cell 17, cell 18, cell 19, cell 20, cell 21, cell 22, cell 23, cell 24, cell 25, cell 26, cell 27] } }
def row : OpenLaw := { PySem.Challenge.rw_rs0146_01 with prog := pr }
theorem row_is : row = PySem.Challenge.rw_rs0146_01 := by kernel_rfl
/-- a def of the text's top as an object -/
def fnAt (s : Stmt) (d k m c : Value) : Obj := match s with
  | .FunctionDef nm ps body _ _ _ sc _ _ _ => { cls := .type "function", data := .func { name := nm, qualname := nm, params := ps, body := .stmts body, scope := sc, globals := 3, closure := [], defaults := d, kwdefaults := k, pyModule := m, code := c } }
  | _ => { cls := .none, data := .dict #[] }
noncomputable def k3a (P : Params) : List DictEntry := [{ hash := PyData.keyHash P (Str.ofString "__name__"), key := Value.str (Str.ofString "__name__") 165, val := Value.str (Str.ofString "law_rs0146_01") 342 }, { hash := PyData.keyHash P (Str.ofString "__doc__"), key := Value.str (Str.ofString "__doc__") 166, val := Value.none }, { hash := PyData.keyHash P (Str.ofString "__package__"), key := Value.str (Str.ofString "__package__") 167, val := Value.none }, { hash := PyData.keyHash P (Str.ofString "__loader__"), key := Value.str (Str.ofString "__loader__") 168, val := Value.builtin "__main__.__loader__#opaque" }, { hash := PyData.keyHash P (Str.ofString "__spec__"), key := Value.str (Str.ofString "__spec__") 169, val := Value.none }, { hash := PyData.keyHash P (Str.ofString "__annotations__"), key := Value.str (Str.ofString "__annotations__") 170, val := Value.ref 6 }, { hash := PyData.keyHash P (Str.ofString "__builtins__"), key := Value.str (Str.ofString "__builtins__") 171, val := Value.ref 4 }]
noncomputable def k3b (P : Params) : List DictEntry := [{ hash := PyData.keyHash P (Str.ofString "__file__"), key := Value.str (Str.ofString "__file__") 173, val := Value.str (Str.ofString "/claim/cut.py") 172 }, { hash := PyData.keyHash P (Str.ofString "__cached__"), key := Value.str (Str.ofString "__cached__") 174, val := Value.none }, { hash := PyData.keyHash P (Str.ofString "_DIV_LIMIT"), key := Value.str (Str.ofString "_DIV_LIMIT") 190, val := Value.int 4000 189 }, { hash := PyData.keyHash P (Str.ofString "_div2n1n"), key := Value.str (Str.ofString "_div2n1n") 207, val := Value.ref 21 }, { hash := PyData.keyHash P (Str.ofString "_div3n2n"), key := Value.str (Str.ofString "_div3n2n") 221, val := Value.ref 28 }, { hash := PyData.keyHash P (Str.ofString "_int2digits"), key := Value.str (Str.ofString "_int2digits") 232, val := Value.ref 35 }, { hash := PyData.keyHash P (Str.ofString "_digits2int"), key := Value.str (Str.ofString "_digits2int") 243, val := Value.ref 42 }]
noncomputable def k3c (P : Params) : List DictEntry := [{ hash := PyData.keyHash P (Str.ofString "_divmod_pos"), key := Value.str (Str.ofString "_divmod_pos") 258, val := Value.ref 49 }, { hash := PyData.keyHash P (Str.ofString "int_divmod"), key := Value.str (Str.ofString "int_divmod") 268, val := Value.ref 56 }, { hash := PyData.keyHash P (Str.ofString "bisect_right"), key := Value.str (Str.ofString "bisect_right") 284, val := Value.ref 65 }, { hash := PyData.keyHash P (Str.ofString "bisect_left"), key := Value.str (Str.ofString "bisect_left") 298, val := Value.ref 74 }, { hash := PyData.keyHash P (Str.ofString "COMPILER_FLAG_NAMES"), key := Value.str (Str.ofString "COMPILER_FLAG_NAMES") 331, val := Value.ref 75 }, { hash := PyData.keyHash P (Str.ofString "pretty_flags"), key := Value.str (Str.ofString "pretty_flags") 341, val := Value.ref 82 }, { hash := PyData.keyHash P (Str.ofString "_law_cells"), key := Value.str (Str.ofString "_law_cells") 353, val := Value.ref 89 }]
noncomputable def k3d (P : Params) : List DictEntry := [{ hash := PyData.keyHash P (Str.ofString "_law_words"), key := Value.str (Str.ofString "_law_words") 359, val := Value.ref 94 }, { hash := PyData.keyHash P (Str.ofString "_law_drawn"), key := Value.str (Str.ofString "_law_drawn") 368, val := Value.ref 101 }, { hash := PyData.keyHash P (Str.ofString "_law_pushed"), key := Value.str (Str.ofString "_law_pushed") 381, val := Value.ref 108 }, { hash := PyData.keyHash P (Str.ofString "_law_told"), key := Value.str (Str.ofString "_law_told") 387, val := Value.ref 113 }, { hash := PyData.keyHash P (Str.ofString "_law_table"), key := Value.str (Str.ofString "_law_table") 393, val := Value.ref 118 }, { hash := PyData.keyHash P (Str.ofString "_law_plays"), key := Value.str (Str.ofString "_law_plays") 399, val := Value.ref 123 }, { hash := PyData.keyHash P (Str.ofString "_law_figures"), key := Value.str (Str.ofString "_law_figures") 405, val := Value.ref 128 }]
noncomputable def k3e (P : Params) : List DictEntry := [{ hash := PyData.keyHash P (Str.ofString "_law_lacks"), key := Value.str (Str.ofString "_law_lacks") 412, val := Value.ref 135 }, { hash := PyData.keyHash P (Str.ofString "_law_cut_whole"), key := Value.str (Str.ofString "_law_cut_whole") 418, val := Value.ref 140 }, { hash := PyData.keyHash P (Str.ofString "_law_set_comes"), key := Value.str (Str.ofString "_law_set_comes") 424, val := Value.ref 145 }, { hash := PyData.keyHash P (Str.ofString "_law_searched"), key := Value.str (Str.ofString "_law_searched") 430, val := Value.ref 150 }, { hash := PyData.keyHash P (Str.ofString "law"), key := Value.str (Str.ofString "law") 436, val := Value.ref 155 }]
noncomputable def k3 (P : Params) : Obj := { cls := Value.type "dict", data := Data.dict ⟨k3a P ++ (k3b P ++ (k3c P ++ (k3d P ++ (k3e P))))⟩ 33 }
noncomputable def k20 (_P : Params) : Obj := { cls := Value.type "code", data := Data.fields #[Value.str (Str.ofString "_div2n1n") 191, Value.str (Str.ofString "_div2n1n") 192, Value.str (Str.ofString "/claim/cut.py") 193, Value.int 3 0, Value.int 3 0, Value.int 0 0, Value.int 0 0, Value.int 3 0, Value.ref 15, Value.bool true, Value.int 181 0, Value.ref 16, Value.none, Value.ref 17, Value.ref 18, Value.ref 19, Value.int 205 0, Value.int 3 0, Value.str (Str.ofString "/claim/cut.py") 206] }
noncomputable def k21 (_P : Params) : Obj := fnAt (cell 2) (Value.none) (Value.none) (Value.str (Str.ofString "cpy313._pylong") 187) (Value.ref 20)
noncomputable def k27 (_P : Params) : Obj := { cls := Value.type "code", data := Data.fields #[Value.str (Str.ofString "_div3n2n") 208, Value.str (Str.ofString "_div3n2n") 209, Value.str (Str.ofString "/claim/cut.py") 210, Value.int 19 0, Value.int 6 0, Value.int 0 0, Value.int 0 0, Value.int 3 0, Value.ref 22, Value.bool true, Value.int 181 0, Value.ref 23, Value.none, Value.ref 24, Value.ref 25, Value.ref 26, Value.int 219 0, Value.int 19 0, Value.str (Str.ofString "/claim/cut.py") 220] }
noncomputable def k28 (_P : Params) : Obj := fnAt (cell 3) (Value.none) (Value.none) (Value.str (Str.ofString "cpy313._pylong") 187) (Value.ref 27)
noncomputable def k34 (_P : Params) : Obj := { cls := Value.type "code", data := Data.fields #[Value.str (Str.ofString "_int2digits") 222, Value.str (Str.ofString "_int2digits") 223, Value.str (Str.ofString "/claim/cut.py") 224, Value.int 29 0, Value.int 2 0, Value.int 0 0, Value.int 0 0, Value.int 3 0, Value.ref 29, Value.bool true, Value.int 181 0, Value.ref 30, Value.none, Value.ref 31, Value.ref 32, Value.ref 33, Value.int 230 0, Value.int 29 0, Value.str (Str.ofString "/claim/cut.py") 231] }
noncomputable def k35 (_P : Params) : Obj := fnAt (cell 4) (Value.none) (Value.none) (Value.str (Str.ofString "cpy313._pylong") 187) (Value.ref 34)
noncomputable def k41 (_P : Params) : Obj := { cls := Value.type "code", data := Data.fields #[Value.str (Str.ofString "_digits2int") 233, Value.str (Str.ofString "_digits2int") 234, Value.str (Str.ofString "/claim/cut.py") 235, Value.int 45 0, Value.int 2 0, Value.int 0 0, Value.int 0 0, Value.int 3 0, Value.ref 36, Value.bool true, Value.int 181 0, Value.ref 37, Value.none, Value.ref 38, Value.ref 39, Value.ref 40, Value.int 241 0, Value.int 45 0, Value.str (Str.ofString "/claim/cut.py") 242] }
noncomputable def k42 (_P : Params) : Obj := fnAt (cell 5) (Value.none) (Value.none) (Value.str (Str.ofString "cpy313._pylong") 187) (Value.ref 41)
noncomputable def k48 (_P : Params) : Obj := { cls := Value.type "code", data := Data.fields #[Value.str (Str.ofString "_divmod_pos") 244, Value.str (Str.ofString "_divmod_pos") 245, Value.str (Str.ofString "/claim/cut.py") 246, Value.int 54 0, Value.int 2 0, Value.int 0 0, Value.int 0 0, Value.int 3 0, Value.ref 43, Value.bool true, Value.int 181 0, Value.ref 44, Value.none, Value.ref 45, Value.ref 46, Value.ref 47, Value.int 256 0, Value.int 54 0, Value.str (Str.ofString "/claim/cut.py") 257] }
noncomputable def k49 (_P : Params) : Obj := fnAt (cell 6) (Value.none) (Value.none) (Value.str (Str.ofString "cpy313._pylong") 187) (Value.ref 48)
noncomputable def k55 (_P : Params) : Obj := { cls := Value.type "code", data := Data.fields #[Value.str (Str.ofString "int_divmod") 259, Value.str (Str.ofString "int_divmod") 260, Value.str (Str.ofString "/claim/cut.py") 261, Value.int 65 0, Value.int 2 0, Value.int 0 0, Value.int 0 0, Value.int 3 0, Value.ref 50, Value.bool true, Value.int 181 0, Value.ref 51, Value.none, Value.ref 52, Value.ref 53, Value.ref 54, Value.int 266 0, Value.int 65 0, Value.str (Str.ofString "/claim/cut.py") 267] }
noncomputable def k56 (_P : Params) : Obj := fnAt (cell 7) (Value.none) (Value.none) (Value.str (Str.ofString "cpy313._pylong") 187) (Value.ref 55)
noncomputable def k57 (_P : Params) : Obj := { cls := Value.type "tuple", data := Data.seq #[Value.int 0 271, Value.none] }
noncomputable def k58 (P : Params) : Obj := { cls := Value.type "dict", data := Data.dict #[{ hash := PyData.keyHash P (Str.ofString "key"), key := Value.str (Str.ofString "key") 272, val := Value.none }] 1 }
noncomputable def k64 (_P : Params) : Obj := { cls := Value.type "code", data := Data.fields #[Value.str (Str.ofString "bisect_right") 273, Value.str (Str.ofString "bisect_right") 274, Value.str (Str.ofString "/claim/cut.py") 275, Value.int 77 0, Value.int 4 0, Value.int 0 0, Value.int 1 0, Value.int 3 0, Value.ref 59, Value.bool true, Value.int 181 0, Value.ref 60, Value.none, Value.ref 61, Value.ref 62, Value.ref 63, Value.int 282 0, Value.int 77 0, Value.str (Str.ofString "/claim/cut.py") 283] }
noncomputable def k65 (_P : Params) : Obj := fnAt (cell 9) (Value.ref 57) (Value.ref 58) (Value.str (Str.ofString "cpy313.bisect") 269) (Value.ref 64)
noncomputable def k66 (_P : Params) : Obj := { cls := Value.type "tuple", data := Data.seq #[Value.int 0 285, Value.none] }
noncomputable def k67 (P : Params) : Obj := { cls := Value.type "dict", data := Data.dict #[{ hash := PyData.keyHash P (Str.ofString "key"), key := Value.str (Str.ofString "key") 286, val := Value.none }] 1 }
noncomputable def k73 (_P : Params) : Obj := { cls := Value.type "code", data := Data.fields #[Value.str (Str.ofString "bisect_left") 287, Value.str (Str.ofString "bisect_left") 288, Value.str (Str.ofString "/claim/cut.py") 289, Value.int 97 0, Value.int 4 0, Value.int 0 0, Value.int 1 0, Value.int 3 0, Value.ref 68, Value.bool true, Value.int 181 0, Value.ref 69, Value.none, Value.ref 70, Value.ref 71, Value.ref 72, Value.int 296 0, Value.int 97 0, Value.str (Str.ofString "/claim/cut.py") 297] }
noncomputable def k74 (_P : Params) : Obj := fnAt (cell 10) (Value.ref 66) (Value.ref 67) (Value.str (Str.ofString "cpy313.bisect") 269) (Value.ref 73)
noncomputable def k75 (_P : Params) : Obj := { cls := Value.type "dict", data := Data.dict #[{ hash := 1, key := Value.int 1 301, val := Value.str (Str.ofString "OPTIMIZED") 302 }, { hash := 2, key := Value.int 2 303, val := Value.str (Str.ofString "NEWLOCALS") 304 }, { hash := 4, key := Value.int 4 305, val := Value.str (Str.ofString "VARARGS") 306 }, { hash := 8, key := Value.int 8 307, val := Value.str (Str.ofString "VARKEYWORDS") 308 }, { hash := 16, key := Value.int 16 309, val := Value.str (Str.ofString "NESTED") 310 }, { hash := 32, key := Value.int 32 311, val := Value.str (Str.ofString "GENERATOR") 312 }, { hash := 64, key := Value.int 64 313, val := Value.str (Str.ofString "NOFREE") 314 }, { hash := 128, key := Value.int 128 315, val := Value.str (Str.ofString "COROUTINE") 316 }, { hash := 256, key := Value.int 256 317, val := Value.str (Str.ofString "ITERABLE_COROUTINE") 318 }, { hash := 512, key := Value.int 512 319, val := Value.str (Str.ofString "ASYNC_GENERATOR") 320 }] 10 }
noncomputable def k81 (_P : Params) : Obj := { cls := Value.type "code", data := Data.fields #[Value.str (Str.ofString "pretty_flags") 332, Value.str (Str.ofString "pretty_flags") 333, Value.str (Str.ofString "/claim/cut.py") 334, Value.int 119 0, Value.int 1 0, Value.int 0 0, Value.int 0 0, Value.int 3 0, Value.ref 76, Value.bool true, Value.int 181 0, Value.ref 77, Value.none, Value.ref 78, Value.ref 79, Value.ref 80, Value.int 339 0, Value.int 119 0, Value.str (Str.ofString "/claim/cut.py") 340] }
noncomputable def k82 (_P : Params) : Obj := fnAt (cell 13) (Value.none) (Value.none) (Value.str (Str.ofString "cpy313.dis") 299) (Value.ref 81)
noncomputable def k88 (_P : Params) : Obj := { cls := Value.type "code", data := Data.fields #[Value.str (Str.ofString "_law_cells") 344, Value.str (Str.ofString "_law_cells") 345, Value.str (Str.ofString "/claim/cut.py") 346, Value.int 132 0, Value.int 1 0, Value.int 0 0, Value.int 0 0, Value.int 3 0, Value.ref 83, Value.bool true, Value.int 181 0, Value.ref 84, Value.none, Value.ref 85, Value.ref 86, Value.ref 87, Value.int 351 0, Value.int 132 0, Value.str (Str.ofString "/claim/cut.py") 352] }
noncomputable def k89 (_P : Params) : Obj := fnAt (cell 15) (Value.none) (Value.none) (Value.str (Str.ofString "law_rs0146_01") 342) (Value.ref 88)
noncomputable def k93 (_P : Params) : Obj := { cls := Value.type "code", data := Data.fields #[Value.str (Str.ofString "_law_words") 354, Value.str (Str.ofString "_law_words") 355, Value.str (Str.ofString "/claim/cut.py") 356, Value.int 137 0, Value.int 1 0, Value.int 0 0, Value.int 0 0, Value.int 3 0, Value.ref 90, Value.bool true, Value.int 181 0, Value.ref 91, Value.none, Value.none, Value.none, Value.ref 92, Value.int 357 0, Value.int 137 0, Value.str (Str.ofString "/claim/cut.py") 358] }
noncomputable def k94 (_P : Params) : Obj := fnAt (cell 16) (Value.none) (Value.none) (Value.str (Str.ofString "law_rs0146_01") 342) (Value.ref 93)
noncomputable def k100 (_P : Params) : Obj := { cls := Value.type "code", data := Data.fields #[Value.str (Str.ofString "_law_drawn") 360, Value.str (Str.ofString "_law_drawn") 361, Value.str (Str.ofString "/claim/cut.py") 362, Value.int 140 0, Value.int 1 0, Value.int 0 0, Value.int 0 0, Value.int 3 0, Value.ref 95, Value.bool true, Value.int 181 0, Value.ref 96, Value.none, Value.ref 97, Value.ref 98, Value.ref 99, Value.int 366 0, Value.int 140 0, Value.str (Str.ofString "/claim/cut.py") 367] }
noncomputable def k101 (_P : Params) : Obj := fnAt (cell 17) (Value.none) (Value.none) (Value.str (Str.ofString "law_rs0146_01") 342) (Value.ref 100)
noncomputable def k107 (_P : Params) : Obj := { cls := Value.type "code", data := Data.fields #[Value.str (Str.ofString "_law_pushed") 369, Value.str (Str.ofString "_law_pushed") 370, Value.str (Str.ofString "/claim/cut.py") 371, Value.int 146 0, Value.int 2 0, Value.int 0 0, Value.int 0 0, Value.int 3 0, Value.ref 102, Value.bool true, Value.int 181 0, Value.ref 103, Value.none, Value.ref 104, Value.ref 105, Value.ref 106, Value.int 379 0, Value.int 146 0, Value.str (Str.ofString "/claim/cut.py") 380] }
noncomputable def k108 (_P : Params) : Obj := fnAt (cell 18) (Value.none) (Value.none) (Value.str (Str.ofString "law_rs0146_01") 342) (Value.ref 107)
noncomputable def k112 (_P : Params) : Obj := { cls := Value.type "code", data := Data.fields #[Value.str (Str.ofString "_law_told") 382, Value.str (Str.ofString "_law_told") 383, Value.str (Str.ofString "/claim/cut.py") 384, Value.int 155 0, Value.int 2 0, Value.int 0 0, Value.int 0 0, Value.int 3 0, Value.ref 109, Value.bool true, Value.int 181 0, Value.ref 110, Value.none, Value.none, Value.none, Value.ref 111, Value.int 385 0, Value.int 155 0, Value.str (Str.ofString "/claim/cut.py") 386] }
noncomputable def k113 (_P : Params) : Obj := fnAt (cell 19) (Value.none) (Value.none) (Value.str (Str.ofString "law_rs0146_01") 342) (Value.ref 112)
noncomputable def k117 (_P : Params) : Obj := { cls := Value.type "code", data := Data.fields #[Value.str (Str.ofString "_law_table") 388, Value.str (Str.ofString "_law_table") 389, Value.str (Str.ofString "/claim/cut.py") 390, Value.int 160 0, Value.int 2 0, Value.int 0 0, Value.int 0 0, Value.int 3 0, Value.ref 114, Value.bool true, Value.int 181 0, Value.ref 115, Value.none, Value.none, Value.none, Value.ref 116, Value.int 391 0, Value.int 160 0, Value.str (Str.ofString "/claim/cut.py") 392] }
noncomputable def k118 (_P : Params) : Obj := fnAt (cell 20) (Value.none) (Value.none) (Value.str (Str.ofString "law_rs0146_01") 342) (Value.ref 117)
noncomputable def k122 (_P : Params) : Obj := { cls := Value.type "code", data := Data.fields #[Value.str (Str.ofString "_law_plays") 394, Value.str (Str.ofString "_law_plays") 395, Value.str (Str.ofString "/claim/cut.py") 396, Value.int 166 0, Value.int 3 0, Value.int 0 0, Value.int 0 0, Value.int 3 0, Value.ref 119, Value.bool true, Value.int 181 0, Value.ref 120, Value.none, Value.none, Value.none, Value.ref 121, Value.int 397 0, Value.int 166 0, Value.str (Str.ofString "/claim/cut.py") 398] }
noncomputable def k123 (_P : Params) : Obj := fnAt (cell 21) (Value.none) (Value.none) (Value.str (Str.ofString "law_rs0146_01") 342) (Value.ref 122)
noncomputable def k127 (_P : Params) : Obj := { cls := Value.type "code", data := Data.fields #[Value.str (Str.ofString "_law_figures") 400, Value.str (Str.ofString "_law_figures") 401, Value.str (Str.ofString "/claim/cut.py") 402, Value.int 170 0, Value.int 1 0, Value.int 0 0, Value.int 0 0, Value.int 3 0, Value.ref 124, Value.bool true, Value.int 181 0, Value.ref 125, Value.none, Value.none, Value.none, Value.ref 126, Value.int 403 0, Value.int 170 0, Value.str (Str.ofString "/claim/cut.py") 404] }
noncomputable def k128 (_P : Params) : Obj := fnAt (cell 22) (Value.none) (Value.none) (Value.str (Str.ofString "law_rs0146_01") 342) (Value.ref 127)
noncomputable def k134 (_P : Params) : Obj := { cls := Value.type "code", data := Data.fields #[Value.str (Str.ofString "_law_lacks") 406, Value.str (Str.ofString "_law_lacks") 407, Value.str (Str.ofString "/claim/cut.py") 408, Value.int 175 0, Value.int 1 0, Value.int 0 0, Value.int 0 0, Value.int 3 0, Value.ref 129, Value.bool true, Value.int 181 0, Value.ref 130, Value.none, Value.ref 131, Value.ref 132, Value.ref 133, Value.int 410 0, Value.int 175 0, Value.str (Str.ofString "/claim/cut.py") 411] }
noncomputable def k135 (_P : Params) : Obj := fnAt (cell 23) (Value.none) (Value.none) (Value.str (Str.ofString "law_rs0146_01") 342) (Value.ref 134)
noncomputable def k139 (_P : Params) : Obj := { cls := Value.type "code", data := Data.fields #[Value.str (Str.ofString "_law_cut_whole") 413, Value.str (Str.ofString "_law_cut_whole") 414, Value.str (Str.ofString "/claim/cut.py") 415, Value.int 177 0, Value.int 2 0, Value.int 0 0, Value.int 0 0, Value.int 3 0, Value.ref 136, Value.bool true, Value.int 181 0, Value.ref 137, Value.none, Value.none, Value.none, Value.ref 138, Value.int 416 0, Value.int 177 0, Value.str (Str.ofString "/claim/cut.py") 417] }
noncomputable def k140 (_P : Params) : Obj := fnAt (cell 24) (Value.none) (Value.none) (Value.str (Str.ofString "law_rs0146_01") 342) (Value.ref 139)
noncomputable def k144 (_P : Params) : Obj := { cls := Value.type "code", data := Data.fields #[Value.str (Str.ofString "_law_set_comes") 419, Value.str (Str.ofString "_law_set_comes") 420, Value.str (Str.ofString "/claim/cut.py") 421, Value.int 180 0, Value.int 4 0, Value.int 0 0, Value.int 0 0, Value.int 3 0, Value.ref 141, Value.bool true, Value.int 181 0, Value.ref 142, Value.none, Value.none, Value.none, Value.ref 143, Value.int 422 0, Value.int 180 0, Value.str (Str.ofString "/claim/cut.py") 423] }
noncomputable def k145 (_P : Params) : Obj := fnAt (cell 25) (Value.none) (Value.none) (Value.str (Str.ofString "law_rs0146_01") 342) (Value.ref 144)
noncomputable def k149 (_P : Params) : Obj := { cls := Value.type "code", data := Data.fields #[Value.str (Str.ofString "_law_searched") 425, Value.str (Str.ofString "_law_searched") 426, Value.str (Str.ofString "/claim/cut.py") 427, Value.int 187 0, Value.int 2 0, Value.int 0 0, Value.int 0 0, Value.int 3 0, Value.ref 146, Value.bool true, Value.int 181 0, Value.ref 147, Value.none, Value.none, Value.none, Value.ref 148, Value.int 428 0, Value.int 187 0, Value.str (Str.ofString "/claim/cut.py") 429] }
noncomputable def k150 (_P : Params) : Obj := fnAt (cell 26) (Value.none) (Value.none) (Value.str (Str.ofString "law_rs0146_01") 342) (Value.ref 149)
noncomputable def k154 (_P : Params) : Obj := { cls := Value.type "code", data := Data.fields #[Value.str (Str.ofString "law") 431, Value.str (Str.ofString "law") 432, Value.str (Str.ofString "/claim/cut.py") 433, Value.int 190 0, Value.int 1 0, Value.int 0 0, Value.int 0 0, Value.int 3 0, Value.ref 151, Value.bool true, Value.int 181 0, Value.ref 152, Value.none, Value.none, Value.none, Value.ref 153, Value.int 434 0, Value.int 190 0, Value.str (Str.ofString "/claim/cut.py") 435] }
noncomputable def k155 (_P : Params) : Obj := fnAt (cell 27) (Value.none) (Value.none) (Value.str (Str.ofString "law_rs0146_01") 342) (Value.ref 154)
noncomputable def Kf (P : Params) : Frag := (nat_lit 3, k3 P) :: (nat_lit 20, k20 P) :: (nat_lit 21, k21 P) :: (nat_lit 27, k27 P) :: (nat_lit 28, k28 P) :: (nat_lit 34, k34 P) :: (nat_lit 35, k35 P) :: (nat_lit 41, k41 P) :: (nat_lit 42, k42 P) :: (nat_lit 48, k48 P) :: (nat_lit 49, k49 P) :: (nat_lit 55, k55 P) :: (nat_lit 56, k56 P) :: (nat_lit 57, k57 P) :: (nat_lit 58, k58 P) :: (nat_lit 64, k64 P) :: (nat_lit 65, k65 P) :: (nat_lit 66, k66 P) :: (nat_lit 67, k67 P) :: (nat_lit 73, k73 P) :: (nat_lit 74, k74 P) :: (nat_lit 75, k75 P) :: (nat_lit 81, k81 P) :: (nat_lit 82, k82 P) :: (nat_lit 88, k88 P) :: (nat_lit 89, k89 P) :: (nat_lit 93, k93 P) :: (nat_lit 94, k94 P) :: (nat_lit 100, k100 P) :: (nat_lit 101, k101 P) :: (nat_lit 107, k107 P) :: (nat_lit 108, k108 P) :: (nat_lit 112, k112 P) :: (nat_lit 113, k113 P) :: (nat_lit 117, k117 P) :: (nat_lit 118, k118 P) :: (nat_lit 122, k122 P) :: (nat_lit 123, k123 P) :: (nat_lit 127, k127 P) :: (nat_lit 128, k128 P) :: (nat_lit 134, k134 P) :: (nat_lit 135, k135 P) :: (nat_lit 139, k139 P) :: (nat_lit 140, k140 P) :: (nat_lit 144, k144 P) :: (nat_lit 145, k145 P) :: (nat_lit 149, k149 P) :: (nat_lit 150, k150 P) :: (nat_lit 154, k154 P) :: (nat_lit 155, k155 P) :: ([] : List (Nat × Obj))
noncomputable def asK : List Addr := [3, 20, 21, 27, 28, 34, 35, 41, 42, 48, 49, 55, 56, 57, 58, 64, 65, 66, 67, 73, 74, 75, 81, 82, 88, 89, 93, 94, 100, 101, 107, 108, 112, 113, 117, 118, 122, 123, 127, 128, 134, 135, 139, 140, 144, 145, 149, 150, 154, 155]
local macro_rules | `(tactic| k_head) => `(tactic| o_head (kmHook Kf asK (fun _ => by kernel_rfl) [37, 30]))
open_top hd for row
end Mine
end
section
local macro_rules | `(tactic| omega) => `(tactic| first | walk_at "mine short" | lia)
section
theorem Mine.fresh_Base146 : True := by
  w_top off
  exact trivial
open PySem PySem.W PyProof.Rows PySem.Calls PySem.Spec
namespace Mine
/-- the base heap: the text's own objects, the top's facts, the heads of the two code objects whose tables grow -/
structure Ok (w : World) (h₀ : Heap) : Prop where
  K : (Kf w.params).In h₀
  top : ∃ p loose mean mg mb, Top p loose mean mg mb h₀
  c1 : CodeHd h₀ 41 37
  c2 : CodeHd h₀ 34 30
theorem Ok.stays {w : World} {h₀ g : Heap} (X : Ok w h₀) (st : h₀.StaysIn g) : Ok w g where
  K := X.K.keeps st
  top := let ⟨p, loose, mean, mg, mb, T⟩ := X.top; ⟨p, loose, mean, mg, mb, T.keeps st⟩
  c1 := X.c1.keeps st
  c2 := X.c2.keeps st
/-- the frames around -/
structure At (A : Around) (L : Addr) (h₀ : Heap) (dep : Nat) : Prop where
  ex : ∃ A₀ base env outer, Below A₀ base outer h₀ ∧ A.frames = some (env :: outer) ∧ env.frame = some L ∧ env.scope.kind = .function
  hh : A.handled = none
  hd : A.depth + dep < recursionLimit
  hu : A.units + 8 * dep < cLine
theorem At.less {A : Around} {L : Addr} {h₀ : Heap} {d d' : Nat} (X : At A L h₀ d) (h : d' ≤ d) : At A L h₀ d' :=
  ⟨X.ex, X.hh, by have := X.hd; omega, by have := X.hu; omega⟩
/-- a def of the text's top is called -/
theorem enter {prog : Program} {w : World} {A : Around} {E : Value → Shared → Prop} {s : Shared} {h₀ : Heap} {L : Addr} {m : Str → Option Value} {news : List (Addr × Obj)} {dep : Nat} {Q : Value → Shared → Prop}
    {name qual : Str} {params : Arguments} {body : List Stmt} {scope : Scope} {dV kV doc pm cdv ct oc : Value} {an od : Option Addr} {osl : Array (Option Value)} {f : Addr} {args : List Value} {kw : List (Str × Value)} {binds : List (Str × Value)}
    (X : Ok w h₀) (Y : At A L h₀ (dep + 1)) (F : Fr h₀ L s.heap m) (N : News h₀ L s.heap news)
    (ho : (Kf w.params).lookup f = some ⟨oc, od, .func (fnOf name qual params body scope dV kV doc pm an cdv ct), osl⟩) (hcd : codeIn (Kf w.params) cdv qual = true)
    (hbind : BindsTo s (fnOf name qual params body scope dV kV doc pm an cdv ct) ⟨args, kw⟩ binds) (hloc : ∀ y ∈ binds, scope.names.lookup y.1 = some .local)
    (hcell : ∀ x ∈ scope.names, x.2 ≠ .cell) (hco : scope.isCoroutine = false) (hgen : scope.isGenerator = false) (hk : scope.kind = .function)
    (h : ∀ g L' h₁, Fr h₀ L g m → Ok w g → At (A.deeper (envX qual scope L' f cdv [])) L' g dep → Fr g L' h₁ (fun y => binds.reverse.lookup y) → News g L' h₁ news → (∀ p ∈ news, p.1 < L') →
      wpAny (model prog w) (A.deeper (envX qual scope L' f cdv [])) (execs body (envX qual scope L' f cdv []))
        (fun fl s' => LeaveK h₀ L m g (fun r s' => match r with | .ok (.ret v) => Q v s' | .ok _ => False | .error e => E e s') (match fl with | .ret v => v | _ => .none) s')
        (fun _ _ => False) { s with heap := h₁, toks := s.toks + binds.length }) :
    wpAny (model prog w) A (call (.ref f) args kw) Q E s := by
  obtain ⟨⟨A₀, base, env, outer, B, hA, hf, hke⟩, hh, hd, hu⟩ := Y
  obtain ⟨p, loose, mean, mg, mb, T⟩ := X.top
  refine wpAny_call (callX_plain (cl := []) B F N T.nolimit hA hf hke ((X.K.keeps F.keep) _ _ ho) rfl (codeRec_of (X.K.keeps F.keep) hcd) (by omega) hbind hloc (fun g L' h₁ FG F' N' B' st lt => ?_) hcell hco hgen hk)
  refine wpAny_mono (h g L' h₁ FG (X.stays st) ⟨⟨A, base, envX qual scope L' f cdv [], env :: outer, B', ?_, rfl, hk⟩, hh, ?_, ?_⟩ F' N' lt) (fun _ _ x => x) (fun _ _ x => x.elim)
  · show Option.map _ A.frames = _
    rw [hA]; rfl
  · show A.depth + 1 + dep < _
    omega
  · show A.units + 3 + 8 * dep < _
    omega
/-- a def made in a body is called (its object stands in the ledger) -/
theorem enterF {prog : Program} {w : World} {A : Around} {E : Value → Shared → Prop} {s : Shared} {h₀ : Heap} {L : Addr} {m : Str → Option Value} {news : List (Addr × Obj)} {dep : Nat} {Q : Value → Shared → Prop}
    {name qual : Str} {params : Arguments} {body : List Stmt} {scope : Scope} {cl : List (Str × Addr)} {doc pm ctv : Value} {c' f : Addr} {args : List Value} {binds : List (Str × Value)} {oc : Obj} {cvs : Array Value} {ct : Tok}
    (X : Ok w h₀) (Y : At A L h₀ (dep + 1)) (F : Fr h₀ L s.heap m) (N : News h₀ L s.heap news)
    (ho : (f, fnMade name qual params body scope cl doc pm c' ctv) ∈ news) (hc1 : (c', oc) ∈ news ∨ h₀.get? c' = some oc) (hc2 : oc.data = .fields cvs) (hc3 : cvs[1]? = some (.str qual ct))
    (hbind : BindsTo s (fnX name qual params body scope cl .none .none doc pm none (.ref c') ctv) ⟨args, []⟩ binds) (hloc : ∀ y ∈ binds, scope.names.lookup y.1 = some .local)
    (hcell : ∀ x ∈ scope.names, x.2 ≠ .cell) (hco : scope.isCoroutine = false) (hgen : scope.isGenerator = false) (hk : scope.kind = .function)
    (h : ∀ g L' h₁, Fr h₀ L g m → Ok w g → At (A.deeper (envX qual scope L' f (.ref c') cl)) L' g dep → Fr g L' h₁ (fun y => binds.reverse.lookup y) → News g L' h₁ news → (∀ p ∈ news, p.1 < L') →
      wpAny (model prog w) (A.deeper (envX qual scope L' f (.ref c') cl)) (execs body (envX qual scope L' f (.ref c') cl))
        (fun fl s' => LeaveK h₀ L m g (fun r s' => match r with | .ok (.ret v) => Q v s' | .ok _ => False | .error e => E e s') (match fl with | .ret v => v | _ => .none) s')
        (fun _ _ => False) { s with heap := h₁, toks := s.toks + binds.length }) :
    wpAny (model prog w) A (call (.ref f) args) Q E s := by
  obtain ⟨⟨A₀, base, env, outer, B, hA, hf, hke⟩, hh, hd, hu⟩ := Y
  obtain ⟨p, loose, mean, mg, mb, T⟩ := X.top
  refine wpAny_call (callX_plain (cl := cl) B F N T.nolimit hA hf hke (N _ ho).1 rfl ⟨c', oc, cvs, ct, rfl, hc1.elim (fun h => (N _ h).1) (F.keep _ _), hc2, hc3⟩ (by omega) hbind hloc (fun g L' h₁ FG F' N' B' st lt => ?_) hcell hco hgen hk)
  refine wpAny_mono (h g L' h₁ FG (X.stays st) ⟨⟨A, base, envX qual scope L' f (.ref c') cl, env :: outer, B', ?_, rfl, hk⟩, hh, ?_, ?_⟩ F' N' lt) (fun _ _ x => x) (fun _ _ x => x.elim)
  · show Option.map _ A.frames = _
    rw [hA]; rfl
  · show A.depth + 1 + dep < _
    omega
  · show A.units + 3 + 8 * dep < _
    omega
/-- a def of the text's top whose frame holds cells -/
theorem enterC {prog : Program} {w : World} {A : Around} {E : Value → Shared → Prop} {s : Shared} {h₀ : Heap} {L : Addr} {m : Str → Option Value} {news : List (Addr × Obj)} {dep : Nat} {Q : Value → Shared → Prop}
    {name qual : Str} {params : Arguments} {body : List Stmt} {scope : Scope} {dV kV doc pm cdv ct oc : Value} {an od : Option Addr} {osl : Array (Option Value)} {f : Addr} {args : List Value} {kw : List (Str × Value)} {binds : List (Str × Value)}
    (X : Ok w h₀) (Y : At A L h₀ (dep + 1)) (F : Fr h₀ L s.heap m) (N : News h₀ L s.heap news)
    (ho : (Kf w.params).lookup f = some ⟨oc, od, .func (fnOf name qual params body scope dV kV doc pm an cdv ct), osl⟩) (hcd : codeIn (Kf w.params) cdv qual = true)
    (hbind : BindsTo s (fnOf name qual params body scope dV kV doc pm an cdv ct) ⟨args, kw⟩ binds) (hkind : (binds.all fun y => scope.names.lookup y.1 == some .local || scope.names.lookup y.1 == some .cell) = true)
    (hnd : ((cellsFrom 0 scope.names []).map (·.1)).Nodup) (hco : scope.isCoroutine = false) (hgen : scope.isGenerator = false) (hk : scope.kind = .function)
    (h : ∀ g L' h₁ tk cells, Fr h₀ L g m → Ok w g → At (A.deeper (envOfC qual scope L' f cdv)) L' g dep → Fr g L' h₁ (bindL (envOfC qual scope L' f cdv).kindOf binds fun _ => none) → News g L' h₁ (cells ++ news) →
      CellsAre (bindC (envOfC qual scope L' f cdv).kindOf binds fun _ => none) (cellsFrom (L' + 1) scope.names []) cells → (∀ p ∈ news, p.1 < L') →
      wpAny (model prog w) (A.deeper (envOfC qual scope L' f cdv)) (execs body (envOfC qual scope L' f cdv))
        (fun fl s' => LeaveK h₀ L m g (fun r s' => match r with | .ok (.ret v) => Q v s' | .ok _ => False | .error e => E e s') (match fl with | .ret v => v | _ => .none) s')
        (fun _ _ => False) { s with heap := h₁, toks := tk }) :
    wpAny (model prog w) A (call (.ref f) args kw) Q E s := by
  obtain ⟨⟨A₀, base, env, outer, B, hA, hf, hke⟩, hh, hd, hu⟩ := Y
  obtain ⟨p, loose, mean, mg, mb, T⟩ := X.top
  refine wpAny_call (code_defC B F X.K N T hA hf hke ho hcd (by omega) hbind hkind hnd (fun g L' h₁ tk cells FG F' N' CA B' XK' T' lt => ?_) hco hgen hk)
  have st : h₀.StaysIn g := FG.keep
  refine wpAny_mono (h g L' h₁ tk cells FG (X.stays st) ⟨⟨A, base, envOfC qual scope L' f cdv, env :: outer, B', ?_, rfl, hk⟩, hh, ?_, ?_⟩ F' N' CA lt) (fun _ _ x => x) (fun _ _ x => x.elim)
  · show Option.map _ A.frames = _
    rw [hA]; rfl
  · show A.depth + 1 + dep < _
    omega
  · show A.units + 3 + 8 * dep < _
    omega
/-- what the callee changes is hidden from its base, what it leaves stands in its base -/
noncomputable def LeaveM (h₀ : Heap) (L : Addr) (m : Str → Option Value) (g : Heap) (stay : List (Addr × Obj)) (Q : Value → Shared → Prop) (v : Value) (s' : Shared) : Prop :=
  ∃ L' m' news', Fr g L' s'.heap m' ∧ News g L' s'.heap news' ∧ (Fr h₀ L s'.heap m → News h₀ L s'.heap (news' ++ stay) → Q v s')
theorem leaveM {h₀ g : Heap} {L L' : Addr} {m m' : Str → Option Value} {news' stay : List (Addr × Obj)} {Q : Value → Shared → Prop} {v : Value} {s' : Shared} (F' : Fr g L' s'.heap m') (N' : News g L' s'.heap news')
    (k : Fr h₀ L s'.heap m → News h₀ L s'.heap (news' ++ stay) → Q v s') : LeaveM h₀ L m g stay Q v s' := ⟨L', m', news', F', N', k⟩
theorem LeaveM.toK {h₀ g : Heap} {L : Addr} {m : Str → Option Value} {stay : List (Addr × Obj)} {Q E : Value → Shared → Prop} {v : Value} {s' : Shared} (hs : ∀ p ∈ stay, g.get? p.1 = some p.2 ∧ p.1 ≠ L ∧ h₀.get? p.1 = none) (l : LeaveM h₀ L m g stay Q v s') :
    LeaveK h₀ L m g (fun r s' => match r with | .ok (.ret v) => Q v s' | .ok _ => False | .error e => E e s') v s' := by
  obtain ⟨L', m', news', F', N', k⟩ := l
  refine ⟨L', m', news', F', N', fun F9 N9 => k F9 fun p hp => ?_⟩
  rcases List.mem_append.mp hp with hp | hp
  · exact N9 p hp
  · exact ⟨F'.keep _ _ (hs p hp).1, (hs p hp).2⟩
theorem enterM {prog : Program} {w : World} {A : Around} {E : Value → Shared → Prop} {s : Shared} {h₀ : Heap} {L : Addr} {m : Str → Option Value} {mu stay : List (Addr × Obj)} {dep : Nat} {Q : Value → Shared → Prop}
    {name qual : Str} {params : Arguments} {body : List Stmt} {scope : Scope} {dV kV doc pm cdv ct oc : Value} {an od : Option Addr} {osl : Array (Option Value)} {f : Addr} {args : List Value} {kw : List (Str × Value)} {binds : List (Str × Value)}
    (X : Ok w h₀) (Y : At A L h₀ (dep + 1)) (F : Fr h₀ L s.heap m) (N : News h₀ L s.heap mu) (N2 : News h₀ L s.heap stay) (hap : ∀ p ∈ stay, ∀ q ∈ mu, p.1 ≠ q.1)
    (ho : (Kf w.params).lookup f = some ⟨oc, od, .func (fnOf name qual params body scope dV kV doc pm an cdv ct), osl⟩) (hcd : codeIn (Kf w.params) cdv qual = true)
    (hbind : BindsTo s (fnOf name qual params body scope dV kV doc pm an cdv ct) ⟨args, kw⟩ binds) (hloc : ∀ y ∈ binds, scope.names.lookup y.1 = some .local)
    (hcell : ∀ x ∈ scope.names, x.2 ≠ .cell) (hco : scope.isCoroutine = false) (hgen : scope.isGenerator = false) (hk : scope.kind = .function)
    (h : ∀ g L' h₁, Ok w g → At (A.deeper (envX qual scope L' f cdv [])) L' g dep → (∀ b o, h₀.get? b = some o → g.get? b = some o) → (∀ p ∈ stay, g.get? p.1 = some p.2) → Fr g L' h₁ (fun y => binds.reverse.lookup y) → News g L' h₁ mu → (∀ p ∈ mu, p.1 < L') → (∀ p ∈ stay, p.1 < L') →
      wpAny (model prog w) (A.deeper (envX qual scope L' f cdv [])) (execs body (envX qual scope L' f cdv []))
        (fun fl s' => LeaveM h₀ L m g stay Q (match fl with | .ret v => v | _ => .none) s') (fun _ _ => False) { s with heap := h₁, toks := s.toks + binds.length }) :
    wpAny (model prog w) A (call (.ref f) args kw) Q E s := by
  obtain ⟨⟨A₀, base, env, outer, B, hA, hf, hke⟩, hh, hd, hu⟩ := Y
  obtain ⟨p, loose, mean, mg, mb, T⟩ := X.top
  refine wpAny_call ?_
  obtain ⟨FG, BG, st, lv⟩ := groundX (R := fun r s' => match r with | .ok (.ret v) => Q v s' | .ok _ => False | .error e => E e s') B F N hA hf hke
  have hst : ∀ p ∈ stay, (hideAll s.heap (mu.map (·.1))).get? p.1 = some p.2 ∧ p.1 ≠ L ∧ h₀.get? p.1 = none := fun p hp =>
    ⟨hideAll_get _ (N2 p hp).1 (fun q => by obtain ⟨x, hx, e⟩ := List.mem_map.mp q; exact hap p hp x hx e.symm), (N2 p hp).2⟩
  refine codeAny_call_def (fd := fnX name qual params body scope [] dV kV doc pm an cdv ct) (body := body) (binds := binds) (by omega) ((X.K.keeps F.keep) _ _ ho) rfl (T.nolimit.keeps F.keep) (codeRec_of (X.K.keeps F.keep) hcd) rfl hbind hcell hloc (fun h₁ hns hk₁ => ?_) hco hgen hk
  refine wpAny_mono (h _ s.heap.objs.size h₁ (X.stays st) ⟨⟨A, base, envX qual scope s.heap.objs.size f cdv [], env :: outer, ⟨?_, BG.stays, ?_⟩, ?_, rfl, hk⟩, hh, ?_, ?_⟩ st (fun p hp => (hst p hp).1) ⟨hns, fun b o e => hk₁ b o (of_hideAll _ e), Nat.le_of_eq (hideAll_size _ _)⟩
    (fun p hp => ⟨hk₁ _ _ (N p hp).1, Nat.ne_of_lt (Heap.lt_size (N p hp).1), hideAll_none _ (List.mem_map_of_mem hp)⟩) (fun p hp => Heap.lt_size (N p hp).1) (fun p hp => Heap.lt_size (N2 p hp).1)) (fun fl s' hl => lv _ _ (hl.toK hst)) fun _ _ y => y.elim
  · exact BG.stack
  · exact BG.frames
  · show Option.map _ A.frames = _
    rw [hA]; rfl
  · show A.depth + 1 + dep < _
    omega
  · show A.units + 3 + 8 * dep < _
    omega
theorem enterMC {prog : Program} {w : World} {A : Around} {E : Value → Shared → Prop} {s : Shared} {h₀ : Heap} {L : Addr} {m : Str → Option Value} {mu stay : List (Addr × Obj)} {dep : Nat} {Q : Value → Shared → Prop}
    {name qual : Str} {params : Arguments} {body : List Stmt} {scope : Scope} {dV kV doc pm cdv ct oc : Value} {an od : Option Addr} {osl : Array (Option Value)} {f : Addr} {args : List Value} {kw : List (Str × Value)} {binds : List (Str × Value)}
    (X : Ok w h₀) (Y : At A L h₀ (dep + 1)) (F : Fr h₀ L s.heap m) (N : News h₀ L s.heap mu) (N2 : News h₀ L s.heap stay) (hap : ∀ p ∈ stay, ∀ q ∈ mu, p.1 ≠ q.1)
    (ho : (Kf w.params).lookup f = some ⟨oc, od, .func (fnOf name qual params body scope dV kV doc pm an cdv ct), osl⟩) (hcd : codeIn (Kf w.params) cdv qual = true)
    (hbind : BindsTo s (fnOf name qual params body scope dV kV doc pm an cdv ct) ⟨args, kw⟩ binds) (hkind : (binds.all fun y => scope.names.lookup y.1 == some .local || scope.names.lookup y.1 == some .cell) = true)
    (hnd : ((cellsFrom 0 scope.names []).map (·.1)).Nodup) (hco : scope.isCoroutine = false) (hgen : scope.isGenerator = false) (hk : scope.kind = .function)
    (h : ∀ g L' h₁ tk cells, Ok w g → At (A.deeper (envOfC qual scope L' f cdv)) L' g dep → (∀ b o, h₀.get? b = some o → g.get? b = some o) → (∀ p ∈ stay, g.get? p.1 = some p.2) → Fr g L' h₁ (bindL (envOfC qual scope L' f cdv).kindOf binds fun _ => none) → News g L' h₁ (cells ++ mu) →
      CellsAre (bindC (envOfC qual scope L' f cdv).kindOf binds fun _ => none) (cellsFrom (L' + 1) scope.names []) cells → (∀ p ∈ mu, p.1 < L') → (∀ p ∈ stay, p.1 < L') →
      wpAny (model prog w) (A.deeper (envOfC qual scope L' f cdv)) (execs body (envOfC qual scope L' f cdv))
        (fun fl s' => LeaveM h₀ L m g stay Q (match fl with | .ret v => v | _ => .none) s') (fun _ _ => False) { s with heap := h₁, toks := tk }) :
    wpAny (model prog w) A (call (.ref f) args kw) Q E s := by
  obtain ⟨⟨A₀, base, env, outer, B, hA, hf, hke⟩, hh, hd, hu⟩ := Y
  obtain ⟨p, loose, mean, mg, mb, T⟩ := X.top
  refine wpAny_call ?_
  obtain ⟨FG, BG, st, lv⟩ := groundX (R := fun r s' => match r with | .ok (.ret v) => Q v s' | .ok _ => False | .error e => E e s') B F N hA hf hke
  have hst : ∀ p ∈ stay, (hideAll s.heap (mu.map (·.1))).get? p.1 = some p.2 ∧ p.1 ≠ L ∧ h₀.get? p.1 = none := fun p hp =>
    ⟨hideAll_get _ (N2 p hp).1 (fun q => by obtain ⟨x, hx, e⟩ := List.mem_map.mp q; exact hap p hp x hx e.symm), (N2 p hp).2⟩
  refine codeAny_call_function (by omega) ((X.K.keeps F.keep) _ _ ho) rfl hco hgen rfl (codeRec_of (X.K.keeps F.keep) hcd) (hbind _ _ _ _ ?_)
  refine wpAny_newFunctionEnv_cells hk (kindsX hkind _) fun env' he s' x => ?_
  subst he
  refine ⟨(T.nolimit.keeps F.keep).keeps x.toInCall.keep, codeAny_func ?_⟩
  obtain ⟨h₁, tk, rfl, _⟩ := x.done
  have hk₁ := x.toInCall.keep
  obtain ⟨cells, NC, CA⟩ := Cl.news (h₀ := s.heap) (Nat.le_refl _) fun n c hm => ⟨x.cell n c (lookup_of_mem_nodup (cellsFrom_names scope.names 0 (s.heap.objs.size + 1) [] [] rfl ▸ hnd) hm), x.above n c hm⟩
  refine wpAny_mono (h _ s.heap.objs.size h₁ tk cells (X.stays st) ⟨⟨A, base, envOfC qual scope s.heap.objs.size f cdv, env :: outer, ⟨BG.stack, BG.stays, BG.frames⟩, ?_, rfl, hk⟩, hh, ?_, ?_⟩ st (fun p hp => (hst p hp).1) ⟨x.toInCall.ns, fun b o e => hk₁ b o (of_hideAll _ e), Nat.le_of_eq (hideAll_size _ _)⟩ (fun p hp => ?_) CA (fun p hp => Heap.lt_size (N p hp).1) (fun p hp => Heap.lt_size (N2 p hp).1)) (fun fl s' hl => lv _ _ (hl.toK hst)) fun _ _ y => y.elim
  · show Option.map _ A.frames = _
    rw [hA]; rfl
  · show A.depth + 1 + dep < _
    omega
  · show A.units + 3 + 8 * dep < _
    omega
  · rcases List.mem_append.mp hp with hp | hp
    · refine ⟨(NC p hp).1, (NC p hp).2.1, ?_⟩
      cases q : (hideAll s.heap (mu.map (·.1))).get? p.1 with
      | none => rfl
      | some o => have := of_hideAll _ q; rw [(NC p hp).2.2] at this; cases this
    · exact ⟨hk₁ _ _ (N p hp).1, Nat.ne_of_lt (Heap.lt_size (N p hp).1), hideAll_none _ (List.mem_map_of_mem hp)⟩
end Mine
end
section
theorem Mine.fresh_Plain1 : True := by
  w_top off
  exact trivial
open PySem PySem.W PyProof.Rows
namespace Mine
/-- the figures of x to the base b, k of them, the topmost takes what is left -/
noncomputable def dg (b : Int) : Nat → Int → List Int
  | 0, _ => []
  | 1, x => [x]
  | k + 2, x => x % b :: dg b (k + 1) (x / b)
theorem dg_length (b : Int) : ∀ (k : Nat) (x : Int), (dg b k x).length = k
  | 0, _ => rfl
  | 1, _ => rfl
  | k + 2, x => by rw [dg, List.length_cons, dg_length b (k + 1)]
theorem dg_succ (b : Int) {k : Nat} (hk : 0 < k) (x : Int) : dg b (k + 1) x = x % b :: dg b k (x / b) := by
  cases k with
  | zero => omega
  | succ k => rfl
theorem dg_split (b : Int) (hb : 0 < b) {k2 : Nat} (h2 : 0 < k2) : ∀ (k1 : Nat), 0 < k1 → ∀ x : Int, dg b (k1 + k2) x = dg b k1 (x % b ^ k1) ++ dg b k2 (x / b ^ k1)
  | 0, h, _ => absurd h (Nat.lt_irrefl 0)
  | 1, _, x => by
    rw [Nat.add_comm 1 k2, dg_succ b h2, dg, Int.pow_one]; rfl
  | k + 2, _, x => by
    have e1 : k + 2 + k2 = (k + 1 + k2) + 1 := by omega
    have hbp : (0 : Int) < b ^ (k + 1) := Int.pow_pos hb
    rw [e1, dg_succ b (by omega), dg_split b hb h2 (k + 1) (by omega) (x / b), dg_succ b (by omega : 0 < k + 1), List.cons_append]
    have e2 : b ^ (k + 1 + 1) = b * b ^ (k + 1) := by rw [Int.pow_succ, Int.mul_comm]
    have e3 : x / b / b ^ (k + 1) = x / b ^ (k + 1 + 1) := by rw [e2, Int.ediv_ediv_of_nonneg (Int.le_of_lt hb)]
    have e4 : x % b ^ (k + 1 + 1) % b = x % b := by rw [e2]; exact Int.emod_emod_of_dvd x (Int.dvd_mul_right b _)
    have e5 : x % b ^ (k + 1 + 1) / b = x / b % b ^ (k + 1) := by
      rw [e2, Int.emod_def, Int.emod_def, Int.mul_assoc, Int.sub_mul_ediv_left _ _ (Int.ne_of_gt hb), Int.ediv_ediv_of_nonneg (Int.le_of_lt hb)]
    rw [e3, e4, e5]
theorem bitAnd_nat (a b : Nat) : Builtin.bitAnd (a : Int) (b : Int) = ((a &&& b : Nat) : Int) := by
  rw [bitAnd_pp (by omega) (by omega)]; simp
theorem bitOr_nat (a b : Nat) : Builtin.bitOr (a : Int) (b : Int) = ((a ||| b : Nat) : Int) := by
  have e : ∀ z : Int, Builtin.bitNot (Builtin.bitNot z) = z := by intro z; unfold Builtin.bitNot; omega
  have h1 : ∀ n : Nat, ¬ (0 : Int) ≤ Builtin.bitNot (n : Int) := by intro n; unfold Builtin.bitNot; omega
  unfold Builtin.bitOr
  rw [bitAnd_nn (h1 a) (h1 b), e, e, e]; simp
theorem cut_and (x k : Nat) : x &&& (x / 2 ^ k * 2 ^ k) = x / 2 ^ k * 2 ^ k := by
  apply Nat.eq_of_testBit_eq
  intro i
  rw [Nat.testBit_and, Nat.testBit_mul_two_pow, Nat.testBit_div_two_pow]
  by_cases h : k ≤ i
  · simp [h]
  · simp [h]
theorem xor_cut {x : Int} (hx : 0 ≤ x) (k : Nat) : Builtin.bitXor x (x.fdiv (2 ^ k) * 2 ^ k) = x % 2 ^ k := by
  have hp := kbt_pos k
  rw [Int.fdiv_eq_ediv_of_nonneg _ (Int.le_of_lt hp)]
  obtain ⟨n, rfl⟩ := Int.eq_ofNat_of_zero_le hx
  have e : ((n : Int) / 2 ^ k * 2 ^ k) = ((n / 2 ^ k * 2 ^ k : Nat) : Int) := by
    rw [Int.natCast_mul, Int.natCast_ediv, kbt_cast]
  rw [bitXor_and, e, bitAnd_nat, cut_and, ← e, Int.emod_def, Int.mul_comm (2 ^ k)]
  omega
theorem inner1_base {ns : List Int} {x l r : Int} (b : Int) (hl : 0 ≤ l) (hr : r ≤ ns.length) (h : l + 1 = r) : ns.set l.toNat x = ns.take l.toNat ++ dg b (r - l).toNat x ++ ns.drop r.toNat := by
  subst h
  obtain ⟨L, rfl⟩ := Int.eq_ofNat_of_zero_le hl
  have e1 : ((L : Int) + 1 - (L : Int)).toNat = 1 := by rw [Int.add_comm, Int.add_sub_cancel]; rfl
  have e2 : ((L : Int) + 1).toNat = L + 1 := rfl
  rw [e1, e2, dg, Int.toNat_natCast, List.set_eq_take_append_cons_drop, if_pos (show L < ns.length from Int.ofNat_le.mp hr), List.append_assoc]
  rfl
theorem pow_toNat {p n : Int} (hp : 0 ≤ p) (hn : 0 ≤ n) : (2 : Int) ^ (p * n).toNat = (2 ^ n.toNat) ^ p.toNat := by
  obtain ⟨p, rfl⟩ := Int.eq_ofNat_of_zero_le hp
  obtain ⟨q, rfl⟩ := Int.eq_ofNat_of_zero_le hn
  rw [← Int.natCast_mul, Int.toNat_natCast, Int.toNat_natCast, Int.toNat_natCast, Nat.mul_comm, Int.pow_mul]
theorem nat_min3 {L M k : Nat} (h1 : L < M) (h2 : M ≤ k) : min L k + (M - L) = M := by
  rw [Nat.min_eq_left (Nat.le_trans (Nat.le_of_lt h1) h2), Nat.add_sub_cancel' (Nat.le_of_lt h1)]
theorem nat_sub3 {L M R : Nat} (h1 : L ≤ M) (h2 : M ≤ R) : R - L = (M - L) + (R - M) := by
  rw [Nat.add_comm, Nat.sub_add_sub_cancel h2 h1]
theorem nats3 {l mid r : Int} (hl : 0 ≤ l) (h1 : l ≤ mid) (h2 : mid ≤ r) : ∃ L M R : Nat, l = L ∧ mid = M ∧ r = R ∧ L ≤ M ∧ M ≤ R := by
  obtain ⟨L, rfl⟩ := Int.eq_ofNat_of_zero_le hl
  obtain ⟨M, rfl⟩ := Int.eq_ofNat_of_zero_le (Int.le_trans hl h1)
  obtain ⟨R, rfl⟩ := Int.eq_ofNat_of_zero_le (Int.le_trans (Int.le_trans hl h1) h2)
  exact ⟨L, M, R, rfl, rfl, rfl, Int.ofNat_le.mp h1, Int.ofNat_le.mp h2⟩
theorem inner1_step {ns : List Int} {x l r mid n : Int} (hn : 0 ≤ n) (hl : 0 ≤ l) (hr : r ≤ ns.length) (h1 : l < mid) (h2 : mid < r) :
    (ns.take l.toNat ++ dg (2 ^ n.toNat) (mid - l).toNat (x % 2 ^ ((mid - l) * n).toNat) ++ ns.drop mid.toNat).take mid.toNat ++ dg (2 ^ n.toNat) (r - mid).toNat (x / 2 ^ ((mid - l) * n).toNat) ++
      (ns.take l.toNat ++ dg (2 ^ n.toNat) (mid - l).toNat (x % 2 ^ ((mid - l) * n).toNat) ++ ns.drop mid.toNat).drop r.toNat
    = ns.take l.toNat ++ dg (2 ^ n.toNat) (r - l).toNat x ++ ns.drop r.toNat := by
  have e1 := pow_toNat (Int.sub_nonneg_of_le (Int.le_of_lt h1)) hn
  obtain ⟨L, M, R, rfl, rfl, rfl, q1, q2⟩ := nats3 hl (Int.le_of_lt h1) (Int.le_of_lt h2)
  have h1 : L < M := Int.ofNat_lt.mp h1
  have h2 : M < R := Int.ofNat_lt.mp h2
  have hr : R ≤ ns.length := Int.ofNat_le.mp hr
  simp only [Int.toNat_sub, Int.toNat_natCast] at e1 ⊢
  have e0 : (ns.take L ++ dg (2 ^ n.toNat) (M - L) (x % 2 ^ (((M : Int) - (L : Int)) * n).toNat)).length = M := by
    rw [List.length_append, List.length_take, dg_length]; exact nat_min3 h1 (Nat.le_trans q2 hr)
  rw [List.take_left' e0, nat_sub3 q1 q2, dg_split (2 ^ n.toNat) (kbt_pos _) (Nat.sub_pos_of_lt h2) (M - L) (Nat.sub_pos_of_lt h1) x, ← e1]
  have e3 : R = M + (R - M) := (Nat.add_sub_cancel' q2).symm
  have e4 : (ns.take L ++ dg (2 ^ n.toNat) (M - L) (x % 2 ^ (((M : Int) - (L : Int)) * n).toNat) ++ ns.drop M).drop R = ns.drop R := by
    rw [e3, ← List.drop_drop, List.drop_left' e0, List.drop_drop]
  rw [e4, List.append_assoc, List.append_assoc, List.append_assoc, List.append_assoc]
/-- the number that the figures tell -/
noncomputable def un (b : Int) : List Int → Int
  | [] => 0
  | d :: r => d + b * un b r
theorem un_append (b : Int) (xs ys : List Int) : un b (xs ++ ys) = un b xs + b ^ xs.length * un b ys := by
  induction xs with
  | nil => simp [un]
  | cons d r ih =>
    rw [List.cons_append, un, ih, un, List.length_cons, Int.pow_succ, Int.mul_add, ← Int.mul_assoc, Int.mul_comm b (b ^ r.length)]
    omega
theorem un_bound {b : Int} (hb : 0 < b) (xs : List Int) (h : ∀ v ∈ xs, 0 ≤ v ∧ v < b) : 0 ≤ un b xs ∧ un b xs < b ^ xs.length := by
  induction xs with
  | nil => simp [un]
  | cons d r ih =>
    have h1 := ih fun v hv => h v (.tail _ hv)
    have h2 := h d (.head _)
    rw [un, List.length_cons, Int.pow_succ, Int.mul_comm (b ^ r.length)]
    constructor
    · have := Int.mul_nonneg (Int.le_of_lt hb) h1.1
      omega
    · have : b * (un b r + 1) ≤ b * b ^ r.length := Int.mul_le_mul_of_nonneg_left (by omega) (Int.le_of_lt hb)
      rw [Int.mul_add, Int.mul_one] at this
      omega
noncomputable def sl (ns : List Int) (l r : Int) : List Int := (ns.drop l.toNat).take (r.toNat - l.toNat)
theorem sl_length {ns : List Int} {l r : Int} (hl : 0 ≤ l) (hlr : l ≤ r) (hr : r ≤ ns.length) : (sl ns l r).length = (r - l).toNat := by
  obtain ⟨L, rfl⟩ := Int.eq_ofNat_of_zero_le hl
  obtain ⟨R, rfl⟩ := Int.eq_ofNat_of_zero_le (Int.le_trans hl hlr)
  unfold sl
  rw [List.length_take, List.length_drop, Int.toNat_sub, Int.toNat_natCast, Int.toNat_natCast, Nat.min_eq_left (Nat.sub_le_sub_right (Int.ofNat_le.mp hr) L)]
theorem sl_mem {ns : List Int} {l r : Int} {P : Int → Prop} (h : ∀ v ∈ ns, P v) : ∀ v ∈ sl ns l r, P v := fun v hv => h v (List.mem_of_mem_drop (List.mem_of_mem_take hv))
theorem sl_append {ns : List Int} {l mid r : Int} (hl : 0 ≤ l) (h1 : l ≤ mid) (h2 : mid ≤ r) : sl ns l mid ++ sl ns mid r = sl ns l r := by
  obtain ⟨L, M, R, rfl, rfl, rfl, q1, q2⟩ := nats3 hl h1 h2
  unfold sl
  simp only [Int.toNat_natCast]
  rw [nat_sub3 q1 q2, List.take_add, List.drop_drop, Nat.add_sub_cancel' q1]
theorem sl_one {ns : List Int} {l r : Int} (hl : 0 ≤ l) (h : l + 1 = r) (hr : r ≤ ns.length) : sl ns l r = [ns.getD l.toNat 0] := by
  subst h
  obtain ⟨L, rfl⟩ := Int.eq_ofNat_of_zero_le hl
  unfold sl
  have e : ((L : Int) + 1).toNat = L + 1 := rfl
  have hlt : L < ns.length := Int.ofNat_le.mp hr
  rw [e, Int.toNat_natCast, Nat.add_sub_cancel_left, List.drop_eq_getElem_cons hlt, List.getD_eq_getElem?_getD, List.getElem?_eq_getElem hlt]
  rfl
theorem un_join {ns : List Int} {l mid r n : Int} (hn : 0 ≤ n) (hl : 0 ≤ l) (h1 : l ≤ mid) (h2 : mid ≤ r) (hr : r ≤ ns.length) :
    un (2 ^ n.toNat) (sl ns mid r) * 2 ^ ((mid - l) * n).toNat + un (2 ^ n.toNat) (sl ns l mid) = un (2 ^ n.toNat) (sl ns l r) := by
  rw [← sl_append hl h1 h2, un_append, sl_length hl h1 (Int.le_trans h2 hr), pow_toNat (Int.sub_nonneg_of_le h1) hn, Int.mul_comm, Int.add_comm]
theorem un_bits {ns : List Int} {l r n : Int} (hn : 0 ≤ n) (hn8 : n ≤ 8) (hl : 0 ≤ l) (hlr : l ≤ r) (hr : r ≤ ns.length) (hsz : ns.length ≤ 100) (h : ∀ v ∈ ns, 0 ≤ v ∧ v < (2 : Int) ^ n.toNat) :
    Builtin.Int.intBits (un (2 ^ n.toNat) (sl ns l r)) ≤ 800 := by
  have hb := un_bound (kbt_pos n.toNat) (sl ns l r) (sl_mem h)
  rw [sl_length hl hlr hr, ← Int.pow_mul] at hb
  have e : n.toNat * (r - l).toNat ≤ 800 := by
    have : n.toNat * (r - l).toNat ≤ 8 * 100 := Nat.mul_le_mul (by omega) (by omega)
    omega
  have h2 : (2 : Nat) ^ (n.toNat * (r - l).toNat) ≤ 2 ^ 800 := Nat.pow_le_pow_right (by decide) e
  rw [intBits_le_iff]
  have h3 := kbt_cast (n.toNat * (r - l).toNat)
  generalize un (2 ^ n.toNat) (sl ns l r) = u at *
  generalize n.toNat * (r - l).toNat = q at *
  rw [← h3] at hb
  generalize (2 : Nat) ^ 800 = P at *
  omega
theorem mid3 {l r mid P : Int} (h : l < r) (hne : l + 1 ≠ r) (hm : mid = (l + r) / 2) (hd : r - l ≤ 2 * P) : l < mid ∧ mid < r ∧ mid - l ≤ P ∧ r - mid ≤ P := by
  subst hm
  have e : (l + r) / 2 = l + (r - l) / 2 := by
    rw [show l + r = (r - l) + 2 * l by rw [Int.two_mul]; omega, Int.add_mul_ediv_left _ _ (by decide), Int.add_comm]
  rw [e]
  generalize hq : r - l = d at hd ⊢
  obtain rfl : r = l + d := by rw [← hq, Int.add_comm, Int.sub_add_cancel]
  have h2 : d ≠ 1 := fun h => hne (by rw [h])
  clear e hq hne
  have h3 : 0 < d := Int.lt_of_add_lt_add_left (a := l) (by rwa [Int.add_zero])
  clear h
  refine ⟨?_, ?_, ?_, ?_⟩ <;> omega
theorem len3 {l mid : Int} {n : Nat} (hl : 0 ≤ l) (h1 : l ≤ mid) (h2 : mid ≤ n) : min l.toNat n + (mid - l).toNat + (n - mid.toNat) = n := by
  obtain ⟨L, rfl⟩ := Int.eq_ofNat_of_zero_le hl
  obtain ⟨M, rfl⟩ := Int.eq_ofNat_of_zero_le (Int.le_trans hl h1)
  have h1 := Int.ofNat_le.mp h1
  have h2 := Int.ofNat_le.mp h2
  rw [Int.toNat_sub, Int.toNat_natCast, Int.toNat_natCast, Nat.min_eq_left (Nat.le_trans h1 h2), Nat.add_sub_cancel' h1, Nat.add_sub_cancel' h2]
theorem fdivb {x : Int} (hx : 0 ≤ x) (k : Nat) : 0 ≤ x.fdiv (2 ^ k) ∧ x.fdiv (2 ^ k) ≤ x := (kbt_quot x k).resolve_left (Int.not_lt.mpr hx)
theorem modb {x p : Int} (hx : 0 ≤ x) (hp : 0 < p) : 0 ≤ x % p ∧ x % p ≤ x := by
  refine ⟨Int.emod_nonneg _ (Int.ne_of_gt hp), ?_⟩
  have h1 := Int.emod_add_mul_ediv x p
  have h2 : 0 ≤ p * (x / p) := Int.mul_nonneg (Int.le_of_lt hp) (Int.ediv_nonneg hx (Int.le_of_lt hp))
  rw [← h1, Int.add_mul_emod_self_left, Int.emod_emod_of_dvd _ (Int.dvd_refl p)]
  exact Int.le_add_of_nonneg_right h2
theorem fm2 (n : Nat) : 0 ≤ (n : Int).fmod 2 ∧ (n : Int).fmod 2 < 2 := by
  rw [Int.fmod_eq_emod_of_nonneg _ (by decide)]
  exact ⟨Int.emod_nonneg _ (by decide), Int.emod_lt_of_pos _ (by decide)⟩
theorem bis_nums {l r m : Int} {n k : Nat} (hl : 0 ≤ l) (h1 : l ≤ m) (h2 : m < r) (hr : r ≤ (k : Int)) (hn : n = (r - l).toNat) :
    (r - (m + 1)).toNat < n ∧ (m - l).toNat < n ∧ 0 ≤ m + 1 ∧ m + 1 ≤ r ∧ m.toNat < k ∧ m ≤ (k : Int) ∧ (∀ i : Nat, i < (m + 1).toNat → i ≤ m.toNat) := by
  obtain ⟨L, M, R, rfl, rfl, rfl, q1, q2⟩ := nats3 hl h1 (Int.le_of_lt h2)
  have h2 : M < R := Int.ofNat_lt.mp h2
  have hr : R ≤ k := Int.ofNat_le.mp hr
  have e : ((R : Int) - ((M : Int) + 1)).toNat = R - (M + 1) := Int.toNat_sub R (M + 1)
  rw [Int.toNat_sub] at hn
  subst hn
  rw [e, Int.toNat_sub]
  refine ⟨?_, ?_, Int.natCast_nonneg (M + 1), Int.ofNat_le.mpr h2, Nat.lt_of_lt_of_le h2 hr, Int.ofNat_le.mpr (Nat.le_trans q2 hr), fun i hi => Nat.le_of_lt_succ hi⟩
  · exact Nat.sub_lt_sub_left (Nat.lt_of_le_of_lt q1 h2) (Nat.lt_succ_of_le q1)
  · exact Nat.sub_lt_sub_right q1 h2
theorem bis_end {l r : Int} {n k : Nat} (hl : 0 ≤ l) (h1 : l ≤ r) (h2 : ¬ l < r) (hr : r ≤ (k : Int)) (hc : n = l.toNat) : r = l ∧ l = (n : Int) ∧ l.toNat ≤ k := by
  obtain rfl := Int.le_antisymm (Int.not_lt.mp h2) h1
  refine ⟨rfl, ?_, Int.toNat_le.mpr hr⟩
  rw [hc, Int.toNat_of_nonneg hl]
theorem fmodb (y : Int) {k : Int} (hk : 0 < k) : 0 ≤ y.fmod k ∧ y.fmod k < k := by
  rw [Int.fmod_eq_emod_of_nonneg _ (Int.le_of_lt hk)]
  exact ⟨Int.emod_nonneg _ (Int.ne_of_gt hk), Int.emod_lt_of_pos _ hk⟩
theorem nabs_lt {x : Int} {k : Nat} (hx : 0 ≤ x) (hb : x < ((k : Nat) : Int)) : x.natAbs < k := by
  obtain ⟨n, rfl⟩ := Int.eq_ofNat_of_zero_le hx
  exact Int.ofNat_lt.mp hb
theorem of_nabs {x : Int} {k : Nat} (hx : 0 ≤ x) (hb : x.natAbs < k) : x < ((k : Nat) : Int) := by
  obtain ⟨n, rfl⟩ := Int.eq_ofNat_of_zero_le hx
  exact Int.ofNat_lt.mpr hb
theorem mod2_0 {y : Int} (h : ¬ y % 2 = 1) : y % 2 = 0 := (Int.emod_two_eq y).resolve_right h
end Mine
end
section
theorem Mine.fresh_W0 : True := by
  w_top off
  exact trivial
open PySem PySem.W PyProof.Rows PySem.Calls PySem.Spec
namespace Mine
theorem all_ne {l : List (Addr × Obj)} {d b : Nat} (h : ∀ p ∈ l, p.1 < b) (hb : b ≤ d) : ∀ p ∈ l, p.1 ≠ d := fun p hp => Nat.ne_of_lt (Nat.lt_of_lt_of_le (h p hp) hb)
theorem all_ne_gt {l : List (Addr × Obj)} {d b : Nat} (h : ∀ p ∈ l, b < p.1) (hb : d ≤ b) : ∀ p ∈ l, p.1 ≠ d := fun p hp => Nat.ne_of_gt (Nat.lt_of_le_of_lt hb (h p hp))
theorem allLt_get {d : Nat} {l : List (Addr × Obj)} (h : AllLt d l) : ∀ p ∈ l, p.1 < d := by
  induction l with
  | nil => intro p hp; exact absurd hp List.not_mem_nil
  | cons q r ih =>
    intro p hp
    rcases List.mem_cons.mp hp with e | hp
    · rw [e]; exact h.1
    · exact ih h.2 p hp
theorem truthyI {prog : Program} {w : World} {A : Around} {E : Value → Shared → Prop} {s : Shared} {h₀ : Heap} {L d : Addr} {news : List (Addr × Obj)} {vs : List Value} {ns : List Int} {k : Nat} {Q : Bool → Shared → Prop}
    (N : News h₀ L s.heap news) (hm : (d, listOf vs.toArray k) ∈ news) (hI : IntsAre vs ns) (hsz : ns.length ≤ 1000) (h : Q (decide (0 < ns.length)) { s with toks := s.toks + 1 + 1 }) :
    wpAny (model prog w) A (truthy (.ref d)) Q E s := by
  have hl := hI.length
  refine wpAny_truthy_list (News.isList N hm) (by rw [List.size_toArray]; omega) ?_
  have e : (!vs.toArray.isEmpty) = decide (0 < ns.length) := by
    cases hI with
    | nil => rfl
    | cons => simp
  rw [e]; exact h
theorem lenI {prog : Program} {w : World} {A : Around} {E : Value → Shared → Prop} {s : Shared} {h₀ : Heap} {L d : Addr} {news : List (Addr × Obj)} {vs : List Value} {ns : List Int} {k : Nat} {Q : Value → Shared → Prop}
    (N : News h₀ L s.heap news) (hm : (d, listOf vs.toArray k) ∈ news) (hI : IntsAre vs ns) (hsz : ns.length ≤ 1000) (h : Q (.int ns.length (s.toks + 1)) { s with toks := s.toks + 1 + 1 }) :
    wpAny (model prog w) A (call (.builtin "len") [.ref d]) Q E s := by
  have hl := hI.length
  refine Calls.call_len_list (News.isList N hm) (by rw [List.size_toArray]; omega) ?_
  rw [List.size_toArray, hl]; exact h
end Mine
end
end
local macro_rules | `(tactic| k_all) => `(tactic| first | assumption | exact all_ne (by assumption) (by omega) | exact all_ne_gt (by assumption) (by omega) | exact all_ne (allLt_get (And.right (by assumption))) (Nat.le_refl _) | exact all_ne (allLt_get (And.right (And.right (by assumption)))) (Nat.le_refl _) | exact all_ne (allLt_get (And.right (And.right (And.right (by assumption))))) (Nat.le_refl _))
local macro_rules | `(tactic| k_mem) => `(tactic| assumption)
local macro_rules | `(tactic| walk_at "mine deep") => `(tactic| first | exact List.Mem.head _ | assumption | (refine List.Mem.tail _ ?_; walk_at "mine deep"))
local macro_rules | `(tactic| walk_at "mine sub") => `(tactic| first | exact List.forall_mem_nil _ | (refine List.forall_mem_cons.mpr ⟨?_, ?_⟩; (focus walk_at "mine deep"); (focus walk_at "mine sub")) | (intro p hp; walk_at "mine deep"))
section
local macro_rules | `(tactic| omega) => `(tactic| first | walk_at "mine short" | lia)
section
theorem Mine.fresh_W1 : True := by
  w_top off
  exact trivial
open PySem PySem.W PyProof.Rows PySem.Calls PySem.Spec
namespace Mine
theorem fillK (w : World) : row.name = row.name ∧ Kf w.params = Kf w.params := by
  k_fill
  exact ⟨rfl, rfl⟩
noncomputable def IsInner (w : World) (nm : Str) (ps : Arguments) (body : List Stmt) (sc : Scope) (f : Addr) (k : Nat) : Prop :=
  ∃ oc od name qual params bd scope dV kV doc pm an cdv ct osl dl rt tp ts bn pos, (Kf w.params).lookup f = some ⟨oc, od, .func (fnOf name qual params bd scope dV kV doc pm an cdv ct), osl⟩ ∧ bd[k]? = some (.FunctionDef nm ps body dl rt tp sc ts bn pos)
local macro_rules | `(tactic| k_all) => `(tactic| assumption)
local macro_rules | `(tactic| k_mem) => `(tactic| (refine' List.Mem.tail _ ?_; assumption))
local macro_rules | `(tactic| k_mem) => `(tactic| assumption)
local macro_rules | `(tactic| bits_by_make) => `(tactic| assumption)
theorem half_facts {l r : Int} (h : l < r) : l ≤ (l + r).fdiv (2 ^ Int.toNat 1) ∧ (l + r).fdiv (2 ^ Int.toNat 1) < r ∧ (l + r).fdiv (2 ^ Int.toNat 1) = (l + r) / 2 := by
  have e : (2 : Int) ^ Int.toNat 1 = 2 := by decide
  rw [e, Int.fdiv_eq_ediv_of_nonneg _ (by decide)]
  omega
theorem prod_facts {a n : Int} (h0 : 0 ≤ a) (h1 : a ≤ 1000) (hn : 1 ≤ n) (hn8 : n ≤ 8) : 0 ≤ a * n ∧ a * n ≤ 8000 := by
  have h2 : 0 ≤ a * n := Int.mul_nonneg h0 (by omega)
  have h3 : a * n ≤ 1000 * 8 := Int.mul_le_mul h1 hn8 (by omega) (by omega)
  omega
theorem fdiv_bits {x : Int} (hx : 0 ≤ x) (hxb : x < 2 ^ 100) (k : Nat) : Builtin.Int.intBits (x.fdiv (2 ^ k)) ≤ 100 := by
  rw [intBits_le_iff]
  have h := fdivb hx k
  have h2 := Int.lt_of_le_of_lt h.2 hxb
  generalize x.fdiv (2 ^ k) = y at h h2
  clear hxb hx
  omega
theorem inner1_spec {w : World} {nm : Str} {ps : Arguments} {body : List Stmt} {sc : Scope} {ca ci cn d c' f : Addr} {doc pm ctv : Value} {oc : Obj} {cvs : Array Value} {ct : Tok} {oa oi on : Obj} {k : Nat} {n : Int} {tn : Tok} (news : List (Addr × Obj))
    (hb : IsInner w nm ps body sc 35 1)
    (hf : (f, fnMade nm (PySem.Str.ofString "_int2digits.<locals>.inner") ps body sc [("n", cn), ("inner", ci), ("a_digits", ca)] doc pm c' ctv) ∈ news) (hc2 : oc.data = .fields cvs) (hc3 : cvs[1]? = some (.str (PySem.Str.ofString "_int2digits.<locals>.inner") ct))
    (h1 : (ca, oa) ∈ news) (h1d : oa.data = .cell (some (.ref d))) (h2 : (ci, oi) ∈ news) (h2d : oi.data = .cell (some (.ref f))) (h3 : (cn, on) ∈ news) (h3d : on.data = .cell (some (.int n tn)))
    (hdne : ∀ p ∈ news, p.1 ≠ d) (hn : 1 ≤ n) (hn8 : n ≤ 8) : ∀ (dep : Nat) {A : Around} {E : Value → Shared → Prop} {s : Shared} {h₀ : Heap} {L : Addr} {m : Str → Option Value} {Q : Value → Shared → Prop}
    {vs : List Value} {ns : List Int}  {x l r : Int} {t1 t2 t3 : Tok}
    (X : Ok w h₀) (hc1 : (c', oc) ∈ news ∨ h₀.get? c' = some oc) (Y : At A L h₀ (dep + 1)) (F : Fr h₀ L s.heap m) (N : News h₀ L s.heap ((d, listOf vs.toArray k) :: news))
     (hI : IntsAre vs ns) (hx : 0 ≤ x) (hxb : x < 2 ^ 100) (hl : 0 ≤ l) (hlr : l < r) (hr : r ≤ ns.length) (hsz : ns.length ≤ 1000) (hdep : r - l ≤ 2 ^ dep)
    (ret : ∀ vs' h' tk', Fr h₀ L h' m → News h₀ L h' ((d, listOf vs'.toArray k) :: news) → IntsAre vs' (ns.take l.toNat ++ dg (2 ^ n.toNat) (r - l).toNat x ++ ns.drop r.toNat) → Q .none { s with heap := h', toks := tk' }),
    wpAny (model row.row.prog w) A (call (.ref f) [.int x t1, .int l t2, .int r t3]) Q E s := by
  obtain ⟨_, _, _, _, _, bd, _, _, _, _, _, _, _, _, _, _, _, _, _, _, _, hb1, hb2⟩ := hb
  have hb3 := hb1.symm.trans (by k_is)
  cases hb3
  cases hb2
  clear hb1
  intro dep
  induction dep using Nat.strongRecOn with
  | _ dep ih =>
    intro A E s h₀ L m Q vs ns x l r t1 t2 t3 X hc1 Y F N hI hx hxb hl hlr hr hsz hdep ret
    obtain ⟨ha, dp, fr, gd, un⟩ := A
    obtain rfl : ha = none := Y.hh
    have hh := half_facts hlr
    have hp := prod_facts (a := (l + r).fdiv (2 ^ Int.toNat 1) - l) (n := n) (by omega) (by omega) hn hn8
    have hq := fdiv_bits hx hxb (((l + r).fdiv (2 ^ Int.toNat 1) - l) * n).toNat
    refine enterF (binds := [("x", .int x t1), ("L", .int l t2), ("R", .int r t3)]) X Y F N (.tail _ hf) (hc1.imp (.tail _) id) hc2 hc3 (BindsTo.of_eq rfl) (locs rfl) (by decide) rfl rfl rfl ?_
    intro g L' h₁ FG X' Y' F' N' lt
    obtain ⟨p, loose, mean, mg, mb, T'⟩ := X'.top
    have K' := X'.K
    have C1 := X'.c1
    show wpAny _ _ _ _ _ _
    k_fold
    w_strict k_steps
    · dsimp only
      k_unfold
      refine leaveK_ (by assumption) (by assumption) (fun F9 N9 => ret _ _ _ F9 N9 ?_)
      rw [← inner1_base _ hl hr (by assumption)]
      assumption
    · have hne : l + 1 ≠ r := by assumption
      obtain ⟨e, rfl⟩ : ∃ e, dep = e + 1 := by
        cases dep with
        | zero => simp at hdep; omega
        | succ e => exact ⟨e, rfl⟩
      have hpow : (2 : Int) ^ (e + 1) = 2 * 2 ^ e := by rw [Int.pow_succ, Int.mul_comm]
      have hxor := xor_cut hx (((l + r).fdiv (2 ^ Int.toNat 1) - l) * n).toNat
      have hmp := kbt_pos (((l + r).fdiv (2 ^ Int.toNat 1) - l) * n).toNat
      rw [hxor]
      generalize hmid : (l + r).fdiv (2 ^ Int.toNat 1) = mid at *
      have hdv := Int.fdiv_eq_ediv_of_nonneg x (Int.le_of_lt hmp)
      have hlo := (modb hx hmp).1
      have hlo3 := Int.lt_of_le_of_lt (modb hx hmp).2 hxb
      obtain ⟨hup, hup2⟩ := fdivb hx ((mid - l) * n).toNat
      have hup3 := Int.lt_of_le_of_lt hup2 hxb
      obtain ⟨hm1, hm2, hm3, hm4⟩ := mid3 hlr hne hh.2.2 (hpow ▸ hdep)
      have hn0 : 0 ≤ n := Int.le_trans (by decide) hn
      have hm0 : 0 ≤ mid := Int.le_trans hl hh.1
      have hmn : mid ≤ ns.length := Int.le_trans (Int.le_of_lt hm2) hr
      have hstep := inner1_step (ns := ns) (x := x) (l := l) (r := r) (mid := mid) (n := n) hn0 hl hr hm1 hm2
      rw [← hdv] at hstep
      have hlen : (ns.take l.toNat ++ dg (2 ^ n.toNat) (mid - l).toNat (x % 2 ^ ((mid - l) * n).toNat) ++ ns.drop mid.toNat).length = ns.length := by
        rw [List.length_append, List.length_append, List.length_take, List.length_drop, dg_length]; exact len3 hl hh.1 hmn
      refine ih e (Nat.lt_succ_self e) X' (hc1.imp id (FG.keep _ _)) Y' (by assumption) (by assumption) hI hlo hlo3 hl hm1 hmn hsz hm3 ?_
      intro vs1 h1 tk1 F1 N1 I1
      k_steps
      refine ih e (Nat.lt_succ_self e) X' (hc1.imp id (FG.keep _ _)) Y' (by assumption) (by assumption) I1 hup hup3 hm0 hm2 (by rw [hlen]; exact hr) (by rw [hlen]; exact hsz) hm4 ?_
      intro vs2 h2 tk2 F2 N2 I2
      k_steps
      refine leaveK_ F2 N2 (fun F9 N9 => ret _ _ _ F9 N9 ?_)
      rw [← hstep]
      exact I2
end Mine
end
section
theorem Mine.fresh_W2 : True := by
  w_top off
  exact trivial
open PySem PySem.W PyProof.Rows PySem.Calls PySem.Spec
namespace Mine
theorem fillK2 (w : World) : row.name = row.name ∧ Kf w.params = Kf w.params := by
  k_fill
  exact ⟨rfl, rfl⟩
/-- a table of code constants: not grown yet, or with the one code -/
noncomputable def TabOk (B : Addr → Obj → Prop) (q : Str) (l c : Nat) (ps : Array Value) (news : List (Addr × Obj)) : Prop :=
  ps = #[] ∨ ∃ (c' : Addr) (oc : Obj) (cvs : Array Value) (ct : Tok), ps = #[rawInt l, rawInt c, .ref c'] ∧ ((c', oc) ∈ news ∨ B c' oc) ∧ oc.data = .fields cvs ∧ cvs[1]? = some (.str q ct)
theorem TabOk.mono {B B' : Addr → Obj → Prop} {q : Str} {l c : Nat} {ps : Array Value} {news news' : List (Addr × Obj)} (h : TabOk B q l c ps news) (hs : ∀ p ∈ news, p ∈ news') (hk : ∀ b o, B b o → (b, o) ∈ news' ∨ B' b o) : TabOk B' q l c ps news' := by
  rcases h with h | ⟨c', oc, cvs, ct, h1, h2, h3, h4⟩
  · exact .inl h
  · exact .inr ⟨c', oc, cvs, ct, h1, h2.elim (fun h => .inl (hs _ h)) (hk _ _), h3, h4⟩
theorem nsub {h₀ h : Heap} {L : Addr} {a b : List (Addr × Obj)} (N : News h₀ L h a) (hs : ∀ p ∈ b, p ∈ a) : News h₀ L h b := fun p hp => N p (hs p hp)
theorem front2 {h₀ h : Heap} {L : Addr} {a b q : Addr × Obj} {r : List (Addr × Obj)} (N : News h₀ L h (a :: b :: q :: r)) : News h₀ L h (q :: a :: b :: r) :=
  nsub N fun p hp => by
    rcases List.mem_cons.mp hp with h | hp
    · rw [h]; exact .tail _ (.tail _ (.head _))
    · rcases List.mem_cons.mp hp with h | hp
      · rw [h]; exact .head _
      · rcases List.mem_cons.mp hp with h | hp
        · rw [h]; exact .tail _ (.head _)
        · exact .tail _ (.tail _ (.tail _ hp))
theorem front1 {h₀ h : Heap} {L : Addr} {a q : Addr × Obj} {r : List (Addr × Obj)} (N : News h₀ L h (a :: q :: r)) : News h₀ L h (q :: a :: r) :=
  nsub N fun p hp => by
    rcases List.mem_cons.mp hp with h | hp
    · rw [h]; exact .tail _ (.head _)
    · rcases List.mem_cons.mp hp with h | hp
      · rw [h]; exact .head _
      · exact .tail _ (.tail _ hp)
theorem i2d_spec {w : World} {A : Around} {E : Value → Shared → Prop} {s : Shared} {h₀ : Heap} {L : Addr} {m : Str → Option Value} {rest TL : List (Addr × Obj)} {B : Addr → Obj → Prop} {Q : Value → Shared → Prop} {p1 p2 : Array Value} {x n : Int} {t1 t2 : Tok}
    (X : Ok w h₀) (Y : At A L h₀ 12) (F : Fr h₀ L s.heap m) (N : News h₀ L s.heap ((30, tabObj p1) :: (37, tabObj p2) :: rest)) (hp1 : TabOk B (PySem.Str.ofString "_int2digits.<locals>.inner") 32 4 p1 TL) (hTL : ∀ p ∈ TL, p ∈ rest) (hB : ∀ c o, B c o → h₀.get? c = some o) (hap : ∀ p ∈ rest, 37 < p.1)
    (hx : 0 ≤ x) (hxb : x < 2 ^ 100) (hn : 1 ≤ n) (hn8 : n ≤ 8)
    (ret : ∀ d vs k p1' ext h' tk', Fr h₀ L h' m → News h₀ L h' ((30, tabObj p1') :: (37, tabObj p2) :: (d, listOf vs.toArray k) :: (ext ++ rest)) → TabOk B (PySem.Str.ofString "_int2digits.<locals>.inner") 32 4 p1' (ext ++ TL) → (∀ p ∈ ext, 37 < p.1 ∧ ∀ q ∈ rest, q.1 < p.1) → (∀ p ∈ rest, p.1 < d) → 37 < d →
      IntsAre vs (dg (2 ^ n.toNat) ((Builtin.Int.intBits x + n - 1).fdiv n).toNat x) → Q (.ref d) { s with heap := h', toks := tk' }) :
    wpAny (model row.row.prog w) A (call (.ref 35) [.int x t1, .int n t2]) Q E s := by
  obtain ⟨ha, dp, fr, gd, un⟩ := A
  obtain rfl : ha = none := Y.hh
  refine enterC (binds := [("a", .int x t1), ("n", .int n t2)]) (dep := 11) X Y F N (by k_is) (by k_is) (by exact BindsTo.of_eq rfl) (by exact rfl) (by decide +kernel) (by exact rfl) (by exact rfl) (by exact rfl) ?_
  intro g L' h₁ tk cells FG X' Y' F' N' CA lt
  obtain ⟨p, loose, mean, mg, mb, T'⟩ := X'.top
  have K' := X'.K
  have C1 := X'.c1
  have C2 := X'.c2
  obtain ⟨o1, o2, o3, hE, d1, d2, d3⟩ := CellsAre.three CA
  subst hE
  clear CA
  simp only [List.cons_append, List.nil_append] at N'
  have hbits : Builtin.Int.intBits x ≤ 100 := by rw [intBits_le_iff]; omega
  have hk0 : 0 ≤ ((Builtin.Int.intBits x : Int) + n - 1).fdiv n := Int.fdiv_nonneg (by omega) (by omega)
  have hk1 : ((Builtin.Int.intBits x : Int) + n - 1).fdiv n ≤ 107 := by
    rw [Int.fdiv_eq_ediv_of_nonneg _ (by omega)]
    exact Int.le_trans (Int.ediv_le_self _ (by omega)) (by omega)
  have hk0' : -2 ^ 63 ≤ ((Builtin.Int.intBits x : Int) + n - 1).fdiv n := Int.le_trans (by decide) hk0
  have hk1' : ((Builtin.Int.intBits x : Int) + n - 1).fdiv n < 2 ^ 63 := Int.lt_of_le_of_lt hk1 (by decide)
  have hnn : n.natAbs < 1073741824 := nabs_lt (Int.le_trans (by decide) hn) (Int.lt_of_le_of_lt hn8 (by decide))
  have d1 : o1.data = .cell none := d1
  have d2 : o2.data = .cell none := d2
  have d3 : o3.data = .cell (some (.int n t2)) := d3
  have lt0 : ∀ p ∈ rest, p.1 < L' := fun p hp => lt p (.tail _ (.tail _ hp))
  have lt1 : @LT.lt Nat _ 37 L' := lt _ (.tail _ (.head _))
  show wpAny _ _ _ _ _ _
  k_fold
  have hkpos : x ≠ 0 → 1 ≤ ((Builtin.Int.intBits x : Int) + n - 1).fdiv n := by
    intro h
    have hb : ¬ Builtin.Int.intBits x ≤ 0 := by rw [intBits_le_iff]; omega
    rw [Int.fdiv_eq_ediv_of_nonneg _ (by omega)]
    exact (Int.le_ediv_iff_mul_le (by omega)).mpr (by omega)
  have hkzero : x = 0 → ((Builtin.Int.intBits x : Int) + n - 1).fdiv n = 0 := by
    intro h
    have hb : Builtin.Int.intBits x ≤ 0 := by rw [intBits_le_iff]; omega
    rw [Int.fdiv_eq_ediv_of_nonneg _ (by omega)]
    exact Int.ediv_eq_zero_of_lt (by omega) (by omega)
  have hfin : ∀ (vs : List Value) (z : List Int) (k1 : Nat), (k1 : Int) = ((Builtin.Int.intBits x : Int) + n - 1).fdiv n → z.length = k1 → IntsAre vs (z.take (0 : Int).toNat ++ dg (2 ^ n.toNat) ((k1 : Int) - 0).toNat x ++ z.drop (k1 : Int).toNat) → IntsAre vs (dg (2 ^ n.toNat) (((Builtin.Int.intBits x : Int) + n - 1).fdiv n).toNat x) := by
    intro vs z k1 e1 e2 h
    rw [← e1]
    simpa [List.drop_eq_nil_of_le (Nat.le_of_eq e2)] using h
  rcases hp1 with rfl | ⟨c', oc, cvs, ct, rfl, hm, hc2, hc3⟩
  · w_strict k_steps
    · rename_i l' h6 l1a D' h7 i1 n1 s1 e1a e2a e3a l1b h8 o7 d7 f' c' oc' vs' t' ct' dc' h9 tk8 d1' d2' l1c l2 h10 o9 F9 N9 e3 hx0
      have hne : ∀ p ∈ rest, p.1 < D' := allLt_get l1b.2.2.2.2.2.2
      have hn1 : (n1 : Int) = ((Builtin.Int.intBits x : Int) + n - 1).fdiv n := by have := e3a hk0; rwa [show ((0 + 1 : Nat) : Int) = 1 from rfl, Int.one_mul] at this
      have hk2 := hkpos hx0
      have hn107 : n1 ≤ 107 := Int.ofNat_le.mp (by rw [hn1]; exact hk1)
      refine inner1_spec _ ⟨_, _, _, _, _, _, _, _, _, _, _, _, _, _, _, _, _, _, _, _, _, by k_is, rfl⟩ (.head _) d1' d2' (by walk_at "mine deep") d7 (by walk_at "mine deep") e3 (by walk_at "mine deep") d3 (by w_strict k_all) hn hn8 7 X' (.inl (.tail _ (.head _))) (Y'.less (by omega)) F9 (front2 N9) i1 hx hxb (Int.le_refl 0) (by rw [hn1]; exact Int.lt_of_lt_of_le (by decide) hk2) (by rw [e1a]; exact Int.le_refl _) (by rw [e1a]; exact Nat.le_trans hn107 (by decide)) (by rw [Int.sub_zero, hn1]; exact Int.le_trans hk1 (by decide)) ?_
      intro vs2 h2 tk2 F2 N2 I2
      w_strict k_steps
      dsimp only
      (try k_unfold)
      refine leaveK_ F2 (nsub (b := (30, _) :: (37, tabObj p2) :: (D', listOf vs2.toArray 0) :: ([(c', oc')] ++ rest)) N2 (by walk_at "mine sub")) (fun F3 N3 => ret D' vs2 0 _ [(c', oc')] _ _ F3 N3 ?_ ?_ hne l1b.2.2.2.2.2.1 (hfin _ _ _ hn1 e1a I2))
      · exact .inr ⟨c', oc', vs', t', rfl, .inl (.head _), d1', d2'⟩
      · intro p hp
        rw [List.mem_singleton.mp hp]
        exact ⟨l1c.2.2.2.2.2.2.1, allLt_get l1c.2.2.2.2.2.2.2⟩
    · rename_i l' h6 l1a D' h7 i1 n1 s1 e1a e2a e3a l1b h8 o7 d7 f' c' oc' vs' t' ct' dc' h9 tk8 d1' d2' l1c l2 h10 o9 F9 N9 e3 hx0
      have hne : ∀ p ∈ rest, p.1 < D' := allLt_get l1b.2.2.2.2.2.2
      have hz := hkzero (by omega)
      dsimp only
      (try k_unfold)
      refine leaveK_ F9 (nsub (b := (30, _) :: (37, tabObj p2) :: (D', _) :: ([(c', oc')] ++ rest)) N9 (by walk_at "mine sub")) (fun F3 N3 => ret D' _ 0 _ [(c', oc')] _ _ F3 N3 ?_ ?_ hne l1b.2.2.2.2.2.1 ?_)
      · exact .inr ⟨c', oc', vs', t', rfl, .inl (.head _), d1', d2'⟩
      · intro p hp
        rw [List.mem_singleton.mp hp]
        exact ⟨l1c.2.2.2.2.2.2.1, allLt_get l1c.2.2.2.2.2.2.2⟩
      · rw [hz]; exact .nil
  · w_strict k_steps
    · rename_i l' h6 l1a D' h7 i1 n1 s1 e1a e2a e3a l1b h8 o7 d7 f' ct' dc' h9 tk8 l1c h10 o9 F9 N9 e3 hx0
      have hne : ∀ p ∈ rest, p.1 < D' := allLt_get l1b.2.2.2.2.2.2
      have hn1 : (n1 : Int) = ((Builtin.Int.intBits x : Int) + n - 1).fdiv n := by have := e3a hk0; rwa [show ((0 + 1 : Nat) : Int) = 1 from rfl, Int.one_mul] at this
      have hk2 := hkpos hx0
      have hn107 : n1 ≤ 107 := Int.ofNat_le.mp (by rw [hn1]; exact hk1)
      refine inner1_spec _ ⟨_, _, _, _, _, _, _, _, _, _, _, _, _, _, _, _, _, _, _, _, _, by k_is, rfl⟩ (.head _) hc2 hc3 (by walk_at "mine deep") d7 (by walk_at "mine deep") e3 (by walk_at "mine deep") d3 (by w_strict k_all) hn hn8 7 X' (hm.imp (fun h0 => have h := hTL _ h0; by walk_at "mine deep") (fun hb => FG.keep _ _ (hB _ _ hb))) (Y'.less (by omega)) F9 (front1 N9) i1 hx hxb (Int.le_refl 0) (by rw [hn1]; exact Int.lt_of_lt_of_le (by decide) hk2) (by rw [e1a]; exact Int.le_refl _) (by rw [e1a]; exact Nat.le_trans hn107 (by decide)) (by rw [Int.sub_zero, hn1]; exact Int.le_trans hk1 (by decide)) ?_
      intro vs2 h2 tk2 F2 N2 I2
      w_strict k_steps
      dsimp only
      (try k_unfold)
      refine leaveK_ F2 (nsub (b := (30, _) :: (37, tabObj p2) :: (D', listOf vs2.toArray 0) :: ([] ++ rest)) N2 (by walk_at "mine sub")) (fun F3 N3 => ret D' vs2 0 _ [] _ _ F3 N3 ?_ ?_ hne l1b.2.2.2.2.2.1 (hfin _ _ _ hn1 e1a I2))
      · exact .inr ⟨c', oc, cvs, ct, rfl, hm, hc2, hc3⟩
      · intro p hp
        cases hp
    · rename_i l' h6 l1a D' h7 i1 n1 s1 e1a e2a e3a l1b h8 o7 d7 f' ct' dc' h9 tk8 l1c h10 o9 F9 N9 e3 hx0
      have hne : ∀ p ∈ rest, p.1 < D' := allLt_get l1b.2.2.2.2.2.2
      have hz := hkzero (by omega)
      dsimp only
      (try k_unfold)
      refine leaveK_ F9 (nsub (b := (30, _) :: (37, tabObj p2) :: (D', _) :: ([] ++ rest)) N9 (by walk_at "mine sub")) (fun F3 N3 => ret D' _ 0 _ [] _ _ F3 N3 ?_ ?_ hne l1b.2.2.2.2.2.1 ?_)
      · exact .inr ⟨c', oc, cvs, ct, rfl, hm, hc2, hc3⟩
      · intro p hp
        cases hp
      · rw [hz]; exact .nil
end Mine
end
end
local macro_rules | `(tactic| bits_by_make) => `(tactic| assumption)
local macro_rules | `(tactic| walk_at "truthy ref") => `(tactic| (k_here; k_dflt (refine' truthyI ?tN ?tm ?tI ?ts ?_; (case tN => k_asm); (case tm => walk_at "mine deep"); (case tI => assumption); (case ts => omega))))
local macro_rules | `(tactic| walk_at "call builtin:len") => `(tactic| (k_here; k_dflt (refine' lenI ?tN ?tm ?tI ?ts ?_; (case tN => k_asm); (case tm => walk_at "mine deep"); (case tI => assumption); (case ts => omega))))
section
local macro_rules | `(tactic| omega) => `(tactic| first | walk_at "mine short" | lia)
section
theorem Mine.fresh_W3 : True := by
  w_top off
  exact trivial
open PySem PySem.W PyProof.Rows PySem.Calls PySem.Spec
namespace Mine
theorem fillK3 (w : World) : row.name = row.name ∧ Kf w.params = Kf w.params := by
  k_fill
  exact ⟨rfl, rfl⟩
theorem inner2_spec {w : World} {nm : Str} {ps : Arguments} {body : List Stmt} {sc : Scope} {ca ci cn d c' f : Addr} {doc pm ctv : Value} {oc : Obj} {cvs : Array Value} {ct : Tok} {oa oi on : Obj} {k : Nat} {n : Int} {tn : Tok} {vs : List Value} {ns : List Int} (news : List (Addr × Obj))
    (hb : IsInner w nm ps body sc 42 0)
    (hf : (f, fnMade nm (PySem.Str.ofString "_digits2int.<locals>.inner") ps body sc [("n", cn), ("inner", ci), ("digits", ca)] doc pm c' ctv) ∈ news) (hc2 : oc.data = .fields cvs) (hc3 : cvs[1]? = some (.str (PySem.Str.ofString "_digits2int.<locals>.inner") ct))
    (h1 : (ca, oa) ∈ news) (h1d : oa.data = .cell (some (.ref d))) (h2 : (ci, oi) ∈ news) (h2d : oi.data = .cell (some (.ref f))) (h3 : (cn, on) ∈ news) (h3d : on.data = .cell (some (.int n tn)))
    (hd : (d, listOf vs.toArray k) ∈ news) (hI : IntsAre vs ns) (hsz : ns.length ≤ 100) (hn : 1 ≤ n) (hn8 : n ≤ 8) (hdig : ∀ v ∈ ns, 0 ≤ v ∧ v < (2 : Int) ^ n.toNat) : ∀ (dep : Nat) {A : Around} {E : Value → Shared → Prop} {s : Shared} {h₀ : Heap} {L : Addr} {m : Str → Option Value} {Q : Value → Shared → Prop}
    {l r : Int} {t2 t3 : Tok}
    (X : Ok w h₀) (hc1 : (c', oc) ∈ news ∨ h₀.get? c' = some oc) (Y : At A L h₀ (dep + 1)) (F : Fr h₀ L s.heap m) (N : News h₀ L s.heap news) (hl : 0 ≤ l) (hlr : l < r) (hr : r ≤ ns.length) (hdep : r - l ≤ 2 ^ dep)
    (ret : ∀ h' t tk', Fr h₀ L h' m → News h₀ L h' news → Q (.int (un (2 ^ n.toNat) (sl ns l r)) t) { s with heap := h', toks := tk' }),
    wpAny (model row.row.prog w) A (call (.ref f) [.int l t2, .int r t3]) Q E s := by
  obtain ⟨_, _, _, _, _, bd, _, _, _, _, _, _, _, _, _, _, _, _, _, _, _, hb1, hb2⟩ := hb
  have hb3 := hb1.symm.trans (by k_is)
  cases hb3
  cases hb2
  clear hb1
  intro dep
  induction dep using Nat.strongRecOn with
  | _ dep ih =>
    intro A E s h₀ L m Q l r t2 t3 X hc1 Y F N hl hlr hr hdep ret
    obtain ⟨ha, dp, fr, gd, un0⟩ := A
    obtain rfl : ha = none := Y.hh
    have hh := half_facts hlr
    have hp := prod_facts (a := (l + r).fdiv (2 ^ Int.toNat 1) - l) (n := n) (by omega) (by omega) hn hn8
    refine enterF (binds := [("L", .int l t2), ("R", .int r t3)]) X Y F N hf hc1 hc2 hc3 (BindsTo.of_eq rfl) (locs rfl) (by decide) rfl rfl rfl ?_
    intro g L' h₁ FG X' Y' F' N' lt
    obtain ⟨p, loose, mean, mg, mb, T'⟩ := X'.top
    have K' := X'.K
    have C1 := X'.c1
    show wpAny _ _ _ _ _ _
    k_fold
    w_strict k_steps
    · dsimp only
      (try k_unfold)
      simp only [sl_one hl (by assumption : l + 1 = r) hr, un, Int.mul_zero, Int.add_zero] at ret
      exact leaveK_ F' N' (fun F9 N9 => ret _ _ _ F9 N9)
    · have hne : l + 1 ≠ r := by assumption
      obtain ⟨e, rfl⟩ : ∃ e, dep = e + 1 := by
        cases dep with
        | zero => simp at hdep; omega
        | succ e => exact ⟨e, rfl⟩
      have hpow : (2 : Int) ^ (e + 1) = 2 * 2 ^ e := by rw [Int.pow_succ, Int.mul_comm]
      generalize hmid : (l + r).fdiv (2 ^ Int.toNat 1) = mid at *
      obtain ⟨hm1, hm2, hm3, hm4⟩ := mid3 hlr hne hh.2.2 (hpow ▸ hdep)
      have hn0 : 0 ≤ n := Int.le_trans (by decide) hn
      have hm0 : 0 ≤ mid := Int.le_trans hl hh.1
      have hmn : mid ≤ ns.length := Int.le_trans (Int.le_of_lt hm2) hr
      have hub := un_bits (ns := ns) (l := mid) (r := r) (n := n) hn0 hn8 hm0 (Int.le_of_lt hm2) hr hsz hdig
      have hjoin := un_join (ns := ns) (l := l) (mid := mid) (r := r) (n := n) hn0 hl hh.1 (Int.le_of_lt hm2) hr
      refine ih e (Nat.lt_succ_self e) X' (hc1.imp id (FG.keep _ _)) Y' (by assumption) (by assumption) hm0 hm2 hr hm4 ?_
      intro h1 t1 tk1 F1 N1
      w_strict k_steps
      refine ih e (Nat.lt_succ_self e) X' (hc1.imp id (FG.keep _ _)) Y' (by assumption) (by assumption) hl hm1 hmn hm3 ?_
      intro h2 t2 tk2 F2 N2
      w_strict k_steps
      refine leaveK_ F2 N2 (fun F9 N9 => ?_)
      dsimp only
      rw [hjoin]
      exact ret _ _ _ F9 N9
theorem d2i_spec {w : World} {A : Around} {E : Value → Shared → Prop} {s : Shared} {h₀ : Heap} {L : Addr} {m : Str → Option Value} {rest TL : List (Addr × Obj)} {B : Addr → Obj → Prop} {Q : Value → Shared → Prop} {p1 p2 : Array Value} {n : Int} {t2 : Tok} {d : Addr} {vs : List Value} {ns : List Int} {k : Nat}
    (X : Ok w h₀) (Y : At A L h₀ 12) (F : Fr h₀ L s.heap m) (N : News h₀ L s.heap ((30, tabObj p1) :: (37, tabObj p2) :: rest)) (hp2 : TabOk B (PySem.Str.ofString "_digits2int.<locals>.inner") 47 4 p2 TL) (hTL : ∀ p ∈ TL, p ∈ rest) (hB : ∀ c o, B c o → h₀.get? c = some o) (hap : ∀ p ∈ rest, 37 < p.1)
    (hd : (d, listOf vs.toArray k) ∈ rest) (hI : IntsAre vs ns) (hsz : ns.length ≤ 100) (hn : 1 ≤ n) (hn8 : n ≤ 8) (hdig : ∀ v ∈ ns, 0 ≤ v ∧ v < (2 : Int) ^ n.toNat)
    (ret : ∀ p2' ext h' t tk', Fr h₀ L h' m → News h₀ L h' ((30, tabObj p1) :: (37, tabObj p2') :: (ext ++ rest)) → TabOk B (PySem.Str.ofString "_digits2int.<locals>.inner") 47 4 p2' (ext ++ TL) → (∀ p ∈ ext, 37 < p.1 ∧ ∀ q ∈ rest, q.1 < p.1) →
      Q (.int (un (2 ^ n.toNat) ns) t) { s with heap := h', toks := tk' }) :
    wpAny (model row.row.prog w) A (call (.ref 42) [.ref d, .int n t2]) Q E s := by
  obtain ⟨ha, dp, fr, gd, un0⟩ := A
  obtain rfl : ha = none := Y.hh
  refine enterC (binds := [("digits", .ref d), ("n", .int n t2)]) (dep := 11) X Y F N (by k_is) (by k_is) (by exact BindsTo.of_eq rfl) (by exact rfl) (by decide +kernel) (by exact rfl) (by exact rfl) (by exact rfl) ?_
  intro g L' h₁ tk cells FG X' Y' F' N' CA lt
  obtain ⟨p, loose, mean, mg, mb, T'⟩ := X'.top
  have K' := X'.K
  have C1 := X'.c1
  have C2 := X'.c2
  obtain ⟨o1, o2, o3, hE, d1, d2, d3⟩ := CellsAre.three CA
  subst hE
  clear CA
  simp only [List.cons_append, List.nil_append] at N'
  have d1 : o1.data = .cell none := d1
  have d2 : o2.data = .cell (some (.int n t2)) := d2
  have d3 : o3.data = .cell (some (.ref d)) := d3
  have lt0 : ∀ p ∈ rest, p.1 < L' := fun p hp => lt p (.tail _ (.tail _ hp))
  have lt1 : @LT.lt Nat _ 37 L' := lt _ (.tail _ (.head _))
  show wpAny _ _ _ _ _ _
  k_fold
  have hwhole : sl ns 0 ns.length = ns := by unfold sl; simp
  have hempty : ¬ 0 < ns.length → un (2 ^ n.toNat) ns = 0 := by
    intro h
    cases ns with
    | nil => rfl
    | cons => simp at h
  rcases hp2 with rfl | ⟨c', oc, cvs, ct, rfl, hm, hc2, hc3⟩
  · w_strict k_steps
    · rename_i f' c' oc' vs' t' ct' dc' h9 tk8 d1' d2' l1c l2 h10 o9 F9 N9 e3 hx0
      refine inner2_spec _ ⟨_, _, _, _, _, _, _, _, _, _, _, _, _, _, _, _, _, _, _, _, _, by k_is, rfl⟩ (.head _) d1' d2' (by walk_at "mine deep") d3 (by walk_at "mine deep") e3 (by walk_at "mine deep") d2 (by walk_at "mine deep") hI hsz hn hn8 hdig 7 X' (.inl (.tail _ (.head _))) (Y'.less (by omega)) F9 N9 (by omega) (by omega) (by omega) (by omega) ?_
      intro h2 t2 tk2 F2 N2
      (try k_unfold)
      refine leaveK_ F2 (nsub (b := (30, tabObj p1) :: (37, _) :: ([(c', oc')] ++ rest)) N2 (by walk_at "mine sub")) (fun F3 N3 => ?_)
      dsimp only
      rw [hwhole]
      refine ret _ [(c', oc')] _ _ _ F3 N3 ?_ ?_
      · exact .inr ⟨c', oc', vs', t', rfl, .inl (.head _), d1', d2'⟩
      · intro p hp
        rw [List.mem_singleton.mp hp]
        exact ⟨l1c.2.2.2.2.1, allLt_get l1c.2.2.2.2.2⟩
    · rename_i f' c' oc' vs' t' ct' dc' h9 tk8 d1' d2' l1c l2 h10 o9 F9 N9 e3 hx0
      rw [hempty (by simpa using hx0)] at ret
      dsimp only
      (try k_unfold)
      refine leaveK_ F9 (nsub (b := (30, tabObj p1) :: (37, _) :: ([(c', oc')] ++ rest)) N9 (by walk_at "mine sub")) (fun F3 N3 => ?_)
      refine ret _ [(c', oc')] _ _ _ F3 N3 ?_ ?_
      · exact .inr ⟨c', oc', vs', t', rfl, .inl (.head _), d1', d2'⟩
      · intro p hp
        rw [List.mem_singleton.mp hp]
        exact ⟨l1c.2.2.2.2.1, allLt_get l1c.2.2.2.2.2⟩
  · w_strict k_steps
    · rename_i f' ct' dc' h9 tk8 l1c h10 o9 F9 N9 e3 hx0
      refine inner2_spec _ ⟨_, _, _, _, _, _, _, _, _, _, _, _, _, _, _, _, _, _, _, _, _, by k_is, rfl⟩ (.head _) hc2 hc3 (by walk_at "mine deep") d3 (by walk_at "mine deep") e3 (by walk_at "mine deep") d2 (by walk_at "mine deep") hI hsz hn hn8 hdig 7 X' (hm.imp (fun h0 => have h := hTL _ h0; by walk_at "mine deep") (fun hb => FG.keep _ _ (hB _ _ hb))) (Y'.less (by omega)) F9 N9 (by omega) (by omega) (by omega) (by omega) ?_
      intro h2 t2 tk2 F2 N2
      (try k_unfold)
      refine leaveK_ F2 (nsub (b := (30, tabObj p1) :: (37, _) :: ([] ++ rest)) N2 (by walk_at "mine sub")) (fun F3 N3 => ?_)
      dsimp only
      rw [hwhole]
      refine ret _ [] _ _ _ F3 N3 ?_ ?_
      · exact .inr ⟨c', oc, cvs, ct, rfl, hm, hc2, hc3⟩
      · intro p hp; cases hp
    · rename_i f' ct' dc' h9 tk8 l1c h10 o9 F9 N9 e3 hx0
      rw [hempty (by simpa using hx0)] at ret
      dsimp only
      (try k_unfold)
      refine leaveK_ F9 (nsub (b := (30, tabObj p1) :: (37, _) :: ([] ++ rest)) N9 (by walk_at "mine sub")) (fun F3 N3 => ?_)
      refine ret _ [] _ _ _ F3 N3 ?_ ?_
      · exact .inr ⟨c', oc, cvs, ct, rfl, hm, hc2, hc3⟩
      · intro p hp; cases hp
end Mine
end
end
local macro_rules | `(tactic| walk_at "execs cons") => `(tactic| (refine wpAny_execs_cons ?_; k_fold))
local macro_rules | `(tactic| walk_at "mine core") => `(tactic| (first | (k_unfold; (try dsimp only)) | (k_end; wrow_close) | walk1 | (dsimp only; walk1) | (leave1; try dsimp only)))
theorem Mine.st_0 (h : False) : wpAny x1 x2 (exec (Stmt.While x3 x4 x5 x6) x7) x8 x9 x10 := h.elim
theorem Mine.st_1 (h : False) : wpAny x1 x2 (exec (Stmt.For x3 x4 x5 x6 x7) x8) x9 x10 x11 := h.elim
theorem Mine.st_2 (h : False) : wpAny x1 x2 (call (Value.type "zip") x3) x4 x5 x6 := h.elim
theorem Mine.st_3 (h : False) : wpAny x1 x2 (call (Value.type "reversed") x3) x4 x5 x6 := h.elim
theorem Mine.st_4 (h : False) : wpAny x1 x2 (call (Value.type "enumerate") x3) x4 x5 x6 := h.elim
theorem Mine.st_5 (h : False) : wpAny x1 x2 (eval (PySem.Expr.ListComp x3 x4 x5 x6) x7) x8 x9 x10 := h.elim
theorem Mine.st_6 (h : False) : wpAny x1 x2 (exec (Stmt.Assign x3 (PySem.Expr.ListComp x4 x5 x6 x7) x8) x9) x10 x11 x12 := h.elim
theorem Mine.st_7 (h : False) : LCg.CompSrc x1 x2 x3 x4 x5 x6 x7 x8 x9 x10 x11 x12 x13 x14 := h.elim
theorem Mine.st_8 (h : False) : LCt.CompSrcT x1 x2 x3 x4 x5 x6 x7 x8 x9 x10 x11 x12 x13 x14 x15 := h.elim
theorem Mine.st_9 (h : False) : wpAny x1 x2 (call (Value.builtin "dict.get") x3) x4 x5 x6 := h.elim
theorem Mine.st_10 (h : False) : wpAny x1 x2 (call (Value.builtin "hex") x3) x4 x5 x6 := h.elim
theorem Mine.st_11 (h : False) : wpAny x1 x2 (call (Value.builtin "str.join") x3) x4 x5 x6 := h.elim
theorem Mine.st_12 (h : False) : wpAny x1 x2 (compareOp x3 x4 x5) x6 x7 x8 := h.elim
theorem Mine.st_13 (h : False) : wpAny x1 x2 (call (Value.builtin "str.split") x3) x4 x5 x6 := h.elim
theorem Mine.st_14 (h : False) : wpAny x1 x2 (subscriptTail x3 x4 x5 x6) x7 x8 x9 := h.elim
theorem Mine.st_15 (h : False) : wpAny x1 x2 (compareOp x3 (Value.ref x4) (Value.ref x5)) x6 x7 x8 := h.elim
theorem Mine.st_16 (h : False) : wpAny x1 x2 (call (Value.ref x3) x4) x5 x6 x7 := h.elim
local macro_rules | `(tactic| walk_at "mine no 0") => `(tactic| fail_if_success (with_reducible refine st_0 ?_))
local macro_rules | `(tactic| walk_at "mine no 1") => `(tactic| fail_if_success (with_reducible refine st_1 ?_))
local macro_rules | `(tactic| walk_at "mine no 2") => `(tactic| fail_if_success (with_reducible refine st_2 ?_))
local macro_rules | `(tactic| walk_at "mine no 3") => `(tactic| fail_if_success (with_reducible refine st_3 ?_))
local macro_rules | `(tactic| walk_at "mine no 4") => `(tactic| fail_if_success (with_reducible refine st_4 ?_))
local macro_rules | `(tactic| walk_at "mine no 5") => `(tactic| fail_if_success (with_reducible refine st_5 ?_))
local macro_rules | `(tactic| walk_at "mine no 6") => `(tactic| fail_if_success (with_reducible refine st_6 ?_))
local macro_rules | `(tactic| walk_at "mine no 7") => `(tactic| fail_if_success (with_reducible refine st_7 ?_))
local macro_rules | `(tactic| walk_at "mine no 8") => `(tactic| fail_if_success (with_reducible refine st_8 ?_))
local macro_rules | `(tactic| walk_at "mine no 9") => `(tactic| fail_if_success (with_reducible refine st_9 ?_))
local macro_rules | `(tactic| walk_at "mine no 10") => `(tactic| fail_if_success (with_reducible refine st_10 ?_))
local macro_rules | `(tactic| walk_at "mine no 11") => `(tactic| fail_if_success (with_reducible refine st_11 ?_))
local macro_rules | `(tactic| walk_at "mine no 12") => `(tactic| fail_if_success (with_reducible refine st_12 ?_))
local macro_rules | `(tactic| walk_at "mine no 13") => `(tactic| fail_if_success (with_reducible refine st_13 ?_))
local macro_rules | `(tactic| walk_at "mine no 14") => `(tactic| fail_if_success (with_reducible refine st_14 ?_))
local macro_rules | `(tactic| walk_at "mine no 15") => `(tactic| fail_if_success (with_reducible refine st_15 ?_))
local macro_rules | `(tactic| walk_at "mine no 16") => `(tactic| fail_if_success (with_reducible refine st_16 ?_))
section
local macro_rules | `(tactic| omega) => `(tactic| first | walk_at "mine short" | lia)
section
theorem Mine.fresh_W4 : True := by
  w_top off
  exact trivial
open PySem PySem.W PyProof.Rows PySem.Calls PySem.Spec
namespace Mine
theorem fillK4 (w : World) : row.name = row.name ∧ Kf w.params = Kf w.params := by
  k_fill
  exact ⟨rfl, rfl⟩
theorem fits_small {x : Int} (h0 : 0 ≤ x) (h1 : x < 1000) : Builtin.List.listFitsIndex x = true := by
  simp [Builtin.List.listFitsIndex]; omega
local macro_rules | `(tactic| walk_at "call builtin:list.insert") => `(tactic| (k_here; k_dflt (refine' kl_insert ?F ?N ?f rfl ?U ?z ?_; (case F => k_asm); (case N => k_asm); (case U => k_upd); (case f => exact fits_small (by omega) (by omega)); (case z => (simp only [kl_ins_length, List.toList_toArray, List.length_cons, List.length_nil]; decide))); intro h' F' N'; (try k_sweep)))
theorem apart_of {g h : Heap} {L d : Addr} {o : Obj} {stay news : List (Addr × Obj)} (gs : ∀ p ∈ stay, g.get? p.1 = some p.2) (N : News g L h news) (hm : (d, o) ∈ news) : ∀ p ∈ stay, p.1 ≠ d := fun p hp e => by
  have h1 := gs p hp
  rw [e, (N _ hm).2.2] at h1
  cases h1
/-- a list of ints with one put in -/
noncomputable def insI (l : List Int) (i y : Int) : List Int := l.take (min i.toNat l.length) ++ y :: l.drop (min i.toNat l.length)
theorem ints_take {vs : List Value} {ns : List Int} (h : IntsAre vs ns) : ∀ k : Nat, IntsAre (vs.take k) (ns.take k) := by
  induction h with
  | nil => intro k; simp; exact .nil
  | cons i t _ ih => intro k; cases k with
    | zero => exact .nil
    | succ k => exact .cons i t (ih k)
theorem ints_drop {vs : List Value} {ns : List Int} (h : IntsAre vs ns) : ∀ k : Nat, IntsAre (vs.drop k) (ns.drop k) := by
  induction h with
  | nil => intro k; simp; exact .nil
  | cons i t h ih => intro k; cases k with
    | zero => exact .cons i t h
    | succ k => exact ih k
theorem ints_ins {vs : List Value} {ns : List Int} (h : IntsAre vs ns) {i y : Int} (t : Tok) (hi : 0 ≤ i) : IntsAre (kl_ins vs i (.int y t)) (insI ns i y) := by
  unfold kl_ins insI
  have e : ¬ i < 0 := by omega
  simp only [if_neg e, h.length]
  exact IntsAre.append (ints_take h _) (.cons y t (ints_drop h _))
/-- the 24 orders -/
noncomputable def orders : List (List Int) := (([0, 1] : List Int).flatMap fun i => ([0, 1, 2] : List Int).flatMap fun j => ([0, 1, 2, 3] : List Int).map fun k => insI (insI (insI [0] i 1) j 2) k 3)
theorem mem_orders {i j k : Int} (hi : 0 ≤ i ∧ i < 2) (hj : 0 ≤ j ∧ j < 3) (hk : 0 ≤ k ∧ k < 4) : insI (insI (insI [0] i 1) j 2) k 3 ∈ orders := by
  unfold orders
  refine List.mem_flatMap.mpr ⟨i, ?_, List.mem_flatMap.mpr ⟨j, ?_, List.mem_map.mpr ⟨k, ?_, rfl⟩⟩⟩ <;> simp <;> omega
theorem orders_are {o : List Int} (h : o ∈ orders) : o.length = 4 ∧ (∀ v ∈ o, 0 ≤ v ∧ v < 4) := by
  have key : ∀ o ∈ orders, o.length = 4 ∧ (∀ v ∈ o, 0 ≤ v ∧ v < 4) := by decide +kernel
  exact key o h
theorem drawn_spec {w : World} {A : Around} {E : Value → Shared → Prop} {s : Shared} {h₀ : Heap} {L : Addr} {m : Str → Option Value} {rest : List (Addr × Obj)} {Q : Value → Shared → Prop} {x : Int} {t : Tok}
    (X : Ok w h₀) (Y : At A L h₀ 20) (F : Fr h₀ L s.heap m) (N : News h₀ L s.heap rest)
    (hx : 0 ≤ x)
    (ret : ∀ D lo ovs os ok b a t1 t2 h' tk', Fr h₀ L h' m → News h₀ L h' ((D, { cls := .type "tuple", data := .seq #[.ref lo, .int b t1, .int a t2] }) :: (lo, listOf ovs.toArray ok) :: rest) → IntsAre ovs os → os ∈ orders → 0 ≤ b → b ≤ 16 → 0 ≤ a → a < 16 → (∀ p ∈ rest, p.1 ≠ lo ∧ p.1 ≠ D) → @LT.lt Nat _ lo D → Q (.ref D) { s with heap := h', toks := tk' }) :
    wpAny (model row.row.prog w) A (call (.ref 101) [.int x t]) Q E s := by
  obtain ⟨ha, dp, fr, gd, un0⟩ := A
  obtain rfl : ha = none := Y.hh
  refine enterM (mu := []) (stay := rest) (binds := [("left", .int x t)]) (dep := 19) X Y F News.nil N (fun _ _ _ h => nomatch h) (by k_is) (by k_is) (by exact BindsTo.of_eq rfl) (by exact locs rfl) (by decide) (by exact rfl) (by exact rfl) (by exact rfl) ?_
  intro g L' h₁ X' Y' gk gs F' N' lt1 lt2
  obtain ⟨p, loose, mean, mg, mb, T'⟩ := X'.top
  have K' := X'.K
  have f1 : 0 ≤ x.fmod (1 + 1) ∧ x.fmod (1 + 1) < 2 := fmodb _ (by decide)
  have f2 : 0 ≤ (x.fdiv (1 + 1)).fmod (2 + 1) ∧ (x.fdiv (1 + 1)).fmod (2 + 1) < 3 := fmodb _ (by decide)
  have f3 : 0 ≤ ((x.fdiv (1 + 1)).fdiv (2 + 1)).fmod (3 + 1) ∧ ((x.fdiv (1 + 1)).fdiv (2 + 1)).fmod (3 + 1) < 4 := fmodb _ (by decide)
  have f4 : ∀ y : Int, 0 ≤ y.fmod 17 ∧ y.fmod 17 ≤ 16 := fun y => ⟨(fmodb y (by decide)).1, Int.le_of_lt_add_one (fmodb y (k := 17) (by decide)).2⟩
  have f5 : ∀ y : Int, 0 ≤ y.fmod 16 ∧ y.fmod 16 < 16 := fun y => fmodb y (by decide)
  show wpAny _ _ _ _ _ _
  k_fold
  w_strict k_steps
  show LeaveM h₀ L m g rest Q _ _
  rename_i h9 F9 N9 l9
  refine leaveM F9 (nsub (b := [_, _]) N9 (List.forall_mem_cons.mpr ⟨.head _, List.forall_mem_cons.mpr ⟨.tail _ (.tail _ (.head _)), List.forall_mem_nil _⟩⟩)) (fun F3 N3 => ret _ _ _ _ _ _ _ _ _ _ _ F3 N3 (ints_ins (ints_ins (ints_ins (.cons 0 _ .nil) _ f1.1) _ f2.1) _ f3.1) (mem_orders f1 f2 f3) (f4 _).1 (f4 _).2 (f5 _).1 (f5 _).2 ?_ l9.2)
  exact fun p hp => ⟨apart_of gs N9 (.tail _ (.tail _ (.head _))) p hp, apart_of gs N9 (.head _) p hp⟩
end Mine
end
local macro_rules | `(tactic| walk_at "mine pad") => `(tactic| fail "pad")
local macro_rules | `(tactic| walk_at "mine pad") => `(tactic| fail "pad")
section
theorem Mine.fresh_W5 : True := by
  w_top off
  exact trivial
open PySem PySem.W PyProof.Rows PySem.Calls PySem.Spec
namespace Mine
theorem fillK5 (w : World) : row.name = row.name ∧ Kf w.params = Kf w.params := by
  k_fill
  exact ⟨rfl, rfl⟩
/-- the list without what came before -/
noncomputable def ddp (ns : List Int) : List Int := ns.foldl step_dedup []
theorem firstMet_ddp (ns : List Int) : firstMet (fun i => ns.getD i 0) ns.length = ddp ns := by
  unfold firstMet ddp
  congr 1
  apply List.ext_getElem
  · simp
  · intro i h1 h2; simp [List.getD]; simp at h1; rw [List.getElem?_eq_getElem h1]; rfl
theorem setL {prog : Program} {w : World} {A : Around} {E : Value → Shared → Prop} {s : Shared} {h₀ : Heap} {L l : Addr} {m : Str → Option Value} {news : List (Addr × Obj)} {vs : List Value} {ns : List Int} {k : Nat} {Q : Value → Shared → Prop}
    (F : Fr h₀ L s.heap m) (N : News h₀ L s.heap news) (hh : A.handled = none) (hm : (l, listOf vs.toArray k) ∈ news) (hi : IntsAre vs ns) (hb : ns.length ≤ 1000)
    (h : ∀ D h' (tk : Nat) o, Fr h₀ L h' m → News h₀ L h' ((D, o) :: news) → o.SetObjOf (intKind prog w) (fun k' => (ddp ns).any (· == k')) (ddp ns).length → (∀ p ∈ news, p.1 < D) → (ddp ns).length ≤ ns.length → Q (.ref D) { s with heap := h', toks := tk }) :
    wpAny (model prog w) A (call (.type "set") [.ref l]) Q E s := by
  have hvn := hi.length
  have hsz : vs.toArray.size = vs.length := List.size_toArray
  refine PySem.call_set_list (items := vs.toArray) (ns := ns) hh (News.isList N hm) (by simpa using hi) (by rw [hsz]; unfold scanBound; omega) fun h' tk hS hk => ?_
  rw [hsz, hvn, firstMet_ddp] at hS
  obtain ⟨o, ho, hso⟩ := hS.objOf
  obtain ⟨oL, _, _, hL, _⟩ := F.ns
  have hLlt : L < s.heap.objs.size := Heap.lt_size hL
  have hle : (ddp ns).length ≤ ns.length := by rw [← firstMet_ddp]; exact firstMet_length_le _ _
  refine h _ h' tk o ⟨F.ns.at' fun o' e => hk L o' hLlt e, fun b o' e => hk b o' (Heap.lt_size (F.keep b o' e)) (F.keep b o' e), F.above⟩ (fun p hp => ?_) hso (fun p hp => Heap.lt_size (N p hp).1) hle
  rcases List.mem_cons.mp hp with rfl | hp
  · refine ⟨ho, Nat.ne_of_gt hLlt, ?_⟩
    cases hq : h₀.get? s.heap.objs.size with
    | none => rfl
    | some o' => exact absurd (Heap.lt_size (F.keep _ _ hq)) (Nat.lt_irrefl _)
  · exact ⟨hk _ _ (Heap.lt_size (N p hp).1) (N p hp).1, (N p hp).2.1, (N p hp).2.2⟩
local macro_rules | `(tactic| walk_at "call type:set cons nil") => `(tactic| (k_here; k_dflt (refine' setL ?F ?N ?h ?m ?i ?b ?_; (case F => k_asm); (case N => k_asm); (case h => exact rfl); (case m => walk_at "mine deep"); (case i => assumption); (case b => (simp only [List.length_map]; omega))); intro D' h' tk' o' F' N' hS' l1 hle'; (try k_lt l1); (simp only [List.length_map] at hle')))
/-- how many things a set has -/
noncomputable def popI (one : Int) : Int := (List.map (fun k' => Builtin.bitAnd (one.fdiv (2 ^ k'.toNat)) 1) (rangeKs 0 ((4 : Int) - 0).toNat)).sum
theorem popI_le {one : Int} (h0 : 0 ≤ one) (h1 : one < 16) : 0 ≤ popI one ∧ popI one ≤ 4 := by
  have key : ∀ n : Fin 16, 0 ≤ popI (n.val : Int) ∧ popI (n.val : Int) ≤ 4 := by decide +kernel
  obtain ⟨n, rfl⟩ := Int.eq_ofNat_of_zero_le h0
  exact key ⟨n, by omega⟩
noncomputable def cutW (one : Int) (os : List Int) : Bool := ((ddp (os.map fun k => Builtin.bitAnd one k)).length : Int) == 1 * 2 ^ (popI one).toNat
theorem cutw_spec {w : World} {A : Around} {E : Value → Shared → Prop} {s : Shared} {h₀ : Heap} {L : Addr} {m : Str → Option Value} {rest : List (Addr × Obj)} {Q : Value → Shared → Prop} {one : Int} {t : Tok} {lo : Addr} {ovs : List Value} {os : List Int} {ok : Nat}
    (X : Ok w h₀) (Y : At A L h₀ 20) (F : Fr h₀ L s.heap m) (N : News h₀ L s.heap rest)
    (ho : (lo, listOf ovs.toArray ok) ∈ rest ∨ h₀.get? lo = some (listOf ovs.toArray ok)) (hO : IntsAre ovs os) (hos : os.length ≤ 16) (hx : 0 ≤ one) (hxb : one < 16)
    (ret : ∀ h' tk', Fr h₀ L h' m → News h₀ L h' rest → Q (.bool (cutW one os)) { s with heap := h', toks := tk' }) :
    wpAny (model row.row.prog w) A (call (.ref 140) [.int one t, .ref lo]) Q E s := by
  obtain ⟨ha, dp, fr, gd, un0⟩ := A
  obtain rfl : ha = none := Y.hh
  refine enterMC (mu := []) (stay := rest) (binds := [("one", .int one t), ("family", .ref lo)]) (dep := 19) X Y F News.nil N (fun _ _ _ h => nomatch h) (by k_is) (by k_is) (by exact BindsTo.of_eq rfl) (by exact rfl) (by decide +kernel) (by exact rfl) (by exact rfl) (by exact rfl) ?_
  intro g L' h₁ tk cells X' Y' gk gs F' N' CA lt1 lt2
  obtain ⟨o1, hE, d1⟩ := CellsAre.one CA
  subst hE
  clear CA
  simp only [List.cons_append, List.nil_append] at N'
  obtain ⟨p, loose, mean, mg, mb, T'⟩ := X'.top
  have K' := X'.K
  have hLlo : g.IsList lo ovs.toArray := ⟨_, ho.elim (gs _) (gk _ _), rfl, _, rfl⟩
  have d1 : o1.data = .cell (some (.int one t)) := d1
  have hpop := popI_le hx hxb
  unfold popI at hpop
  show wpAny _ _ _ _ _ _
  k_fold
  w_strict k_steps
  show LeaveM h₀ L m g rest Q _ _
  refine leaveM (by assumption) News.nil (fun F3 N3 => ret _ _ F3 N3)
end Mine
end
local macro_rules | `(tactic| walk_at "mine pad") => `(tactic| fail "pad")
local macro_rules | `(tactic| walk_at "mine pad") => `(tactic| fail "pad")
section
theorem Mine.fresh_W6 : True := by
  w_top off
  exact trivial
open PySem PySem.W PyProof.Rows PySem.Calls PySem.Spec
namespace Mine
theorem fillK6 (w : World) : row.name = row.name ∧ Kf w.params = Kf w.params := by
  k_fill
  exact ⟨rfl, rfl⟩
local macro_rules | `(tactic| walk_at "mine steps") => `(tactic| w_strict (repeat' (walk_at "mine no 0"; walk_at "mine no 1"; walk_at "mine core")))
theorem fr1 {h₀ h : Heap} {L : Addr} {m : Str → Option Value} {n1 : Str} {v1 : Value} (h1 : m n1 = some v1) (F : Fr h₀ L h m) : Fr h₀ L h (fun y => if y = n1 then some v1 else m y) := by
  have e : (fun y => if y = n1 then some v1 else m y) = m := by
    funext y
    by_cases c1 : y = n1
    · rw [if_pos c1, c1, h1]
    rw [if_neg c1]
  rw [e]; exact F
theorem fr2 {h₀ h : Heap} {L : Addr} {m : Str → Option Value} {n1 n2 : Str} {v1 v2 : Value} (h1 : m n1 = some v1) (h2 : m n2 = some v2) (F : Fr h₀ L h m) : Fr h₀ L h (fun y => if y = n1 then some v1 else if y = n2 then some v2 else m y) := by
  have e : (fun y => if y = n1 then some v1 else if y = n2 then some v2 else m y) = m := by
    funext y
    by_cases c1 : y = n1
    · rw [if_pos c1, c1, h1]
    rw [if_neg c1]
    by_cases c2 : y = n2
    · rw [if_pos c2, c2, h2]
    rw [if_neg c2]
  rw [e]; exact F
theorem fr3 {h₀ h : Heap} {L : Addr} {m : Str → Option Value} {n1 n2 n3 : Str} {v1 v2 v3 : Value} (h1 : m n1 = some v1) (h2 : m n2 = some v2) (h3 : m n3 = some v3) (F : Fr h₀ L h m) : Fr h₀ L h (fun y => if y = n1 then some v1 else if y = n2 then some v2 else if y = n3 then some v3 else m y) := by
  have e : (fun y => if y = n1 then some v1 else if y = n2 then some v2 else if y = n3 then some v3 else m y) = m := by
    funext y
    by_cases c1 : y = n1
    · rw [if_pos c1, c1, h1]
    rw [if_neg c1]
    by_cases c2 : y = n2
    · rw [if_pos c2, c2, h2]
    rw [if_neg c2]
    by_cases c3 : y = n3
    · rw [if_pos c3, c3, h3]
    rw [if_neg c3]
  rw [e]; exact F
theorem fr4 {h₀ h : Heap} {L : Addr} {m : Str → Option Value} {n1 n2 n3 n4 : Str} {v1 v2 v3 v4 : Value} (h1 : m n1 = some v1) (h2 : m n2 = some v2) (h3 : m n3 = some v3) (h4 : m n4 = some v4) (F : Fr h₀ L h m) : Fr h₀ L h (fun y => if y = n1 then some v1 else if y = n2 then some v2 else if y = n3 then some v3 else if y = n4 then some v4 else m y) := by
  have e : (fun y => if y = n1 then some v1 else if y = n2 then some v2 else if y = n3 then some v3 else if y = n4 then some v4 else m y) = m := by
    funext y
    by_cases c1 : y = n1
    · rw [if_pos c1, c1, h1]
    rw [if_neg c1]
    by_cases c2 : y = n2
    · rw [if_pos c2, c2, h2]
    rw [if_neg c2]
    by_cases c3 : y = n3
    · rw [if_pos c3, c3, h3]
    rw [if_neg c3]
    by_cases c4 : y = n4
    · rw [if_pos c4, c4, h4]
    rw [if_neg c4]
  rw [e]; exact F
theorem fr5 {h₀ h : Heap} {L : Addr} {m : Str → Option Value} {n1 n2 n3 n4 n5 : Str} {v1 v2 v3 v4 v5 : Value} (h1 : m n1 = some v1) (h2 : m n2 = some v2) (h3 : m n3 = some v3) (h4 : m n4 = some v4) (h5 : m n5 = some v5) (F : Fr h₀ L h m) : Fr h₀ L h (fun y => if y = n1 then some v1 else if y = n2 then some v2 else if y = n3 then some v3 else if y = n4 then some v4 else if y = n5 then some v5 else m y) := by
  have e : (fun y => if y = n1 then some v1 else if y = n2 then some v2 else if y = n3 then some v3 else if y = n4 then some v4 else if y = n5 then some v5 else m y) = m := by
    funext y
    by_cases c1 : y = n1
    · rw [if_pos c1, c1, h1]
    rw [if_neg c1]
    by_cases c2 : y = n2
    · rw [if_pos c2, c2, h2]
    rw [if_neg c2]
    by_cases c3 : y = n3
    · rw [if_pos c3, c3, h3]
    rw [if_neg c3]
    by_cases c4 : y = n4
    · rw [if_pos c4, c4, h4]
    rw [if_neg c4]
    by_cases c5 : y = n5
    · rw [if_pos c5, c5, h5]
    rw [if_neg c5]
  rw [e]; exact F
/-- how many come before the place of x -/
theorem count_at {os : List Int} {k : Nat} (P : Int → Bool) (hk : k ≤ os.length) (h1 : ∀ i, i < k → P (os.getD i 0) = true) (h2 : ∀ i, k ≤ i → i < os.length → P (os.getD i 0) = false) : (os.filter P).length = k := by
  have e : os = os.take k ++ os.drop k := (List.take_append_drop k os).symm
  have a : (os.take k).filter P = os.take k := by
    apply List.filter_eq_self.mpr
    intro v hv
    obtain ⟨i, hi, rfl⟩ := List.getElem_of_mem hv
    have hi' : i < k := by simp at hi; omega
    have := h1 i hi'
    rw [List.getD_eq_getElem?_getD, List.getElem?_eq_getElem (by omega)] at this
    simpa using this
  have b : (os.drop k).filter P = [] := by
    apply List.filter_eq_nil_iff.mpr
    intro v hv
    obtain ⟨i, hi, rfl⟩ := List.getElem_of_mem hv
    have hi' : k + i < os.length := by simp at hi; omega
    have := h2 (k + i) (by omega) hi'
    rw [List.getD_eq_getElem?_getD, List.getElem?_eq_getElem hi'] at this
    simpa using this
  rw [e, List.filter_append, a, b]
  simp; omega
theorem sorted_le {os : List Int} (hs : os.Pairwise (· < ·)) {i j : Nat} (hij : i ≤ j) (hj : j < os.length) : os.getD i 0 ≤ os.getD j 0 := by
  rcases Nat.eq_or_lt_of_le hij with rfl | hlt
  · exact Int.le_refl _
  · have := List.pairwise_iff_getElem.mp hs i j (by omega) hj hlt
    rw [List.getD_eq_getElem?_getD, List.getD_eq_getElem?_getD, List.getElem?_eq_getElem (by omega), List.getElem?_eq_getElem hj]
    simpa using Int.le_of_lt this
theorem bis_mid {l r : Int} : l < r → l ≤ (l + r).fdiv 2 ∧ (l + r).fdiv 2 < r := by
  intro h
  rw [Int.fdiv_eq_ediv_of_nonneg _ (by decide)]
  omega
/-- the state of a search by halves -/
noncomputable def BisJ (P : Int → Bool) (os : List Int) (lo : Addr) (x : Int) (t : Tok) (n : Nat) (m : Str → Option Value) (nx : List (Addr × Obj)) : Prop :=
  nx = [] ∧ ∃ (l h : Int) (t1 t2 : Tok), n = (h - l).toNat ∧ m "lo" = some (.int l t1) ∧ m "hi" = some (.int h t2) ∧ m "a" = some (.ref lo) ∧ m "x" = some (.int x t) ∧ 0 ≤ l ∧ l ≤ h ∧ h ≤ os.length ∧ (∀ i : Nat, i < l.toNat → P (os.getD i 0) = true) ∧ (∀ i : Nat, h.toNat ≤ i → i < os.length → P (os.getD i 0) = false)
theorem BisJ.start {P : Int → Bool} {os : List Int} {lo : Addr} {x : Int} {t t1 t2 : Tok} {m : Str → Option Value} (h1 : m "lo" = some (.int 0 t1)) (h2 : m "hi" = some (.int os.length t2)) (h3 : m "a" = some (.ref lo)) (h4 : m "x" = some (.int x t)) : BisJ P os lo x t os.length m [] :=
  ⟨rfl, 0, os.length, t1, t2, by omega, h1, h2, h3, h4, by omega, by omega, by omega, fun i h => by omega, fun i h h' => by omega⟩
theorem bisl_spec {w : World} {A : Around} {E : Value → Shared → Prop} {s : Shared} {h₀ : Heap} {L : Addr} {m : Str → Option Value} {rest : List (Addr × Obj)} {Q : Value → Shared → Prop} {x : Int} {t : Tok} {lo : Addr} {ovs : List Value} {os : List Int} {ok : Nat}
    (X : Ok w h₀) (Y : At A L h₀ 20) (F : Fr h₀ L s.heap m) (N : News h₀ L s.heap rest)
    (ho : (lo, listOf ovs.toArray ok) ∈ rest ∨ h₀.get? lo = some (listOf ovs.toArray ok)) (hO : IntsAre ovs os) (hos : os.length ≤ 16) (hsort : os.Pairwise (· < ·))
    (ret : ∀ h' t' tk', Fr h₀ L h' m → News h₀ L h' rest → Q (.int (os.filter (fun v => decide (v < x))).length t') { s with heap := h', toks := tk' }) :
    wpAny (model row.row.prog w) A (call (.ref 74) [.ref lo, .int x t]) Q E s := by
  obtain ⟨ha, dp, fr, gd, un0⟩ := A
  obtain rfl : ha = none := Y.hh
  refine enterM (mu := []) (stay := rest) (binds := [("a", .ref lo), ("x", .int x t), ("lo", .int 0 _), ("hi", .none), ("key", .none)]) (dep := 19) X Y F News.nil N (fun _ _ _ h => nomatch h) (by k_is) (by k_is) (by exact kp_binds (X.K.keeps F.keep) (fun _ => rfl)) (by exact locs rfl) (by decide) (by exact rfl) (by exact rfl) (by exact rfl) ?_
  intro g L' h₁ X' Y' gk gs F' N' lt1 lt2
  obtain ⟨p, loose, mean, mg, mb, T'⟩ := X'.top
  have K' := X'.K
  have hLlo : g.IsList lo ovs.toArray := ⟨_, ho.elim (gs _) (gk _ _), rfl, _, rfl⟩
  show wpAny _ _ _ _ _ _
  k_fold
  walk_at "mine steps"
  refine' While_inv2 (BisJ (fun v => decide (v < x)) os lo x t) ?F ?N ?J ?_ ?hE
  case F => k_asm
  case N => k_asm
  case J => exact BisJ.start rfl rfl rfl rfl
  case hE => passes_own
  intro n9 m9 nx9 h9 tk9 F9 N9 J9
  obtain ⟨rfl, l9, r9, t9, u9, hn9, ha9, hb9, hc9, hd9, hl9, hlr9, hr9, hlt9, hgt9⟩ := J9
  replace F9 := fr4 ha9 hb9 hc9 hd9 F9
  have hmid := bis_mid (l := l9) (r := r9)
  w_strict k_steps
  · have hlr : l9 < r9 := by assumption
    have hm := hmid hlr
    have hb := bis_nums hl9 hm.1 hm.2 hr9 hn9
    have hc : (fun v => decide (v < x)) (os.getD ((l9 + r9).fdiv 2).toNat 0) = true := by simpa using (by assumption : os.getD ((l9 + r9).fdiv 2).toNat 0 < x)
    refine ⟨_, _, _, [], (r9 - ((l9 + r9).fdiv 2 + 1)).toNat, rfl, by assumption, by assumption, hb.1, rfl, (l9 + r9).fdiv 2 + 1, r9, _, _, rfl, rfl, rfl, rfl, rfl, hb.2.2.1, hb.2.2.2.1, hr9, fun i hi => ?_, hgt9⟩
    have := sorted_le hsort (i := i) (j := ((l9 + r9).fdiv 2).toNat) (hb.2.2.2.2.2.2 i hi) hb.2.2.2.2.1
    simp only [decide_eq_true_eq, Bool.not_eq_true', decide_eq_false_iff_not] at hc ⊢
    omega
  · have hlr : l9 < r9 := by assumption
    have hm := hmid hlr
    have hb := bis_nums hl9 hm.1 hm.2 hr9 hn9
    have hc : (fun v => decide (v < x)) (os.getD ((l9 + r9).fdiv 2).toNat 0) = false := by simpa using (by assumption : ¬ os.getD ((l9 + r9).fdiv 2).toNat 0 < x)
    refine ⟨_, _, _, [], ((l9 + r9).fdiv 2 - l9).toNat, rfl, by assumption, by assumption, hb.2.1, rfl, l9, (l9 + r9).fdiv 2, _, _, rfl, rfl, rfl, rfl, rfl, hl9, hm.1, hb.2.2.2.2.2.1, hlt9, fun i hi hi2 => ?_⟩
    have := sorted_le hsort (i := ((l9 + r9).fdiv 2).toNat) (j := i) (by omega) (by omega)
    simp only [decide_eq_false_iff_not, Bool.not_eq_false', decide_eq_true_eq] at hc ⊢
    omega
  · have hbe := bis_end hl9 hlr9 (by assumption) hr9 rfl
    rw [hbe.1] at hgt9
    have hc := count_at (fun v => decide (v < x)) (os := os) (k := l9.toNat) hbe.2.2 hlt9 hgt9
    try dsimp only
    show LeaveM h₀ L m g rest Q _ _
    have e : l9 = ((os.filter (fun v => decide (v < x))).length : Int) := by rw [hc]; exact (Int.toNat_of_nonneg hl9).symm
    rw [e]
    exact leaveM (by assumption) News.nil (fun F3 N3 => ret _ _ _ F3 N3)
theorem bisr_spec {w : World} {A : Around} {E : Value → Shared → Prop} {s : Shared} {h₀ : Heap} {L : Addr} {m : Str → Option Value} {rest : List (Addr × Obj)} {Q : Value → Shared → Prop} {x : Int} {t : Tok} {lo : Addr} {ovs : List Value} {os : List Int} {ok : Nat}
    (X : Ok w h₀) (Y : At A L h₀ 20) (F : Fr h₀ L s.heap m) (N : News h₀ L s.heap rest)
    (ho : (lo, listOf ovs.toArray ok) ∈ rest ∨ h₀.get? lo = some (listOf ovs.toArray ok)) (hO : IntsAre ovs os) (hos : os.length ≤ 16) (hsort : os.Pairwise (· < ·))
    (ret : ∀ h' t' tk', Fr h₀ L h' m → News h₀ L h' rest → Q (.int (os.filter (fun v => !decide (x < v))).length t') { s with heap := h', toks := tk' }) :
    wpAny (model row.row.prog w) A (call (.ref 65) [.ref lo, .int x t]) Q E s := by
  obtain ⟨ha, dp, fr, gd, un0⟩ := A
  obtain rfl : ha = none := Y.hh
  refine enterM (mu := []) (stay := rest) (binds := [("a", .ref lo), ("x", .int x t), ("lo", .int 0 _), ("hi", .none), ("key", .none)]) (dep := 19) X Y F News.nil N (fun _ _ _ h => nomatch h) (by k_is) (by k_is) (by exact kp_binds (X.K.keeps F.keep) (fun _ => rfl)) (by exact locs rfl) (by decide) (by exact rfl) (by exact rfl) (by exact rfl) ?_
  intro g L' h₁ X' Y' gk gs F' N' lt1 lt2
  obtain ⟨p, loose, mean, mg, mb, T'⟩ := X'.top
  have K' := X'.K
  have hLlo : g.IsList lo ovs.toArray := ⟨_, ho.elim (gs _) (gk _ _), rfl, _, rfl⟩
  show wpAny _ _ _ _ _ _
  k_fold
  walk_at "mine steps"
  refine' While_inv2 (BisJ (fun v => !decide (x < v)) os lo x t) ?F ?N ?J ?_ ?hE
  case F => k_asm
  case N => k_asm
  case J => exact BisJ.start rfl rfl rfl rfl
  case hE => passes_own
  intro n9 m9 nx9 h9 tk9 F9 N9 J9
  obtain ⟨rfl, l9, r9, t9, u9, hn9, ha9, hb9, hc9, hd9, hl9, hlr9, hr9, hlt9, hgt9⟩ := J9
  replace F9 := fr4 ha9 hb9 hc9 hd9 F9
  have hmid := bis_mid (l := l9) (r := r9)
  w_strict k_steps
  · have hlr : l9 < r9 := by assumption
    have hm := hmid hlr
    have hb := bis_nums hl9 hm.1 hm.2 hr9 hn9
    have hc : (fun v => !decide (x < v)) (os.getD ((l9 + r9).fdiv 2).toNat 0) = false := by simpa using (by assumption : x < os.getD ((l9 + r9).fdiv 2).toNat 0)
    refine ⟨_, _, _, [], ((l9 + r9).fdiv 2 - l9).toNat, rfl, by assumption, by assumption, hb.2.1, rfl, l9, (l9 + r9).fdiv 2, _, _, rfl, rfl, rfl, rfl, rfl, hl9, hm.1, hb.2.2.2.2.2.1, hlt9, fun i hi hi2 => ?_⟩
    have := sorted_le hsort (i := ((l9 + r9).fdiv 2).toNat) (j := i) (by omega) (by omega)
    simp only [decide_eq_false_iff_not, Bool.not_eq_false', decide_eq_true_eq] at hc ⊢
    omega
  · have hlr : l9 < r9 := by assumption
    have hm := hmid hlr
    have hb := bis_nums hl9 hm.1 hm.2 hr9 hn9
    have hc : (fun v => !decide (x < v)) (os.getD ((l9 + r9).fdiv 2).toNat 0) = true := by simpa using (by assumption : ¬ x < os.getD ((l9 + r9).fdiv 2).toNat 0)
    refine ⟨_, _, _, [], (r9 - ((l9 + r9).fdiv 2 + 1)).toNat, rfl, by assumption, by assumption, hb.1, rfl, (l9 + r9).fdiv 2 + 1, r9, _, _, rfl, rfl, rfl, rfl, rfl, hb.2.2.1, hb.2.2.2.1, hr9, fun i hi => ?_, hgt9⟩
    have := sorted_le hsort (i := i) (j := ((l9 + r9).fdiv 2).toNat) (hb.2.2.2.2.2.2 i hi) hb.2.2.2.2.1
    simp only [decide_eq_true_eq, Bool.not_eq_true', decide_eq_false_iff_not] at hc ⊢
    omega
  · have hbe := bis_end hl9 hlr9 (by assumption) hr9 rfl
    rw [hbe.1] at hgt9
    have hc := count_at (fun v => !decide (x < v)) (os := os) (k := l9.toNat) hbe.2.2 hlt9 hgt9
    try dsimp only
    show LeaveM h₀ L m g rest Q _ _
    have e : l9 = ((os.filter (fun v => !decide (x < v))).length : Int) := by rw [hc]; exact (Int.toNat_of_nonneg hl9).symm
    rw [e]
    exact leaveM (by assumption) News.nil (fun F3 N3 => ret _ _ _ F3 N3)
end Mine
end
local macro_rules | `(tactic| walk_at "mine pad") => `(tactic| fail "pad")
local macro_rules | `(tactic| walk_at "mine pad") => `(tactic| fail "pad")
section
theorem Mine.fresh_W7 : True := by
  w_top off
  exact trivial
open PySem PySem.W PyProof.Rows PySem.Calls PySem.Spec
namespace Mine
theorem fillK7 (w : World) : row.name = row.name ∧ Kf w.params = Kf w.params := by
  k_fill
  exact ⟨rfl, rfl⟩
local macro_rules | `(tactic| walk_at "mine steps") => `(tactic| w_strict (repeat' (walk_at "mine no 0"; walk_at "mine no 1"; walk_at "mine core")))
theorem room64 {A : Around} {L : Addr} {h : Heap} {dep : Nat} (Y : At A L h dep) (hd : 8 ≤ dep) : A.units + 64 < cLine := by have := Y.hu; omega
local macro_rules | `(tactic| ke_room) => `(tactic| exact room64 (by assumption) (by decide))
theorem carried_len {vs : List Value} {ns : List Int} (h : CarriedAll vs (List.map PyData.int ns)) : vs.length = ns.length := by
  exact (IntsAre.ofCarried h).length
theorem lenC {prog : Program} {w : World} {A : Around} {E : Value → Shared → Prop} {s : Shared} {l : Addr} {vs : List Value} {ns : List Int} {Q : Value → Shared → Prop}
    (hl : s.heap.IsList l vs.toArray) (hc : CarriedAll vs (List.map PyData.int ns)) (hsz : ns.length ≤ 1000) (h : Q (.int ns.length (s.toks + 1)) { s with toks := s.toks + 1 + 1 }) :
    wpAny (model prog w) A (call (.builtin "len") [.ref l]) Q E s := by
  have e := carried_len hc
  refine Calls.call_len_list hl (by rw [List.size_toArray]; omega) ?_
  rw [List.size_toArray, e]; exact h
local macro_rules | `(tactic| walk_at "call builtin:len") => `(tactic| (k_here; k_dflt (refine' lenC ?tl ?tc ?ts ?_; (case tl => assumption); (case tc => assumption); (case ts => first | omega | exact Nat.le_trans (List.length_filter_le _ _) (by omega)))))
theorem searched_spec {w : World} {A : Around} {E : Value → Shared → Prop} {s : Shared} {h₀ : Heap} {L : Addr} {m : Str → Option Value} {rest : List (Addr × Obj)} {Q : Value → Shared → Prop} {one : Int} {t : Tok} {lo : Addr} {ovs : List Value} {os : List Int} {ok : Nat}
    (X : Ok w h₀) (Y : At A L h₀ 22) (F : Fr h₀ L s.heap m) (N : News h₀ L s.heap rest)
    (ho : (lo, listOf ovs.toArray ok) ∈ rest ∨ h₀.get? lo = some (listOf ovs.toArray ok)) (hO : IntsAre ovs os) (hos : os.length ≤ 16) (hsort : os.Pairwise (· < ·))
    (ret : ∀ h' tk', Fr h₀ L h' m → News h₀ L h' rest → Q (.bool true) { s with heap := h', toks := tk' }) :
    wpAny (model row.row.prog w) A (call (.ref 150) [.ref lo, .int one t]) Q E s := by
  obtain ⟨ha, dp, fr, gd, un0⟩ := A
  obtain rfl : ha = none := Y.hh
  refine enterMC (mu := []) (stay := rest) (binds := [("down", .ref lo), ("one", .int one t)]) (dep := 21) X Y F News.nil N (fun _ _ _ h => nomatch h) (by k_is) (by k_is) (by exact BindsTo.of_eq rfl) (by exact rfl) (by decide +kernel) (by exact rfl) (by exact rfl) (by exact rfl) ?_
  intro g L' h₁ tk cells X' Y' gk gs F' N' CA lt1 lt2
  obtain ⟨o1, hE, d1⟩ := CellsAre.one CA
  subst hE
  clear CA
  simp only [List.cons_append, List.nil_append] at N'
  obtain ⟨p, loose, mean, mg, mb, T'⟩ := X'.top
  have K' := X'.K
  have hLlo : g.IsList lo ovs.toArray := ⟨_, ho.elim (gs _) (gk _ _), rfl, _, rfl⟩
  have d1 : o1.data = .cell (some (.int one t)) := d1
  show wpAny _ _ _ _ _ _
  k_fold
  walk_at "mine steps"
  all_goals (try k_data)
  refine bisl_spec X' (Y'.less (by omega)) (by assumption) (by assumption) (.inr (ho.elim (gs _) (gk _ _))) hO hos hsort ?_
  intro h2 t2 tk2 F2 N2
  walk_at "mine steps"
  refine bisr_spec X' (Y'.less (by omega)) (by assumption) (by assumption) (.inr (ho.elim (gs _) (gk _ _))) hO hos hsort ?_
  intro h3 t3 tk3 F3 N3
  walk_at "mine steps"
  have e : (fun v => !decide (one < v)) = (fun a : Int => decide (a ≤ one)) := by
    funext v
    by_cases h : one < v
    · simp [h]
    · simp [h, Int.not_lt.mp h]
  rw [e, beq_self_eq_true]
  show LeaveM h₀ L m g rest Q _ _
  exact leaveM (by assumption) News.nil (fun F3 N3 => ret _ _ F3 N3)
end Mine
end
local macro_rules | `(tactic| walk_at "mine pad") => `(tactic| fail "pad")
local macro_rules | `(tactic| walk_at "mine pad") => `(tactic| fail "pad")
local macro_rules | `(tactic| walk_at "mine pad") => `(tactic| fail "pad")
section
theorem Mine.fresh_W8 : True := by
  w_top off
  exact trivial
open PySem PySem.W PyProof.Rows PySem.Calls PySem.Spec
namespace Mine
/-- a turn's end -/
noncomputable def TurnE (h₀ : Heap) (L I : Addr) (o : Obj) (J : (Str → Option Value) → List (Addr × Obj) → Prop) (s : Shared) (Q : Flow → Shared → Prop) (f : Flow) (s₂ : Shared) : Prop :=
  match f with
  | .ret v => Q (.ret v) s₂
  | .brk => Q .next s₂
  | _ => ∃ h' tk m' nx, s₂ = { s with heap := h', toks := tk } ∧ Fr h₀ L h' m' ∧ News h₀ L h' ((I, o) :: nx) ∧ (∀ p ∈ nx, p.1 ≠ I) ∧ J m' nx
section
variable {prog : Program} {w : World} {A : Around} {E : Value → Shared → Prop} {s : Shared} {env : Env} {h₀ : Heap} {x : Str} {body : List Stmt} {Q : Flow → Shared → Prop}
theorem loopW {I : Addr} {fp : List Addr} {n : Nat} {P : Nat → Value → Prop} {St : Nat → Heap → Prop} {m₀ : Str → Option Value} {news : List (Addr × Obj)} (J : Nat → (Str → Option Value) → List (Addr × Obj) → Prop)
    (W : Walks prog w A I fp [I] n P St) (hIf : I ∈ fp) (hin : ∀ b ∈ fp, b = I ∨ ∃ o, h₀.get? b = some o) (hI0 : h₀.get? I = none) (hL : env.locals ≠ I) (hob : ∀ i h, St i h → ∃ o, h.get? I = some o)
    (st0 : St 0 s.heap) (F : Fr h₀ env.locals s.heap m₀) (N : News h₀ env.locals s.heap news) (hnw : ∀ p ∈ news, p.1 ≠ I) (hj : J 0 m₀ news)
    (turn : ∀ i v m₁ nx h tk o, i < n → P i v → J i m₁ nx → (∀ p ∈ nx, p.1 ≠ I) → Fr h₀ env.locals h (fun y => if y = x then some v else m₁ y) → News h₀ env.locals h ((I, o) :: nx) →
      wpAny (model prog w) A (execs body env) (TurnE h₀ env.locals I o (J (i + 1)) { s with heap := h, toks := tk } Q) E { s with heap := h, toks := tk })
    (done : ∀ m₁ nx h tk, J n m₁ nx → Fr h₀ env.locals h m₁ → News h₀ env.locals h nx → Q .next { s with heap := h, toks := tk }) :
    LoopAtV prog w A h₀ env x body Q E (.ref I) s := by
  refine ⟨I, fp, [I], n, P, St, m₀, news, J, rfl, W, ?_, ?_, ?_, st0, F, N, hj, ?_, ?_⟩
  · intro hm
    rcases hin _ hm with e | ⟨o, e⟩
    · exact hL e
    · exact absurd (Heap.lt_size e) (Nat.not_lt.mpr F.above)
  · intro b hb
    rw [List.mem_singleton.mp hb]; exact hI0
  · intro p hp hm
    exact hnw p hp (List.mem_singleton.mp hm)
  · rintro i v m₁ nx s₁ own ⟨hh', tk', rfl⟩ hin' hP hJ hoff hown howe hall st F₁ N₁
    obtain ⟨o, ho⟩ := hob _ _ st
    have hmem : (I, o) ∈ own := hall I hIf hI0 o ho
    have hne : ∀ p ∈ nx, p.1 ≠ I := fun p hp e => hoff p hp (by rw [e]; exact List.mem_singleton.mpr rfl)
    have N₂ : News h₀ env.locals hh' ((I, o) :: nx) := fun p hp => by
      rcases List.mem_cons.mp hp with rfl | hp
      · exact N₁ _ (List.mem_append_left _ hmem)
      · exact N₁ _ (List.mem_append_right _ hp)
    have hown2 : ∀ p ∈ own, p = (I, o) := fun p hp => by
      have e1 : p.1 = I := by
        rcases hin _ (hown p hp) with e | ⟨o', e⟩
        · exact e
        · have := (N₁ p (List.mem_append_left _ hp)).2.2
          rw [e] at this; cases this
      have e2 := howe p hp
      rw [e1, ho] at e2
      exact Prod.ext e1 (Option.some.inj e2).symm
    refine wpAny_mono (turn i v m₁ nx hh' tk' o hin' hP hJ hne F₁ N₂) (fun f s₂ p => ?_) fun _ _ e => e
    have fin : (∃ h' tk m' nx', s₂ = { s with heap := h', toks := tk } ∧ Fr h₀ env.locals h' m' ∧ News h₀ env.locals h' ((I, o) :: nx') ∧ (∀ p ∈ nx', p.1 ≠ I) ∧ J (i + 1) m' nx') → LoopStepU h₀ env.locals [I] own (J (i + 1)) { s with heap := hh', toks := tk' } .next s₂ := by
      rintro ⟨h', tk, m', nx', e, F', N', hn, hJ'⟩
      refine ⟨rfl, h', tk, m', nx', e, F', fun p hp => ?_, fun p hp hq => hn p hp (List.mem_singleton.mp hq), hJ'⟩
      rcases List.mem_append.mp hp with hp | hp
      · rw [hown2 p hp]; exact N' _ (.head _)
      · exact N' _ (.tail _ hp)
    cases f with
    | ret v => exact .ret p
    | brk => exact .brk p
    | next => exact .next (fin p)
    | cont => exact .cont (fin p)
  · rintro h' tk m' nx F' N' _ hJ
    exact done m' nx h' tk hJ F' N'
/-- a for over a list of the base -/
theorem iterL0 {l : Addr} {vs : List Value} {ns : List Int} {m₀ : Str → Option Value} {news : List (Addr × Obj)} (J : Nat → (Str → Option Value) → List (Addr × Obj) → Prop)
    (hh : A.handled = none) (hl : h₀.IsList l vs.toArray) (hi : IntsAre vs ns) (F : Fr h₀ env.locals s.heap m₀) (N : News h₀ env.locals s.heap news) (hj : J 0 m₀ news)
    (turn : ∀ I i n t m₁ nx h tk o, (∀ p ∈ news, p.1 < I) → ns[i]? = some n → J i m₁ nx → (∀ p ∈ nx, p.1 ≠ I) → Fr h₀ env.locals h (fun y => if y = x then some (.int n t) else m₁ y) → News h₀ env.locals h ((I, o) :: nx) →
      wpAny (model prog w) A (execs body env) (TurnE h₀ env.locals I o (J (i + 1)) { s with heap := h, toks := tk } Q) E { s with heap := h, toks := tk })
    (done : ∀ m₁ nx h tk, J ns.length m₁ nx → Fr h₀ env.locals h m₁ → News h₀ env.locals h nx → Q .next { s with heap := h, toks := tk }) :
    wpAny (model prog w) A (pyIter (.ref l)) (fun it s₂ => LoopAtV prog w A h₀ env x body Q E it s₂) E s := by
  have hls : s.heap.IsList l vs.toArray := hl.at fun o e => F.keep l o e
  obtain ⟨ol, hol, _⟩ := id hl
  have hlt : l < h₀.objs.size := Heap.lt_size hol
  have hne : l ≠ s.heap.objs.size := Nat.ne_of_lt (Nat.lt_trans (Nat.lt_of_lt_of_le hlt F.above) F.ns.lt)
  refine wpAny_pyIter_list hls ?_
  have W := Walks.list (prog := prog) (w := w) hh s.heap.objs.size l hne vs.toArray
  have hlen : vs.toArray.size = ns.length := by simp [hi.length]
  rw [hlen] at W
  refine loopW J W (.head _) (fun b hb => ?_) (next_is_new F) (Nat.ne_of_lt F.ns.lt) (fun i h st => ?_) ⟨⟨_, Heap.get?_push_size _ rfl, rfl, rfl⟩, hls.at fun o e => Heap.get?_push_of_some _ e⟩ (F.push _) (fun p hp => ⟨Heap.get?_push_of_some _ (N p hp).1, (N p hp).2⟩) (fun p hp => Nat.ne_of_lt (Heap.lt_size (N p hp).1)) hj ?_ ?_
  · rcases List.mem_cons.mp hb with e | hb
    · exact .inl e
    · exact .inr ⟨ol, by rw [List.mem_singleton.mp hb]; exact hol⟩
  · obtain ⟨⟨o, ho, _⟩, _⟩ := st
    exact ⟨o, ho⟩
  · intro i v m₁ nx h tk o hin hP hJ hne' F₁ N₁
    have hlt' : i < ns.length := hin
    obtain ⟨t, hx⟩ := hi.get i ns[i] (by simp [hlt'])
    have hv : v = .int ns[i] t := by
      have hP' : vs[i]? = some v := by simpa using hP
      rw [hx] at hP'; exact (Option.some.inj hP').symm
    subst hv
    exact turn _ i ns[i] t m₁ nx h tk o (fun p hp => Heap.lt_size (N p hp).1) (by simp [hlt']) hJ hne' F₁ N₁
  · exact fun m₁ nx h tk hJ F₁ N₁ => done m₁ nx h tk hJ F₁ N₁
/-- a for over a range -/
theorem iterR0 {r : Addr} {a₀ b₀ : Int} {t₀ u₀ v₀ : Tok} {n : Nat} {m₀ : Str → Option Value} {news : List (Addr × Obj)} (J : Nat → (Str → Option Value) → List (Addr × Obj) → Prop)
    (hh : A.handled = none) (hr : IsRange s.heap r a₀ b₀ 1 t₀ u₀ v₀) (hsmall : Builtin.Range.small a₀ b₀ 1 = true) (hn : Builtin.Range.rangeSize a₀ b₀ 1 = (n : Int)) (F : Fr h₀ env.locals s.heap m₀) (N : News h₀ env.locals s.heap news) (hj : J 0 m₀ news)
    (turn : ∀ I i t m₁ nx h tk o, (∀ p ∈ news, p.1 < I) → i < n → J i m₁ nx → (∀ p ∈ nx, p.1 ≠ I) → Fr h₀ env.locals h (fun y => if y = x then some (.int (a₀ + (i : Nat)) t) else m₁ y) → News h₀ env.locals h ((I, o) :: nx) →
      wpAny (model prog w) A (execs body env) (TurnE h₀ env.locals I o (J (i + 1)) { s with heap := h, toks := tk } Q) E { s with heap := h, toks := tk })
    (done : ∀ m₁ nx h tk, J n m₁ nx → Fr h₀ env.locals h m₁ → News h₀ env.locals h nx → Q .next { s with heap := h, toks := tk }) :
    wpAny (model prog w) A (pyIter (.ref r)) (fun it s₂ => LoopAtV prog w A h₀ env x body Q E it s₂) E s := by
  refine wpAny_pyIter_range hr hsmall ?_
  have W : Walks prog w A s.heap.objs.size [s.heap.objs.size] [s.heap.objs.size] n (fun i v => i < n ∧ ∃ t, v = .int (a₀ + i * 1) t)
      (fun i h => IsRangeIter h s.heap.objs.size (a₀ + (i : Nat) * 1) ((n : Int) - (i : Nat)) 1) := (Walks.range hh _ a₀ 1 n).bound
  refine loopW J W (.head _) (fun b hb => .inl (List.mem_singleton.mp hb)) (next_is_new F) (Nat.ne_of_lt F.ns.lt) (fun i h st => ⟨_, st⟩) (by show IsRangeIter _ _ _ _ _; rw [hn]; simpa using Heap.get?_push_size _ rfl) (F.push _) (fun p hp => ⟨Heap.get?_push_of_some _ (N p hp).1, (N p hp).2⟩) (fun p hp => Nat.ne_of_lt (Heap.lt_size (N p hp).1)) hj ?_ ?_
  · rintro i v m₁ nx h tk o hin ⟨_, t, rfl⟩ hJ hne' F₁ N₁
    rw [Int.mul_one] at F₁
    exact turn _ i t m₁ nx h tk o (fun p hp => Heap.lt_size (N p hp).1) hin hJ hne' F₁ N₁
  · exact fun m₁ nx h tk hJ F₁ N₁ => done m₁ nx h tk hJ F₁ N₁
end
end Mine
end
section
theorem Mine.fresh_W8b : True := by
  w_top off
  exact trivial
open PySem PySem.W PyProof.Rows PySem.Calls PySem.Spec
namespace Mine
theorem fm_congr {α β : Type} {f g : α → Option β} {l : List α} (h : ∀ x ∈ l, f x = g x) : l.filterMap f = l.filterMap g := by
  induction l with
  | nil => rfl
  | cons a r ih =>
    rw [List.filterMap_cons, List.filterMap_cons, h a (.head _), ih fun x hx => h x (.tail _ hx)]
noncomputable def evens {α : Type} : List α → List α
  | a :: _ :: r => a :: evens r
  | [a] => [a]
  | [] => []
noncomputable def odds {α : Type} : List α → List α
  | _ :: b :: r => b :: odds r
  | [_] => []
  | [] => []
theorem pick_evens {α : Type} : ∀ (xs : List α), (List.range ((xs.length + 1) / 2)).filterMap (fun k => xs[2 * k]?) = evens xs
  | [] => by simp [evens]
  | [a] => by simp [evens]
  | a :: b :: r => by
    have ih := pick_evens r
    have e : ((a :: b :: r).length + 1) / 2 = (r.length + 1) / 2 + 1 := Nat.add_div_right (r.length + 1) (z := 2) (by decide)
    rw [e, List.range_succ_eq_map, List.filterMap_cons]
    simp only [Nat.mul_zero, List.getElem?_cons_zero, evens, List.filterMap_map]
    congr 1
theorem pick_odds {α : Type} : ∀ (xs : List α), (List.range (xs.length / 2)).filterMap (fun k => xs[1 + 2 * k]?) = odds xs
  | [] => by simp [odds]
  | [a] => by simp [odds]
  | a :: b :: r => by
    have ih := pick_odds r
    have e : (a :: b :: r).length / 2 = r.length / 2 + 1 := Nat.add_div_right r.length (z := 2) (by decide)
    rw [e, List.range_succ_eq_map, List.filterMap_cons]
    simp only [Nat.mul_zero, Nat.add_zero, List.getElem?_cons_succ, List.getElem?_cons_zero, odds, List.filterMap_map]
    congr 1
theorem slice_evens (vs : List Value) : slicePick vs.toArray none none (some 2) = (evens vs).toArray := by
  unfold slicePick
  have e : sliceBounds none none (some 2) vs.toArray.size = (0, (vs.length : Int), 2) := by simp [sliceBounds]
  rw [e]
  congr 1
  rw [← pick_evens]
  unfold sliceRange
  simp only [List.filterMap_map]
  have hc : (if (2 : Int) > 0 then (if (0 : Int) < (vs.length : Int) then ((vs.length : Int) - 0 + 2 - 1) / 2 else 0) else (if (0 : Int) > (vs.length : Int) then (0 - (vs.length : Int) - 2 - 1) / -2 else 0)).toNat = (vs.length + 1) / 2 := by
    rw [if_pos (by decide)]
    split
    · omega
    · omega
  rw [hc]
  apply fm_congr
  intro k _
  show (vs.toArray)[(0 + 2 * (k : Int)).toNat]? = vs[2 * k]?
  have : (0 + 2 * (k : Int)).toNat = 2 * k := by omega
  rw [this]; simp
theorem half_o (n : Nat) : (if (2 : Int) > 0 then (if (1 : Int) < ((n + 1 : Nat) : Int) then (((n + 1 : Nat) : Int) - 1 + 2 - 1) / 2 else 0) else (if (1 : Int) > ((n + 1 : Nat) : Int) then (1 - ((n + 1 : Nat) : Int) - 2 - 1) / -2 else 0)).toNat = (n + 1) / 2 := by
  rw [if_pos (by decide)]
  cases n with
  | zero => rfl
  | succ k =>
    rw [if_pos (show (1 : Int) < ((k + 1 + 1 : Nat) : Int) from Int.ofNat_lt.mpr (Nat.succ_lt_succ (Nat.succ_pos k)))]
    have e : (((k + 1 + 1 : Nat) : Int) - 1 + 2 - 1) = ((k + 1 + 1 : Nat) : Int) := by omega
    rw [e]; rfl
theorem slice_odds : ∀ vs : List Value, slicePick vs.toArray (some 1) none (some 2) = (odds vs).toArray
  | [] => rfl
  | a :: r => by
    unfold slicePick
    have e0 : max 0 (min 1 ((r.length + 1 : Nat) : Int)) = 1 := by
      rw [Int.min_eq_left (show (1 : Int) ≤ ((r.length + 1 : Nat) : Int) from Int.ofNat_le.mpr (Nat.succ_le_succ (Nat.zero_le _)))]; rfl
    have e : sliceBounds (some 1) none (some 2) (a :: r).toArray.size = (1, ((r.length + 1 : Nat) : Int), 2) := by
      have e1 : sliceBounds (some 1) none (some 2) (a :: r).toArray.size = (max 0 (min 1 ((r.length + 1 : Nat) : Int)), ((r.length + 1 : Nat) : Int), 2) := by simp [sliceBounds]
      rw [e1, e0]
    rw [e]
    congr 1
    rw [← pick_odds]
    unfold sliceRange
    simp only [List.filterMap_map]
    rw [half_o]
    apply fm_congr
    intro k hk
    show ((a :: r).toArray)[(1 + 2 * (k : Int)).toNat]? = (a :: r)[1 + 2 * k]?
    rw [show (1 + 2 * (k : Int)).toNat = 1 + 2 * k from rfl, List.getElem?_toArray]
theorem ints_eo : ∀ (ns : List Int) {vs : List Value}, IntsAre vs ns → IntsAre (evens vs) (evens ns) ∧ IntsAre (odds vs) (odds ns)
  | [], _, h => by cases h; exact ⟨.nil, .nil⟩
  | [_], _, h => by
    cases h with
    | cons i t h => cases h; exact ⟨.cons _ _ .nil, .nil⟩
  | _ :: _ :: r, _, h => by
    cases h with
    | cons i t h =>
      cases h with
      | cons j u h => exact ⟨.cons _ _ (ints_eo r h).1, .cons _ _ (ints_eo r h).2⟩
theorem ints_evens {vs : List Value} {ns : List Int} (h : IntsAre vs ns) : IntsAre (evens vs) (evens ns) := (ints_eo ns h).1
theorem ints_odds {vs : List Value} {ns : List Int} (h : IntsAre vs ns) : IntsAre (odds vs) (odds ns) := (ints_eo ns h).2
section
variable {prog : Program} {w : World} {A : Around} {E : Value → Shared → Prop} {s : Shared} {h₀ : Heap} {L l : Addr} {m : Str → Option Value} {news : List (Addr × Obj)} {value slice : PySem.Expr} {vs : List Value} {ns : List Int} {vk vl : Value} {ops : List Value} {Q : Value → Shared → Prop}
theorem sliceE (F : Fr h₀ L s.heap m) (N : News h₀ L s.heap news) (hl : s.heap.IsList l vs.toArray) (pk : IsPart vk (some 2)) (hi : IntsAre vs ns) (hz : ns.length ≤ 1000)
    (h : ∀ D h', Fr h₀ L h' m → News h₀ L h' ((D, listOf (evens vs).toArray 0) :: news) → (∀ p ∈ news, p.1 < D) → IntsAre (evens vs) (evens ns) → Q (.ref D) { s with heap := h' })
    (hs : subscripted slice false (.ref l) (.ref s.heap.objs.size) = operate ops (getItem (.ref l) (.ref s.heap.objs.size))) (ht : ∀ r, letTemporaryGo value (.ref l) r = pure ()) :
    wpAny (model prog w) A (subscriptTail value slice (.ref l) (.ref s.heap.objs.size)) Q E { s with heap := s.heap.push { cls := .type "slice", data := .fields #[.none, .none, vk] } } := by
  refine slice_list3 F N hl .none .none pk (by decide) (fun h' F' N' => ?_) hs ht (by rw [List.size_toArray, hi.length, PySem.sizeLine_eq]; omega)
  rw [slice_evens] at N'
  exact h _ h' F' N' (fun p hp => Nat.lt_succ_of_lt (Heap.lt_size (N p hp).1)) (ints_evens hi)
theorem sliceO (F : Fr h₀ L s.heap m) (N : News h₀ L s.heap news) (hl : s.heap.IsList l vs.toArray) (pl : IsPart vl (some 1)) (pk : IsPart vk (some 2)) (hi : IntsAre vs ns) (hz : ns.length ≤ 1000)
    (h : ∀ D h', Fr h₀ L h' m → News h₀ L h' ((D, listOf (odds vs).toArray 0) :: news) → (∀ p ∈ news, p.1 < D) → IntsAre (odds vs) (odds ns) → Q (.ref D) { s with heap := h' })
    (hs : subscripted slice false (.ref l) (.ref s.heap.objs.size) = operate ops (getItem (.ref l) (.ref s.heap.objs.size))) (ht : ∀ r, letTemporaryGo value (.ref l) r = pure ()) :
    wpAny (model prog w) A (subscriptTail value slice (.ref l) (.ref s.heap.objs.size)) Q E { s with heap := s.heap.push { cls := .type "slice", data := .fields #[vl, .none, vk] } } := by
  refine slice_list3 F N hl pl .none pk (by decide) (fun h' F' N' => ?_) hs ht (by rw [List.size_toArray, hi.length, PySem.sizeLine_eq]; omega)
  rw [slice_odds] at N'
  exact h _ h' F' N' (fun p hp => Nat.lt_succ_of_lt (Heap.lt_size (N p hp).1)) (ints_odds hi)
end
end Mine
end
section
theorem Mine.fresh_W8c : True := by
  w_top off
  exact trivial
open PySem PySem.W PyProof.Rows PySem.Calls PySem.Spec
namespace Mine
section
variable {prog : Program} {w : World} {A : Around} {E : Value → Shared → Prop} {s : Shared} {h₀ : Heap} {L : Addr} {m : Str → Option Value} {news : List (Addr × Obj)}
/-- zip of two lists of the ledger; they leave the ledger -/
theorem zipL {as bs : List Int} {l1 l2 : Addr} {vs₁ vs₂ : List Value} {k1 k2 : Nat} {Q : Value → Shared → Prop} (hh : A.handled = none)
    (N0 : News h₀ L s.heap ((l1, listOf vs₁.toArray k1) :: (l2, listOf vs₂.toArray k2) :: news)) (hi1 : IntsAre vs₁ as) (hi2 : IntsAre vs₂ bs) (ha1 : ∀ q ∈ news, q.1 ≠ l1) (ha2 : ∀ q ∈ news, q.1 ≠ l2)
    (F : Fr h₀ L s.heap m)
    (h : ∀ h' e, Fr h₀ L h' m → News h₀ L h' news → PairSrc2L prog w A E h₀ L .int .int as bs (.ref e) { s with heap := h' } m news → Q (.ref e) { s with heap := h' }) :
    wpAny (model prog w) A (call (.type "zip") [.ref l1, .ref l2]) Q E s := by
  have z1 := N0 _ (.head _)
  have z2 := N0 _ (.tail _ (.head _))
  have N : News h₀ L s.heap news := nsub N0 fun p hp => .tail _ (.tail _ hp)
  have hls1 : s.heap.IsList l1 vs₁.toArray := ⟨_, z1.1, rfl, _, rfl⟩
  have hls2 : s.heap.IsList l2 vs₂.toArray := ⟨_, z2.1, rfl, _, rfl⟩
  have hLs : L < s.heap.objs.size := F.ns.lt
  have hab : h₀.objs.size ≤ L := F.above
  have a1 : l1 < s.heap.objs.size := Heap.lt_size z1.1
  have a2 : l2 < s.heap.objs.size := Heap.lt_size z2.1
  refine call_zip_2 hls1 hls2 fun h' hz hTI hTO hit1 hit2 hsz hk => ?_
  have F' : Fr h₀ L h' m := ⟨F.ns.keeps hk, fun b o e => hk b o (F.keep b o e), F.above⟩
  have N' : News h₀ L h' news := fun p hp => ⟨hk _ _ (N p hp).1, (N p hp).2⟩
  refine h h' _ F' N' fun env hL => ?_
  subst hL
  have hnews : ∀ q ∈ news, q.1 < s.heap.objs.size ∧ h₀.get? q.1 = none := fun q hq => ⟨Heap.lt_size (N q hq).1, (N q hq).2.2⟩
  refine zipSrc hh (zipApart_new a1 a2) ⟨hz, hTI, ⟨_, _, hTO⟩, hit1, hit2, hls1.at fun o e => hk l1 o e, hls2.at fun o e => hk l2 o e⟩ hi1.areOf hi2.areOf ?_ ?_ ?_ ?_ F' N'
  · intro hm
    simp only [List.mem_cons, List.not_mem_nil, or_false] at hm
    have up : ∀ k, env.locals ≠ s.heap.objs.size + k := fun k e => Nat.ne_of_lt (Nat.lt_of_lt_of_le hLs (Nat.le_add_right _ k)) e
    rcases hm with e | e | e | e | e | e | e
    · exact up 4 e
    · exact up 2 e
    · exact up 3 e
    · exact up 0 e
    · exact up 1 e
    · exact z1.2.1 e.symm
    · exact z2.2.1 e.symm
  · intro b hb
    simp only [List.mem_cons, List.not_mem_nil, or_false] at hb
    have nw : ∀ k, h₀.get? (s.heap.objs.size + k) = none := fun k => Heap.get?_none_of_le (Nat.le_trans hab (Nat.le_trans (Nat.le_of_lt hLs) (Nat.le_add_right _ k)))
    rcases hb with rfl | rfl | rfl | rfl
    · exact nw 4
    · exact nw 3
    · exact nw 0
    · exact nw 1
  · intro p hp hm
    have hq1 := (hnews p hp).1
    simp only [List.mem_cons, List.not_mem_nil, or_false] at hm
    have dn : ∀ k, p.1 ≠ s.heap.objs.size + k := fun k e => Nat.ne_of_lt (Nat.lt_of_lt_of_le hq1 (Nat.le_add_right _ k)) e
    rcases hm with e | e | e | e
    · exact dn 4 e
    · exact dn 3 e
    · exact dn 0 e
    · exact dn 1 e
  · intro b hb q hq e
    obtain ⟨hq1, hq0⟩ := hnews q hq
    simp only [List.mem_cons, List.not_mem_nil, or_false] at hb
    have gt : ∀ k, s.heap.objs.size + k ≠ q.1 := fun k e => Nat.ne_of_gt (Nat.lt_of_lt_of_le hq1 (Nat.le_add_right _ k)) e
    rcases hb with rfl | rfl | rfl | rfl | rfl | rfl | rfl
    · exact gt 4 e
    · exact gt 2 e
    · exact gt 3 e
    · exact gt 0 e
    · exact gt 1 e
    · exact ha1 q hq e.symm
    · exact ha2 q hq e.symm
/-- the pairs as ints -/
theorem zipI {as bs : List Int} {env : Env} {xv : Value} {Q : Flow → Shared → Prop} {xi xc : Str} {body : List Stmt} (S : PairSrc2L prog w A E h₀ env.locals .int .int as bs xv s m news) (J : Nat → (Str → Option Value) → List (Addr × Obj) → Prop) (hj : J 0 m news)
    (turn : ∀ (i : Nat) a b ta tb m₁ nx h tk own, as[i]? = some a → bs[i]? = some b → J i m₁ nx → nx.map (·.1) = news.map (·.1) → (∀ p ∈ own, ∀ q ∈ news, p.1 ≠ q.1) →
      Fr h₀ env.locals h (fun y => if y = xc then some (.int b tb) else if y = xi then some (.int a ta) else m₁ y) → News h₀ env.locals h (own ++ nx) →
      wpAny (model prog w) A (execs body env) (LoopStep3 h₀ env.locals own nx (J (i + 1)) { s with heap := h, toks := tk } (fun v s' => Q (.ret v) s') fun s' => Q .next s') E { s with heap := h, toks := tk })
    (done : ∀ h' tk m' news', Fr h₀ env.locals h' m' → News h₀ env.locals h' news' → news'.map (·.1) = news.map (·.1) → J (as.zip bs).length m' news' → Q .next { s with heap := h', toks := tk }) :
    wpAny (model prog w) A (pyIter xv) (fun it s₂ => PairAt3 prog w A h₀ env xi xc body Q E it s₂) E s := by
  refine S env rfl xi xc body Q J hj ?_ done
  rintro i a b va vb m₁ nx s₁ own ⟨h, tk, rfl⟩ ha hb ⟨ta, rfl⟩ ⟨tb, rfl⟩ hJ hmap hown F₁ N₁
  exact turn i a b ta tb m₁ nx h tk own ha hb hJ hmap hown F₁ N₁
end
end Mine
end
end
local macro_rules | `(tactic| walk_at "subscriptTail Name Slice ref ref") => `(tactic| (k_here; k_dflt (refine' sliceE ?F ?N ?l ?k ?i ?z ?_ ?s ?t; (case F => k_asm); (case N => k_asm); (case l => kmk_list); (case k => exact IsPart.int _ _); (case i => assumption); (case z => first | omega | (simp only [List.length_append]; omega)); (case s => with_unfolding_all rfl); (case t => kmk_pure)); intro D' h' F' N' l1 hI'; (try k_lt l1); (try k_sweep)))
local macro_rules | `(tactic| walk_at "subscriptTail Name Slice ref ref") => `(tactic| (k_here; k_dflt (refine' sliceO ?F ?N ?l ?j ?k ?i ?z ?_ ?s ?t; (case F => k_asm); (case N => k_asm); (case l => kmk_list); (case j => exact IsPart.int _ _); (case k => exact IsPart.int _ _); (case i => assumption); (case z => first | omega | (simp only [List.length_append]; omega)); (case s => with_unfolding_all rfl); (case t => kmk_pure)); intro D' h' F' N' l1 hI'; (try k_lt l1); (try k_sweep)))
section
local macro_rules | `(tactic| omega) => `(tactic| first | walk_at "mine short" | lia)
section
theorem Mine.fresh_Plain2 : True := by
  w_top off
  exact trivial
open PySem PySem.W PyProof.Rows
namespace Mine
noncomputable def figs (f v : Int) : List Int := dg (2 ^ (1 * 2 ^ v.toNat : Int).toNat) (((Builtin.Int.intBits f : Int) + 1 * 2 ^ v.toNat - 1).fdiv (1 * 2 ^ v.toNat)).toNat f
noncomputable def pad (ds : List Int) : List Int := ds ++ (List.replicate ((ds.length : Int).fmod 2).toNat [0]).flatten
noncomputable def pairs (as bs : List Int) : List Int := (as.zip bs).flatMap fun p => [Builtin.bitOr p.1 p.2, Builtin.bitAnd p.1 p.2]
noncomputable def push1 (f v : Int) : Int := un (2 ^ (1 * 2 ^ v.toNat : Int).toNat) (pairs (evens (pad (figs f v))) (odds (pad (figs f v))))
theorem dg_digits {b : Int} (hb : 0 < b) : ∀ (k : Nat) (x : Int), 0 ≤ x → x < b ^ k → ∀ d ∈ dg b k x, 0 ≤ d ∧ d < b
  | 0, _, _, _ => fun _ h => nomatch h
  | 1, x, h0, h1 => fun d hd => by
    rw [dg] at hd
    rw [List.mem_singleton.mp hd]
    rw [Int.pow_one] at h1
    exact ⟨h0, h1⟩
  | k + 2, x, h0, h1 => fun d hd => by
    rw [dg] at hd
    rcases List.mem_cons.mp hd with rfl | hd
    · exact ⟨Int.emod_nonneg _ (by omega), Int.emod_lt_of_pos _ hb⟩
    · refine dg_digits hb (k + 1) (x / b) (Int.ediv_nonneg h0 (by omega)) ?_ d hd
      rw [Int.pow_succ] at h1
      exact Int.ediv_lt_of_lt_mul hb h1
theorem figs_facts {f v : Int} (h0 : 0 ≤ f) (h1 : f < 65536) (hv : 0 ≤ v ∧ v < 4) : (∀ d ∈ figs f v, 0 ≤ d ∧ d < (2 : Int) ^ (1 * 2 ^ v.toNat : Int).toNat) ∧ (figs f v).length * (1 * 2 ^ v.toNat : Int).toNat ≤ 16 := by
  have hb : Builtin.Int.intBits f ≤ 16 := intBits_le_iff.mpr (nabs_lt h0 h1)
  have hlt : f.natAbs < 2 ^ Builtin.Int.intBits f := intBits_le_iff.mp (Nat.le_refl _)
  have hv' := int4' hv
  obtain ⟨n, hn, hn2, hn3⟩ : ∃ n : Nat, (1 * 2 ^ v.toNat : Int) = (n : Int) ∧ 1 ≤ n ∧ (n = 1 ∨ n = 2 ∨ n = 4 ∨ n = 8) := by
    rcases hv' with rfl | rfl | rfl | rfl
    · exact ⟨1, by decide, by decide, by decide⟩
    · exact ⟨2, by decide, by decide, by decide⟩
    · exact ⟨4, by decide, by decide, by decide⟩
    · exact ⟨8, by decide, by decide, by decide⟩
  unfold figs
  rw [hn, Int.toNat_natCast, Int.fdiv_eq_ediv_of_nonneg _ (by omega)]
  have hk : ((Builtin.Int.intBits f : Int) + (n : Int) - 1) / (n : Int) = (((Builtin.Int.intBits f + n - 1) / n : Nat) : Int) := by
    rw [Int.natCast_ediv]
    congr 1
    omega
  rw [hk, Int.toNat_natCast, dg_length]
  have hkn : Builtin.Int.intBits f ≤ n * ((Builtin.Int.intBits f + n - 1) / n) ∧ ((Builtin.Int.intBits f + n - 1) / n) * n ≤ 16 := by
    have key : ∀ n ∈ [1, 2, 4, 8], ∀ k < 17, k ≤ n * ((k + n - 1) / n) ∧ ((k + n - 1) / n) * n ≤ 16 := by decide +kernel
    exact key n (by simpa using hn3) _ (Nat.lt_succ_of_le hb)
  refine ⟨dg_digits (kbt_pos n) _ f h0 ?_, hkn.2⟩
  rw [← Int.pow_mul, ← kbt_cast]
  have : 2 ^ Builtin.Int.intBits f ≤ 2 ^ (n * ((Builtin.Int.intBits f + n - 1) / n)) := Nat.pow_le_pow_right (by decide) hkn.1
  exact of_nabs h0 (Nat.lt_of_lt_of_le hlt this)
theorem pad_facts {ds : List Int} {B : Int} (hB : 0 < B) (h : ∀ d ∈ ds, 0 ≤ d ∧ d < B) : (∀ d ∈ pad ds, 0 ≤ d ∧ d < B) ∧ (pad ds).length = ds.length + ds.length % 2 := by
  unfold pad
  rw [krep_flat]
  constructor
  · intro d hd
    rcases List.mem_append.mp hd with hd | hd
    · exact h d hd
    · rw [List.eq_of_mem_replicate hd]; omega
  · rw [List.length_append, List.length_replicate, Int.fmod_eq_emod_of_nonneg _ (by decide)]
    omega
theorem evens_mem {α : Type} : ∀ {xs : List α} {x : α}, x ∈ evens xs → x ∈ xs
  | [], _, h => nomatch h
  | [_], _, h => h
  | a :: b :: r, x, h => by
    rw [evens] at h
    rcases List.mem_cons.mp h with rfl | h
    · exact .head _
    · exact .tail _ (.tail _ (evens_mem h))
theorem odds_mem {α : Type} : ∀ {xs : List α} {x : α}, x ∈ odds xs → x ∈ xs
  | [], _, h => nomatch h
  | [_], _, h => nomatch h
  | a :: b :: r, x, h => by
    rw [odds] at h
    rcases List.mem_cons.mp h with rfl | h
    · exact .tail _ (.head _)
    · exact .tail _ (.tail _ (odds_mem h))
theorem or_lt {a b : Int} {n : Nat} (ha : 0 ≤ a ∧ a < 2 ^ n) (hb : 0 ≤ b ∧ b < 2 ^ n) : 0 ≤ Builtin.bitOr a b ∧ Builtin.bitOr a b < 2 ^ n := by
  obtain ⟨p, rfl⟩ := Int.eq_ofNat_of_zero_le ha.1
  obtain ⟨q, rfl⟩ := Int.eq_ofNat_of_zero_le hb.1
  rw [bitOr_nat]
  rw [← kbt_cast] at ha hb ⊢
  have := Nat.or_lt_two_pow (x := p) (y := q) (n := n) (Int.ofNat_lt.mp ha.2) (Int.ofNat_lt.mp hb.2)
  exact ⟨Int.natCast_nonneg _, Int.ofNat_lt.mpr this⟩
theorem and_lt {a b : Int} {n : Nat} (ha : 0 ≤ a ∧ a < 2 ^ n) (hb : 0 ≤ b ∧ b < 2 ^ n) : 0 ≤ Builtin.bitAnd a b ∧ Builtin.bitAnd a b < 2 ^ n := by
  obtain ⟨p, rfl⟩ := Int.eq_ofNat_of_zero_le ha.1
  obtain ⟨q, rfl⟩ := Int.eq_ofNat_of_zero_le hb.1
  rw [bitAnd_nat]
  rw [← kbt_cast] at ha hb ⊢
  have := Nat.and_lt_two_pow (x := p) (n := n) (y := q) (Int.ofNat_lt.mp hb.2)
  exact ⟨Int.natCast_nonneg _, Int.ofNat_lt.mpr this⟩
theorem pairs_mem {as bs : List Int} {n : Nat} (ha : ∀ d ∈ as, 0 ≤ d ∧ d < (2 : Int) ^ n) (hb : ∀ d ∈ bs, 0 ≤ d ∧ d < (2 : Int) ^ n) : ∀ d ∈ pairs as bs, 0 ≤ d ∧ d < (2 : Int) ^ n := by
  intro d hd
  obtain ⟨p, hp, hd⟩ := List.mem_flatMap.mp hd
  have h1 := ha _ (List.of_mem_zip hp).1
  have h2 := hb _ (List.of_mem_zip hp).2
  rcases List.mem_cons.mp hd with rfl | hd
  · exact or_lt h1 h2
  · rw [List.mem_singleton.mp hd]; exact and_lt h1 h2
theorem pairs_length (as bs : List Int) : (pairs as bs).length = 2 * min as.length bs.length := by
  unfold pairs
  rw [List.length_flatMap]
  have : ((as.zip bs).map fun p : Int × Int => ([Builtin.bitOr p.1 p.2, Builtin.bitAnd p.1 p.2] : List Int).length) = (as.zip bs).map fun _ => 2 := rfl
  rw [this, List.map_const', List.sum_replicate_nat, List.length_zip]
  omega
theorem evens_len {α : Type} : ∀ xs : List α, (evens xs).length = (xs.length + 1) / 2
  | [] => by simp [evens]
  | [_] => by simp [evens]
  | _ :: _ :: r => by simp only [evens, List.length_cons, evens_len r]; omega
theorem odds_len {α : Type} : ∀ xs : List α, (odds xs).length = xs.length / 2
  | [] => by simp [odds]
  | [_] => by simp [odds]
  | _ :: _ :: r => by simp only [odds, List.length_cons, odds_len r]; omega
theorem zip_take_all : ∀ (as bs : List Int) (n : Nat), (as.zip bs).length ≤ n → (as.take n).zip (bs.take n) = as.zip bs
  | [], _, _, _ => by simp
  | _ :: _, [], _, _ => by simp
  | a :: as, b :: bs, 0, h => by simp at h
  | a :: as, b :: bs, n + 1, h => by
    rw [List.take_succ_cons, List.take_succ_cons, List.zip_cons_cons, List.zip_cons_cons, zip_take_all as bs n (by simpa using h)]
theorem pairs_all (as bs : List Int) : pairs (as.take (as.zip bs).length) (bs.take (as.zip bs).length) = pairs as bs := by
  unfold pairs
  rw [zip_take_all as bs _ (Nat.le_refl _)]
theorem pd_key : ∀ w ∈ [1, 2, 4, 8], ∀ n < 17, n * w ≤ 16 → 2 * min ((n + n % 2 + 1) / 2) ((n + n % 2) / 2) * w ≤ 16 := by decide +kernel
theorem pd_mem {v : Int} (hv : 0 ≤ v ∧ v < 4) : (1 * 2 ^ v.toNat : Int).toNat ∈ [1, 2, 4, 8] := by
  rcases int4' hv with rfl | rfl | rfl | rfl <;> decide
theorem pd_pos : ∀ w ∈ [1, 2, 4, 8], 1 ≤ w := by decide
theorem push_digits {f v : Int} (h0 : 0 ≤ f) (h1 : f < 65536) (hv : 0 ≤ v ∧ v < 4) : (∀ d ∈ pairs (evens (pad (figs f v))) (odds (pad (figs f v))), 0 ≤ d ∧ d < (2 : Int) ^ (1 * 2 ^ v.toNat : Int).toNat) ∧ (pairs (evens (pad (figs f v))) (odds (pad (figs f v)))).length * (1 * 2 ^ v.toNat : Int).toNat ≤ 16 := by
  obtain ⟨f1, f2⟩ := figs_facts h0 h1 hv
  obtain ⟨g1, g2⟩ := pad_facts (kbt_pos _) f1
  refine ⟨pairs_mem (fun d hd => g1 d (evens_mem hd)) (fun d hd => g1 d (odds_mem hd)), ?_⟩
  rw [pairs_length, evens_len, odds_len, g2]
  have hw := pd_mem hv
  exact pd_key _ hw _ (Nat.lt_succ_of_le (Nat.le_trans (Nat.le_mul_of_pos_right _ (pd_pos _ hw)) f2)) f2
theorem push1_lt {f v : Int} (h0 : 0 ≤ f) (h1 : f < 65536) (hv : 0 ≤ v ∧ v < 4) : 0 ≤ push1 f v ∧ push1 f v < 65536 := by
  obtain ⟨p1, p2⟩ := push_digits h0 h1 hv
  have := un_bound (kbt_pos _) _ p1
  refine ⟨this.1, Int.lt_of_lt_of_le this.2 ?_⟩
  rw [← Int.pow_mul, ← kbt_cast, Nat.mul_comm]
  have : 2 ^ ((pairs (evens (pad (figs f v))) (odds (pad (figs f v)))).length * (1 * 2 ^ v.toNat : Int).toNat) ≤ 2 ^ 16 := Nat.pow_le_pow_right (by decide) p2
  omega
end Mine
end
section
theorem Mine.fresh_W9 : True := by
  w_top off
  exact trivial
open PySem PySem.W PyProof.Rows PySem.Calls PySem.Spec
namespace Mine
theorem fillK9 (w : World) : row.name = row.name ∧ Kf w.params = Kf w.params := by
  k_fill
  exact ⟨rfl, rfl⟩
local macro_rules | `(tactic| walk_at "mine steps") => `(tactic| w_strict (repeat' (walk_at "mine no 0"; walk_at "mine no 1"; walk_at "mine no 2"; walk_at "mine core")))
theorem room64b {A : Around} {L : Addr} {h : Heap} {dep : Nat} (Y : At A L h dep) (hd : 8 ≤ dep) : A.units + 64 < cLine := by have := Y.hu; omega
local macro_rules | `(tactic| ke_room) => `(tactic| exact room64b (by assumption) (by decide))
theorem pow_small {v : Int} (h0 : 0 ≤ v) (h1 : v < 4) : 1 ≤ 1 * (2 : Int) ^ v.toNat ∧ 1 * (2 : Int) ^ v.toNat ≤ 8 := by
  have : v = 0 ∨ v = 1 ∨ v = 2 ∨ v = 3 := by omega
  rcases this with rfl | rfl | rfl | rfl <;> decide
theorem digits_le {x n : Int} (hx : 0 ≤ x) (hxb : x < 65536) (hn : 1 ≤ n) (hn8 : n ≤ 8) : 0 ≤ ((Builtin.Int.intBits x : Int) + n - 1).fdiv n ∧ ((Builtin.Int.intBits x : Int) + n - 1).fdiv n ≤ 16 := by
  have hb : Builtin.Int.intBits x ≤ 16 := by rw [intBits_le_iff]; omega
  rw [Int.fdiv_eq_ediv_of_nonneg _ (by omega)]
  refine ⟨Int.ediv_nonneg (by omega) (by omega), ?_⟩
  refine Int.ediv_le_of_le_mul (by omega) ?_
  have : 16 * n ≥ 16 + n - 1 := by omega
  omega
noncomputable def ZipJ (as bs : List Int) (pl : Addr) (rest : List (Addr × Obj)) (x : Int) (tf : Tok) (v : Int) (tv : Tok) (lo : Addr) (i : Nat) (m : Str → Option Value) (nx : List (Addr × Obj)) : Prop :=
  ∃ pv k, nx = (pl, listOf pv.toArray k) :: rest ∧ IntsAre pv (pairs (as.take i) (bs.take i)) ∧ m "pushed" = some (.ref pl) ∧ m "thing" = some (.int v tv) ∧ m "family" = some (.int x tf) ∧ m "order" = some (.ref lo)
theorem evens_le {α : Type} : ∀ xs : List α, (evens xs).length ≤ xs.length
  | [] => Nat.le_refl _
  | [_] => Nat.le_refl _
  | _ :: _ :: r => by have := evens_le r; simp only [evens, List.length_cons]; omega
theorem pairs_le (as bs : List Int) : (pairs as bs).length ≤ 2 * as.length := by
  rw [pairs_length]
  have : min as.length bs.length ≤ as.length := Nat.min_le_left _ _
  omega
theorem pairs_succ {as bs : List Int} {j : Nat} {a b : Int} (ha : as[j]? = some a) (hb : bs[j]? = some b) : pairs (as.take (j + 1)) (bs.take (j + 1)) = pairs (as.take j) (bs.take j) ++ [Builtin.bitOr a b, Builtin.bitAnd a b] := by
  unfold pairs
  rw [List.take_add_one, List.take_add_one, ha, hb]
  have h1 := (List.getElem?_eq_some_iff.mp ha).1
  have h2 := (List.getElem?_eq_some_iff.mp hb).1
  have e : (as.take j).length = (bs.take j).length := by rw [List.length_take, List.length_take]; omega
  simp only [Option.toList]
  rw [List.zip_append e, List.flatMap_append]
  rfl
theorem midfront {h₀ h : Heap} {L : Addr} {own r : List (Addr × Obj)} {q : Addr × Obj} (N : News h₀ L h (own ++ q :: r)) : News h₀ L h (q :: (own ++ r)) :=
  nsub N fun p hp => by
    rcases List.mem_cons.mp hp with rfl | hp
    · exact List.mem_append_right _ (.head _)
    · rcases List.mem_append.mp hp with hp | hp
      · exact List.mem_append_left _ hp
      · exact List.mem_append_right _ (.tail _ hp)
theorem frU2 {h₀ h : Heap} {L : Addr} {m : Str → Option Value} {n1 n2 n : Str} {v1 v2 : Option Value} {v : Value} (hm : m n = some v) (F : Fr h₀ L h (fun y => if y = n1 then v1 else if y = n2 then v2 else m y)) :
    Fr h₀ L h (fun y => if y = n1 then v1 else if y = n2 then v2 else if y = n then some v else m y) := by
  have e : (fun y => if y = n1 then v1 else if y = n2 then v2 else if y = n then some v else m y) = (fun y => if y = n1 then v1 else if y = n2 then v2 else m y) := by
    funext y
    have : (if y = n then some v else m y) = m y := by
      by_cases h : y = n
      · rw [if_pos h, h, hm]
      · rw [if_neg h]
    rw [this]
  rw [e]; exact F
theorem not_long {its its2 : Array Value} (h : its.size + its2.size ≤ 1000) : ¬(!its.isEmpty && Builtin.List.listTooLong (its.size + its2.size)) = true := by
  have : Builtin.List.listTooLong (its.size + its2.size) = false := by simp [Builtin.List.listTooLong, sizeLine]; omega
  simp [this]
local macro_rules | `(tactic| walk_at "call builtin:list.extend") => `(tactic| (k_here; k_dflt (refine' kl_extend ?F ?N ?b rfl ?ne ?U ?d ?z ?y ?_; (case F => k_asm); (case N => k_asm); (case b => walk_at "mine deep"); (case U => k_upd); (case ne => exact Nat.succ_ne_zero _); (case d => exact not_long (by simp only [List.size_toArray, List.length_cons, List.length_nil]; omega)); (case z => (simp only [List.toList_toArray, PySem.sizeLine_eq]; omega)); (case y => (simp only [List.size_toArray, List.length_cons, List.length_nil, PySem.sizeLine_eq]; omega))); intro h' F' N'; (try k_sweep)))
noncomputable def PushJ (B : Addr → Obj → Prop) (pf : Nat → Int) (lo : Addr) (i : Nat) (m : Str → Option Value) (nx : List (Addr × Obj)) : Prop :=
  ∃ p1 p2 ext t, nx = (30, tabObj p1) :: (37, tabObj p2) :: ext ∧ TabOk B (PySem.Str.ofString "_int2digits.<locals>.inner") 32 4 p1 ext ∧ TabOk B (PySem.Str.ofString "_digits2int.<locals>.inner") 47 4 p2 ext ∧ (∀ p ∈ ext, 37 < p.1) ∧ m "family" = some (.int (pf i) t) ∧ m "order" = some (.ref lo) ∧ 0 ≤ pf i ∧ pf i < 65536
theorem pushed_spec {w : World} {A : Around} {E : Value → Shared → Prop} {s : Shared} {h₀ : Heap} {L : Addr} {m : Str → Option Value} {rest : List (Addr × Obj)} {Q : Value → Shared → Prop} {p1 p2 : Array Value} {B : Addr → Obj → Prop} {x : Int} {t : Tok} {lo : Addr} {ovs : List Value} {os : List Int} {ok : Nat}
    (X : Ok w h₀) (Y : At A L h₀ 16) (F : Fr h₀ L s.heap m) (N : News h₀ L s.heap ((30, tabObj p1) :: (37, tabObj p2) :: rest)) (hap : ∀ p ∈ rest, p.1 ≠ 30 ∧ p.1 ≠ 37)
    (hB : ∀ c o, B c o → h₀.get? c = some o) (hp1 : TabOk B (PySem.Str.ofString "_int2digits.<locals>.inner") 32 4 p1 rest) (hp2 : TabOk B (PySem.Str.ofString "_digits2int.<locals>.inner") 47 4 p2 rest)
    (ho : (lo, listOf ovs.toArray ok) ∈ rest ∨ h₀.get? lo = some (listOf ovs.toArray ok)) (hO : IntsAre ovs os) (hos : os.length = 4) (hov : ∀ v ∈ os, 0 ≤ v ∧ v < 4) (hx : 0 ≤ x) (hxb : x < 65536)
    (ret : ∀ p1' p2' ext h' t' tk', Fr h₀ L h' m → News h₀ L h' ((30, tabObj p1') :: (37, tabObj p2') :: (ext ++ rest)) → TabOk B (PySem.Str.ofString "_int2digits.<locals>.inner") 32 4 p1' (ext ++ rest) → TabOk B (PySem.Str.ofString "_digits2int.<locals>.inner") 47 4 p2' (ext ++ rest) → (∀ p ∈ ext, 37 < p.1) → (∀ p ∈ ext, ∀ q ∈ rest, q.1 ≠ p.1) → Q (.int (os.foldl push1 x) t') { s with heap := h', toks := tk' }) :
    wpAny (model row.row.prog w) A (call (.ref 108) [.int x t, .ref lo]) Q E s := by
  obtain ⟨ha, dp, fr, gd, un0⟩ := A
  obtain rfl : ha = none := Y.hh
  refine enterM (mu := [(30, tabObj p1), (37, tabObj p2)]) (stay := rest) (binds := [("family", .int x t), ("order", .ref lo)]) (dep := 15) X Y F (nsub N (by walk_at "mine sub")) (nsub N (by walk_at "mine sub")) (fun p hp q hq => ?_) (by k_is) (by k_is) (by exact BindsTo.of_eq rfl) (by exact locs rfl) (by decide) (by exact rfl) (by exact rfl) (by exact rfl) ?_
  · intro e
    rcases List.mem_cons.mp hq with rfl | hq
    · exact (hap p hp).1 e
    · rw [List.mem_singleton.mp hq] at e; exact (hap p hp).2 e
  intro g L' h₁ X' Y' gk gs F' N' lt1 lt2
  obtain ⟨p, loose, mean, mg, mb, T'⟩ := X'.top
  have K' := X'.K
  have hB' : ∀ c o, ((c, o) ∈ rest ∨ B c o) → g.get? c = some o := fun c o h => h.elim (gs _) (fun h => gk _ _ (hB _ _ h))
  have hLlo : g.IsList lo ovs.toArray := ⟨_, ho.elim (gs _) (gk _ _), rfl, _, rfl⟩
  show wpAny _ _ _ _ _ _
  k_fold
  walk_at "mine steps"
  refine For_invVF F' rfl rfl ?_
  w_strict walk1
  refine iterL0 (PushJ (fun c o => (c, o) ∈ rest ∨ B c o) (fun i => (os.take i).foldl push1 x) lo) rfl hLlo hO (by assumption) (by assumption) ?_ ?_ ?_
  · refine ⟨p1, p2, [], t, rfl, ?_, ?_, (fun _ h => nomatch h), rfl, rfl, hx, hxb⟩
    · rcases hp1 with h | ⟨c', oc, cvs, ct, h1, h2, h3, h4⟩
      · exact .inl h
      · exact .inr ⟨c', oc, cvs, ct, h1, .inr h2, h3, h4⟩
    · rcases hp2 with h | ⟨c', oc, cvs, ct, h1, h2, h3, h4⟩
      · exact .inl h
      · exact .inr ⟨c', oc, cvs, ct, h1, .inr h2, h3, h4⟩
  · intro I i v tv m₁ nx h tk o hIlt hv hJ hne F1 N1
    obtain ⟨q1, q2, ext, tf, rfl, hq1, hq2, hext, hfam, hord, hf0, hf1⟩ := hJ
    obtain ⟨f, hf⟩ : ∃ f, f = (os.take i).foldl push1 x := ⟨_, rfl⟩
    have hfs : (os.take (i + 1)).foldl push1 x = push1 f v := by rw [List.take_add_one, hv, hf]; simp
    simp only [← hf] at hfam hf0 hf1
    have hvb := hov v (List.mem_of_getElem? hv)
    have F2 : Fr g L' h (fun y => if y = "thing" then some (.int v tv) else if y = "family" then some (.int f tf) else m₁ y) := by
      have e : (fun y => if y = PySem.Str.ofString "thing" then some (Value.int v tv) else if y = PySem.Str.ofString "family" then some (Value.int f tf) else m₁ y) = fun y => if y = PySem.Str.ofString "thing" then some (.int v tv) else m₁ y := by
        funext y
        by_cases h1 : y = PySem.Str.ofString "thing"
        · simp [h1]
        · simp only [if_neg h1]
          by_cases h2 : y = PySem.Str.ofString "family"
          · rw [if_pos h2, h2, hfam]
          · rw [if_neg h2]
      show Fr g L' h (fun y => if y = PySem.Str.ofString "thing" then some (Value.int v tv) else if y = PySem.Str.ofString "family" then some (Value.int f tf) else m₁ y)
      rw [e]; exact F1
    clear F1
    have hpw : 1 ≤ 1 * (2 : Int) ^ v.toNat ∧ 1 * (2 : Int) ^ v.toNat ≤ 8 := pow_small hvb.1 hvb.2
    have hI37 : @LT.lt Nat _ 37 I := hIlt _ (.tail _ (.head _))
    have hI30 : @LT.lt Nat _ 30 I := hIlt _ (.head _)
    walk_at "mine steps"
    refine i2d_spec (rest := (I, o) :: ext) X' (Y'.less (by omega)) F2 (nsub N1 (by walk_at "mine sub")) hq1 (fun p hp => .tail _ hp) hB' (List.forall_mem_cons.mpr ⟨hI37, hext⟩) hf0 (by omega) hpw.1 hpw.2 ?_
    intro d vs k p1' ext' h3 tk3 F3 N3 hT3 hext3 hd3 hd37 hI3
    have hdl := dg_length (2 ^ (1 * 2 ^ v.toNat : Int).toNat) (((Builtin.Int.intBits f : Int) + 1 * 2 ^ v.toNat - 1).fdiv (1 * 2 ^ v.toNat)).toNat f
    have hkb := digits_le hf0 hf1 hpw.1 hpw.2
    generalize hdg : dg (2 ^ (1 * 2 ^ v.toNat : Int).toNat) (((Builtin.Int.intBits f : Int) + 1 * 2 ^ v.toNat - 1).fdiv (1 * 2 ^ v.toNat)).toNat f = ds at *
    induction ds using genV; rename_i ds
    have hdg' : figs f v = ds := hdg
    have hdl2 : ds.length ≤ 16 := by rw [hdl]; exact Int.toNat_le.mpr hkb.2
    clear hdl hkb
    have hfm := fm2 ds.length
    have hfm3 : ((ds.length : Int).fmod 2).toNat ≤ 1 := Int.toNat_le.mpr (Int.le_of_lt_add_one hfm.2)
    have hfma : -2 ^ 63 ≤ (ds.length : Int).fmod 2 := Int.le_trans (by decide) hfm.1
    have hfmb : (ds.length : Int).fmod 2 < 2 ^ 63 := Int.lt_trans hfm.2 (by decide)
    walk_at "mine steps"
    rename_i l5 h5 tk5 l6 h6 tk6 D7 h7 i7 n7 s7 e7 f7 g7 l7 D8 ws h8 I8 l8 h9 tk9 pl h10 l10 h11 F11 N11
    have hpad : (ds ++ (List.replicate ((ds.length : Int).fmod 2).toNat [0]).flatten).length ≤ 17 := by
      rw [krep_flat, List.length_append, List.length_replicate]; exact Nat.add_le_add hdl2 hfm3
    generalize hws : ds ++ (List.replicate ((ds.length : Int).fmod 2).toNat [0]).flatten = es at *
    induction es using genV; rename_i es
    refine For_pair3 g rfl rfl rfl rfl ?_ (fun _ => rfl)
    walk_at "mine steps"
    rename_i D1 h12 Ie l12 D2 h13 F13 N13 Io l13
    have hpl : ∀ p ∈ ext' ++ (I, o) :: ext, p.1 < pl := allLt_get l10.2.2.2.2.2.2
    have hD1 : ∀ p ∈ ext' ++ (I, o) :: ext, p.1 < D1 := allLt_get l12.2.2.2.2.2.2.2
    have hD2 : ∀ p ∈ ext' ++ (I, o) :: ext, p.1 < D2 := allLt_get l13.2.2.2.2.2.2.2.2
    refine zipL (news := (pl, listOf #[] 0) :: (30, tabObj p1') :: (37, tabObj q2) :: (ext' ++ (I, o) :: ext)) rfl (nsub N13 (by walk_at "mine sub")) Ie Io (by w_strict k_all) (by w_strict k_all) F13 ?_
    intro h14 e14 F14 N14 S14
    refine zipI S14 (ZipJ (evens es) (odds es) pl ((30, tabObj p1') :: (37, tabObj q2) :: (ext' ++ (I, o) :: ext)) f tf v tv lo) ⟨[], 0, rfl, .nil, rfl, rfl, rfl, hord⟩ ?_ ?_
    · intro j a b ta tb m₂ nx₂ h15 tk15 own ha hb hJ2 hmap hown F15 N15
      obtain ⟨pv, kp, rfl, hpv, hm1, hm2, hm3, hm4⟩ := hJ2
      have F15' := frU2 hm1 F15
      have N15' := midfront N15
      have hj8 : j < 17 := by
        have h1 := (List.getElem?_eq_some_iff.mp ha).1
        have h2 : (evens es).length ≤ es.length := evens_le es
        omega
      have hpvl : pv.length ≤ 34 := by
        rw [hpv.length]
        exact Nat.le_trans (pairs_le _ _) (by rw [List.length_take]; omega)
      have hplne : ∀ p ∈ own ++ ((30, tabObj p1') :: (37, tabObj q2) :: (ext' ++ (I, o) :: ext)), p.1 ≠ pl := by
        intro p hp
        rcases List.mem_append.mp hp with hp | hp
        · exact hown p hp (pl, _) (.head _)
        · rcases List.mem_cons.mp hp with rfl | hp
          · exact Nat.ne_of_lt l10.2.2.2.1
          · rcases List.mem_cons.mp hp with rfl | hp
            · exact Nat.ne_of_lt l10.2.2.2.2.1
            · exact Nat.ne_of_lt (hpl p hp)
      clear N15 F15
      obtain ⟨R, hR⟩ : ∃ R, R = own ++ ((30, tabObj p1') :: (37, tabObj q2) :: (ext' ++ (I, o) :: ext)) := ⟨_, rfl⟩
      rw [← hR] at N15' hplne
      walk_at "mine steps"
      rename_i l17 h17 l18 h18 F18 N18
      refine LoopStep2.intro (news₂ := (pl, listOf (pv ++ [Value.int (Builtin.bitOr a b) tk15, Value.int (Builtin.bitAnd a b) (tk15 + 1)]).toArray (kp + 1)) :: (30, tabObj p1') :: (37, tabObj q2) :: (ext' ++ (I, o) :: ext)) F18 (nsub N18 fun p hp => ?_) (by simp) ⟨pv ++ [Value.int (Builtin.bitOr a b) tk15, Value.int (Builtin.bitAnd a b) (tk15 + 1)], kp + 1, rfl, ?_, rfl, hm2, hm3, hm4⟩
      · rcases List.mem_append.mp hp with hp | hp
        · exact .tail _ (.tail _ (hR ▸ List.mem_append_left _ hp))
        · rcases List.mem_cons.mp hp with rfl | hp
          · exact .tail _ (.head _)
          · exact .tail _ (.tail _ (hR ▸ List.mem_append_right _ hp))
      · rw [pairs_succ ha hb]
        exact IntsAre.append hpv (.cons _ _ (.cons _ _ .nil))
    · intro h16 tk16 m₃ nx₃ F16 N16 hmap3 hJ3
      obtain ⟨pv, kp, rfl, hpv, hm1, hm2, hm3, hm4⟩ := hJ3
      rw [pairs_all] at hpv
      have hwse : es = pad (figs f v) := by rw [hdg', ← hws]; rfl
      obtain ⟨hdd, hll⟩ := push_digits hf0 hf1 hvb
      rw [← hwse] at hdd hll
      have hp1' : push1 f v = un (2 ^ (1 * 2 ^ v.toNat : Int).toNat) (pairs (evens es) (odds es)) := by rw [hwse]; rfl
      have hsz9 : (pairs (evens es) (odds es)).length ≤ 100 := by
        have h1 : 1 ≤ (1 * 2 ^ v.toNat : Int).toNat := by omega
        have h2 := Nat.mul_le_mul_left (pairs (evens es) (odds es)).length h1
        omega
      have F16' := fr3 hm1 hm2 hm3 F16
      clear F16
      walk_at "mine steps"
      refine d2i_spec (rest := (pl, listOf pv.toArray kp) :: (ext' ++ (I, o) :: ext)) X' (Y'.less (by omega)) (by assumption) (nsub N16 (by walk_at "mine sub")) hq2 (fun p hp => .tail _ (List.mem_append_right _ (.tail _ hp))) hB' ?hapx (.head _) hpv hsz9 hpw.1 hpw.2 hdd ?_
      · refine List.forall_mem_cons.mpr ⟨l10.2.2.2.2.1, fun p hp => ?_⟩
        rcases List.mem_append.mp hp with hp | hp
        · exact (hext3 p hp).1
        · rcases List.mem_cons.mp hp with rfl | hp
          · exact hI37
          · exact hext p hp
      intro p2' ext2 h20 t20 tk20 F20 N20 hT20 hext20
      rw [← hp1']
      walk_at "mine steps"
      rename_i h21 F21 N21x
      have N21 : News g L' h21 ((30, tabObj p1') :: (37, tabObj p2') :: (ext2 ++ ((pl, listOf pv.toArray kp) :: (ext' ++ (I, o) :: ext)))) := N21x
      obtain ⟨q0, q1'⟩ := push1_lt hf0 hf1 hvb
      refine ⟨_, _, _, (30, tabObj p1') :: (37, tabObj p2') :: (ext2 ++ (ext' ++ ext)), rfl, F21, nsub N21 ?s1, ?s2, p1', p2', ext2 ++ (ext' ++ ext), t20, rfl, hT3.mono ?s3 (fun _ _ e => .inr e), hT20.mono ?s4 (fun _ _ e => .inr e), ?s5, ?s6, hm4, ?s7⟩
      case s6 =>
        show _ = some (Value.int ((os.take (i + 1)).foldl push1 x) t20)
        rw [hfs]; rfl
      case s7 =>
        show 0 ≤ (os.take (i + 1)).foldl push1 x ∧ (os.take (i + 1)).foldl push1 x < 65536
        rw [hfs]; exact ⟨q0, q1'⟩
      case s1 =>
        refine List.forall_mem_cons.mpr ⟨.tail _ (.tail _ (List.mem_append_right _ (.tail _ (List.mem_append_right _ (.head _))))), List.forall_mem_cons.mpr ⟨.head _, List.forall_mem_cons.mpr ⟨.tail _ (.head _), fun p hp => .tail _ (.tail _ ?_)⟩⟩⟩
        rcases List.mem_append.mp hp with hp | hp
        · exact List.mem_append_left _ hp
        · rcases List.mem_append.mp hp with hp | hp
          · exact List.mem_append_right _ (.tail _ (List.mem_append_left _ hp))
          · exact List.mem_append_right _ (.tail _ (List.mem_append_right _ (.tail _ hp)))
      case s2 =>
        refine List.forall_mem_cons.mpr ⟨Nat.ne_of_lt hI30, List.forall_mem_cons.mpr ⟨Nat.ne_of_lt hI37, fun p hp => ?_⟩⟩
        rcases List.mem_append.mp hp with hp | hp
        · exact Nat.ne_of_gt ((hext20 p hp).2 (I, o) (.tail _ (List.mem_append_right _ (.head _))))
        · rcases List.mem_append.mp hp with hp | hp
          · exact Nat.ne_of_gt ((hext3 p hp).2 (I, o) (.head _))
          · exact hne p (.tail _ (.tail _ hp))
      case s3 => exact fun p hp => List.mem_append_right _ hp
      case s4 =>
        intro p hp
        rcases List.mem_append.mp hp with hp | hp
        · exact List.mem_append_left _ hp
        · exact List.mem_append_right _ (List.mem_append_right _ hp)
      case s5 =>
        intro p hp
        rcases List.mem_append.mp hp with hp | hp
        · exact (hext20 p hp).1
        · rcases List.mem_append.mp hp with hp | hp
          · exact (hext3 p hp).1
          · exact hext p hp
  · intro m₁ nx h tk hJ F1 N1
    obtain ⟨q1, q2, ext, tf, rfl, hq1, hq2, hext, hfam, hord, hf0, hf1⟩ := hJ
    simp only [List.take_length] at hfam
    replace F1 := fr1 hfam F1
    walk_at "mine steps"
    try dsimp only
    show LeaveM h₀ L m g rest Q _ _
    refine leaveM F1 N1 (fun F3 N3 => ret q1 q2 ext _ _ _ F3 N3 (hq1.mono (fun p hp => List.mem_append_left _ hp) ?_) (hq2.mono (fun p hp => List.mem_append_left _ hp) ?_) hext (fun p hp q hq => apart_of gs N1 (.tail _ (.tail _ hp)) q hq))
    · exact fun c o h => h.imp (fun h => List.mem_append_right _ h) id
    · exact fun c o h => h.imp (fun h => List.mem_append_right _ h) id
end Mine
end
local macro_rules | `(tactic| walk_at "mine pad") => `(tactic| fail "pad")
local macro_rules | `(tactic| walk_at "mine pad") => `(tactic| fail "pad")
local macro_rules | `(tactic| walk_at "mine pad") => `(tactic| fail "pad")
section
theorem Mine.fresh_W10 : True := by
  w_top off
  exact trivial
open PySem PySem.W PyProof.Rows PySem.Calls PySem.Spec
namespace Mine
theorem fillK10 (w : World) : row.name = row.name ∧ Kf w.params = Kf w.params := by
  k_fill
  exact ⟨rfl, rfl⟩
local macro_rules | `(tactic| walk_at "mine steps") => `(tactic| w_strict (repeat' (walk_at "mine no 0"; walk_at "mine no 1"; walk_at "mine core")))
theorem div2n1n_spec {w : World} {A : Around} {E : Value → Shared → Prop} {s : Shared} {h₀ : Heap} {L : Addr} {m : Str → Option Value} {rest : List (Addr × Obj)} {Q : Value → Shared → Prop} {a : Int} {t1 t2 t3 : Tok}
    (X : Ok w h₀) (Y : At A L h₀ 20) (F : Fr h₀ L s.heap m) (N : News h₀ L s.heap rest)
    (h0 : 0 ≤ a) (h1 : a < 1024)
    (ret : ∀ D t4 t5 h' tk', Fr h₀ L h' m → News h₀ L h' ((D, { cls := .type "tuple", data := .seq #[.int (a / 31) t4, .int (a % 31) t5] }) :: rest) → (∀ p ∈ rest, p.1 ≠ D) → Q (.ref D) { s with heap := h', toks := tk' }) :
    wpAny (model row.row.prog w) A (call (.ref 21) [.int a t1, .int 31 t2, .int 5 t3]) Q E s := by
  obtain ⟨ha, dp, fr, gd, un0⟩ := A
  obtain rfl : ha = none := Y.hh
  refine enterM (mu := []) (stay := rest) (binds := [("a", .int a t1), ("b", .int 31 t2), ("n", .int 5 t3)]) (dep := 19) X Y F News.nil N (fun _ _ _ h => nomatch h) (by k_is) (by k_is) (by exact BindsTo.of_eq rfl) (by exact locs rfl) (by decide) (by exact rfl) (by exact rfl) (by exact rfl) ?_
  intro g L' h₁ X' Y' gk gs F' N' lt1 lt2
  obtain ⟨p, loose, mean, mg, mb, T'⟩ := X'.top
  have K' := X'.K
  have hbits : (Builtin.Int.intBits a : Int) - 5 ≤ 4000 := by
    have : Builtin.Int.intBits a ≤ 10 := by rw [intBits_le_iff]; omega
    omega
  show wpAny _ _ _ _ _ _
  k_fold
  walk_at "mine steps"
  rename_i h9 F9 N9
  rw [Int.fdiv_eq_ediv_of_nonneg _ (by decide), Int.fmod_eq_emod_of_nonneg _ (by decide)] at N9
  exact leaveM F9 N9 (fun F3 N3 => ret _ _ _ _ _ F3 N3 (apart_of gs N9 (.head _)))
end Mine
end
local macro_rules | `(tactic| walk_at "mine pad") => `(tactic| fail "pad")
local macro_rules | `(tactic| walk_at "mine pad") => `(tactic| fail "pad")
section
theorem Mine.fresh_W11 : True := by
  w_top off
  exact trivial
open PySem PySem.W PyProof.Rows PySem.Calls PySem.Spec
namespace Mine
section
variable {prog : Program} {w : World} {A : Around} {E : Value → Shared → Prop} {s : Shared} {env : Env} {h₀ : Heap} {x : Str} {body : List Stmt} {Q : Flow → Shared → Prop}
theorem loopX {I : Addr} {fp : List Addr} {n : Nat} {P : Nat → Value → Prop} {St : Nat → Heap → Prop} {m₀ : Str → Option Value} {news : List (Addr × Obj)} (J : Nat → (Str → Option Value) → List (Addr × Obj) → Prop)
    (W : Walks prog w A I fp [I] n P St) (hIf : I ∈ fp) (hin : ∀ b ∈ fp, b = I ∨ (∃ o, h₀.get? b = some o) ∨ (∃ o, ∀ i m nx, J i m nx → (b, o) ∈ nx)) (hI0 : h₀.get? I = none) (hL : env.locals ≠ I) (hob : ∀ i h, St i h → ∃ o, h.get? I = some o)
    (st0 : St 0 s.heap) (F : Fr h₀ env.locals s.heap m₀) (N : News h₀ env.locals s.heap news) (hnw : ∀ p ∈ news, p.1 ≠ I) (hj : J 0 m₀ news)
    (turn : ∀ i v m₁ nx h tk o, i < n → P i v → J i m₁ nx → (∀ p ∈ nx, p.1 ≠ I) → Fr h₀ env.locals h (fun y => if y = x then some v else m₁ y) → News h₀ env.locals h ((I, o) :: nx) →
      wpAny (model prog w) A (execs body env) (TurnE h₀ env.locals I o (J (i + 1)) { s with heap := h, toks := tk } Q) E { s with heap := h, toks := tk })
    (done : ∀ m₁ nx h tk, J n m₁ nx → Fr h₀ env.locals h m₁ → News h₀ env.locals h nx → Q .next { s with heap := h, toks := tk }) :
    LoopAtV prog w A h₀ env x body Q E (.ref I) s := by
  refine ⟨I, fp, [I], n, P, St, m₀, news, J, rfl, W, ?_, ?_, ?_, st0, F, N, hj, ?_, ?_⟩
  · intro hm
    rcases hin _ hm with e | ⟨o, e⟩ | ⟨o, e⟩
    · exact hL e
    · exact absurd (Heap.lt_size e) (Nat.not_lt.mpr F.above)
    · exact (N _ (e _ _ _ hj)).2.1 rfl
  · intro b hb
    rw [List.mem_singleton.mp hb]; exact hI0
  · intro p hp hm
    exact hnw p hp (List.mem_singleton.mp hm)
  · rintro i v m₁ nx s₁ own ⟨hh', tk', rfl⟩ hin' hP hJ hoff hown howe hall st F₁ N₁
    obtain ⟨o, ho⟩ := hob _ _ st
    have hmem : (I, o) ∈ own := hall I hIf hI0 o ho
    have hne : ∀ p ∈ nx, p.1 ≠ I := fun p hp e => hoff p hp (by rw [e]; exact List.mem_singleton.mpr rfl)
    have N₂ : News h₀ env.locals hh' ((I, o) :: nx) := fun p hp => by
      rcases List.mem_cons.mp hp with rfl | hp
      · exact N₁ _ (List.mem_append_left _ hmem)
      · exact N₁ _ (List.mem_append_right _ hp)
    have hown2 : ∀ p ∈ own, p = (I, o) ∨ ∀ i m nx, J i m nx → p ∈ nx := fun p hp => by
      rcases hin _ (hown p hp) with e1 | ⟨o', e⟩ | ⟨o', e⟩
      · have e2 := howe p hp
        rw [e1, ho] at e2
        exact .inl (Prod.ext e1 (Option.some.inj e2).symm)
      · have := (N₁ p (List.mem_append_left _ hp)).2.2
        rw [e] at this; cases this
      · have e3 := (N₁ _ (List.mem_append_right _ (e _ _ _ hJ))).1
        have e2 := howe p hp
        have e4 : p.2 = o' := by
          have : hh'.get? p.1 = some o' := e3
          rw [this] at e2; exact (Option.some.inj e2).symm
        refine .inr fun i m nx h => ?_
        have := e i m nx h
        rw [← e4] at this
        exact this
    refine wpAny_mono (turn i v m₁ nx hh' tk' o hin' hP hJ hne F₁ N₂) (fun f s₂ p => ?_) fun _ _ e => e
    have fin : (∃ h' tk m' nx', s₂ = { s with heap := h', toks := tk } ∧ Fr h₀ env.locals h' m' ∧ News h₀ env.locals h' ((I, o) :: nx') ∧ (∀ p ∈ nx', p.1 ≠ I) ∧ J (i + 1) m' nx') → LoopStepU h₀ env.locals [I] own (J (i + 1)) { s with heap := hh', toks := tk' } .next s₂ := by
      rintro ⟨h', tk, m', nx', e, F', N', hn, hJ'⟩
      refine ⟨rfl, h', tk, m', nx', e, F', fun p hp => ?_, fun p hp hq => hn p hp (List.mem_singleton.mp hq), hJ'⟩
      rcases List.mem_append.mp hp with hp | hp
      · rcases hown2 p hp with e | e
        · rw [e]; exact N' _ (.head _)
        · exact N' _ (.tail _ (e _ _ _ hJ'))
      · exact N' _ (.tail _ hp)
    cases f with
    | ret v => exact .ret p
    | brk => exact .brk p
    | next => exact .next (fin p)
    | cont => exact .cont (fin p)
  · rintro h' tk m' nx F' N' _ hJ
    exact done m' nx h' tk hJ F' N'
/-- a for over a reversed list of the ledger -/
theorem iterV {D l : Addr} {vs : List Value} {ns : List Int} {k : Nat} {m₀ : Str → Option Value} {news : List (Addr × Obj)} (J : Nat → (Str → Option Value) → List (Addr × Obj) → Prop)
    (hh : A.handled = none) (hi : IntsAre vs ns) (F : Fr h₀ env.locals s.heap m₀) (N : News h₀ env.locals s.heap ((D, revObj l ((vs.length : Int) - 1)) :: news)) (hDn : ∀ p ∈ news, p.1 ≠ D) (hl : ∀ i m nx, J i m nx → (l, listOf vs.toArray k) ∈ nx) (hj : J 0 m₀ news)
    (turn : ∀ i n t m₁ nx h tk o, ns[ns.length - 1 - i]? = some n → i < ns.length → J i m₁ nx → (∀ p ∈ nx, p.1 ≠ D) → Fr h₀ env.locals h (fun y => if y = x then some (.int n t) else m₁ y) → News h₀ env.locals h ((D, o) :: nx) →
      wpAny (model prog w) A (execs body env) (TurnE h₀ env.locals D o (J (i + 1)) { s with heap := h, toks := tk } Q) E { s with heap := h, toks := tk })
    (done : ∀ m₁ nx h tk, J ns.length m₁ nx → Fr h₀ env.locals h m₁ → News h₀ env.locals h nx → Q .next { s with heap := h, toks := tk }) :
    wpAny (model prog w) A (pyIter (.ref D)) (fun it s₂ => LoopAtV prog w A h₀ env x body Q E it s₂) E s := by
  have zl := N _ (.tail _ (hl _ _ _ hj))
  have zD := N _ (.head _)
  have hls : s.heap.IsList l vs.toArray := ⟨_, zl.1, rfl, _, rfl⟩
  have hne : l ≠ D := hDn _ (hl _ _ _ hj)
  have W := Walks.listRev (prog := prog) (w := w) hh D l hne vs.toArray
  have hlen : vs.toArray.size = ns.length := by simp [hi.length]
  have hvl : vs.length = ns.length := hi.length
  have st0 : (0 : Nat) ≤ vs.toArray.size ∧ s.heap.IsRevIter D l ((vs.toArray.size : Int) - 1 - ((0 : Nat) : Int)) ∧ s.heap.IsList l vs.toArray := by
    refine ⟨Nat.zero_le _, ?_, hls⟩
    have e : (vs.toArray.size : Int) - 1 - ((0 : Nat) : Int) = (vs.length : Int) - 1 := by simp
    rw [e]
    exact ⟨_, zD.1, rfl, rfl⟩
  rw [hlen] at W
  refine W.self 0 _ _ _ (by simpa [hlen] using st0) ?_
  refine loopX J W (.head _) (fun b hb => ?_) zD.2.2 (fun e => zD.2.1 e.symm) (fun i h st => ?_) (by simpa [hlen] using st0) F (nsub N fun p hp => .tail _ hp) hDn hj ?_ done
  · rcases List.mem_cons.mp hb with e | hb
    · exact .inl e
    · rw [List.mem_singleton.mp hb]; exact .inr (.inr ⟨_, hl⟩)
  · obtain ⟨_, ⟨o, ho, _⟩, _⟩ := st
    exact ⟨o, ho⟩
  · intro i v m₁ nx h tk o hin hP hJ hne' F₁ N₁
    have hlt' : ns.length - 1 - i < ns.length := Nat.lt_of_le_of_lt (Nat.sub_le _ _) (Nat.sub_lt (Nat.lt_of_le_of_lt (Nat.zero_le i) (by assumption)) Nat.one_pos)
    obtain ⟨t, hx⟩ := hi.get (ns.length - 1 - i) ns[ns.length - 1 - i] (by simp [hlt'])
    have hv : v = .int ns[ns.length - 1 - i] t := by
      have hP' : vs[ns.length - 1 - i]? = some v := by simpa [hlen] using hP
      rw [hx] at hP'; exact (Option.some.inj hP').symm
    subst hv
    exact turn i _ t m₁ nx h tk o (by simp [hlt']) hin hJ hne' F₁ N₁
end
end Mine
end
section
theorem Mine.fresh_W12 : True := by
  w_top off
  exact trivial
open PySem PySem.W PyProof.Rows PySem.Calls PySem.Spec
namespace Mine
theorem fillK12 (w : World) : row.name = row.name ∧ Kf w.params = Kf w.params := by
  k_fill
  exact ⟨rfl, rfl⟩
local macro_rules | `(tactic| walk_at "mine steps") => `(tactic| w_strict (repeat' (walk_at "mine no 0"; walk_at "mine no 1"; walk_at "mine no 3"; walk_at "mine core")))
theorem TabOk.toB {B : Addr → Obj → Prop} {q : Str} {l c : Nat} {ps : Array Value} {rest : List (Addr × Obj)} (h : TabOk B q l c ps rest) : TabOk (fun c o => (c, o) ∈ rest ∨ B c o) q l c ps [] := by
  rcases h with h | ⟨c', oc, cvs, ct, h1, h2, h3, h4⟩
  · exact .inl h
  · exact .inr ⟨c', oc, cvs, ct, h1, .inr h2, h3, h4⟩
noncomputable def DpJ (ns : List Int) (ql : Addr) (p1 p2 : Array Value) (rest : List (Addr × Obj)) (tb : Tok) (i : Nat) (m : Str → Option Value) (nx : List (Addr × Obj)) : Prop :=
  ∃ qv k r tr qs tn, nx = (ql, listOf qv.toArray k) :: (30, tabObj p1) :: (37, tabObj p2) :: rest ∧ IntsAre qv qs ∧ qs.length = i ∧ (∀ v ∈ qs, 0 ≤ v ∧ v < 32) ∧ r = un 32 (ns.drop (ns.length - i)) % 31 ∧ m "r" = some (.int r tr) ∧ m "n" = some (.int 5 tn) ∧ m "b" = some (.int 31 tb) ∧ m "q_digits" = some (.ref ql)
theorem frU1 {h₀ h : Heap} {L : Addr} {m : Str → Option Value} {n0 n1 n2 n3 n4 : Str} {v0 : Option Value} {v1 v2 v3 v4 : Value} (h1 : m n1 = some v1) (h2 : m n2 = some v2) (h3 : m n3 = some v3) (h4 : m n4 = some v4) (F : Fr h₀ L h (fun y => if y = n0 then v0 else m y)) :
    Fr h₀ L h (fun y => if y = n0 then v0 else if y = n1 then some v1 else if y = n2 then some v2 else if y = n3 then some v3 else if y = n4 then some v4 else m y) := by
  have e : (fun y => if y = n0 then v0 else if y = n1 then some v1 else if y = n2 then some v2 else if y = n3 then some v3 else if y = n4 then some v4 else m y) = (fun y => if y = n0 then v0 else m y) := by
    funext y
    have : (if y = n1 then some v1 else if y = n2 then some v2 else if y = n3 then some v3 else if y = n4 then some v4 else m y) = m y := by
      by_cases c1 : y = n1
      · rw [if_pos c1, c1, h1]
      rw [if_neg c1]
      by_cases c2 : y = n2
      · rw [if_pos c2, c2, h2]
      rw [if_neg c2]
      by_cases c3 : y = n3
      · rw [if_pos c3, c3, h3]
      rw [if_neg c3]
      by_cases c4 : y = n4
      · rw [if_pos c4, c4, h4]
      rw [if_neg c4]
    rw [this]
  rw [e]; exact F
theorem dp_step {ds : List Int} {i : Nat} {n r : Int} (hn : ds[ds.length - 1 - i]? = some n) (hi : i < ds.length) (hr : r = un 32 (ds.drop (ds.length - i)) % 31) : (r * 32 + n) % 31 = un 32 (ds.drop (ds.length - (i + 1))) % 31 := by
  have h1 : ds.length - (i + 1) < ds.length := Nat.sub_lt (Nat.lt_of_le_of_lt (Nat.zero_le _) hi) (Nat.succ_pos _)
  have e : ds.drop (ds.length - (i + 1)) = n :: ds.drop (ds.length - i) := by
    rw [List.drop_eq_getElem_cons h1]
    have e1 : ds.length - (i + 1) + 1 = ds.length - i := Nat.sub_add_cancel (Nat.sub_pos_of_lt hi)
    have e2 : ds.length - 1 - i = ds.length - (i + 1) := by omega
    rw [e2, List.getElem?_eq_getElem h1] at hn
    rw [e1, Option.some.inj hn]
  rw [e, un]
  omega
theorem un_dg {b : Int} : ∀ (k : Nat) (x : Int), (0 < k ∨ x = 0) → un b (dg b k x) = x
  | 0, x, h => by
    rcases h with h | h
    · omega
    · rw [h]; rfl
  | 1, x, _ => by simp [dg, un]
  | k + 2, x, _ => by
    rw [dg, un, un_dg (k + 1) (x / b) (.inl (by omega))]
    exact Int.emod_add_mul_ediv x b
theorem five_facts {x : Int} (hx : 0 ≤ x) : (∀ v ∈ dg (2 ^ Int.toNat 5) (((Builtin.Int.intBits x : Int) + 5 - 1).fdiv 5).toNat x, 0 ≤ v ∧ v < 32) ∧ un 32 (dg (2 ^ Int.toNat 5) (((Builtin.Int.intBits x : Int) + 5 - 1).fdiv 5).toNat x) = x := by
  have e32 : (2 : Int) ^ Int.toNat 5 = 32 := by decide
  have hlt : x.natAbs < 2 ^ Builtin.Int.intBits x := intBits_le_iff.mp (Nat.le_refl _)
  rw [e32, Int.fdiv_eq_ediv_of_nonneg _ (by decide)]
  have hk : (((Builtin.Int.intBits x : Int) + 5 - 1) / 5).toNat = (Builtin.Int.intBits x + 4) / 5 := by omega
  rw [hk]
  constructor
  · refine dg_digits (by decide) _ x hx ?_
    have h1 : Builtin.Int.intBits x ≤ 5 * ((Builtin.Int.intBits x + 4) / 5) := by omega
    have h2 : 2 ^ Builtin.Int.intBits x ≤ 2 ^ (5 * ((Builtin.Int.intBits x + 4) / 5)) := Nat.pow_le_pow_right (by decide) h1
    have h3 : (32 : Int) ^ ((Builtin.Int.intBits x + 4) / 5) = ((2 ^ (5 * ((Builtin.Int.intBits x + 4) / 5)) : Nat) : Int) := by
      rw [kbt_cast, Int.pow_mul]; rfl
    rw [h3]
    omega
  · apply un_dg
    by_cases h : x = 0
    · exact .inr h
    · left
      have : ¬ Builtin.Int.intBits x ≤ 0 := by rw [intBits_le_iff]; omega
      omega
theorem divpos_spec {w : World} {A : Around} {E : Value → Shared → Prop} {s : Shared} {h₀ : Heap} {L : Addr} {m : Str → Option Value} {rest : List (Addr × Obj)} {Q : Value → Shared → Prop} {p1 p2 : Array Value} {B : Addr → Obj → Prop} {x : Int} {t t2 : Tok}
    (X : Ok w h₀) (Y : At A L h₀ 24) (F : Fr h₀ L s.heap m) (N : News h₀ L s.heap ((30, tabObj p1) :: (37, tabObj p2) :: rest)) (hap : ∀ p ∈ rest, p.1 ≠ 30 ∧ p.1 ≠ 37)
    (hB : ∀ c o, B c o → h₀.get? c = some o) (hp1 : TabOk B (PySem.Str.ofString "_int2digits.<locals>.inner") 32 4 p1 rest) (hp2 : TabOk B (PySem.Str.ofString "_digits2int.<locals>.inner") 47 4 p2 rest)
    (hx : 0 ≤ x) (hxb : x < 2 ^ 100)
    (ret : ∀ q D t4 t5 p1' p2' ext h' tk', Fr h₀ L h' m → News h₀ L h' ((D, { cls := .type "tuple", data := .seq #[.int q t4, .int (x % 31) t5] }) :: (30, tabObj p1') :: (37, tabObj p2') :: (ext ++ rest)) → TabOk B (PySem.Str.ofString "_int2digits.<locals>.inner") 32 4 p1' (ext ++ rest) → TabOk B (PySem.Str.ofString "_digits2int.<locals>.inner") 47 4 p2' (ext ++ rest) → (∀ p ∈ ext, 37 < p.1) → Q (.ref D) { s with heap := h', toks := tk' }) :
    wpAny (model row.row.prog w) A (call (.ref 49) [.int x t, .int 31 t2]) Q E s := by
  obtain ⟨ha, dp, fr, gd, un0⟩ := A
  obtain rfl : ha = none := Y.hh
  refine enterM (mu := [(30, tabObj p1), (37, tabObj p2)]) (stay := rest) (binds := [("a", .int x t), ("b", .int 31 t2)]) (dep := 23) X Y F (nsub N (by walk_at "mine sub")) (nsub N (by walk_at "mine sub")) (fun p hp q hq => ?_) (by k_is) (by k_is) (by exact BindsTo.of_eq rfl) (by exact locs rfl) (by decide) (by exact rfl) (by exact rfl) (by exact rfl) ?_
  · intro e
    rcases List.mem_cons.mp hq with rfl | hq
    · exact (hap p hp).1 e
    · rw [List.mem_singleton.mp hq] at e; exact (hap p hp).2 e
  intro g L' h₁ X' Y' gk gs F' N' lt1 lt2
  obtain ⟨p, loose, mean, mg, mb, T'⟩ := X'.top
  have K' := X'.K
  have hB' : ∀ c o, ((c, o) ∈ rest ∨ B c o) → g.get? c = some o := fun c o h => h.elim (gs _) (fun h => gk _ _ (hB _ _ h))
  show wpAny _ _ _ _ _ _
  k_fold
  walk_at "mine steps"
  rename_i h2 F2 N2
  have e31 : ((Builtin.Int.intBits 31 : Nat) : Int) = 5 := by decide +kernel
  rw [e31] at F2 ⊢
  have hq1 : TabOk (fun c o => (c, o) ∈ rest ∨ B c o) (PySem.Str.ofString "_int2digits.<locals>.inner") 32 4 p1 [] := hp1.toB
  have hq2 : TabOk (fun c o => (c, o) ∈ rest ∨ B c o) (PySem.Str.ofString "_digits2int.<locals>.inner") 47 4 p2 [] := hp2.toB
  refine i2d_spec (rest := []) (TL := []) X' (Y'.less (by omega)) F2 N2 hq1 (fun _ h => h) hB' (fun _ h => nomatch h) hx hxb (by decide) (by decide) ?_
  intro d vs k p1' ext' h3 tk3 F3 N3 hT3 hext3 hd3 hd37 hI3
  walk_at "mine steps"
  rename_i ql h5 l5 h6 F6 N6
  refine For_invVF F6 rfl rfl ?_
  walk_at "mine steps"
  have hkb : 0 ≤ ((Builtin.Int.intBits x : Int) + 5 - 1).fdiv 5 ∧ ((Builtin.Int.intBits x : Int) + 5 - 1).fdiv 5 ≤ 21 := by
    have hb : Builtin.Int.intBits x ≤ 100 := by rw [intBits_le_iff]; omega
    rw [Int.fdiv_eq_ediv_of_nonneg _ (by decide)]
    omega
  have hdl := dg_length (2 ^ Int.toNat 5) (((Builtin.Int.intBits x : Int) + 5 - 1).fdiv 5).toNat x
  have hd21 := hdl ▸ Int.toNat_le.mpr hkb.2
  obtain ⟨hdd, hval⟩ := five_facts hx
  generalize hdg : dg (2 ^ Int.toNat 5) (((Builtin.Int.intBits x : Int) + 5 - 1).fdiv 5).toNat x = ds at *
  clear hdl hkb
  induction ds using genV; rename_i ds
  refine krv_reversed F6 N6 (News.isList N6 (by walk_at "mine deep")) ?_
  intro D h7 F7 N7 hD7
  refine iterV (k := k) (DpJ ds ql p1' p2 ((d, listOf vs.toArray k) :: (ext' ++ [])) t2) rfl hI3 F7 N7 (fun p hp => Nat.ne_of_lt (hD7 p hp)) ?_ ⟨[], 0, 0, _, [], _, rfl, .nil, rfl, (fun _ h => absurd h List.not_mem_nil), ?_, rfl, rfl, rfl, rfl⟩ ?_ ?_
  · rintro i m1 nx ⟨qv, kq, r, tr, qs, tn, rfl, _⟩
    exact .tail _ (.tail _ (.tail _ (.head _)))
  · simp [un]
  · intro i n tn m₁ nx h8 tk8 o hn hin hJ hne F8 N8
    obtain ⟨qv, kq, r, tr, qs, tn', rfl, hqv, hql, hqb, hr, hm1, hm2, hm3, hm4⟩ := hJ
    have F9 : Fr g L' h8 _ := frU1 hm1 hm2 hm3 hm4 F8
    have hnb := hdd n (List.mem_of_getElem? hn)
    have hr0 : 0 ≤ r ∧ r < 31 := hr ▸ ⟨Int.emod_nonneg _ (by decide), Int.emod_lt_of_pos _ (by decide)⟩
    clear F8
    walk_at "mine steps"
    have e32 : (2 : Int) ^ Int.toNat 5 = 32 := by decide
    rw [e32]
    refine div2n1n_spec X' (Y'.less (by omega)) F9 N8 (by omega) (by omega) ?_
    intro D2 t4 t5 h10 tk10 F10 N10 hD2
    have hq1' : @LT.lt Nat _ ql D := hD7 _ (.head _)
    have hq2' : @Ne Nat ql D2 := hD2 (ql, _) (.tail _ (.head _))
    have hqx : ∀ p ∈ ext' ++ [], p.1 ≠ ql := all_ne (allLt_get l5.2.2.2) (Nat.le_refl _)
    have hqs : qv.length ≤ 30 := by rw [hqv.length, hql]; exact Nat.le_trans (Nat.le_of_lt hin) (Nat.le_trans hd21 (by decide))
    walk_at "mine steps"
    rename_i h12 F12 N12
    have hstep := dp_step hn hin hr
    have N13 : News g L' h12 ((D, o) :: (ql, listOf (qv ++ [Value.int ((r * 32 + n) / 31) t4]).toArray (kq + 1)) :: (30, tabObj p1') :: (37, tabObj p2) :: (d, listOf vs.toArray k) :: (ext' ++ [])) := by
      have h := nsub N12 (fun p hp => List.Mem.tail _ hp)
      simpa using h
    refine ⟨_, _, _, (ql, listOf (qv ++ [Value.int ((r * 32 + n) / 31) t4]).toArray (kq + 1)) :: (30, tabObj p1') :: (37, tabObj p2) :: (d, listOf vs.toArray k) :: (ext' ++ []), rfl, F12, N13, List.forall_mem_cons.mpr ⟨Nat.ne_of_lt hq1', fun p hp => hne p (.tail _ hp)⟩, qv ++ [Value.int ((r * 32 + n) / 31) t4], kq + 1, (r * 32 + n) % 31, t5, qs ++ [(r * 32 + n) / 31], tn', rfl, IntsAre.append hqv (.cons _ _ .nil), by simp [hql], ?qb, hstep, rfl, rfl, rfl, rfl⟩
    case qb =>
      intro v hv
      rcases List.mem_append.mp hv with hv | hv
      · exact hqb v hv
      · rw [List.mem_singleton.mp hv]; omega
  · intro m₁ nx h8 tk8 hJ F8 N8
    obtain ⟨qv, kq, r, tr, qs, tn', rfl, hqv, hql, hqb, hr, hm1, hm2, hm3, hm4⟩ := hJ
    replace F8 := fr4 hm1 hm2 hm3 hm4 F8
    have hqs : qv.length ≤ 30 := by rw [hqv.length, hql]; exact Nat.le_trans hd21 (by decide)
    have hqx : ∀ p ∈ ext' ++ [], p.1 ≠ ql := all_ne (allLt_get l5.2.2.2) (Nat.le_refl _)
    walk_at "mine steps"
    dsimp only
    refine kl_reverse F8 N8 rfl (Upd.head (by w_strict k_all)) (by simp only [List.toList_toArray, PySem.sizeLine_eq]; omega) ?_
    intro h9 F9 N9
    walk_at "mine steps"
    refine d2i_spec (rest := (ql, listOf qv.reverse.toArray kq) :: (d, listOf vs.toArray k) :: (ext' ++ [])) (TL := []) X' (Y'.less (by omega)) F9 (nsub N9 (by walk_at "mine sub")) hq2 (fun _ h => absurd h List.not_mem_nil) hB' ?hapx (.head _) hqv.reverse (by rw [List.length_reverse]; omega) (by decide) (by decide) (fun v hv => hqb v (List.mem_reverse.mp hv)) ?_
    · refine List.forall_mem_cons.mpr ⟨l5.2.1, List.forall_mem_cons.mpr ⟨hd37, fun p hp => ?_⟩⟩
      rcases List.mem_append.mp hp with hp | hp
      · exact (hext3 p hp).1
      · exact absurd hp List.not_mem_nil
    intro p2' ext2 h20 t20 tk20 F20 N20 hT20 hext20
    walk_at "mine steps"
    rename_i D9 h21 F21 N21 l21
    have hrx : r = x % 31 := by rw [hr, ← hval]; simp
    rw [hrx] at N21
    show LeaveM h₀ L m g rest Q _ _
    refine leaveM F21 (nsub (b := [(D9, { cls := .type "tuple", data := .seq #[.int (un (2 ^ Int.toNat 5) qs.reverse) t20, .int (x % 31) tr] }), (30, tabObj p1'), (37, tabObj p2')] ++ (ext2 ++ ext')) N21 ?sub) (fun F3 N3 => ret (un (2 ^ Int.toNat 5) qs.reverse) D9 t20 tr p1' p2' (ext2 ++ ext') _ _ F3 (by simpa using N3) ((hT3.mono (news' := (ext2 ++ ext') ++ rest) ?a1 ?a2)) ((hT20.mono (news' := (ext2 ++ ext') ++ rest) ?a3 ?a2)) ?a5)
    case a2 => exact fun c o h => h.imp (fun h => List.mem_append_right _ h) id
    case a1 => exact fun p hp => List.mem_append_left _ (List.mem_append_right _ (by simpa using hp))
    case a3 => exact fun p hp => List.mem_append_left _ (List.mem_append_left _ (by simpa using hp))
    case a5 =>
      intro p hp
      rcases List.mem_append.mp hp with hp | hp
      · exact (hext20 p hp).1
      · exact (hext3 p hp).1
    case sub =>
      intro p hp
      rcases List.mem_append.mp hp with hp | hp
      · rcases List.mem_cons.mp hp with rfl | hp
        · exact .head _
        · rcases List.mem_cons.mp hp with rfl | hp
          · exact .tail _ (.head _)
          · rw [List.mem_singleton.mp hp]; exact .tail _ (.tail _ (.head _))
      · rcases List.mem_append.mp hp with hp | hp
        · exact .tail _ (.tail _ (.tail _ (List.mem_append_left _ hp)))
        · exact .tail _ (.tail _ (.tail _ (List.mem_append_right _ (.tail _ (.tail _ (List.mem_append_left _ hp))))))
end Mine
end
local macro_rules | `(tactic| walk_at "mine pad") => `(tactic| fail "pad")
local macro_rules | `(tactic| walk_at "mine pad") => `(tactic| fail "pad")
section
theorem Mine.fresh_W13 : True := by
  w_top off
  exact trivial
open PySem PySem.W PyProof.Rows PySem.Calls PySem.Spec
namespace Mine
theorem fillK13 (w : World) : row.name = row.name ∧ Kf w.params = Kf w.params := by
  k_fill
  exact ⟨rfl, rfl⟩
local macro_rules | `(tactic| walk_at "mine steps") => `(tactic| w_strict (repeat' (walk_at "mine no 0"; walk_at "mine no 1"; walk_at "mine core")))
theorem tabs_apart {p1 p2 : Array Value} {rest : List (Addr × Obj)} (hap : ∀ p ∈ rest, p.1 ≠ 30 ∧ p.1 ≠ 37) : ∀ p ∈ rest, ∀ q ∈ [((30 : Addr), tabObj p1), (37, tabObj p2)], p.1 ≠ q.1 := fun p hp q hq e => by
  rcases List.mem_cons.mp hq with rfl | hq
  · exact (hap p hp).1 e
  · rw [List.mem_singleton.mp hq] at e; exact (hap p hp).2 e
theorem gt37 {a : Addr} (h : @LT.lt Nat _ 37 a) : a ≠ 30 ∧ a ≠ 37 := ⟨fun e => by rw [e] at h; exact absurd h (by show ¬ (37 : Nat) < 30; decide), fun e => by rw [e] at h; exact absurd h (by show ¬ (37 : Nat) < 37; decide)⟩
theorem idmP {w : World} {A : Around} {E : Value → Shared → Prop} {s : Shared} {h₀ : Heap} {L : Addr} {m : Str → Option Value} {rest : List (Addr × Obj)} {Q : Value → Shared → Prop} {p1 p2 : Array Value} {B : Addr → Obj → Prop} {x : Int} {t t2 : Tok}
    (X : Ok w h₀) (Y : At A L h₀ 26) (F : Fr h₀ L s.heap m) (N : News h₀ L s.heap ((30, tabObj p1) :: (37, tabObj p2) :: rest)) (hap : ∀ p ∈ rest, p.1 ≠ 30 ∧ p.1 ≠ 37)
    (hB : ∀ c o, B c o → h₀.get? c = some o) (hp1 : TabOk B (PySem.Str.ofString "_int2digits.<locals>.inner") 32 4 p1 rest) (hp2 : TabOk B (PySem.Str.ofString "_digits2int.<locals>.inner") 47 4 p2 rest)
    (hx : 0 ≤ x) (hxb : x < 2 ^ 100)
    (ret : ∀ q D t4 t5 p1' p2' ext h' tk', Fr h₀ L h' m → News h₀ L h' ((D, { cls := .type "tuple", data := .seq #[.int q t4, .int (x % 31) t5] }) :: (30, tabObj p1') :: (37, tabObj p2') :: (ext ++ rest)) → TabOk B (PySem.Str.ofString "_int2digits.<locals>.inner") 32 4 p1' (ext ++ rest) → TabOk B (PySem.Str.ofString "_digits2int.<locals>.inner") 47 4 p2' (ext ++ rest) → (∀ p ∈ ext, 37 < p.1) → Q (.ref D) { s with heap := h', toks := tk' }) :
    wpAny (model row.row.prog w) A (call (.ref 56) [.int x t, .int 31 t2]) Q E s := by
  obtain ⟨ha, dp, fr, gd, un0⟩ := A
  obtain rfl : ha = none := Y.hh
  refine enterM (mu := [(30, tabObj p1), (37, tabObj p2)]) (stay := rest) (binds := [("a", .int x t), ("b", .int 31 t2)]) (dep := 25) X Y F (nsub N (by walk_at "mine sub")) (nsub N (by walk_at "mine sub")) (tabs_apart hap) (by k_is) (by k_is) (by exact BindsTo.of_eq rfl) (by exact locs rfl) (by decide) (by exact rfl) (by exact rfl) (by exact rfl) ?_
  intro g L' h₁ X' Y' gk gs F' N' lt1 lt2
  obtain ⟨p, loose, mean, mg, mb, T'⟩ := X'.top
  have K' := X'.K
  have hB' : ∀ c o, ((c, o) ∈ rest ∨ B c o) → g.get? c = some o := fun c o h => h.elim (gs _) (fun h => gk _ _ (hB _ _ h))
  show wpAny _ _ _ _ _ _
  k_fold
  walk_at "mine steps"
  refine divpos_spec (rest := []) (B := fun c o => (c, o) ∈ rest ∨ B c o) X' (Y'.less (by omega)) F' N' (fun _ h => absurd h List.not_mem_nil) hB' hp1.toB hp2.toB hx hxb ?_
  intro q D t4 t5 p1' p2' ext h' tk' F9 N9 hT1 hT2 hext
  show LeaveM h₀ L m g rest Q _ _
  simp only [List.append_nil] at N9 hT1 hT2
  exact leaveM F9 N9 (fun F3 N3 => ret q D t4 t5 p1' p2' ext _ _ F3 N3 (hT1.mono (fun p hp => List.mem_append_left _ hp) (fun c o h => h.imp (fun h => List.mem_append_right _ h) id)) (hT2.mono (fun p hp => List.mem_append_left _ hp) (fun c o h => h.imp (fun h => List.mem_append_right _ h) id)) hext)
theorem idmN {w : World} {A : Around} {E : Value → Shared → Prop} {s : Shared} {h₀ : Heap} {L : Addr} {m : Str → Option Value} {rest : List (Addr × Obj)} {Q : Value → Shared → Prop} {p1 p2 : Array Value} {B : Addr → Obj → Prop} {x : Int} {t t2 : Tok}
    (X : Ok w h₀) (Y : At A L h₀ 28) (F : Fr h₀ L s.heap m) (N : News h₀ L s.heap ((30, tabObj p1) :: (37, tabObj p2) :: rest)) (hap : ∀ p ∈ rest, p.1 ≠ 30 ∧ p.1 ≠ 37)
    (hB : ∀ c o, B c o → h₀.get? c = some o) (hp1 : TabOk B (PySem.Str.ofString "_int2digits.<locals>.inner") 32 4 p1 rest) (hp2 : TabOk B (PySem.Str.ofString "_digits2int.<locals>.inner") 47 4 p2 rest)
    (hx : x < 0) (hxb : -(2 ^ 100) < x)
    (ret : ∀ q D t4 t5 p1' p2' ext h' tk', Fr h₀ L h' m → News h₀ L h' ((D, { cls := .type "tuple", data := .seq #[.int q t4, .int (x % 31) t5] }) :: (30, tabObj p1') :: (37, tabObj p2') :: (ext ++ rest)) → TabOk B (PySem.Str.ofString "_int2digits.<locals>.inner") 32 4 p1' (ext ++ rest) → TabOk B (PySem.Str.ofString "_digits2int.<locals>.inner") 47 4 p2' (ext ++ rest) → (∀ p ∈ ext, 37 < p.1) → Q (.ref D) { s with heap := h', toks := tk' }) :
    wpAny (model row.row.prog w) A (call (.ref 56) [.int x t, .int 31 t2]) Q E s := by
  obtain ⟨ha, dp, fr, gd, un0⟩ := A
  obtain rfl : ha = none := Y.hh
  refine enterM (mu := [(30, tabObj p1), (37, tabObj p2)]) (stay := rest) (binds := [("a", .int x t), ("b", .int 31 t2)]) (dep := 27) X Y F (nsub N (by walk_at "mine sub")) (nsub N (by walk_at "mine sub")) (tabs_apart hap) (by k_is) (by k_is) (by exact BindsTo.of_eq rfl) (by exact locs rfl) (by decide) (by exact rfl) (by exact rfl) (by exact rfl) ?_
  intro g L' h₁ X' Y' gk gs F' N' lt1 lt2
  obtain ⟨p, loose, mean, mg, mb, T'⟩ := X'.top
  have K' := X'.K
  have hB' : ∀ c o, ((c, o) ∈ rest ∨ B c o) → g.get? c = some o := fun c o h => h.elim (gs _) (fun h => gk _ _ (hB _ _ h))
  show wpAny _ _ _ _ _ _
  k_fold
  walk_at "mine steps"
  refine idmP (rest := []) (B := fun c o => (c, o) ∈ rest ∨ B c o) X' (Y'.less (by omega)) F' N' (fun _ h => absurd h List.not_mem_nil) hB' hp1.toB hp2.toB (by unfold Builtin.bitNot; omega) (by unfold Builtin.bitNot; omega) ?_
  intro q D t4 t5 p1' p2' ext h' tk' F9 N9 hT1 hT2 hext
  simp only [List.append_nil] at N9 hT1 hT2
  walk_at "mine steps"
  rename_i D9 h9x F9x N9x l9x
  have e : 31 + Builtin.bitNot (Builtin.bitNot x % 31) = x % 31 := by unfold Builtin.bitNot; omega
  rw [e] at N9x
  show LeaveM h₀ L m g rest Q _ _
  refine leaveM F9x (nsub (b := (D9, _) :: (30, tabObj p1') :: (37, tabObj p2') :: ext) N9x (by walk_at "mine sub")) (fun F3 N3 => ret _ D9 _ _ p1' p2' ext _ _ F3 N3 (hT1.mono (fun p hp => List.mem_append_left _ hp) (fun c o h => h.imp (fun h => List.mem_append_right _ h) id)) (hT2.mono (fun p hp => List.mem_append_left _ hp) (fun c o h => h.imp (fun h => List.mem_append_right _ h) id)) hext)
end Mine
end
local macro_rules | `(tactic| walk_at "mine pad") => `(tactic| fail "pad")
local macro_rules | `(tactic| walk_at "mine pad") => `(tactic| fail "pad")
section
theorem Mine.fresh_W14 : True := by
  w_top off
  exact trivial
open PySem PySem.W PyProof.Rows PySem.Calls PySem.Spec
namespace Mine
theorem fillK14 (w : World) : row.name = row.name ∧ Kf w.params = Kf w.params := by
  k_fill
  exact ⟨rfl, rfl⟩
local macro_rules | `(tactic| walk_at "mine steps") => `(tactic| w_strict (repeat' (walk_at "mine no 0"; walk_at "mine no 1"; walk_at "mine core")))
theorem idm_spec {w : World} {A : Around} {E : Value → Shared → Prop} {s : Shared} {h₀ : Heap} {L : Addr} {m : Str → Option Value} {rest : List (Addr × Obj)} {Q : Value → Shared → Prop} {p1 p2 : Array Value} {B : Addr → Obj → Prop} {x : Int} {t t2 : Tok}
    (X : Ok w h₀) (Y : At A L h₀ 28) (F : Fr h₀ L s.heap m) (N : News h₀ L s.heap ((30, tabObj p1) :: (37, tabObj p2) :: rest)) (hap : ∀ p ∈ rest, p.1 ≠ 30 ∧ p.1 ≠ 37)
    (hB : ∀ c o, B c o → h₀.get? c = some o) (hp1 : TabOk B (PySem.Str.ofString "_int2digits.<locals>.inner") 32 4 p1 rest) (hp2 : TabOk B (PySem.Str.ofString "_digits2int.<locals>.inner") 47 4 p2 rest)
    (hxb : -(2 ^ 100) < x ∧ x < 2 ^ 100)
    (ret : ∀ q D t4 t5 p1' p2' ext h' tk', Fr h₀ L h' m → News h₀ L h' ((D, { cls := .type "tuple", data := .seq #[.int q t4, .int (x % 31) t5] }) :: (30, tabObj p1') :: (37, tabObj p2') :: (ext ++ rest)) → TabOk B (PySem.Str.ofString "_int2digits.<locals>.inner") 32 4 p1' (ext ++ rest) → TabOk B (PySem.Str.ofString "_digits2int.<locals>.inner") 47 4 p2' (ext ++ rest) → (∀ p ∈ ext, 37 < p.1) → Q (.ref D) { s with heap := h', toks := tk' }) :
    wpAny (model row.row.prog w) A (call (.ref 56) [.int x t, .int 31 t2]) Q E s := by
  by_cases hx : 0 ≤ x
  · exact idmP X (Y.less (by omega)) F N hap hB hp1 hp2 hx hxb.2 ret
  · exact idmN X Y F N hap hB hp1 hp2 (by omega) hxb.1 ret
theorem bits_digits {x : Int} (hx : 0 ≤ x) (hxb : x < 65536) : (∀ v ∈ dg (2 ^ Int.toNat 1) (((Builtin.Int.intBits x : Int) + 1 - 1).fdiv 1).toNat x, 0 ≤ v ∧ v < 2) ∧ (dg (2 ^ Int.toNat 1) (((Builtin.Int.intBits x : Int) + 1 - 1).fdiv 1).toNat x).length ≤ 16 ∧ dg (2 ^ Int.toNat 1) (((Builtin.Int.intBits x : Int) + 1 - 1).fdiv 1).toNat x = dg 2 (Builtin.Int.intBits x) x := by
  have e2 : (2 : Int) ^ Int.toNat 1 = 2 := by decide
  have hlt : x.natAbs < 2 ^ Builtin.Int.intBits x := intBits_le_iff.mp (Nat.le_refl _)
  have hk : (((Builtin.Int.intBits x : Int) + 1 - 1).fdiv 1).toNat = Builtin.Int.intBits x := by
    rw [Int.fdiv_eq_ediv_of_nonneg _ (by decide)]; omega
  rw [e2, hk]
  refine ⟨dg_digits (by decide) _ x hx ?_, ?_, rfl⟩
  · have h3 : (2 : Int) ^ Builtin.Int.intBits x = ((2 ^ Builtin.Int.intBits x : Nat) : Int) := by rw [kbt_cast]
    rw [h3]; omega
  · rw [dg_length]
    rw [intBits_le_iff]; omega
theorem lacks_spec {w : World} {A : Around} {E : Value → Shared → Prop} {s : Shared} {h₀ : Heap} {L : Addr} {m : Str → Option Value} {rest : List (Addr × Obj)} {Q : Value → Shared → Prop} {p1 p2 : Array Value} {B : Addr → Obj → Prop} {x : Int} {t : Tok}
    (X : Ok w h₀) (Y : At A L h₀ 30) (F : Fr h₀ L s.heap m) (N : News h₀ L s.heap ((30, tabObj p1) :: (37, tabObj p2) :: rest)) (hap : ∀ p ∈ rest, p.1 ≠ 30 ∧ p.1 ≠ 37)
    (hB : ∀ c o, B c o → h₀.get? c = some o) (hp1 : TabOk B (PySem.Str.ofString "_int2digits.<locals>.inner") 32 4 p1 rest) (hp2 : TabOk B (PySem.Str.ofString "_digits2int.<locals>.inner") 47 4 p2 rest)
    (hx : 0 ≤ x) (hxb : x < 65536)
    (ret : ∀ t4 p1' p2' ext h' tk', Fr h₀ L h' m → News h₀ L h' ((30, tabObj p1') :: (37, tabObj p2') :: (ext ++ rest)) → TabOk B (PySem.Str.ofString "_int2digits.<locals>.inner") 32 4 p1' (ext ++ rest) → TabOk B (PySem.Str.ofString "_digits2int.<locals>.inner") 47 4 p2' (ext ++ rest) → (∀ p ∈ ext, 37 < p.1) → Q (.int ((-(un 32 (dg 2 (Builtin.Int.intBits x) x))) % 31) t4) { s with heap := h', toks := tk' }) :
    wpAny (model row.row.prog w) A (call (.ref 135) [.int x t]) Q E s := by
  obtain ⟨ha, dp, fr, gd, un0⟩ := A
  obtain rfl : ha = none := Y.hh
  refine enterM (mu := [(30, tabObj p1), (37, tabObj p2)]) (stay := rest) (binds := [("family", .int x t)]) (dep := 29) X Y F (nsub N (by walk_at "mine sub")) (nsub N (by walk_at "mine sub")) (tabs_apart hap) (by k_is) (by k_is) (by exact BindsTo.of_eq rfl) (by exact locs rfl) (by decide) (by exact rfl) (by exact rfl) (by exact rfl) ?_
  intro g L' h₁ X' Y' gk gs F' N' lt1 lt2
  obtain ⟨p, loose, mean, mg, mb, T'⟩ := X'.top
  have K' := X'.K
  have hB' : ∀ c o, ((c, o) ∈ rest ∨ B c o) → g.get? c = some o := fun c o h => h.elim (gs _) (fun h => gk _ _ (hB _ _ h))
  show wpAny _ _ _ _ _ _
  k_fold
  walk_at "mine steps"
  have hq1 : TabOk (fun c o => (c, o) ∈ rest ∨ B c o) (PySem.Str.ofString "_int2digits.<locals>.inner") 32 4 p1 [] := hp1.toB
  have hq2 : TabOk (fun c o => (c, o) ∈ rest ∨ B c o) (PySem.Str.ofString "_digits2int.<locals>.inner") 47 4 p2 [] := hp2.toB
  refine i2d_spec (rest := []) (TL := []) X' (Y'.less (by omega)) F' N' hq1 (fun _ h => h) hB' (fun _ h => absurd h List.not_mem_nil) hx (by omega) (by decide) (by decide) ?_
  intro d vs k p1' ext' h3 tk3 F3 N3 hT3 hext3 hd3 hd37 hI3
  obtain ⟨hdd, hdl, hde⟩ := bits_digits hx hxb
  rw [hde] at hI3 hdd hdl
  walk_at "mine steps"
  refine d2i_spec (rest := (d, listOf vs.toArray k) :: (ext' ++ [])) (TL := []) X' (Y'.less (by omega)) F3 N3 hq2 (fun _ h => absurd h List.not_mem_nil) hB' ?hapx (.head _) hI3 (by omega) (by decide) (by decide) (fun v hv => ⟨(hdd v hv).1, Int.lt_trans (hdd v hv).2 (by decide)⟩) ?_
  case hapx =>
    refine List.forall_mem_cons.mpr ⟨hd37, fun p hp => ?_⟩
    rcases List.mem_append.mp hp with hp | hp
    · exact (hext3 p hp).1
    · exact absurd hp List.not_mem_nil
  intro p2' ext2 h20 t20 tk20 F20 N20 hT20 hext20
  walk_at "mine steps"
  have e32 : (2 : Int) ^ Int.toNat 5 = 32 := by decide
  rw [e32]
  have hub : 0 ≤ un 32 (dg 2 (Builtin.Int.intBits x) x) ∧ un 32 (dg 2 (Builtin.Int.intBits x) x) < 2 ^ 100 := by
    have h := un_bound (b := 32) (by decide) (dg 2 (Builtin.Int.intBits x) x) (fun v hv => ⟨(hdd v hv).1, Int.lt_trans (hdd v hv).2 (by decide)⟩)
    refine ⟨h.1, Int.lt_of_lt_of_le h.2 ?_⟩
    have h2 : (32 : Int) ^ (dg 2 (Builtin.Int.intBits x) x).length ≤ 32 ^ 16 := by
      have h3 : 32 ^ (dg 2 (Builtin.Int.intBits x) x).length ≤ 32 ^ 16 := Nat.pow_le_pow_right (by decide) hdl
      exact_mod_cast h3
    exact Int.le_trans h2 (by decide)
  refine idm_spec (rest := ext2 ++ (d, listOf vs.toArray k) :: (ext' ++ [])) X' (Y'.less (by omega)) F20 N20 ?hapy hB' (hT3.mono ?m1 ?m0) (hT20.mono ?m2 ?m0) (by omega) ?_
  case m0 => exact fun c o h => .inr h
  case m1 => exact fun p hp => List.mem_append_right _ (.tail _ hp)
  case m2 => exact fun p hp => List.mem_append_left _ (by simpa using hp)
  case hapy =>
    intro p hp
    apply gt37
    rcases List.mem_append.mp hp with hp | hp
    · exact (hext20 p hp).1
    · rcases List.mem_cons.mp hp with rfl | hp
      · exact hd37
      · rcases List.mem_append.mp hp with hp | hp
        · exact (hext3 p hp).1
        · exact absurd hp List.not_mem_nil
  intro q D t4 t5 p1'' p2'' ext3 h9 tk9 F9 N9 hT1 hT2 hext
  walk_at "mine steps"
  refine leaveM F9 (nsub (b := (30, tabObj p1'') :: (37, tabObj p2'') :: (ext3 ++ (ext2 ++ (d, listOf vs.toArray k) :: (ext' ++ [])))) N9 (fun p hp => .tail _ hp)) (fun F3 N3 => ret _ p1'' p2'' (ext3 ++ (ext2 ++ (d, listOf vs.toArray k) :: (ext' ++ []))) _ _ F3 N3 (hT1.mono (fun p hp => List.mem_append_left _ hp) (fun c o h => h.imp (fun h => List.mem_append_right _ h) id)) (hT2.mono (fun p hp => List.mem_append_left _ hp) (fun c o h => h.imp (fun h => List.mem_append_right _ h) id)) ?_)
  intro p hp
  rcases List.mem_append.mp hp with hp | hp
  · exact hext p hp
  rcases List.mem_append.mp hp with hp | hp
  · exact (hext20 p hp).1
  rcases List.mem_cons.mp hp with rfl | hp
  · exact hd37
  rcases List.mem_append.mp hp with hp | hp
  · exact (hext3 p hp).1
  · exact absurd hp List.not_mem_nil
end Mine
end
local macro_rules | `(tactic| walk_at "mine pad") => `(tactic| fail "pad")
local macro_rules | `(tactic| walk_at "mine pad") => `(tactic| fail "pad")
section
theorem Mine.fresh_W15 : True := by
  w_top off
  exact trivial
open PySem PySem.W PyProof.Rows PySem.Calls PySem.Spec
namespace Mine
/-- a for of any target, with its else -/
noncomputable def LoopAtG (prog : Program) (w : World) (A : Around) (env : Env) (target : PySem.Expr) (body orelse : List Stmt) (Q : Flow → Shared → Prop) (E : Value → Shared → Prop) (it : Value) (s₂ : Shared) : Prop :=
  codeAny (model prog w) A (.forLoop target it body orelse env) (fun r s' => match r with | .ok f => Q f s' | .error e => cameBackBy (model prog w) A env E e s') s₂
section
variable {prog : Program} {w : World} {A : Around} {E : Value → Shared → Prop} {s : Shared} {env : Env} {h₀ : Heap} {target : PySem.Expr} {body orelse : List Stmt} {Q : Flow → Shared → Prop}
theorem forG {iter : PySem.Expr} {pos : Pos}
    (h : wpAny (model prog w) A (eval iter env) (fun xv s₁ => wpAny (model prog w) A (pyIter xv) (fun it s₂ => LoopAtG prog w A env target body orelse Q E it s₂) E s₁) E s)
    (hs : ∀ x, foldedSetIterable iter env x = pure x) :
    wpAny (model prog w) A (exec (.For target iter body orelse pos) env) Q E s := wpAny_For h hs
theorem loopG {I : Addr} {fp : List Addr} {n : Nat} {P : Nat → Value → Prop} {St : Nat → Heap → Prop} {m₀ : Str → Option Value} {news : List (Addr × Obj)} (J : Nat → (Str → Option Value) → List (Addr × Obj) → Prop)
    (W : Walks prog w A I fp [I] n P St) (ht : ∀ v, letOwnedTupleGo target (.ref I) v = pure ()) (hE : PassesOwn (model prog w) A env E)
    (hIf : I ∈ fp) (hin : ∀ b ∈ fp, b = I ∨ (∃ o, h₀.get? b = some o) ∨ (∃ o, ∀ i m nx, J i m nx → (b, o) ∈ nx)) (hI0 : h₀.get? I = none) (hL : env.locals ≠ I) (hob : ∀ i h, St i h → ∃ o, h.get? I = some o)
    (st0 : St 0 s.heap) (F : Fr h₀ env.locals s.heap m₀) (N : News h₀ env.locals s.heap news) (hnw : ∀ p ∈ news, p.1 ≠ I) (hj : J 0 m₀ news)
    (turn : ∀ i v m₁ nx h tk o, i < n → P i v → J i m₁ nx → (∀ p ∈ nx, p.1 ≠ I) → Fr h₀ env.locals h m₁ → News h₀ env.locals h ((I, o) :: nx) →
      wpAny (model prog w) A (assign target env v) (fun _ s₂ => wpAny (model prog w) A (execs body env) (TurnE h₀ env.locals I o (J (i + 1)) { s with heap := h, toks := tk } Q) E s₂) E { s with heap := h, toks := tk })
    (done : ∀ m₁ nx h tk, J n m₁ nx → Fr h₀ env.locals h m₁ → News h₀ env.locals h nx → wpAny (model prog w) A (execs orelse env) Q E { s with heap := h, toks := tk }) :
    LoopAtG prog w A env target body orelse Q E (.ref I) s := by
  have hLf : env.locals ∉ fp := by
    intro hm
    rcases hin _ hm with e | ⟨o, e⟩ | ⟨o, e⟩
    · exact hL e
    · exact absurd (Heap.lt_size e) (Nat.not_lt.mpr F.above)
    · exact (N _ (e _ _ _ hj)).2.1 rfl
  have old : ∀ b o, h₀.get? b = some o → b ∉ [I] := fun b o e hb => by rw [List.mem_singleton.mp hb, hI0] at e; cases e
  unfold LoopAtG
  refine codeAny_forLoop
    (fun k s' => ∃ h' tk m' news' i, s' = { s with heap := h', toks := tk } ∧ St i h' ∧ Fr h₀ env.locals h' m' ∧ News h₀ env.locals h' news' ∧ (∀ p ∈ news', p.1 ≠ I) ∧ J i m' news' ∧ i ≤ n ∧ k = n + 1 - i) ?_ (n + 1)
    ⟨s.heap, s.toks, m₀, news, 0, rfl, st0, F, N, hnw, hj, Nat.zero_le _, rfl⟩ ht
  rintro k s' ⟨h', tk, m', news', i, rfl, hst', F', N', hnw', hJ, hi, rfl⟩
  have next : ∀ h₁ : Heap, (∀ b o, b ∉ [I] → h'.get? b = some o → h₁.get? b = some o) → Fr h₀ env.locals h₁ m' ∧ News h₀ env.locals h₁ news' := fun h₁ hk₁ =>
    ⟨⟨F'.ns.at' fun o e => hk₁ _ o (fun h => hL (List.mem_singleton.mp h)) e, fun b o e => hk₁ b o (old b o e) (F'.keep b o e), F'.above⟩, fun p hp => ⟨hk₁ _ _ (fun h => hnw' p hp (List.mem_singleton.mp h)) (N' p hp).1, (N' p hp).2⟩⟩
  by_cases hlt : i < n
  · refine W.item i _ _ _ hlt hst' fun v h₁ tk₁ hP hst₁ hk₁ => ?_
    obtain ⟨F₁, N₁⟩ := next h₁ hk₁
    obtain ⟨o, ho⟩ := hob _ _ hst₁
    have N₂ : News h₀ env.locals h₁ ((I, o) :: news') := fun p hp => by
      rcases List.mem_cons.mp hp with rfl | hp
      · exact ⟨ho, fun e => hL e.symm, hI0⟩
      · exact N₁ _ hp
    have goes : ∀ s₂, (∃ h' tk m' nx, s₂ = { s with heap := h', toks := tk } ∧ Fr h₀ env.locals h' m' ∧ News h₀ env.locals h' ((I, o) :: nx) ∧ (∀ p ∈ nx, p.1 ≠ I) ∧ J (i + 1) m' nx) →
        ∃ m, m < n + 1 - i ∧ ∃ h' tk m' news' i, s₂ = { s with heap := h', toks := tk } ∧ St i h' ∧ Fr h₀ env.locals h' m' ∧ News h₀ env.locals h' news' ∧ (∀ p ∈ news', p.1 ≠ I) ∧ J i m' news' ∧ i ≤ n ∧ m = n + 1 - i := by
      rintro s₂ ⟨h₃, tk₃, m₂, nx, rfl, F₃, N₃, ha₃, hJ₃⟩
      refine ⟨n + 1 - (i + 1), Nat.sub_lt_sub_left (Nat.lt_succ_of_lt (by assumption)) (Nat.lt_succ_self i), h₃, tk₃, m₂, nx, i + 1, rfl, ?_, F₃, fun p hp => N₃ p (.tail _ hp), ha₃, hJ₃, hlt, rfl⟩
      refine W.frame _ _ _ hst₁ fun b hb ob e => ?_
      rcases hin b hb with e1 | ⟨o₀, e1⟩ | ⟨o₀, e1⟩
      · rw [e1] at e ⊢
        rw [ho] at e
        rw [← Option.some.inj e]
        exact (N₃ _ (.head _)).1
      · have := F₁.keep b o₀ e1
        rw [e] at this
        rw [Option.some.inj this]
        exact F₃.keep b o₀ e1
      · have := (N₁ _ (e1 _ _ _ hJ)).1
        have h3 : h₁.get? b = some o₀ := this
        rw [e] at h3
        rw [Option.some.inj h3]
        exact (N₃ _ (.tail _ (e1 _ _ _ hJ₃))).1
    refine wpAny_passesOwn hE ?_
    refine wpAny_mono (turn i v m' news' h₁ tk₁ o hlt hP hJ hnw' F₁ N₂) (fun _ s₂ h₂ => wpAny_passesOwn hE (wpAny_mono h₂ (fun f s₃ h₃ => ?_) fun _ _ e => e)) fun _ _ e => e
    cases f with
    | ret v => exact h₃
    | brk => exact h₃
    | cont => exact goes _ h₃
    | next => exact goes _ h₃
  · have hin : i = n := by omega
    subst hin
    refine W.done _ _ _ hst' fun h₁ tk₁ hk₁ => ?_
    obtain ⟨F₁, N₁⟩ := next h₁ hk₁
    exact wpAny_passesOwn hE (done m' news' h₁ tk₁ hJ F₁ N₁)
end
end Mine
end
section
theorem Mine.fresh_W16 : True := by
  w_top off
  exact trivial
open PySem PySem.W PyProof.Rows PySem.Calls PySem.Spec
namespace Mine
theorem fillK16 (w : World) : row.name = row.name ∧ Kf w.params = Kf w.params := by
  k_fill
  exact ⟨rfl, rfl⟩
local macro_rules | `(tactic| walk_at "mine steps") => `(tactic| w_strict (repeat' (walk_at "mine no 0"; walk_at "mine no 1"; walk_at "mine no 4"; walk_at "mine core")))
section
variable {prog : Program} {w : World} {A : Around} {E : Value → Shared → Prop} {s : Shared} {h₀ : Heap} {L : Addr} {m : Str → Option Value} {news : List (Addr × Obj)}
/-- enumerate of a list of the ledger; it leaves the ledger -/
theorem enumL {as : List Int} {l : Addr} {vs : List Value} {k : Nat} {Q : Value → Shared → Prop} (hh : A.handled = none)
    (N0 : News h₀ L s.heap ((l, listOf vs.toArray k) :: news)) (hi : IntsAre vs as) (ha : ∀ q ∈ news, q.1 ≠ l) (F : Fr h₀ L s.heap m)
    (h : ∀ h' e, Fr h₀ L h' m → News h₀ L h' news → PairSrcL prog w A E h₀ L .int as (.ref e) { s with heap := h' } m news → Q (.ref e) { s with heap := h' }) :
    wpAny (model prog w) A (call (.type "enumerate") [.ref l]) Q E s := by
  have z1 := N0 _ (.head _)
  have N : News h₀ L s.heap news := nsub N0 fun p hp => .tail _ hp
  have hls : s.heap.IsList l vs.toArray := ⟨_, z1.1, rfl, _, rfl⟩
  have hl2 : l < s.heap.objs.size := Heap.lt_size z1.1
  have hLs : L < s.heap.objs.size := F.ns.lt
  have hab : h₀.objs.size ≤ L := F.above
  refine call_enumerate_list hls fun h' he hit hsz hk => ?_
  have F' : Fr h₀ L h' m := ⟨F.ns.keeps hk, fun b o e => hk b o (F.keep b o e), F.above⟩
  have N' : News h₀ L h' news := fun p hp => ⟨hk _ _ (N p hp).1, (N p hp).2⟩
  refine h h' _ F' N' fun env hL => ?_
  subst hL
  refine enumSrc (Draws.list (A := A.in1) hh s.heap.objs.size l (Nat.ne_of_lt hl2) vs.toArray) he ⟨hit, hls.at fun o e => hk l o e⟩ (Nat.succ_ne_self _) ?_ (by simp) ?_
    (Heap.get?_none_of_le (Nat.le_trans hab (Nat.le_of_lt (Nat.lt_succ_of_lt hLs)))) (Heap.get?_none_of_le (Nat.le_trans hab (Nat.le_of_lt hLs))) ?_ (by simp [hi.length]) (fun i x hx => hi.areOf.get i x (by simpa using hx)) F' N'
  · intro hm
    rcases List.mem_cons.mp hm with e | hm
    · exact Nat.succ_ne_self _ e
    · exact Nat.ne_of_gt (Nat.lt_succ_of_lt hl2) (List.mem_singleton.mp hm)
  · intro hm
    rcases List.mem_cons.mp hm with e | hm
    · exact Nat.ne_of_lt (Nat.lt_succ_of_lt hLs) e
    · rcases List.mem_cons.mp hm with e | hm
      · exact Nat.ne_of_lt hLs e
      · exact z1.2.1 (List.mem_singleton.mp hm).symm
  · intro b hb q hq e
    have hq1 : q.1 < s.heap.objs.size := Heap.lt_size (N q hq).1
    rcases List.mem_cons.mp hb with e1 | hb
    · exact Nat.ne_of_gt (Nat.lt_succ_of_lt hq1) (e1.symm.trans e)
    · rcases List.mem_cons.mp hb with e1 | hb
      · exact Nat.ne_of_gt hq1 (e1.symm.trans e)
      · have e2 := List.mem_singleton.mp hb
        exact ha q hq (e.symm.trans e2)
/-- the pairs of a counted list of ints -/
theorem enumI {as : List Int} {env : Env} {xv : Value} {Q : Flow → Shared → Prop} {xi xc : Str} {body : List Stmt} (S : PairSrcL prog w A E h₀ env.locals .int as xv s m news) (J : Nat → (Str → Option Value) → List (Addr × Obj) → Prop) (hj : J 0 m news)
    (turn : ∀ (i : Nat) a ta tb m₁ nx h tk own, as[i]? = some a → J i m₁ nx → nx.map (·.1) = news.map (·.1) → (∀ p ∈ own, ∀ q ∈ news, p.1 ≠ q.1) →
      Fr h₀ env.locals h (fun y => if y = xc then some (.int a tb) else if y = xi then some (.int i ta) else m₁ y) → News h₀ env.locals h (own ++ nx) →
      wpAny (model prog w) A (execs body env) (LoopStep3 h₀ env.locals own nx (J (i + 1)) { s with heap := h, toks := tk } (fun v s' => Q (.ret v) s') fun s' => Q .next s') E { s with heap := h, toks := tk })
    (done : ∀ h' tk m' news', Fr h₀ env.locals h' m' → News h₀ env.locals h' news' → news'.map (·.1) = news.map (·.1) → J as.length m' news' → Q .next { s with heap := h', toks := tk }) :
    wpAny (model prog w) A (pyIter xv) (fun it s₂ => PairAt3 prog w A h₀ env xi xc body Q E it s₂) E s := by
  refine S env rfl xi xc body Q J hj ?_ done
  rintro i a t v m₁ nx s₁ own ⟨h, tk, rfl⟩ ha ⟨tb, rfl⟩ hJ hmap hown F₁ N₁
  exact turn i a t tb m₁ nx h tk own ha hJ hmap hown F₁ N₁
end
noncomputable def CellJ (C : Addr) (i : Nat) (m : Str → Option Value) (nx : List (Addr × Obj)) : Prop :=
  ∃ cv cs k, nx = [(C, listOf (List.toArray cv) k)] ∧ m "cells" = some (.ref C) ∧ IntsAre cv cs ∧ cs.length = 2 ∧ ∀ v ∈ cs, 0 ≤ v ∧ v ≤ 100000 + 1000000 * (i : Int)
theorem frU2c {h₀ h : Heap} {L : Addr} {m : Str → Option Value} {a b n1 : Str} {va vb : Option Value} {v1 : Value} (h1 : m n1 = some v1) (F : Fr h₀ L h (fun y => if y = a then va else if y = b then vb else m y)) :
    Fr h₀ L h (fun y => if y = a then va else if y = b then vb else if y = n1 then some v1 else m y) := by
  have e : (fun y => if y = a then va else if y = b then vb else if y = n1 then some v1 else m y) = (fun y => if y = a then va else if y = b then vb else m y) := by
    funext y
    have : (if y = n1 then some v1 else m y) = m y := by
      by_cases c1 : y = n1
      · rw [if_pos c1, c1, h1]
      rw [if_neg c1]
    rw [this]
  rw [e]; exact F
theorem cells_spec {w : World} {A : Around} {E : Value → Shared → Prop} {s : Shared} {h₀ : Heap} {L : Addr} {m : Str → Option Value} {rest : List (Addr × Obj)} {Q : Value → Shared → Prop} {ls : Addr} {svs : List Value} {sns : List Int}
    (X : Ok w h₀) (Y : At A L h₀ 20) (F : Fr h₀ L s.heap m) (N : News h₀ L s.heap rest)
    (hs : h₀.IsList ls svs.toArray) (hS : IntsAre svs sns) (hsl : sns.length ≤ 63)
    (ret : ∀ C cv cs k h' tk', Fr h₀ L h' m → News h₀ L h' ((C, listOf (List.toArray cv) k) :: rest) → IntsAre cv cs → cs.length = 2 → (∀ v ∈ cs, 0 ≤ v ∧ v ≤ 100000000) → (∀ p ∈ rest, p.1 ≠ C) → Q (.ref C) { s with heap := h', toks := tk' }) :
    wpAny (model row.row.prog w) A (call (.ref 89) [.ref ls]) Q E s := by
  obtain ⟨ha, dp, fr, gd, un0⟩ := A
  obtain rfl : ha = none := Y.hh
  refine enterM (mu := []) (stay := rest) (binds := [("script", .ref ls)]) (dep := 19) X Y F News.nil N (fun _ _ _ h => nomatch h) (by k_is) (by k_is) (by exact BindsTo.of_eq rfl) (by exact locs rfl) (by decide) (by exact rfl) (by exact rfl) (by exact rfl) ?_
  intro g L' h₁ X' Y' gk gs F' N' lt1 lt2
  obtain ⟨p, loose, mean, mg, mb, T'⟩ := X'.top
  have K' := X'.K
  have hLs : g.IsList ls svs.toArray := hs.at fun o e => gk _ _ e
  show wpAny _ _ _ _ _ _
  k_fold
  walk_at "mine steps"
  rename_i C h2 l2 h3 F3 N3
  refine For_pair3 g rfl rfl rfl rfl ?_ (fun _ => rfl)
  walk_at "mine steps"
  rename_i D ws h4 F4 N4 hI4 hC4 hL4 l4
  refine enumL (news := [(C, listOf [Value.int 37449 _, .int 1257 _].toArray 0)]) rfl N4 hI4 (fun q hq => by rw [List.mem_singleton.mp hq]; exact Nat.ne_of_lt l4) F4 ?_
  intro h5 e5 F5 N5 S5
  refine enumI S5 (CellJ C) ⟨_, [37449, 1257], 0, rfl, rfl, .cons _ _ (.cons _ _ .nil), rfl, fun v hv => ?_⟩ ?_ ?_
  · rcases List.mem_cons.mp hv with rfl | hv
    · omega
    · rw [List.mem_singleton.mp hv]; omega
  · intro i a ta tb m₁ nx h6 tk6 own ha hJ hmap hown F6 N6
    obtain ⟨cv, cs, k, rfl, hm1, hcv, hcl, hcb⟩ := hJ
    have F6' := frU2c hm1 F6
    have N6' := nsub (b := (C, listOf cv.toArray k) :: own) N6 (List.forall_mem_cons.mpr ⟨List.mem_append_right _ (.head _), fun p hp => List.mem_append_left _ hp⟩)
    have hi : (i : Int) < 64 := by
      have h1 := (List.getElem?_eq_some_iff.mp ha).1
      omega
    have hmod : 0 ≤ (i : Int).fmod 2 ∧ (i : Int).fmod 2 < 2 := fm2 i
    have hcg : 0 ≤ cs.getD ((i : Int).fmod 2).toNat 0 ∧ cs.getD ((i : Int).fmod 2).toNat 0 ≤ 100000 + 1000000 * (i : Int) := by
      rw [List.getD_eq_getElem?_getD, List.getElem?_eq_getElem (by rw [hcl]; exact Int.toNat_lt' (by decide) |>.mpr hmod.2)]
      exact hcb _ (List.getElem_mem _)
    have hpow : (10 : Int) ^ Int.toNat 6 = 1000000 := by decide
    have ham : 0 ≤ a.fmod (10 ^ Int.toNat 6) ∧ a.fmod (10 ^ Int.toNat 6) < 1000000 := by rw [hpow]; exact fmodb _ (by decide)
    have hcn : ∀ p ∈ own, p.1 ≠ C := fun p hp => hown p hp (C, _) (.head _)
    clear F6 N6
    walk_at "mine steps"
    rename_i h7 F7 N7 I7 hl7 hs7
    clear hs7
    refine LoopStep2.intro (news₂ := [(C, listOf (cv.set ((i : Int).fmod 2).toNat (.int (cs.getD ((i : Int).fmod 2).toNat 0 + a.fmod (10 ^ Int.toNat 6)) _)).toArray k)]) F7 (nsub N7 fun p hp => ?_) (by simp) ⟨_, _, k, rfl, rfl, I7, hl7.trans hcl, fun v hv => ?_⟩
    · rcases List.mem_append.mp hp with hp | hp
      · exact .tail _ hp
      · rw [List.mem_singleton.mp hp]; exact .head _
    · rcases List.mem_or_eq_of_mem_set hv with hv | rfl
      · have := hcb v hv; omega
      · omega
  · intro h6 tk6 m₁ nx F6 N6 hmap hJ
    obtain ⟨cv, cs, k, rfl, hm1, hcv, hcl, hcb⟩ := hJ
    replace F6 := fr1 hm1 F6
    walk_at "mine steps"
    try dsimp only
    show LeaveM h₀ L m g rest Q _ _
    refine leaveM F6 N6 (fun F3 N3 => ret C cv cs k _ _ F3 N3 hcv hcl (fun v hv => ?_) (fun p hp => ?_))
    · have h1 := hcb v hv
      have h2 : ((List.take 60 sns).length : Int) ≤ 63 := by omega
      omega
    · exact apart_of gs N6 (.head _) p hp
end Mine
end
local macro_rules | `(tactic| walk_at "mine pad") => `(tactic| fail "pad")
local macro_rules | `(tactic| walk_at "mine pad") => `(tactic| fail "pad")
section
theorem Mine.fresh_W17 : True := by
  w_top off
  exact trivial
open PySem PySem.W PyProof.Rows PySem.Calls PySem.Spec
namespace Mine
section
variable {prog : Program} {w : World} {A : Around} {E : Value → Shared → Prop} {s : Shared} {env : Env} {h₀ : Heap} {target : PySem.Expr} {body orelse : List Stmt} {Q : Flow → Shared → Prop}
/-- a for over a range, any target -/
theorem rangeG {r : Addr} {a₀ b₀ : Int} {t₀ u₀ v₀ : Tok} {n : Nat} {m₀ : Str → Option Value} {news : List (Addr × Obj)} (J : Nat → (Str → Option Value) → List (Addr × Obj) → Prop)
    (hh : A.handled = none) (ht : ∀ I v, letOwnedTupleGo target (.ref I) v = pure ()) (hE : PassesOwn (model prog w) A env E) (hr : IsRange s.heap r a₀ b₀ 1 t₀ u₀ v₀) (hsmall : Builtin.Range.small a₀ b₀ 1 = true) (hn : Builtin.Range.rangeSize a₀ b₀ 1 = (n : Int)) (F : Fr h₀ env.locals s.heap m₀) (N : News h₀ env.locals s.heap news) (hj : J 0 m₀ news)
    (turn : ∀ I i t m₁ nx h tk o, (∀ p ∈ news, p.1 < I) → i < n → J i m₁ nx → (∀ p ∈ nx, p.1 ≠ I) → Fr h₀ env.locals h m₁ → News h₀ env.locals h ((I, o) :: nx) →
      wpAny (model prog w) A (assign target env (.int (a₀ + (i : Nat)) t)) (fun _ s₂ => wpAny (model prog w) A (execs body env) (TurnE h₀ env.locals I o (J (i + 1)) { s with heap := h, toks := tk } Q) E s₂) E { s with heap := h, toks := tk })
    (done : ∀ m₁ nx h tk, J n m₁ nx → Fr h₀ env.locals h m₁ → News h₀ env.locals h nx → wpAny (model prog w) A (execs orelse env) Q E { s with heap := h, toks := tk }) :
    wpAny (model prog w) A (pyIter (.ref r)) (fun it s₂ => LoopAtG prog w A env target body orelse Q E it s₂) E s := by
  refine wpAny_pyIter_range hr hsmall ?_
  have W : Walks prog w A s.heap.objs.size [s.heap.objs.size] [s.heap.objs.size] n (fun i v => i < n ∧ ∃ t, v = .int (a₀ + i * 1) t)
      (fun i h => IsRangeIter h s.heap.objs.size (a₀ + (i : Nat) * 1) ((n : Int) - (i : Nat)) 1) := (Walks.range hh _ a₀ 1 n).bound
  refine loopG J W (ht _) hE (.head _) (fun b hb => .inl (List.mem_singleton.mp hb)) (next_is_new F) (Nat.ne_of_lt F.ns.lt) (fun i h st => ⟨_, st⟩) (by show IsRangeIter _ _ _ _ _; rw [hn]; simpa using Heap.get?_push_size _ rfl) (F.push _) (fun p hp => ⟨Heap.get?_push_of_some _ (N p hp).1, (N p hp).2⟩) (fun p hp => Nat.ne_of_lt (Heap.lt_size (N p hp).1)) hj ?_ ?_
  · rintro i v m₁ nx h tk o hin ⟨_, t, rfl⟩ hJ hne' F₁ N₁
    rw [Int.mul_one]
    exact turn _ i t m₁ nx h tk o (fun p hp => Heap.lt_size (N p hp).1) hin hJ hne' F₁ N₁
  · exact fun m₁ nx h tk hJ F₁ N₁ => done m₁ nx h tk hJ F₁ N₁
/-- a for over a list of the base, any target -/
theorem listG {l : Addr} {vs : List Value} {ns : List Int} {m₀ : Str → Option Value} {news : List (Addr × Obj)} (J : Nat → (Str → Option Value) → List (Addr × Obj) → Prop)
    (hh : A.handled = none) (ht : ∀ I v, letOwnedTupleGo target (.ref I) v = pure ()) (hE : PassesOwn (model prog w) A env E) (hl : h₀.IsList l vs.toArray) (hi : IntsAre vs ns) (F : Fr h₀ env.locals s.heap m₀) (N : News h₀ env.locals s.heap news) (hj : J 0 m₀ news)
    (turn : ∀ I i n t m₁ nx h tk o, (∀ p ∈ news, p.1 < I) → ns[i]? = some n → J i m₁ nx → (∀ p ∈ nx, p.1 ≠ I) → Fr h₀ env.locals h m₁ → News h₀ env.locals h ((I, o) :: nx) →
      wpAny (model prog w) A (assign target env (.int n t)) (fun _ s₂ => wpAny (model prog w) A (execs body env) (TurnE h₀ env.locals I o (J (i + 1)) { s with heap := h, toks := tk } Q) E s₂) E { s with heap := h, toks := tk })
    (done : ∀ m₁ nx h tk, J ns.length m₁ nx → Fr h₀ env.locals h m₁ → News h₀ env.locals h nx → wpAny (model prog w) A (execs orelse env) Q E { s with heap := h, toks := tk }) :
    wpAny (model prog w) A (pyIter (.ref l)) (fun it s₂ => LoopAtG prog w A env target body orelse Q E it s₂) E s := by
  have hls : s.heap.IsList l vs.toArray := hl.at fun o e => F.keep l o e
  obtain ⟨ol, hol, _⟩ := id hl
  have hlt : l < h₀.objs.size := Heap.lt_size hol
  have hne : l ≠ s.heap.objs.size := Nat.ne_of_lt (Nat.lt_trans (Nat.lt_of_lt_of_le hlt F.above) F.ns.lt)
  refine wpAny_pyIter_list hls ?_
  have W := Walks.list (prog := prog) (w := w) hh s.heap.objs.size l hne vs.toArray
  have hlen : vs.toArray.size = ns.length := by simp [hi.length]
  rw [hlen] at W
  refine loopG J W (ht _) hE (.head _) (fun b hb => ?_) (next_is_new F) (Nat.ne_of_lt F.ns.lt) (fun i h st => ?_) ⟨⟨_, Heap.get?_push_size _ rfl, rfl, rfl⟩, hls.at fun o e => Heap.get?_push_of_some _ e⟩ (F.push _) (fun p hp => ⟨Heap.get?_push_of_some _ (N p hp).1, (N p hp).2⟩) (fun p hp => Nat.ne_of_lt (Heap.lt_size (N p hp).1)) hj ?_ ?_
  · rcases List.mem_cons.mp hb with e | hb
    · exact .inl e
    · exact .inr (.inl ⟨ol, by rw [List.mem_singleton.mp hb]; exact hol⟩)
  · obtain ⟨⟨o, ho, _⟩, _⟩ := st
    exact ⟨o, ho⟩
  · intro i v m₁ nx h tk o hin hP hJ hne' F₁ N₁
    have hlt' : i < ns.length := hin
    obtain ⟨t, hx⟩ := hi.get i ns[i] (by simp [hlt'])
    have hv : v = .int ns[i] t := by
      have hP' : vs[i]? = some v := by simpa using hP
      rw [hx] at hP'; exact (Option.some.inj hP').symm
    subst hv
    exact turn _ i ns[i] t m₁ nx h tk o (fun p hp => Heap.lt_size (N p hp).1) (by simp [hlt']) hJ hne' F₁ N₁
  · exact fun m₁ nx h tk hJ F₁ N₁ => done m₁ nx h tk hJ F₁ N₁
end
end Mine
end
section
theorem Mine.fresh_W18 : True := by
  w_top off
  exact trivial
open PySem PySem.W PyProof.Rows PySem.Calls PySem.Spec
namespace Mine
/-- what stays off the two objects of a comprehension -/
noncomputable def OffCD (C D : Addr) (nx : List (Addr × Obj)) : Prop := ∀ p ∈ nx, p.1 ≠ C ∧ p.1 ≠ D
/-- the turns of a comprehension, the iterator's objects in the ledger -/
structure CompTurns (prog : Program) (w : World) (A : Around) (h₀ : Heap) (L : Addr) (m : Str → Option Value) (env : Env) (elt target : PySem.Expr) (scope : Scope) (cl : List (Str × Addr)) (it : Addr) (s₂ : Shared) (n : Nat) (J : Nat → List Value → List (Addr × Obj) → Prop) (Fin : List Value → List (Addr × Obj) → Prop) : Prop where
  turn : ∀ i ys nx C oC m₂ D h tk (E' : Value → Shared → Prop), i < n → ys.length = i → J i ys nx → LCg.NsObj oC m₂ → Fr h₀ L h m → News h₀ L h ((C, oC) :: (D, LCg.lst ys) :: nx) → OffCD C D nx → C ≠ D →
     wpAny (model prog w) A (pyNext (.ref it)) (fun r s₁ => ∃ v, r = some v ∧ wpAny (model prog w) A (letOwnedTupleGo target (.ref it) v) (fun _ s₁' => wpAny (model prog w) A (assign target (compEnvC scope cl C env) v) (fun _ s₃ =>
        wpAny (model prog w) A (eval elt (compEnvC scope cl C env)) (fun y s₄ => ∃ h' tk' oC' m₃ nx', s₄ = { s₂ with heap := h', toks := tk' } ∧ Fr h₀ L h' m ∧ LCg.NsObj oC' m₃ ∧ News h₀ L h' ((C, oC') :: (D, LCg.lst ys) :: nx') ∧ OffCD C D nx' ∧ J (i + 1) (ys ++ [y]) nx') E' s₃) E' s₁') E' s₁) E' { s₂ with heap := h, toks := tk }
  last : ∀ ys nx C oC D h tk (E' : Value → Shared → Prop), ys.length = n → J n ys nx → Fr h₀ L h m → News h₀ L h ((C, oC) :: (D, LCg.lst ys) :: nx) → OffCD C D nx → C ≠ D →
     wpAny (model prog w) A (pyNext (.ref it)) (fun r s₁ => r = none ∧ ∃ h' tk' nx', s₁ = { s₂ with heap := h', toks := tk' } ∧ Fr h₀ L h' m ∧ News h₀ L h' ((C, oC) :: (D, LCg.lst ys) :: nx') ∧ OffCD C D nx' ∧ Fin ys nx') E' { s₂ with heap := h, toks := tk }
noncomputable def SrcG (prog : Program) (w : World) (A : Around) (h₀ : Heap) (L : Addr) (m : Str → Option Value) (env : Env) (elt target : PySem.Expr) (scope : Scope) (cl : List (Str × Addr)) (Fin : Shared → List Value → List (Addr × Obj) → Prop) (itv : Value) (s₂ : Shared) : Prop :=
  ∃ (it : Addr) (n : Nat) (J : Nat → List Value → List (Addr × Obj) → Prop) (news : List (Addr × Obj)), itv = .ref it ∧ n ≤ sizeLine ∧ Fr h₀ L s₂.heap m ∧ News h₀ L s₂.heap news ∧ J 0 [] news ∧
    (∀ (s' : Shared) (Q : Value → Shared → Prop) (E' : Value → Shared → Prop), Fr h₀ L s'.heap m → News h₀ L s'.heap news → Q (.ref it) s' → wpAny (model prog w) A (pyIter (.ref it)) Q E' s') ∧
    CompTurns prog w A h₀ L m env elt target scope cl it s₂ n J (Fin s₂)
section
variable {prog : Program} {w : World} {A : Around} {E : Value → Shared → Prop} {s : Shared} {h₀ : Heap} {L : Addr} {m : Str → Option Value} {env : Env}
theorem blockG {elt target iter : PySem.Expr} {scope : Scope} {cl : List (Str × Addr)} {pos : Pos} {s₂ : Shared} {it : Addr} {n : Nat} {J : Nat → List Value → List (Addr × Obj) → Prop} {news : List (Addr × Obj)}
    {Fin : List Value → List (Addr × Obj) → Prop} {RR : Value → Addr → Result → Shared → Prop}
    (hsz : n ≤ sizeLine) (hcell : ∀ y ∈ scope.names, y.2 ≠ .cell) (hkind : scope.kind = .function)
    (F : Fr h₀ L s₂.heap m) (N : News h₀ L s₂.heap news) (hJ : J 0 [] news)
    (hself : ∀ (s' : Shared) (Q : Value → Shared → Prop) (E' : Value → Shared → Prop), Fr h₀ L s'.heap m → News h₀ L s'.heap news → Q (.ref it) s' → wpAny (model prog w) A (pyIter (.ref it)) Q E' s')
    (T : CompTurns prog w A h₀ L m env elt target scope cl it s₂ n J Fin)
    (hRR : ∀ D C h tk m' ys news', Fr h₀ L h m → News h₀ L h ((D, LCg.lst ys) :: news') → (∀ p ∈ news', p.1 ≠ D) → h.Ns C m' → h₀.get? C = none → h₀.get? D = none → C ≠ L → D ≠ L → C ≠ D → (∀ p ∈ news', p.1 ≠ C) → Fin ys news' → RR (.ref D) C (.ok .next) { s₂ with heap := h, toks := tk }) :
    wpAny (model prog w) A (newList []) (fun acc s₃ => wpAny (model prog w) A (newFunctionEnv scope env.globals cl [] env.qual none .none (some env)) (fun cenv s₄ =>
      codeAny (model prog w) A (.compStart (.ListComp elt [⟨target, iter, [], 0⟩] scope pos) 0 (.ref it) acc { cenv with scope := relabel scope env }) (RR acc cenv.locals) s₄) E s₃) E s₂ := by
  refine wpAny_newObj_type (wpAny_newFunctionEnv hcell (by intro y hy; simp at hy) (fun h₁ hns₁ hsb₁ => ?_) hkind)
  dsimp only at hns₁ hsb₁ ⊢
  generalize hH2 : s₂.heap.push { cls := .type "list", dict := none, data := .seq ([] : List Value).toArray } = H2 at hns₁ hsb₁ ⊢
  have hC : H2.objs.size = s₂.heap.objs.size + 1 := by rw [← hH2, Heap.size_push]
  have hDC : s₂.heap.objs.size ≠ H2.objs.size := by rw [hC]; exact Nat.ne_of_lt (Nat.lt_succ_self _)
  have below : ∀ b, b < s₂.heap.objs.size → b ≠ H2.objs.size ∧ b ≠ s₂.heap.objs.size := fun b hb => ⟨by rw [hC]; exact Nat.ne_of_lt (Nat.lt_succ_of_lt hb), Nat.ne_of_lt hb⟩
  have old : ∀ b o, s₂.heap.get? b = some o → h₁.get? b = some o := fun b o e => hsb₁.extBut b o (below b (Heap.lt_size e)).1 (Heap.get?_push_of_some _ (hH2 ▸ Heap.get?_push_of_some _ e))
  have hacc : h₁.get? s₂.heap.objs.size = some (LCg.lst []) := hsb₁.extBut _ _ hDC (Heap.get?_push_of_some _ (hH2 ▸ Heap.get?_push_size _ rfl))
  have fresh : ∀ a, s₂.heap.objs.size ≤ a → s₂.heap.get? a = none := fun a ha => by
    cases e : s₂.heap.get? a with
    | none => rfl
    | some o' => exact absurd (Heap.lt_size e) (Nat.not_lt.mpr ha)
  have fresh₀ : ∀ a, s₂.heap.objs.size ≤ a → h₀.get? a = none := fun a ha => by
    cases e : h₀.get? a with
    | none => rfl
    | some o' => have := F.keep a o' e; rw [fresh a ha] at this; cases this
  have hD₀ : h₀.get? s₂.heap.objs.size = none := fresh₀ _ (Nat.le_refl _)
  have hC₀ : h₀.get? H2.objs.size = none := fresh₀ _ (by rw [hC]; exact Nat.le_succ _)
  have hLlt : L < s₂.heap.objs.size := F.ns.lt
  have hDL : s₂.heap.objs.size ≠ L := Ne.symm (below L hLlt).2
  have hCL : H2.objs.size ≠ L := Ne.symm (below L hLlt).1
  have off₀ : OffCD H2.objs.size s₂.heap.objs.size news := fun p hp => ⟨(below _ (Heap.lt_size (N p hp).1)).1, (below _ (Heap.lt_size (N p hp).1)).2⟩
  obtain ⟨oC₀, heC₀, hoC₀⟩ := LCg.ns_obj hns₁
  have N₁ : News h₀ L h₁ ((H2.objs.size, oC₀) :: (s₂.heap.objs.size, LCg.lst []) :: news) := fun p hp => by
    rcases List.mem_cons.mp hp with rfl | hp
    · exact ⟨heC₀, hCL, hC₀⟩
    · rcases List.mem_cons.mp hp with rfl | hp
      · exact ⟨hacc, hDL, hD₀⟩
      · exact ⟨old _ _ (N p hp).1, (N p hp).2⟩
  have loop : ∀ s₃ : Shared, s₃ = { s₂ with heap := h₁, toks := s₂.toks + ([] : List (Str × Value)).length } →
      codeAny (model prog w) A (.compLoop (.ListComp elt [⟨target, iter, [], 0⟩] scope pos) 0 (.ref it) (.ref s₂.heap.objs.size) (compEnvC scope cl H2.objs.size env))
        (RR (.ref s₂.heap.objs.size) H2.objs.size) s₃ := by
    rintro s₃ rfl
    refine kcp_loop
      (fun k s' => ∃ h' tk i ys oC m' nx, s' = { s₂ with heap := h', toks := tk } ∧ i ≤ n ∧ k = n + 1 - i ∧ ys.length = i ∧ Fr h₀ L h' m ∧ LCg.NsObj oC m' ∧ News h₀ L h' ((H2.objs.size, oC) :: (s₂.heap.objs.size, LCg.lst ys) :: nx) ∧
        OffCD H2.objs.size s₂.heap.objs.size nx ∧ J i ys nx) ?_ (n + 1)
      ⟨h₁, _, 0, [], oC₀, _, news, rfl, Nat.zero_le _, rfl, rfl, F.keeps old, hoC₀, N₁, off₀, hJ⟩
    rintro k s' ⟨h', tk, i, ys, oC, m', nx, rfl, hi, rfl, hyl, F', hoC, N', off', hJ'⟩
    by_cases hlt : i < n
    · refine wpAny_mono (T.turn i ys nx _ oC m' _ h' tk _ hlt hyl hJ' hoC F' N' off' (Ne.symm hDC)) (fun r s₁ h₂ => ?_) fun _ _ e => e
      obtain ⟨v, rfl, h₂⟩ := h₂
      refine wpAny_mono h₂ (fun _ s₁' h₃ => wpAny_mono h₃ (fun _ s₃ h₄ => wpAny_mono h₄ (fun y s₄ h₅ => ?_) fun _ _ e => e) fun _ _ e => e) fun _ _ e => e
      obtain ⟨h₆, tk₆, oC₆, m₆, nx₆, rfl, F₆, hoC₆, N₆, off₆, hJ₆⟩ := h₅
      have zD := (N₆ (s₂.heap.objs.size, LCg.lst ys) (List.mem_cons_of_mem _ List.mem_cons_self)).1
      refine append_at (hsz := by show ys.toArray.size ≤ sizeLine; rw [List.size_toArray, hyl]; exact Nat.le_trans hi hsz) zD fun h₇ hs₇ hD₇ => ?_
      refine ⟨n + 1 - (i + 1), Nat.sub_lt_sub_left (Nat.lt_succ_of_lt (by assumption)) (Nat.lt_succ_self i), h₇, tk₆, i + 1, ys ++ [y], oC₆, m₆, nx₆, rfl, hlt, rfl, by rw [List.length_append, List.length_singleton, hyl], F₆.change hs₇ hDL hD₀, hoC₆, fun p hp => ?_, off₆, hJ₆⟩
      rcases List.mem_cons.mp hp with rfl | hp
      · exact ⟨hs₇.extBut _ _ (Ne.symm hDC) (N₆ _ (.head _)).1, hCL, hC₀⟩
      · rcases List.mem_cons.mp hp with rfl | hp
        · exact ⟨hD₇.trans (congrArg some (LCg.lst_snoc ys y)), hDL, hD₀⟩
        · have z := N₆ p (.tail _ (.tail _ hp))
          exact ⟨hs₇.extBut _ _ (off₆ p hp).2 z.1, z.2⟩
    · obtain rfl : i = n := Nat.le_antisymm hi (Nat.not_lt.mp hlt)
      refine wpAny_mono (T.last ys nx _ oC _ h' tk _ hyl hJ' F' N' off' (Ne.symm hDC)) (fun r s₁ h₂ => ?_) fun _ _ e => e
      obtain ⟨rfl, h₆, tk₆, nx₆, rfl, F₆, N₆, off₆, fin⟩ := h₂
      exact hRR _ _ h₆ tk₆ m' ys nx₆ F₆ (fun p hp => N₆ p (.tail _ hp)) (fun p hp => (off₆ p hp).2) (hoC.ns (N₆ _ (.head _)).1) hC₀ hD₀ hCL hDL (Ne.symm hDC) (fun p hp => (off₆ p hp).1) fin
  exact codeAny_compStart_list (loop _ rfl) (hself _ _ _ (F.keeps old) (fun p hp => N₁ p (.tail _ (.tail _ hp))) (loop _ rfl))
noncomputable def FinEG (h₀ : Heap) (L : Addr) (m : Str → Option Value) (Q : Value → Shared → Prop) (s : Shared) (ys : List Value) (news : List (Addr × Obj)) : Prop :=
  ∀ D h tk, Fr h₀ L h m → News h₀ L h ((D, LCg.lst ys) :: news) → (∀ p ∈ news, p.1 ≠ D) → Q (.ref D) { s with heap := h, toks := tk }
noncomputable def FinAG (h₀ : Heap) (L : Addr) (m : Str → Option Value) (y : Str) (Q : Flow → Shared → Prop) (s : Shared) (ys : List Value) (news : List (Addr × Obj)) : Prop :=
  ∀ D h tk, Fr h₀ L h (fun z => if z = y then some (.ref D) else m z) → News h₀ L h ((D, LCg.lst ys) :: news) → (∀ p ∈ news, p.1 ≠ D) → Q .next { s with heap := h, toks := tk }
theorem compE {elt target iter : PySem.Expr} {scope : Scope} {cl : List (Str × Addr)} {pos : Pos} {Q : Value → Shared → Prop} (_F₀ : Fr h₀ L s.heap m)
    (hclos : closureFor scope env = pure cl) (hcell : ∀ y ∈ scope.names, y.2 ≠ .cell) (hkind : scope.kind = .function)
    (hnames : ∀ y ∈ scope.names, y.2 = .local → scope.names.lookup y.1 = some .local)
    (h : wpAny (model prog w) A (eval iter env) (fun xv s₁ => wpAny (model prog w) A (pyIter xv) (fun itv s₂ => SrcG prog w A h₀ L m env elt target scope cl (FinEG h₀ L m Q) itv s₂) E s₁) E s)
    (hs : ∀ x, foldedSetIterable iter env x = pure x) :
    wpAny (model prog w) A (eval (.ListComp elt [⟨target, iter, [], 0⟩] scope pos) env) Q E s := by
  rw [eval_ListComp]
  refine wpAny_comprehension_free (use := none) rfl hs hclos hkind hnames (wpAny_mono h (fun xv s₁ h₁ => wpAny_mono h₁ (fun itv s₂ h₂ => ?_) fun _ _ e => e) fun _ _ e => e)
  obtain ⟨it, n, J, news, rfl, hsz, F, N, hJ, hself, T⟩ := h₂
  refine blockG hsz hcell hkind F N hJ hself T ?_
  intro D C h tk m' ys news' F' N' offD hn hC₀ hD₀ hCL hDL hCD offC fin
  refine ⟨m', hn, fun h'' hs'' => fin D h'' tk (F'.change hs'' hCL hC₀) (fun p hp => ?_) offD⟩
  refine ⟨hs''.extBut _ _ ?_ (N' p hp).1, (N' p hp).2⟩
  rcases List.mem_cons.mp hp with rfl | hp
  · exact Ne.symm hCD
  · exact offC p hp
theorem compA {elt target iter : PySem.Expr} {y : Str} {py : Pos} {scope : Scope} {cl : List (Str × Addr)} {pos spos : Pos} {Q : Flow → Shared → Prop} (_F₀ : Fr h₀ L s.heap m) (hLe : env.locals = L)
    (hsw : swapsWith (.ListComp elt [⟨target, iter, [], 0⟩] scope pos) (some (.Name y py)) spos.line env = pure true)
    (hclos : closureFor scope env = pure cl) (hcell : ∀ z ∈ scope.names, z.2 ≠ .cell) (hkind : scope.kind = .function)
    (hnames : ∀ z ∈ scope.names, z.2 = .local → scope.names.lookup z.1 = some .local)
    (hy : env.kindOf y = some .local) (hp : (env.scope.kind == .class || (env.scope.kind == .module && env.locals != env.globals)) = false)
    (h : wpAny (model prog w) A (eval iter env) (fun xv s₁ => wpAny (model prog w) A (pyIter xv) (fun itv s₂ => SrcG prog w A h₀ L m env elt target scope cl (FinAG h₀ L m y Q) itv s₂) E s₁) E s)
    (hs : ∀ x, foldedSetIterable iter env x = pure x) :
    wpAny (model prog w) A (exec (.Assign [.Name y py] (.ListComp elt [⟨target, iter, [], 0⟩] scope pos) spos) env) Q E s := by
  subst hLe
  rw [exec_Assign_Name_used _ _ _ _ hsw]
  refine wpAny_bind (wpAny_standAt (wpAny_bind ?_))
  show wpAny _ A (do let _ ← comprehension (.ListComp elt [⟨target, iter, [], 0⟩] scope pos) scope env _ (newList []) false (eval iter env) (some (assign (.Name y py) env))) _ _ s
  refine wpAny_bind (wpAny_mono (wpAny_comprehension_free (use := some (assign (.Name y py) env)) (Q := fun _ s' => Q .next s') rfl hs hclos hkind hnames
    (wpAny_mono h (fun xv s₁ h₁ => wpAny_mono h₁ (fun itv s₂ h₂ => ?_) fun _ _ e => e) fun _ _ e => e)) (fun _ s' hq => wpAny_pure (wpAny_pure hq)) fun _ _ e => e)
  obtain ⟨it, n, J, news, rfl, hsz, F, N, hJ, hself, T⟩ := h₂
  refine blockG hsz hcell hkind F N hJ hself T ?_
  intro D C h' tk m' ys news' F' N' offD hn hC₀ hD₀ hCL hDL hCD offC fin
  show wpAny _ A (assign (.Name y py) env (.ref D)) _ _ _
  refine wpAny_assign_Name (wpAny_storeName_local hy F'.ns (fun h₂ hn₂ hs₂ => ?_) hp)
  have hL₀ : h₀.get? env.locals = none := Heap.get?_none_of_le F'.above
  have F₂ : Fr h₀ env.locals h₂ (fun z => if z = y then some (.ref D) else m z) := ⟨hn₂, fun b o e => hs₂.extBut b o (fun q => by rw [q, hL₀] at e; cases e) (F'.keep b o e), F'.above⟩
  refine ⟨m', hn.sameBut hs₂ hCL, fun h'' hs'' => fin D h'' _ (F₂.change hs'' hCL hC₀) (fun p hp => ?_) offD⟩
  have z : h₂.get? p.1 = some p.2 := hs₂.extBut _ _ (N' p hp).2.1 (N' p hp).1
  refine ⟨hs''.extBut _ _ ?_ z, (N' p hp).2⟩
  rcases List.mem_cons.mp hp with rfl | hp
  · exact Ne.symm hCD
  · exact offC p hp
end
end Mine
end
section
theorem Mine.fresh_W19 : True := by
  w_top off
  exact trivial
open PySem PySem.W PyProof.Rows PySem.Calls PySem.Spec
namespace Mine
section
variable {prog : Program} {w : World} {A : Around} {E : Value → Shared → Prop} {s : Shared} {h₀ : Heap} {L : Addr} {m : Str → Option Value} {env : Env}
/-- the counted list's two objects -/
noncomputable def EnumObjs (e it l : Addr) (items : Array Value) (i : Nat) (oe oi : Obj) : Prop := ∀ h : Heap, h.get? e = some oe → h.get? it = some oi → h.IsList l items → (∃ old, IsEnum h e it (i : Int) old) ∧ h.IsListIter it l i ∧ h.IsList l items
noncomputable def EnumJ (e it l : Addr) (items : Array Value) (K : Nat → List Value → List (Addr × Obj) → Prop) (i : Nat) (ys : List Value) (nx : List (Addr × Obj)) : Prop :=
  ∃ oe oi nx', nx = (e, oe) :: (it, oi) :: nx' ∧ EnumObjs e it l items i oe oi ∧ (∀ p ∈ nx', p.1 ≠ e ∧ p.1 ≠ it) ∧ K i ys nx'
theorem enumObjs_of {e it l : Addr} {items : Array Value} {i : Nat} {h : Heap} (st : (∃ old, IsEnum h e it (i : Int) old) ∧ h.IsListIter it l i ∧ h.IsList l items) :
    ∃ oe oi, h.get? e = some oe ∧ h.get? it = some oi ∧ EnumObjs e it l items i oe oi := by
  obtain ⟨⟨old, he⟩, hi, hl⟩ := st
  obtain ⟨oi, hio, hir⟩ := hi
  refine ⟨_, oi, he, hio, fun h' e1 e2 e3 => ⟨⟨old, e1⟩, ⟨oi, e2, hir⟩, e3⟩⟩
/-- an element's end -/
noncomputable def EnumEnd (h₀ : Heap) (L : Addr) (m : Str → Option Value) (s : Shared) (C : Addr) (oC : Obj) (D : Addr) (ys : List Value) (e : Addr) (oe : Obj) (it : Addr) (oi : Obj) (Kn : List Value → List (Addr × Obj) → Prop) (y : Value) (s₄ : Shared) : Prop :=
  ∃ h' tk' nx', s₄ = { s with heap := h', toks := tk' } ∧ Fr h₀ L h' m ∧ News h₀ L h' ((C, oC) :: (D, LCg.lst ys) :: (e, oe) :: (it, oi) :: nx') ∧ OffCD C D nx' ∧ (∀ p ∈ nx', p.1 ≠ e ∧ p.1 ≠ it) ∧ Kn (ys ++ [y]) nx'
theorem enumC {as : List Int} {vs : List Value} {l : Addr} {elt : PySem.Expr} {x x₂ : Str} {px px₂ tp : Pos} {kk : Nat} {scope : Scope} {cl : List (Str × Addr)} {Fin : Shared → List Value → List (Addr × Obj) → Prop} {news : List (Addr × Obj)}
    (K : Nat → List Value → List (Addr × Obj) → Prop)
    (hh : A.handled = none) (hl : h₀.IsList l vs.toArray) (hi : IntsAre vs as) (hz : as.length ≤ 1000) (F : Fr h₀ L s.heap m) (N : News h₀ L s.heap news) (hK : K 0 [] news)
    (hkind : scope.kind = .function) (hx : scope.names.lookup x = some .local) (hx₂ : scope.names.lookup x₂ = some .local) (hxx : x ≠ x₂)
    (turn : ∀ (e it : Addr) oe oi i ys nx C oC m₂ D h tk tk0 (E' : Value → Shared → Prop) a ta tb, as[i]? = some a → ys.length = i → K i ys nx → LCg.NsObj oC m₂ → m₂ x = some (.int (i : Nat) ta) → m₂ x₂ = some (.int a tb) → Fr h₀ L h m → News h₀ L h ((C, oC) :: (D, LCg.lst ys) :: (e, oe) :: (it, oi) :: nx) → OffCD C D nx → (∀ p ∈ nx, p.1 ≠ e ∧ p.1 ≠ it) →
      wpAny (model prog w) A (eval elt (compEnvC scope cl C env)) (EnumEnd h₀ L m s C oC D ys e oe it oi (K (i + 1))) E' { s with heap := h, toks := tk + tk0 })
    (fin : ∀ hp tkp (ys : List Value) (nx : List (Addr × Obj)), ys.length = as.length → K as.length ys nx → ∃ nx', (∀ p ∈ nx', p ∈ nx) ∧ Fin { s with heap := hp, toks := tkp } ys nx') :
    wpAny (model prog w) A (call (.type "enumerate") [.ref l]) (fun xv s₁ => wpAny (model prog w) A (pyIter xv) (fun itv s₂ => SrcG prog w A h₀ L m env elt (.Tuple [.Name x px, .Name x₂ px₂] kk tp) scope cl Fin itv s₂) E s₁) E s := by
  have hls : s.heap.IsList l vs.toArray := hl.at fun o e => F.keep l o e
  obtain ⟨ol, hol, _⟩ := id hl
  have hlt : l < h₀.objs.size := Heap.lt_size hol
  have hLs : L < s.heap.objs.size := F.ns.lt
  have hab : h₀.objs.size ≤ L := F.above
  have hl2 : l < s.heap.objs.size := Nat.lt_trans (Nat.lt_of_lt_of_le hlt hab) hLs
  have hsize : vs.toArray.size = as.length := by simp [hi.length]
  refine call_enumerate_list hls fun h1 he hit hsz hk => ?_
  have F1 : Fr h₀ L h1 m := ⟨F.ns.keeps hk, fun b o e => hk b o (F.keep b o e), F.above⟩
  have N1 : News h₀ L h1 news := fun p hp => ⟨hk _ _ (N p hp).1, (N p hp).2⟩
  generalize hG : s.heap.objs.size = it at *
  induction it using genV; rename_i it
  have hei : it + 1 ≠ it := Nat.succ_ne_self _
  have hle : l ≠ it + 1 := Nat.ne_of_lt (Nat.lt_succ_of_lt hl2)
  have hli : l ≠ it := Nat.ne_of_lt hl2
  have W := WalksT.enumerate (prog := prog) (w := w) (A := A) hh (it + 1) it l hei hle hli vs.toArray
  have hLe : L ≠ it + 1 := Nat.ne_of_lt (Nat.lt_succ_of_lt hLs)
  have hLi : L ≠ it := Nat.ne_of_lt hLs
  have he0 : h₀.get? (it + 1) = none := Heap.get?_none_of_le (Nat.le_trans hab (Nat.le_of_lt (Nat.lt_succ_of_lt hLs)))
  have hi0 : h₀.get? it = none := Heap.get?_none_of_le (Nat.le_trans hab (Nat.le_of_lt hLs))
  have keepW : ∀ (b : Addr), b ≠ it + 1 → b ≠ it → b ∉ [it + 1, it] := fun b h1 h2 hm => by
    rcases List.mem_cons.mp hm with e | hm
    · exact h1 e
    · exact h2 (List.mem_singleton.mp hm)
  refine wpAny_pyIter_enum he ?_
  obtain ⟨oe, oi, eo1, eo2, hO⟩ := enumObjs_of (i := 0) (e := it + 1) (l := l) (items := vs.toArray) ⟨⟨.none, by simpa using he⟩, hit, hls.at fun o e => hk l o e⟩
  have hnw : ∀ p ∈ news, p.1 ≠ it + 1 ∧ p.1 ≠ it := fun p hp => ⟨Nat.ne_of_lt (Nat.lt_succ_of_lt (hG ▸ Heap.lt_size (N p hp).1)), Nat.ne_of_lt (hG ▸ Heap.lt_size (N p hp).1)⟩
  refine ⟨it + 1, as.length, EnumJ (it + 1) it l vs.toArray K, (it + 1, oe) :: (it, oi) :: news, rfl, ?_, F1, ?_, ⟨oe, oi, news, rfl, hO, hnw, hK⟩, ?_, ?_⟩
  · rw [PySem.sizeLine_eq]; omega
  · intro p hp
    rcases List.mem_cons.mp hp with rfl | hp
    · exact ⟨eo1, Ne.symm hLe, he0⟩
    · rcases List.mem_cons.mp hp with rfl | hp
      · exact ⟨eo2, Ne.symm hLi, hi0⟩
      · exact N1 p hp
  · intro s' Q E' F' N' hQ
    obtain ⟨⟨old, he'⟩, _⟩ := hO s'.heap (N' _ (.head _)).1 (N' _ (.tail _ (.head _))).1 (hl.at fun o e => F'.keep l o e)
    exact wpAny_pyIter_enum he' hQ
  refine ⟨?_, ?_⟩
  · rintro i ys nx C oC m₂ D h tk E' hin hyl ⟨oe', oi', nx', rfl, hO', hap, hK'⟩ hoC F' N' off hCD
    have zC := N' _ (.head _)
    have zD := N' _ (.tail _ (.head _))
    have ze := N' _ (.tail _ (.tail _ (.head _)))
    have zi := N' _ (.tail _ (.tail _ (.tail _ (.head _))))
    have hlh : h.IsList l vs.toArray := hl.at fun o e => F'.keep l o e
    have st := hO' h ze.1 zi.1 hlh
    have offe := off _ (.head _)
    have offi := off _ (.tail _ (.head _))
    have offn : OffCD C D nx' := fun p hp => off p (.tail _ (.tail _ hp))
    refine W.item i _ _ _ (by rw [hsize]; exact hin) st ?_
    intro T vals h2 tk2 hPt hT hTup hMid hk2
    refine ⟨_, rfl, ?_⟩
    refine W.go _ _ _ i T _ _ _ hMid fun h3 st3 hk3 => ?_
    have hTw : T ∉ [it + 1, it] := W.apart i T _ hMid
    have hTup3 : h3.IsTuple T vals := hTup.at fun o e => hk3 _ _ hTw e
    obtain ⟨ta, xv, hxv, rfl⟩ := hPt
    obtain ⟨a, tb, rfl, hga⟩ : ∃ a tb, xv = .int a tb ∧ as[i]? = some a := by
      obtain ⟨a, tb, e1, e2⟩ := hi.at i xv (by simpa using hxv)
      exact ⟨a, tb, e1, e2⟩
    have hk23 : ∀ b o, b ≠ it + 1 → b ≠ it → h.get? b = some o → h3.get? b = some o := fun b o n1 n2 e => hk3 _ _ (keepW b n1 n2) (hk2 _ _ (keepW b n1 n2) e)
    have hC3 : h3.get? C = some oC := hk23 C oC (Ne.symm offe.1) (Ne.symm offi.1) zC.1
    refine kcp_assign hh hTup3 (lookup_relabel_local hx) (lookup_relabel_local hx₂) (by simp [compEnvC, relabel, hkind]) (hoC.ns hC3) ?_
    intro h4 tk4 hn4 hk4
    obtain ⟨oC4, hC4, hoC4⟩ := LCg.ns_obj hn4
    have st4 : (∃ old, IsEnum h4 (it + 1) it ((i + 1 : Nat) : Int) old) ∧ h4.IsListIter it l (i + 1) ∧ h4.IsList l vs.toArray := by
      refine W.frame (i + 1) _ _ st3 fun b hb o e => hk4 b o ?_ e
      intro hbC
      have hbC' : b = C := hbC
      subst hbC'
      rcases List.mem_cons.mp hb with e1 | hb
      · exact offe.1 e1.symm
      · rcases List.mem_cons.mp hb with e1 | hb
        · exact offi.1 e1.symm
        · have := zC.2.2
          rw [List.mem_singleton.mp hb, hol] at this; cases this
    obtain ⟨oe4, oi4, eo1', eo2', hO4⟩ := enumObjs_of st4
    have hk24 : ∀ b o, b ≠ it + 1 → b ≠ it → b ≠ C → h.get? b = some o → h4.get? b = some o := fun b o n1 n2 n3 e => hk4 b o n3 (hk23 b o n1 n2 e)
    have h0ne : ∀ b o, h₀.get? b = some o → b ≠ it + 1 ∧ b ≠ it ∧ b ≠ C := fun b o e => ⟨fun q => (by rw [q, he0] at e; cases e), fun q => (by rw [q, hi0] at e; cases e), fun q => (by rw [q, zC.2.2] at e; cases e)⟩
    have F4 : Fr h₀ L h4 m := ⟨F'.ns.at' fun o e => hk24 L o hLe hLi (Ne.symm zC.2.1) e, fun b o e => hk24 b o (h0ne b o e).1 (h0ne b o e).2.1 (h0ne b o e).2.2 (F'.keep b o e), F'.above⟩
    have N4 : News h₀ L h4 ((C, oC4) :: (D, LCg.lst ys) :: (it + 1, oe4) :: (it, oi4) :: nx') := by
      intro p hp
      rcases List.mem_cons.mp hp with rfl | hp
      · exact ⟨hC4, zC.2⟩
      rcases List.mem_cons.mp hp with rfl | hp
      · exact ⟨hk24 _ _ (Ne.symm offe.2) (Ne.symm offi.2) (Ne.symm hCD) zD.1, zD.2⟩
      rcases List.mem_cons.mp hp with rfl | hp
      · exact ⟨eo1', ze.2⟩
      rcases List.mem_cons.mp hp with rfl | hp
      · exact ⟨eo2', zi.2⟩
      · have z := N' p (.tail _ (.tail _ (.tail _ (.tail _ hp))))
        exact ⟨hk24 _ _ (hap p hp).1 (hap p hp).2 (offn p hp).1 z.1, z.2⟩
    refine wpAny_mono (turn (it + 1) it oe4 oi4 i ys nx' C oC4 _ D h4 tk4 0 E' a ta tb hga hyl hK' hoC4 ?_ ?_ F4 N4 offn hap) (fun y s₄ h₅ => ?_) fun _ _ e => e
    · show (if x = x₂ then _ else if x = x then _ else _) = _
      rw [if_neg hxx, if_pos rfl]
    · show (if x₂ = x₂ then _ else _) = _
      rw [if_pos rfl]
    · obtain ⟨h6, tk6, nx6, rfl, F6, N6, off6, ap6, hK6⟩ := h₅
      refine ⟨h6, tk6, oC4, _, (it + 1, oe4) :: (it, oi4) :: nx6, rfl, F6, hoC4, N6, ?_, oe4, oi4, nx6, rfl, hO4, ap6, hK6⟩
      intro p hp
      rcases List.mem_cons.mp hp with rfl | hp
      · exact offe
      rcases List.mem_cons.mp hp with rfl | hp
      · exact offi
      · exact off6 p hp
  · rintro ys nx C oC D h tk E' hyl ⟨oe', oi', nx', rfl, hO', hap, hK'⟩ F' N' off hCD
    have ze := N' _ (.tail _ (.tail _ (.head _)))
    have zi := N' _ (.tail _ (.tail _ (.tail _ (.head _))))
    have hlh : h.IsList l vs.toArray := hl.at fun o e => F'.keep l o e
    have st := hO' h ze.1 zi.1 hlh
    have offe := off _ (.head _)
    have offi := off _ (.tail _ (.head _))
    have offn : OffCD C D nx' := fun p hp => off p (.tail _ (.tail _ hp))
    have st' : (∃ old, IsEnum h (it + 1) it ((vs.toArray.size : Nat) : Int) old) ∧ h.IsListIter it l vs.toArray.size ∧ h.IsList l vs.toArray := by rw [hsize]; exact st
    refine W.done _ _ _ st' fun h2 tk2 hk2 => ?_
    have h0ne : ∀ b o, h₀.get? b = some o → b ≠ it + 1 ∧ b ≠ it := fun b o e => ⟨fun q => (by rw [q, he0] at e; cases e), fun q => (by rw [q, hi0] at e; cases e)⟩
    obtain ⟨nx6, hsub, hfin⟩ := fin h1 s.toks ys nx' hyl hK'
    refine ⟨rfl, h2, tk2, nx6, rfl, ⟨F'.ns.at' fun o e => hk2 _ _ (keepW L hLe hLi) e, fun b o e => hk2 _ _ (keepW b (h0ne b o e).1 (h0ne b o e).2) (F'.keep b o e), F'.above⟩, ?_, fun p hp => offn p (hsub p hp), ?_⟩
    · intro p hp
      rcases List.mem_cons.mp hp with rfl | hp
      · exact ⟨hk2 _ _ (keepW _ (Ne.symm offe.1) (Ne.symm offi.1)) (N' _ (.head _)).1, (N' _ (.head _)).2⟩
      rcases List.mem_cons.mp hp with rfl | hp
      · exact ⟨hk2 _ _ (keepW _ (Ne.symm offe.2) (Ne.symm offi.2)) (N' _ (.tail _ (.head _))).1, (N' _ (.tail _ (.head _))).2⟩
      · have z := N' p (.tail _ (.tail _ (.tail _ (.tail _ (hsub p hp)))))
        exact ⟨hk2 _ _ (keepW _ (hap p (hsub p hp)).1 (hap p (hsub p hp)).2) z.1, z.2⟩
    · exact hfin
end
end Mine
end
section
theorem Mine.fresh_W20 : True := by
  w_top off
  exact trivial
open PySem PySem.W PyProof.Rows PySem.Calls PySem.Spec
namespace Mine
theorem fillK20 (w : World) : row.name = row.name ∧ Kf w.params = Kf w.params := by
  k_fill
  exact ⟨rfl, rfl⟩
local macro_rules | `(tactic| walk_at "mine steps") => `(tactic| w_strict (repeat' (walk_at "mine no 0"; walk_at "mine no 1"; walk_at "mine no 4"; walk_at "mine no 5"; walk_at "mine no 6"; walk_at "mine core")))
noncomputable def chosen (os : List Int) (k : Int) : Int := ((List.range os.length).map fun j => Builtin.bitAnd (k.fdiv (2 ^ j)) 1 * 2 ^ (os.getD j 0).toNat).sum
noncomputable def tabF (os : List Int) (x : Int) (i : Nat) : Int := Builtin.bitAnd (x.fdiv (2 ^ (chosen os i).toNat)) 1
noncomputable def TabJ (T c lo : Addr) (os : List Int) (x : Int) (t : Tok) (i : Nat) (m : Str → Option Value) (nx : List (Addr × Obj)) : Prop :=
  ∃ tv k v oc, nx = [(T, listOf (List.toArray tv) k), (c, oc)] ∧ oc.data = .cell v ∧ m "table" = some (.ref T) ∧ m "order" = some (.ref lo) ∧ m "family" = some (.int x t) ∧ IntsAre tv ((List.range i).map (tabF os x))
theorem sum_nn {l : List Int} (h : ∀ v ∈ l, 0 ≤ v) : 0 ≤ l.sum := by
  induction l with
  | nil => simp
  | cons a r ih =>
    rw [List.sum_cons]
    have h1 := h a (.head _)
    have h2 := ih fun v hv => h v (.tail _ hv)
    omega
theorem chosen_nn (os : List Int) (k : Int) : 0 ≤ chosen os k := by
  refine sum_nn fun v hv => ?_
  obtain ⟨j, _, rfl⟩ := List.mem_map.mp hv
  rw [bitAnd_m1]
  exact Int.mul_nonneg (by omega) (Int.le_of_lt (kbt_pos _))
theorem frT {h₀ h : Heap} {L : Addr} {m : Str → Option Value} {n1 n2 n3 : Str} {v1 v2 v3 : Value} (h1 : m n1 = some v1) (h2 : m n2 = some v2) (h3 : m n3 = some v3) (F : Fr h₀ L h m) : Fr h₀ L h (fun y => if y = n1 then some v1 else if y = n2 then some v2 else if y = n3 then some v3 else m y) := fr3 h1 h2 h3 F
theorem table_spec {w : World} {A : Around} {E : Value → Shared → Prop} {s : Shared} {h₀ : Heap} {L : Addr} {m : Str → Option Value} {rest : List (Addr × Obj)} {Q : Value → Shared → Prop} {lo : Addr} {ovs : List Value} {os : List Int} {ok : Nat} {x : Int} {t : Tok}
    (X : Ok w h₀) (Y : At A L h₀ 20) (F : Fr h₀ L s.heap m) (N : News h₀ L s.heap rest)
    (ho : (lo, listOf ovs.toArray ok) ∈ rest ∨ h₀.get? lo = some (listOf ovs.toArray ok)) (hO : IntsAre ovs os) (hos : os ∈ orders) (hx : 0 ≤ x) (hxb : x < 65536)
    (ret : ∀ T tv k h' tk', Fr h₀ L h' m → News h₀ L h' ((T, listOf (List.toArray tv) k) :: rest) → IntsAre tv ((List.range 16).map (tabF os x)) → (∀ p ∈ rest, p.1 ≠ T) → Q (.ref T) { s with heap := h', toks := tk' }) :
    wpAny (model row.row.prog w) A (call (.ref 118) [.ref lo, .int x t]) Q E s := by
  obtain ⟨ha, dp, fr, gd, un0⟩ := A
  obtain rfl : ha = none := Y.hh
  refine enterMC (mu := []) (stay := rest) (binds := [("order", .ref lo), ("family", .int x t)]) (dep := 19) X Y F News.nil N (fun _ _ _ h => nomatch h) (by k_is) (by k_is) (by exact BindsTo.of_eq rfl) (by exact rfl) (by decide +kernel) (by exact rfl) (by exact rfl) (by exact rfl) ?_
  intro g L' h₁ tk cells X' Y' gk gs F' N' CA lt1 lt2
  obtain ⟨o1, hE, d1⟩ := CellsAre.one CA
  subst hE
  clear CA
  simp only [List.cons_append, List.nil_append] at N'
  obtain ⟨p, loose, mean, mg, mb, T'⟩ := X'.top
  have K' := X'.K
  have hLlo : g.IsList lo ovs.toArray := ⟨_, ho.elim (gs _) (gk _ _), rfl, _, rfl⟩
  show wpAny _ _ _ _ _ _
  k_fold
  walk_at "mine steps"
  rename_i T h1x l1x h2 F2 N2
  refine forG ?_ (fun _ => rfl)
  walk_at "mine steps"
  rename_i h3 tk3 t3 u3 v3 hR F3 N3 hk3
  refine rangeG (n := 16) (TabJ T (L' + 1) lo os x t) rfl (fun _ _ => rfl) PassesOwn.never hR (by decide) (by decide) F3 N3 ⟨[], 0, _, o1, rfl, d1, rfl, rfl, rfl, .nil⟩ ?_ ?_
  · intro I i ti m₁ nx h4 tk4 o hI hi hJ hne F4 N4
    obtain ⟨tv, k, v, oc, rfl, hoc, hm1, hm2, hm3, htv⟩ := hJ
    have F5 := frT hm1 hm2 hm3 F4
    have hI1 : @LT.lt Nat _ T I := hI _ (.head _)
    have hI2 : @LT.lt Nat _ (L' + 1) I := hI _ (.tail _ (.head _))
    rw [Int.zero_add]
    obtain ⟨z, hz⟩ : ∃ z : Int, z = (i : Int) := ⟨_, rfl⟩
    have hz0 : 0 ≤ z := by omega
    have hz1 : z < 16 := by omega
    rw [← hz]
    refine wpAny_assign_Name ?_
    clear F4
    walk_at "mine steps"
    rename_i h5 oc5 F6 N6 hoc5
    refine compE F6 (by with_unfolding_all rfl) (by decide) rfl (by decide) ?_ (fun _ => rfl)
    walk_at "mine steps"
    obtain ⟨hol4, hob⟩ := orders_are hos
    refine enumC (fun j ys nx => nx = [(I, o), (T, listOf tv.toArray k), (L' + 1, oc5)] ∧ IntsAre ys ((List.range j).map fun j => Builtin.bitAnd (z.fdiv (2 ^ j)) 1 * 2 ^ (os.getD j 0).toNat)) rfl hLlo hO (by omega) F6 N6 ⟨rfl, .nil⟩ rfl rfl rfl (by decide) ?_ ?_
    · intro e it oe oi j ys nx C oC m₂ D h7 tk7 tk0 E' a ta tb ha hyl hK hoC hx1 hx2 F7 N7 off7 ap7
      obtain ⟨rfl, hys⟩ := hK
      have hj4 : j < 4 := by have := (List.getElem?_eq_some_iff.mp ha).1; omega
      obtain ⟨hab0, hab1⟩ := hob a (List.mem_of_getElem? ha)
      have hag : os.getD j 0 = a := by rw [List.getD_eq_getElem?_getD, ha]; rfl
      have hj0 : 0 ≤ (j : Int) := by omega
      have hj1 : (j : Int) < 4 := by omega
      have hbt : Builtin.Int.intBits (Builtin.bitAnd (z.fdiv (2 ^ (j : Int).toNat)) 1) ≤ 100 := by
        rw [bitAnd_m1, intBits_le_iff]
        have : (2 : Nat) ^ 100 = 1267650600228229401496703205376 := by decide
        omega
      walk_at "mine steps"
      refine ⟨_, _, _, rfl, F7, N7, off7, ap7, rfl, ?_⟩
      rw [List.range_succ, List.map_append]
      have e : Builtin.bitAnd (z.fdiv (2 ^ (j : Int).toNat)) 1 * 2 ^ a.toNat = Builtin.bitAnd (z.fdiv (2 ^ j)) 1 * 2 ^ (os.getD j 0).toNat := by rw [hag, Int.toNat_natCast]
      rw [e]
      exact IntsAre.append hys (.cons _ _ .nil)
    · intro hp tkp ys nx hyl hK
      obtain ⟨rfl, hys⟩ := hK
      refine ⟨_, fun _ h => h, ?_⟩
      intro D h8 tk8 F8 N8 offD
      have hcn : 0 ≤ (List.map (fun j => Builtin.bitAnd (z.fdiv (2 ^ j)) 1 * 2 ^ (os.getD j 0).toNat) (List.range os.length)).sum := chosen_nn os z
      have hD1 : @Ne Nat I D := offD _ (.head _)
      have hD2 : @Ne Nat T D := offD _ (.tail _ (.head _))
      have hD3 : @Ne Nat (L' + 1) D := offD _ (.tail _ (.tail _ (.head _)))
      have htl : tv.length ≤ 16 := by have := htv.length; simp at this; omega
      walk_at "mine steps"
      rename_i tk9 h9x h9y h9 F9 N9
      have N10 : News g L' h9 [(I, o), (T, listOf (tv ++ [Value.int (tabF os x i) (tk9 + 1 + 1 + 1)]).toArray (k + 1)), (L' + 1, oc5)] := by
        have h := nsub N9 (fun p hp => List.Mem.tail _ hp)
        rw [hz, List.push_toArray] at h
        exact h
      refine ⟨_, _, _, [(T, listOf (tv ++ [Value.int (tabF os x i) (tk9 + 1 + 1 + 1)]).toArray (k + 1)), (L' + 1, oc5)], rfl, F9, N10, List.forall_mem_cons.mpr ⟨Nat.ne_of_lt hI1, List.forall_mem_cons.mpr ⟨Nat.ne_of_lt hI2, List.forall_mem_nil _⟩⟩, tv ++ [Value.int (tabF os x i) (tk9 + 1 + 1 + 1)], k + 1, _, oc5, rfl, hoc5, rfl, rfl, rfl, ?_⟩
      rw [List.range_succ, List.map_append]
      exact IntsAre.append htv (.cons _ _ .nil)
  · intro m₁ nx h4 tk4 hJ F4 N4
    obtain ⟨tv, k, v, oc, rfl, hoc, hm1, hm2, hm3, htv⟩ := hJ
    have F5 := frT hm1 hm2 hm3 F4
    clear F4
    walk_at "mine steps"
    try dsimp only
    show LeaveM h₀ L m g rest Q _ _
    exact leaveM F5 (nsub (b := [(T, listOf tv.toArray k)]) N4 (by walk_at "mine sub")) (fun F3 N3 => ret T tv k _ _ F3 N3 htv (apart_of gs N4 (.head _)))
end Mine
end
local macro_rules | `(tactic| walk_at "mine pad") => `(tactic| fail "pad")
local macro_rules | `(tactic| walk_at "mine pad") => `(tactic| fail "pad")
section
theorem Mine.fresh_W21 : True := by
  w_top off
  exact trivial
open PySem PySem.W PyProof.Rows PySem.Calls PySem.Spec
namespace Mine
section
variable {prog : Program} {w : World} {A : Around} {E : Value → Shared → Prop} {s : Shared}
/-- a zip whose tuple is still held -/
abbrev IsZipT (h : Heap) (z TI TO T : Addr) (b : Bool) : Prop :=
  h.get? z = some { cls := .type "zip", dict := none, data := .fields #[rawInt T, .bool b, .bool false, .ref TI, .ref TO], slots := #[] }
theorem loadIfAlive_ {a : Addr} {Q : Option Obj → Shared → Prop} (h : Q (s.heap.get? a) s) : wpAny (model prog w) A (loadIfAlive a) Q E s := fun _ _ _ => h
theorem zip_held {z TI TO T : Addr} {b : Bool} {oT : Obj} {Q : Bool → Shared → Prop} (hz : IsZipT s.heap z TI TO T b) (hT : s.heap.get? T = some oT)
    (h : ∀ h0, IsZipT h0 z TI TO T true → (∀ c o, c ≠ z → s.heap.get? c = some o → h0.get? c = some o) → h0.objs.size = s.heap.objs.size → Q false { s with heap := h0 }) :
    wpAny (model prog w) A (Builtin.SmallTypes.ownedTupleIsFree (.ref z)) Q E s := by
  unfold Builtin.SmallTypes.ownedTupleIsFree
  refine wpAny_bind (wpAny_field hz rfl (x := rawInt T) rfl ?_)
  unfold rawInt
  dsimp only
  refine wpAny_bind (loadIfAlive_ ?_)
  have eT : s.heap.get? (Int.toNat (T : Nat)) = some oT := by rw [Int.toNat_natCast]; exact hT
  rw [eT]
  simp only [Option.isNone_some, Bool.false_eq_true, if_false]
  refine wpAny_bind (wpAny_field hz rfl (x := .bool b) rfl ?_)
  cases b with
  | true => exact wpAny_pure (h s.heap hz (fun _ _ _ e => e) rfl)
  | false =>
    show wpAny _ _ (setField (.ref z) 1 (.bool true) >>= fun _ => pure false) _ _ _
    refine wpAny_bind (wpAny_setField_rec hz (by simp) fun h₁ hz₁ hs₁ => wpAny_pure (h h₁ hz₁ (fun c o n e => hs₁.extBut c o n e) hs₁.1))
theorem zip_later_item {z TI TO T i1 i2 l1 l2 : Addr} {b : Bool} {oT : Obj} {k1 k2 : Nat} {xs ys : Array Value} {x y : Value} {Q : Value → Shared → Prop} (D : ZipApart z TI TO i1 i2 l1 l2)
    (hz : IsZipT s.heap z TI TO T b) (hT : s.heap.get? T = some oT) (hTI : IsPair s.heap TI (.ref i1) (.ref i2))
    (h1 : s.heap.IsListIter i1 l1 k1) (h2 : s.heap.IsListIter i2 l2 k2) (hl1 : s.heap.IsList l1 xs) (hl2 : s.heap.IsList l2 ys) (hx : xs[k1]? = some x) (hy : ys[k2]? = some y)
    (hQ : ∀ h', IsZipT h' z TI TO T true → h'.IsListIter i1 l1 (k1 + 1) → h'.IsListIter i2 l2 (k2 + 1) → IsPair h' s.heap.objs.size x y →
      (∀ c o, c ≠ z → c ≠ i1 → c ≠ i2 → s.heap.get? c = some o → h'.get? c = some o) → Q (.ref s.heap.objs.size) { s with heap := h' }) :
    wpAny (model prog w) A (Builtin.«zip.__next__» ⟨[.ref z], []⟩) (fun fin s' => ∃ v, fin = .done (.ret v) ∧ Q v s') E s := by
  show wpAny _ _ (field (.ref z) 2 >>= _) _ _ _
  refine wpAny_bind (wpAny_field hz rfl (x := .bool false) rfl ?_)
  show wpAny _ _ (field (.ref z) 3 >>= _) _ _ _
  refine wpAny_bind (wpAny_field hz rfl (x := .ref TI) rfl ?_)
  refine wpAny_bind (wpAny_seqItems hTI rfl ?_)
  show wpAny _ _ (Builtin.SmallTypes.ownedTupleIsFree (.ref z) >>= _) _ _ _
  refine wpAny_bind (zip_held hz hT fun h0 hz0 hk0 hs0 => ?_)
  simp only [Bool.false_eq_true, if_false]
  rw [← Array.forIn_toList]
  simp only [List.forIn_cons, List.forIn_nil]
  refine wpAny_bind (wpAny_bind (wpAny_bind (wpAny_holding ?_)))
  show wpAny _ _ (Builtin.SmallTypes.nextOf (.ref i1) >>= _) _ _ _
  refine wpAny_bind (wpAny_nextOf_list_item (h1.at fun o e => hk0 _ _ D.i1z e) (hl1.at fun o e => hk0 _ _ D.l1z e) hx fun h₂ h1₂ hs₂ => wpAny_pure ?_)
  refine wpAny_pure ?_
  dsimp only
  refine wpAny_bind (wpAny_bind (wpAny_holding ?_))
  show wpAny _ _ (Builtin.SmallTypes.nextOf (.ref i2) >>= _) _ _ _
  have k2a : ∀ c o, c ≠ z → c ≠ i1 → s.heap.get? c = some o → h₂.get? c = some o := fun c o n1 n2 e => hs₂.extBut _ _ n2 (hk0 _ _ n1 e)
  refine wpAny_bind (wpAny_nextOf_list_item (h2.at fun o e => k2a _ _ D.i2z D.i12.symm e) (hl2.at fun o e => k2a _ _ D.l2z D.l2i1 e) hy fun h₃ h2₃ hs₃ => wpAny_pure ?_)
  refine wpAny_pure ?_
  dsimp only
  refine wpAny_pure ?_
  dsimp only
  have hsz : h₃.objs.size = s.heap.objs.size := by rw [hs₃.1, hs₂.1, hs0]
  have k3a : ∀ c o, c ≠ z → c ≠ i1 → c ≠ i2 → s.heap.get? c = some o → h₃.get? c = some o := fun c o n1 n2 n3 e => hs₃.extBut _ _ n3 (k2a _ _ n1 n2 e)
  refine wpAny_bind (wpAny_newTuple ?_ (by simp [PySem.sizeLine_eq]))
  refine wpAny_pure ⟨_, rfl, ?_⟩
  show Q (.ref h₃.objs.size) _
  rw [hsz]
  have up : ∀ c o, h₃.get? c = some o → (h₃.push { cls := .type "tuple", data := .seq (List.toArray ((#[].push x).push y).toList) }).get? c = some o := fun c o e => Heap.get?_push_of_some _ e
  refine hQ _ (up _ _ (hs₃.extBut _ _ D.i2z.symm (hs₂.extBut _ _ D.i1z.symm hz0))) ((h1₂.extBut hs₃.extBut D.i12).at fun o e => up _ _ e) (h2₃.at fun o e => up _ _ e) ?_ (fun c o n1 n2 n3 e => up _ _ (k3a _ _ n1 n2 n3 e))
  show Heap.get? _ _ = _
  rw [← hsz]
  exact Heap.get?_push_size _ rfl
theorem zip_later_end {z TI TO T i1 i2 l1 l2 : Addr} {b : Bool} {oT : Obj} {k1 : Nat} {xs : Array Value} {Q : Fin → Shared → Prop} (hh : A.handled = none) (D : ZipApart z TI TO i1 i2 l1 l2)
    (hz : IsZipT s.heap z TI TO T b) (hT : s.heap.get? T = some oT) (hTI : IsPair s.heap TI (.ref i1) (.ref i2))
    (h1 : s.heap.IsListIter i1 l1 k1) (hl1 : s.heap.IsList l1 xs) (hx : xs[k1]? = none)
    (hE : ∀ h' e, (∀ c o, c ≠ z → c ≠ i1 → s.heap.get? c = some o → h'.get? c = some o) → (∃ o, h'.get? e = some o ∧ o.cls = .type "StopIteration") → E (.ref e) { s with heap := h' }) :
    wpAny (model prog w) A (Builtin.«zip.__next__» ⟨[.ref z], []⟩) Q E s := by
  show wpAny _ _ (field (.ref z) 2 >>= _) _ _ _
  refine wpAny_bind (wpAny_field hz rfl (x := .bool false) rfl ?_)
  show wpAny _ _ (field (.ref z) 3 >>= _) _ _ _
  refine wpAny_bind (wpAny_field hz rfl (x := .ref TI) rfl ?_)
  refine wpAny_bind (wpAny_seqItems hTI rfl ?_)
  show wpAny _ _ (Builtin.SmallTypes.ownedTupleIsFree (.ref z) >>= _) _ _ _
  refine wpAny_bind (zip_held hz hT fun h0 hz0 hk0 hs0 => ?_)
  simp only [Bool.false_eq_true, if_false]
  rw [← Array.forIn_toList]
  simp only [List.forIn_cons, List.forIn_nil]
  refine wpAny_bind (wpAny_bind (wpAny_bind (wpAny_holding ?_)))
  show wpAny _ _ (Builtin.SmallTypes.nextOf (.ref i1) >>= _) _ _ _
  refine wpAny_bind (wpAny_nextOf_list_end hh (h1.at fun o e => hk0 _ _ D.i1z e) (hl1.at fun o e => hk0 _ _ D.l1z e) hx fun h₂ e hs₂ he => ?_)
  exact hE h₂ e (fun c o n1 n2 e => hs₂ _ _ n2 (hk0 _ _ n1 e)) he
theorem pyNext_zip_later {z TI TO T i1 i2 l1 l2 : Addr} {b : Bool} {oT : Obj} {k1 k2 : Nat} {xs ys : Array Value} {x y : Value} {Q : Option Value → Shared → Prop} (D : ZipApart z TI TO i1 i2 l1 l2)
    (hz : IsZipT s.heap z TI TO T b) (hT : s.heap.get? T = some oT) (hTI : IsPair s.heap TI (.ref i1) (.ref i2))
    (h1 : s.heap.IsListIter i1 l1 k1) (h2 : s.heap.IsListIter i2 l2 k2) (hl1 : s.heap.IsList l1 xs) (hl2 : s.heap.IsList l2 ys) (hx : xs[k1]? = some x) (hy : ys[k2]? = some y)
    (hQ : ∀ h', IsZipT h' z TI TO T true → h'.IsListIter i1 l1 (k1 + 1) → h'.IsListIter i2 l2 (k2 + 1) → IsPair h' s.heap.objs.size x y →
      (∀ c o, c ≠ z → c ≠ i1 → c ≠ i2 → s.heap.get? c = some o → h'.get? c = some o) → Q (some (.ref s.heap.objs.size)) { s with heap := h' }) :
    wpAny (model prog w) A (pyNext (.ref z)) Q E s := by
  have hTy : s.TypeIs (.ref z) "zip" := ⟨_, hz, rfl⟩
  unfold pyNext
  exact wpAny_bind (wpAny_attempt (wpAny_callSpecial?_slot (name := Str.ofString "__next__") hTy F.slot_zip_next
    (wpAny_call_entry F.slot_zip_next hTy F.entry_zip_next
      (zip_later_item D hz hT hTI h1 h2 hl1 hl2 hx hy fun h' a1 a2 a3 a4 a5 => wpAny_pure (hQ h' a1 a2 a3 a4 a5)) (F.args_zip_next_1 _))))
theorem pyNext_zip_over {z TI TO T i1 i2 l1 l2 : Addr} {b : Bool} {oT : Obj} {k1 : Nat} {xs : Array Value} {Q : Option Value → Shared → Prop} (hh : A.handled = none) (D : ZipApart z TI TO i1 i2 l1 l2)
    (hz : IsZipT s.heap z TI TO T b) (hT : s.heap.get? T = some oT) (hTI : IsPair s.heap TI (.ref i1) (.ref i2))
    (h1 : s.heap.IsListIter i1 l1 k1) (hl1 : s.heap.IsList l1 xs) (hx : xs[k1]? = none)
    (hQ : ∀ h', (∀ c o, c ≠ z → c ≠ i1 → s.heap.get? c = some o → h'.get? c = some o) → Q none { s with heap := h' }) :
    wpAny (model prog w) A (pyNext (.ref z)) Q E s := by
  have hTy : s.TypeIs (.ref z) "zip" := ⟨_, hz, rfl⟩
  unfold pyNext
  refine wpAny_bind (wpAny_attempt (wpAny_callSpecial?_slot (name := Str.ofString "__next__") hTy F.slot_zip_next
    (wpAny_call_entry F.slot_zip_next hTy F.entry_zip_next (zip_later_end hh D hz hT hTI h1 hl1 hx fun h' e hk he => ?_) (F.args_zip_next_1 _))))
  obtain ⟨o, ho, hc⟩ := he
  refine wpAny_bind (wpAny_isInstance (T := "StopIteration") (b := true) ⟨o, ho, hc⟩ isSubtype_stop ?_)
  exact wpAny_pure (hQ _ hk)
variable {h₀ : Heap} {L : Addr} {m : Str → Option Value} {env : Env}
/-- the zip at its i-th turn -/
noncomputable def ZSt (G : Addr → Prop) (z TI TO i1 i2 l1 l2 : Addr) (xs ys : Array Value) (i : Nat) (h : Heap) : Prop :=
  IsPair h TI (.ref i1) (.ref i2) ∧ h.IsListIter i1 l1 i ∧ h.IsListIter i2 l2 i ∧ h.IsList l1 xs ∧ h.IsList l2 ys ∧
    ((i = 0 ∧ IsZip h z TI TO .none ∧ (∃ a b, IsPair h TO a b) ∧ G TO) ∨ (0 < i ∧ ∃ T oT b, IsZipT h z TI TO T b ∧ h.get? T = some oT ∧ T ≠ z ∧ T ≠ i1 ∧ T ≠ i2 ∧ G T))
/-- objects that make such a zip wherever they stand -/
structure ZOwn (z TI TO i1 i2 l1 l2 : Addr) (xs ys : Array Value) (i : Nat) (own : List (Addr × Obj)) : Prop where
  st : ∀ h : Heap, (∀ p ∈ own, h.get? p.1 = some p.2) → ZSt (fun a => ∃ o, (a, o) ∈ own) z TI TO i1 i2 l1 l2 xs ys i h
  hz : ∃ o, (z, o) ∈ own
  h1 : ∃ o, (i1, o) ∈ own
  h2 : ∃ o, (i2, o) ∈ own
  hTI : ∃ o, (TI, o) ∈ own
  hl1 : ∃ o, (l1, o) ∈ own
  hl2 : ∃ o, (l2, o) ∈ own
theorem ZSt.own {G : Addr → Prop} {z TI TO i1 i2 l1 l2 : Addr} {xs ys : Array Value} {i : Nat} {h : Heap} (st : ZSt G z TI TO i1 i2 l1 l2 xs ys i h) (g1 : G TI) (g2 : G i1) (g3 : G i2) (g4 : G l1) (g5 : G l2) (g6 : G z) :
    ∃ own : List (Addr × Obj), ZOwn z TI TO i1 i2 l1 l2 xs ys i own ∧ (∀ p ∈ own, h.get? p.1 = some p.2 ∧ G p.1) := by
  obtain ⟨hTI, ⟨o1, ho1, hr1⟩, ⟨o2, ho2, hr2⟩, ⟨p1, hp1, hq1⟩, ⟨p2, hp2, hq2⟩, hc⟩ := st
  have m0 : ∀ {a b c d e f g : Addr × Obj}, a ∈ [a, b, c, d, e, f, g] := .head _
  have m1 : ∀ {a b c d e f g : Addr × Obj}, b ∈ [a, b, c, d, e, f, g] := .tail _ (.head _)
  have m2 : ∀ {a b c d e f g : Addr × Obj}, c ∈ [a, b, c, d, e, f, g] := .tail _ (.tail _ (.head _))
  have m3 : ∀ {a b c d e f g : Addr × Obj}, d ∈ [a, b, c, d, e, f, g] := .tail _ (.tail _ (.tail _ (.head _)))
  have m4 : ∀ {a b c d e f g : Addr × Obj}, e ∈ [a, b, c, d, e, f, g] := .tail _ (.tail _ (.tail _ (.tail _ (.head _))))
  have m5 : ∀ {a b c d e f g : Addr × Obj}, f ∈ [a, b, c, d, e, f, g] := .tail _ (.tail _ (.tail _ (.tail _ (.tail _ (.head _)))))
  have m6 : ∀ {a b c d e f g : Addr × Obj}, g ∈ [a, b, c, d, e, f, g] := .tail _ (.tail _ (.tail _ (.tail _ (.tail _ (.tail _ (.head _))))))
  rcases hc with ⟨hi, hz, ⟨a, b, hTO⟩, gT⟩ | ⟨hi, T, oT, b, hz, hT, n1, n2, n3, gT⟩
  · refine ⟨[(TI, _), (i1, o1), (i2, o2), (l1, p1), (l2, p2), (z, _), (TO, _)], ⟨fun h' hg => ⟨hg _ m0, ⟨o1, hg _ m1, hr1⟩, ⟨o2, hg _ m2, hr2⟩, ⟨p1, hg _ m3, hq1⟩, ⟨p2, hg _ m4, hq2⟩, .inl ⟨hi, hg _ m5, ⟨a, b, hg _ m6⟩, ⟨_, m6⟩⟩⟩, ⟨_, m5⟩, ⟨_, m1⟩, ⟨_, m2⟩, ⟨_, m0⟩, ⟨_, m3⟩, ⟨_, m4⟩⟩, ?_⟩
    exact List.forall_mem_cons.mpr ⟨⟨hTI, g1⟩, List.forall_mem_cons.mpr ⟨⟨ho1, g2⟩, List.forall_mem_cons.mpr ⟨⟨ho2, g3⟩, List.forall_mem_cons.mpr ⟨⟨hp1, g4⟩, List.forall_mem_cons.mpr ⟨⟨hp2, g5⟩, List.forall_mem_cons.mpr ⟨⟨hz, g6⟩, List.forall_mem_cons.mpr ⟨⟨hTO, gT⟩, List.forall_mem_nil _⟩⟩⟩⟩⟩⟩⟩
  · refine ⟨[(TI, _), (i1, o1), (i2, o2), (l1, p1), (l2, p2), (z, _), (T, oT)], ⟨fun h' hg => ⟨hg _ m0, ⟨o1, hg _ m1, hr1⟩, ⟨o2, hg _ m2, hr2⟩, ⟨p1, hg _ m3, hq1⟩, ⟨p2, hg _ m4, hq2⟩, .inr ⟨hi, T, oT, b, hg _ m5, hg _ m6, n1, n2, n3, ⟨_, m6⟩⟩⟩, ⟨_, m5⟩, ⟨_, m1⟩, ⟨_, m2⟩, ⟨_, m0⟩, ⟨_, m3⟩, ⟨_, m4⟩⟩, ?_⟩
    exact List.forall_mem_cons.mpr ⟨⟨hTI, g1⟩, List.forall_mem_cons.mpr ⟨⟨ho1, g2⟩, List.forall_mem_cons.mpr ⟨⟨ho2, g3⟩, List.forall_mem_cons.mpr ⟨⟨hp1, g4⟩, List.forall_mem_cons.mpr ⟨⟨hp2, g5⟩, List.forall_mem_cons.mpr ⟨⟨hz, g6⟩, List.forall_mem_cons.mpr ⟨⟨hT, gT⟩, List.forall_mem_nil _⟩⟩⟩⟩⟩⟩⟩
/-- the next of such a zip -/
theorem zst_next {G : Addr → Prop} {z TI TO i1 i2 l1 l2 : Addr} {xs ys : Array Value} {i : Nat} {x y : Value} {Q : Option Value → Shared → Prop} (D : ZipApart z TI TO i1 i2 l1 l2)
    (st : ZSt G z TI TO i1 i2 l1 l2 xs ys i s.heap) (hx : xs[i]? = some x) (hy : ys[i]? = some y) (gN : G s.heap.objs.size)
    (hQ : ∀ h', ZSt G z TI TO i1 i2 l1 l2 xs ys (i + 1) h' → IsPair h' s.heap.objs.size x y →
      (∀ c o, c ≠ z → c ≠ i1 → c ≠ i2 → (i = 0 → c ≠ TO) → s.heap.get? c = some o → h'.get? c = some o) → Q (some (.ref s.heap.objs.size)) { s with heap := h' }) :
    wpAny (model prog w) A (pyNext (.ref z)) Q E s := by
  obtain ⟨hTI, h1, h2, hl1, hl2, hc⟩ := st
  have hi1lt : i1 < s.heap.objs.size := by obtain ⟨_, e, _⟩ := h1; exact Heap.lt_size e
  have hi2lt : i2 < s.heap.objs.size := by obtain ⟨_, e, _⟩ := h2; exact Heap.lt_size e
  rcases hc with ⟨hi, hz, ⟨a, b, hTO⟩, gT⟩ | ⟨hi, T, oT, b, hz, hT, n1, n2, n3, gT⟩
  · subst hi
    have hzlt : z < s.heap.objs.size := Heap.lt_size hz
    refine wpAny_pyNext_zip_item D hz hTI hTO h1 h2 hl1 hl2 hx hy fun h' a1 a2 a3 a4 a5 a6 a7 => hQ h' ⟨a7 _ _ D.TIz D.TITO D.TIi1 D.TIi2 hTI, a3, a4, hl1.at fun o e => a7 _ _ D.l1z D.l1TO D.l1i1 D.l1i2 e, hl2.at fun o e => a7 _ _ D.l2z D.l2TO D.l2i1 D.l2i2 e, .inr ⟨by omega, _, _, _, a1, a5, Nat.ne_of_gt hzlt, Nat.ne_of_gt hi1lt, Nat.ne_of_gt hi2lt, gN⟩⟩ a5 fun c o c1 c2 c3 c4 e => a7 c o c1 (c4 rfl) c2 c3 e
  · refine pyNext_zip_later D hz hT hTI h1 h2 hl1 hl2 hx hy fun h' a1 a2 a3 a4 a5 => hQ h' ⟨a5 _ _ D.TIz D.TIi1 D.TIi2 hTI, a2, a3, hl1.at fun o e => a5 _ _ D.l1z D.l1i1 D.l1i2 e, hl2.at fun o e => a5 _ _ D.l2z D.l2i1 D.l2i2 e, .inr ⟨by omega, T, oT, true, a1, a5 _ _ n1 n2 n3 hT, n1, n2, n3, gT⟩⟩ a4 fun c o c1 c2 c3 _ e => a5 c o c1 c2 c3 e
theorem zst_over {G : Addr → Prop} {z TI TO i1 i2 l1 l2 : Addr} {xs ys : Array Value} {i : Nat} {Q : Option Value → Shared → Prop} (hh : A.handled = none) (D : ZipApart z TI TO i1 i2 l1 l2) (hi : 0 < i)
    (st : ZSt G z TI TO i1 i2 l1 l2 xs ys i s.heap) (hx : xs[i]? = none)
    (hQ : ∀ h', (∀ c o, c ≠ z → c ≠ i1 → s.heap.get? c = some o → h'.get? c = some o) → Q none { s with heap := h' }) :
    wpAny (model prog w) A (pyNext (.ref z)) Q E s := by
  obtain ⟨hTI, h1, h2, hl1, hl2, hc⟩ := st
  rcases hc with ⟨h0, _⟩ | ⟨_, T, oT, b, hz, hT, n1, n2, n3, gT⟩
  · omega
  · exact pyNext_zip_over hh D hz hT hTI h1 hl1 hx hQ
theorem ZSt.zip {G : Addr → Prop} {z TI TO i1 i2 l1 l2 : Addr} {xs ys : Array Value} {h : Heap} (st : ZSt G z TI TO i1 i2 l1 l2 xs ys 0 h) : IsZip h z TI TO .none := by
  rcases st.2.2.2.2.2 with ⟨_, hz, _⟩ | ⟨h0, _⟩
  · exact hz
  · exact absurd h0 (Nat.lt_irrefl 0)
noncomputable def ZipJ2 (z TI TO i1 i2 l1 l2 : Addr) (xs ys : Array Value) (news : List (Addr × Obj)) (K : Nat → List Value → Prop) (i : Nat) (vs : List Value) (nx : List (Addr × Obj)) : Prop :=
  ∃ own, nx = own ++ news ∧ ZOwn z TI TO i1 i2 l1 l2 xs ys i own ∧ (∀ p ∈ news, ∀ q ∈ own, p.1 ≠ q.1) ∧ K i vs
/-- an element's end, the ledger as it was -/
noncomputable def ZipEnd (h₀ : Heap) (L : Addr) (m : Str → Option Value) (s : Shared) (led : List (Addr × Obj)) (Kn : Value → Prop) (y : Value) (s₄ : Shared) : Prop :=
  ∃ h' tk', s₄ = { s with heap := h', toks := tk' } ∧ Fr h₀ L h' m ∧ News h₀ L h' led ∧ Kn y
theorem zipC {as bs : List Int} {vs₁ vs₂ : List Value} {l1 l2 : Addr} {k1 k2 : Nat} {elt : PySem.Expr} {x : Str} {px : Pos} {scope : Scope} {cl : List (Str × Addr)} {Fin : Shared → List Value → List (Addr × Obj) → Prop} {news : List (Addr × Obj)}
    (K : Nat → List Value → Prop)
    (hh : A.handled = none) (N : News h₀ L s.heap ((l1, listOf vs₁.toArray k1) :: (l2, listOf vs₂.toArray k2) :: news)) (ha1 : ∀ q ∈ news, q.1 ≠ l1) (ha2 : ∀ q ∈ news, q.1 ≠ l2) (hi1 : IntsAre vs₁ as) (hi2 : IntsAre vs₂ bs) (hlen : as.length = bs.length) (hpos : 0 < as.length) (hz : as.length ≤ 1000) (F : Fr h₀ L s.heap m) (hK : K 0 [])
    (hkind : scope.kind = .function) (hx : scope.names.lookup x = some .local)
    (turn : ∀ (Tp : Addr) R i ys C oC m₂ D h tk tk0 (E' : Value → Shared → Prop) a b ta tb, as[i]? = some a → bs[i]? = some b → ys.length = i → K i ys → LCg.NsObj oC m₂ → m₂ x = some (.ref Tp) → Fr h₀ L h m → News h₀ L h ((C, oC) :: (D, LCg.lst ys) :: (Tp, { cls := .type "tuple", data := .seq #[.int a ta, .int b tb] }) :: R) → (∀ p ∈ news, p ∈ R) →
      wpAny (model prog w) A (eval elt (compEnvC scope cl C env)) (ZipEnd h₀ L m s ((C, oC) :: (D, LCg.lst ys) :: (Tp, { cls := .type "tuple", data := .seq #[.int a ta, .int b tb] }) :: R) (fun y => K (i + 1) (ys ++ [y]))) E' { s with heap := h, toks := tk + tk0 })
    (fin : ∀ hp tkp (ys : List Value), ys.length = as.length → K as.length ys → Fin { s with heap := hp, toks := tkp } ys news) :
    wpAny (model prog w) A (call (.type "zip") [.ref l1, .ref l2]) (fun xv s₁ => wpAny (model prog w) A (pyIter xv) (fun itv s₂ => SrcG prog w A h₀ L m env elt (.Name x px) scope cl Fin itv s₂) E s₁) E s := by
  have z1 := N _ (.head _)
  have z2 := N _ (.tail _ (.head _))
  have hls1 : s.heap.IsList l1 vs₁.toArray := ⟨_, z1.1, rfl, _, rfl⟩
  have hls2 : s.heap.IsList l2 vs₂.toArray := ⟨_, z2.1, rfl, _, rfl⟩
  have hLs : L < s.heap.objs.size := F.ns.lt
  have hab : h₀.objs.size ≤ L := F.above
  have a1 : l1 < s.heap.objs.size := Heap.lt_size z1.1
  have a2 : l2 < s.heap.objs.size := Heap.lt_size z2.1
  have D : ZipApart (s.heap.objs.size + 4) (s.heap.objs.size + 2) (s.heap.objs.size + 3) s.heap.objs.size (s.heap.objs.size + 1) l1 l2 := zipApart_new a1 a2
  refine call_zip_2 hls1 hls2 fun h1 hzp hTI hTO hit1 hit2 hsz hk => ?_
  have F1 : Fr h₀ L h1 m := ⟨F.ns.keeps hk, fun b o e => hk b o (F.keep b o e), F.above⟩
  have N1 : News h₀ L h1 news := fun p hp => ⟨hk _ _ (N p (.tail _ (.tail _ hp))).1, (N p (.tail _ (.tail _ hp))).2⟩
  generalize hG : s.heap.objs.size = B at *
  induction B using genV; rename_i B
  -- what is new
  have nw : ∀ k, h₀.get? (B + k) = none := fun k => Heap.get?_none_of_le (Nat.le_trans hab (Nat.le_trans (Nat.le_of_lt hLs) (Nat.le_add_right _ k)))
  have nL : ∀ k, B + k ≠ L := fun k => Nat.ne_of_gt (Nat.lt_of_lt_of_le hLs (Nat.le_add_right _ k))
  have nN : ∀ k, ∀ p ∈ news, p.1 ≠ B + k := fun k p hp => Nat.ne_of_lt (Nat.lt_of_lt_of_le (hG ▸ Heap.lt_size (N p (.tail _ (.tail _ hp))).1) (Nat.le_add_right _ k))
  let G : Addr → Prop := fun a => a ≠ L ∧ h₀.get? a = none ∧ ∀ p ∈ news, p.1 ≠ a
  have gB : ∀ k, G (B + k) := fun k => ⟨nL k, nw k, nN k⟩
  have g1 : G l1 := ⟨z1.2.1, z1.2.2, ha1⟩
  have g2 : G l2 := ⟨z2.2.1, z2.2.2, ha2⟩
  have st0 : ZSt G (B + 4) (B + 2) (B + 3) B (B + 1) l1 l2 vs₁.toArray vs₂.toArray 0 h1 :=
    ⟨hTI, hit1, hit2, hls1.at fun o e => hk l1 o e, hls2.at fun o e => hk l2 o e, .inl ⟨rfl, hzp, ⟨_, _, hTO⟩, gB 3⟩⟩
  obtain ⟨own0, hO0, hg0⟩ := st0.own (gB 2) (gB 0) (gB 1) g1 g2 (gB 4)
  refine wpAny_pyIter_zip hzp ?_
  refine ⟨B + 4, as.length, ZipJ2 (B + 4) (B + 2) (B + 3) B (B + 1) l1 l2 vs₁.toArray vs₂.toArray news K, own0 ++ news, rfl, by rw [PySem.sizeLine_eq]; omega, F1, ?_, ⟨own0, rfl, hO0, fun p hp q hq => (hg0 q hq).2.2.2 p hp, hK⟩, ?_, ?_⟩
  · intro p hp
    rcases List.mem_append.mp hp with hp | hp
    · exact ⟨(hg0 p hp).1, (hg0 p hp).2.1, (hg0 p hp).2.2.1⟩
    · exact N1 p hp
  · intro s' Q E' F' N' hQ
    exact wpAny_pyIter_zip (hO0.st s'.heap fun p hp => (N' p (List.mem_append_left _ hp)).1).zip hQ
  refine ⟨?_, ?_⟩
  · rintro i ys nx C oC m₂ DD h tk E' hin hyl ⟨own, rfl, hO, hap, hK'⟩ hoC F' N' off hCD
    have zC := N' _ (.head _)
    have zD := N' _ (.tail _ (.head _))
    have zo : ∀ p ∈ own, h.get? p.1 = some p.2 ∧ p.1 ≠ L ∧ h₀.get? p.1 = none := fun p hp => N' p (.tail _ (.tail _ (List.mem_append_left _ hp)))
    have zn : ∀ p ∈ news, h.get? p.1 = some p.2 ∧ p.1 ≠ L ∧ h₀.get? p.1 = none := fun p hp => N' p (.tail _ (.tail _ (List.mem_append_right _ hp)))
    have offo : ∀ p ∈ own, p.1 ≠ C ∧ p.1 ≠ DD := fun p hp => off p (List.mem_append_left _ hp)
    have offn : ∀ p ∈ news, p.1 ≠ C ∧ p.1 ≠ DD := fun p hp => off p (List.mem_append_right _ hp)
    let G' : Addr → Prop := fun a => a ≠ L ∧ h₀.get? a = none ∧ (∀ p ∈ news, p.1 ≠ a) ∧ a ≠ C ∧ a ≠ DD
    have gO : ∀ a, (∃ o, (a, o) ∈ own) → G' a := fun a ⟨o, hm⟩ => ⟨(zo _ hm).2.1, (zo _ hm).2.2, fun p hp => hap p hp _ hm, (offo _ hm).1, (offo _ hm).2⟩
    have st : ZSt G' (B + 4) (B + 2) (B + 3) B (B + 1) l1 l2 vs₁.toArray vs₂.toArray i h := by
      obtain ⟨s1, s2, s3, s4, s5, s6⟩ := hO.st h fun p hp => (zo p hp).1
      refine ⟨s1, s2, s3, s4, s5, s6.imp (fun ⟨c1, c2, c3, c4⟩ => ⟨c1, c2, c3, gO _ c4⟩) (fun ⟨c1, T, oT, b, c2, c3, c4, c5, c6, c7⟩ => ⟨c1, T, oT, b, c2, c3, c4, c5, c6, gO _ c7⟩)⟩
    have hLh : L < h.objs.size := F'.ns.lt
    have hCh : C < h.objs.size := Heap.lt_size zC.1
    have hDh : DD < h.objs.size := Heap.lt_size zD.1
    have gN : G' h.objs.size := ⟨Nat.ne_of_gt hLh, Heap.get?_none_of_le (Nat.le_trans F'.above (Nat.le_of_lt hLh)), fun p hp => Nat.ne_of_lt (Heap.lt_size (zn p hp).1), Nat.ne_of_gt hCh, Nat.ne_of_gt hDh⟩
    obtain ⟨ta, hta⟩ := hi1.get i as[i] (by simp [hin])
    obtain ⟨tb, htb⟩ := hi2.get i (bs[i]'(hlen ▸ hin)) (by simp [hlen ▸ hin])
    refine zst_next (s := { s with heap := h, toks := tk }) D st (x := .int as[i] ta) (y := .int (bs[i]'(hlen ▸ hin)) tb) (by simpa using hta) (by simpa using htb) gN ?_
    intro h2 st2 hpair hk2
    refine ⟨_, rfl, ?_⟩
    show wpAny _ _ (pure ()) _ _ _
    refine wpAny_pure ?_
    refine wpAny_assign_Name ?_
    have fz := gO _ hO.hz
    have f1 := gO _ hO.h1
    have f2 := gO _ hO.h2
    have fTO : i = 0 → G' (B + 3) := fun h0 => by
      rcases st.2.2.2.2.2 with ⟨_, _, _, g⟩ | ⟨c1, _⟩
      · exact g
      · omega
    have keep2 : ∀ b o, b ≠ B + 4 → b ≠ B → b ≠ B + 1 → (i = 0 → b ≠ B + 3) → h.get? b = some o → h2.get? b = some o := fun b o n1 n2 n3 n4 e => hk2 b o n1 n2 n3 n4 e
    have keepC : h2.get? C = some oC := keep2 _ _ (Ne.symm fz.2.2.2.1) (Ne.symm f1.2.2.2.1) (Ne.symm f2.2.2.2.1) (fun h0 => Ne.symm (fTO h0).2.2.2.1) zC.1
    refine wpAny_storeName_local (lookup_relabel_local hx) (hoC.ns keepC) (fun h3 hn3 hs3 => ?_) (by simp [compEnvC, relabel, hkind])
    obtain ⟨oC3, hC3, hoC3⟩ := LCg.ns_obj hn3
    have hs3' : Heap.SameBut C h2 h3 := hs3
    have keep3 : ∀ b o, b ≠ C → h2.get? b = some o → h3.get? b = some o := fun b o n e => hs3'.extBut b o n e
    have st3 : ZSt G' (B + 4) (B + 2) (B + 3) B (B + 1) l1 l2 vs₁.toArray vs₂.toArray (i + 1) h3 := by
      obtain ⟨s1, s2, s3, s4, s5, s6⟩ := st2
      have fTI := gO _ hO.hTI
      have fl1 := gO _ hO.hl1
      have fl2 := gO _ hO.hl2
      refine ⟨keep3 _ _ fTI.2.2.2.1 s1, s2.at fun o e => keep3 _ _ f1.2.2.2.1 e, s3.at fun o e => keep3 _ _ f2.2.2.2.1 e, s4.at fun o e => keep3 _ _ fl1.2.2.2.1 e, s5.at fun o e => keep3 _ _ fl2.2.2.2.1 e, ?_⟩
      rcases s6 with ⟨c1, _⟩ | ⟨c1, T, oT, b, c2, c3, c4, c5, c6, c7⟩
      · omega
      · exact .inr ⟨c1, T, oT, b, keep3 _ _ fz.2.2.2.1 c2, keep3 _ _ c7.2.2.2.1 c3, c4, c5, c6, c7⟩
    obtain ⟨own3, hO3, hg3⟩ := st3.own (gO _ hO.hTI) f1 f2 (gO _ hO.hl1) (gO _ hO.hl2) fz
    have h0ne : ∀ b o, h₀.get? b = some o → b ≠ B + 4 ∧ b ≠ B ∧ b ≠ B + 1 ∧ b ≠ B + 3 ∧ b ≠ C := fun b o e => ⟨fun q => (by rw [q, nw 4] at e; cases e), fun q => (by have := nw 0; rw [q, show B = B + 0 from rfl, this] at e; cases e), fun q => (by rw [q, nw 1] at e; cases e), fun q => (by rw [q, nw 3] at e; cases e), fun q => (by rw [q, zC.2.2] at e; cases e)⟩
    have F3 : Fr h₀ L h3 m := ⟨F'.ns.at' fun o e => keep3 _ _ (Ne.symm zC.2.1) (keep2 _ _ (Ne.symm (nL 4)) (Ne.symm (nL 0)) (Ne.symm (nL 1)) (fun _ => Ne.symm (nL 3)) e), fun b o e => keep3 _ _ (h0ne b o e).2.2.2.2 (keep2 _ _ (h0ne b o e).1 (h0ne b o e).2.1 (h0ne b o e).2.2.1 (fun _ => (h0ne b o e).2.2.2.1) (F'.keep b o e)), F'.above⟩
    have keepN : ∀ p ∈ news, h3.get? p.1 = some p.2 := fun p hp => keep3 _ _ (offn p hp).1 (keep2 _ _ (fz.2.2.1 p hp) (f1.2.2.1 p hp) (f2.2.2.1 p hp) (fun h0 => (fTO h0).2.2.1 p hp) (zn p hp).1)
    have hpair3 : h3.get? h.objs.size = some { cls := .type "tuple", data := .seq #[.int as[i] ta, .int (bs[i]'(hlen ▸ hin)) tb] } := keep3 _ _ gN.2.2.2.1 hpair
    have keepD : h3.get? DD = some (LCg.lst ys) := keep3 _ _ (Ne.symm hCD) (keep2 _ _ (Ne.symm fz.2.2.2.2) (Ne.symm f1.2.2.2.2) (Ne.symm f2.2.2.2.2) (fun h0 => Ne.symm (fTO h0).2.2.2.2) zD.1)
    have N3 : News h₀ L h3 ((C, oC3) :: (DD, LCg.lst ys) :: (h.objs.size, { cls := .type "tuple", data := .seq #[.int as[i] ta, .int (bs[i]'(hlen ▸ hin)) tb] }) :: (own3 ++ news)) := by
      intro p hp
      rcases List.mem_cons.mp hp with rfl | hp
      · exact ⟨hC3, zC.2⟩
      rcases List.mem_cons.mp hp with rfl | hp
      · exact ⟨keepD, zD.2⟩
      rcases List.mem_cons.mp hp with rfl | hp
      · exact ⟨hpair3, gN.1, gN.2.1⟩
      rcases List.mem_append.mp hp with hp | hp
      · exact ⟨(hg3 p hp).1, (hg3 p hp).2.1, (hg3 p hp).2.2.1⟩
      · exact ⟨keepN p hp, (zn p hp).2⟩
    refine wpAny_mono (turn h.objs.size (own3 ++ news) i ys C oC3 _ DD h3 tk 1 E' as[i] (bs[i]'(hlen ▸ hin)) ta tb (by simp [hin]) (by simp [hlen ▸ hin]) hyl hK' hoC3 ?_ F3 N3 (fun p hp => List.mem_append_right _ hp)) (fun y s₄ h₅ => ?_) fun _ _ e => e
    · show (if x = x then _ else _) = _
      rw [if_pos rfl]
    · obtain ⟨h6, tk6, rfl, F6, N6, hK6⟩ := h₅
      refine ⟨h6, tk6, oC3, _, own3 ++ news, rfl, F6, hoC3, ?_, ?_, own3, rfl, hO3, fun p hp q hq => (hg3 q hq).2.2.2.1 p hp, hK6⟩
      · intro p hp
        rcases List.mem_cons.mp hp with rfl | hp
        · exact N6 _ (.head _)
        rcases List.mem_cons.mp hp with rfl | hp
        · exact N6 _ (.tail _ (.head _))
        · exact N6 p (.tail _ (.tail _ (.tail _ hp)))
      · intro p hp
        rcases List.mem_append.mp hp with hp | hp
        · exact (hg3 p hp).2.2.2.2
        · exact offn p hp
  · rintro ys nx C oC DD h tk E' hyl ⟨own, rfl, hO, hap, hK'⟩ F' N' off hCD
    have zo : ∀ p ∈ own, h.get? p.1 = some p.2 ∧ p.1 ≠ L ∧ h₀.get? p.1 = none := fun p hp => N' p (.tail _ (.tail _ (List.mem_append_left _ hp)))
    have zn : ∀ p ∈ news, h.get? p.1 = some p.2 ∧ p.1 ≠ L ∧ h₀.get? p.1 = none := fun p hp => N' p (.tail _ (.tail _ (List.mem_append_right _ hp)))
    have offn : ∀ p ∈ news, p.1 ≠ C ∧ p.1 ≠ DD := fun p hp => off p (List.mem_append_right _ hp)
    obtain ⟨oz, hmz⟩ := hO.hz
    obtain ⟨o1, hm1⟩ := hO.h1
    have cz := off _ (List.mem_append_left _ hmz)
    have c1 := off _ (List.mem_append_left _ hm1)
    refine zst_over (s := { s with heap := h, toks := tk }) hh D hpos (hO.st h fun p hp => (zo p hp).1) (by simp [hi1.length]) ?_
    intro h2 hk2
    refine ⟨rfl, h2, tk, news, rfl, ⟨F'.ns.at' fun o e => hk2 _ _ (Ne.symm (nL 4)) (Ne.symm (nL 0)) e, fun b o e => hk2 _ _ (fun q => (by rw [q, nw 4] at e; cases e)) (fun q => (by have := nw 0; rw [q, show B = B + 0 from rfl, this] at e; cases e)) (F'.keep b o e), F'.above⟩, ?_, offn, fin _ _ ys hyl hK'⟩
    intro p hp
    rcases List.mem_cons.mp hp with rfl | hp
    · exact ⟨hk2 _ _ (Ne.symm cz.1) (Ne.symm c1.1) (N' _ (.head _)).1, (N' _ (.head _)).2⟩
    rcases List.mem_cons.mp hp with rfl | hp
    · exact ⟨hk2 _ _ (Ne.symm cz.2) (Ne.symm c1.2) (N' _ (.tail _ (.head _))).1, (N' _ (.tail _ (.head _))).2⟩
    · exact ⟨hk2 _ _ (hap p hp _ hmz) (hap p hp _ hm1) (zn p hp).1, (zn p hp).2⟩
end
end Mine
end
section
theorem Mine.fresh_W22a : True := by
  w_top off
  exact trivial
open PySem PySem.W PyProof.Rows PySem.Calls PySem.Spec
namespace Mine
section
variable {prog : Program} {w : World} {A : Around} {E : Value → Shared → Prop} {s : Shared} {h₀ : Heap} {L : Addr} {m : Str → Option Value} {news : List (Addr × Obj)} {T : Addr} {a b : Int} {ta tb : Tok}
theorem pair_items : intItems #[(a, ta), (b, tb)] = #[Value.int a ta, .int b tb] := by simp [intItems]
theorem pair_at {j : Nat} {v : Value} (h : (#[Value.int a ta, .int b tb] : Array Value)[j]? = some v) : ∃ t, v = .int (if j = 0 then a else b) t := by
  match j, h with
  | 0, h => exact ⟨ta, by simpa using h.symm⟩
  | 1, h => exact ⟨tb, by simpa using h.symm⟩
  | j + 2, h => simp at h
theorem max_pair {Q : Value → Shared → Prop} (hh : A.handled = none) (F : Fr h₀ L s.heap m) (N : News h₀ L s.heap news) (hm : (T, { cls := .type "tuple", data := .seq #[Value.int a ta, .int b tb] }) ∈ news)
    (h : ∀ h' (t : Tok) tk, Fr h₀ L h' m → News h₀ L h' news → Q (.int (max a b) t) { s with heap := h', toks := tk }) :
    wpAny (model prog w) A (call (.builtin "max") [.ref T]) Q E s := by
  have hT : s.heap.get? T = some { cls := .type "tuple", data := .seq #[Value.int a ta, .int b tb] } := (N _ hm).1
  have hl : s.heap.IsTuple T #[Value.int a ta, .int b tb] := ⟨_, hT, rfl, _, rfl⟩
  have hlt : T < s.heap.objs.size := Heap.lt_size hT
  refine call_max_walk (wpAny_pyIter_tuple hl ?_)
  refine ⟨_, _, _, _, _, _, _, rfl, Walks.tuple (A := A.in1) hh s.heap.objs.size T (Nat.ne_of_lt hlt) #[Value.int a ta, .int b tb], ⟨⟨_, Heap.get?_push_size _ rfl, rfl, rfl⟩, hl.at fun o e => Heap.get?_push_of_some _ e⟩, ?_, by simp, CmpOf.ints_gt (fun j => if j = 0 then a else b) (fun j v hv => pair_at hv), fun v h' tk hP hk => ?_⟩
  · intro c hc
    show c < (s.heap.push _).objs.size
    rw [Heap.size_push]
    rcases List.mem_cons.mp hc with rfl | hc
    · exact Nat.lt_succ_self _
    · rw [List.mem_singleton.mp hc]; exact Nat.lt_succ_of_lt hlt
  · have keep : ∀ c o, s.heap.get? c = some o → h'.get? c = some o := fun c o e => by
      refine hk c o (fun hm => ?_) (Heap.get?_push_of_some _ e)
      rw [List.mem_singleton.mp hm] at e
      exact absurd (Heap.lt_size e) (Nat.lt_irrefl _)
    obtain ⟨t, rfl⟩ := pair_at hP
    have e : (if argBest (fun i j => decide ((if i = 0 then a else b) > (if j = 0 then a else b))) (#[Value.int a ta, Value.int b tb].size - 1) = 0 then a else b) = max a b := by
      have hb := argBest_gt (fun j => if j = 0 then a else b) 1
      have h0 := hb.2 0 (by omega)
      have h1 := hb.2 1 (by omega)
      have h2 := hb.1
      show (if argBest _ 1 = 0 then a else b) = max a b
      generalize argBest (fun i j => decide ((if i = 0 then a else b) > (if j = 0 then a else b))) 1 = q at *
      simp at h0 h1
      by_cases hq : q = 0
      · rw [if_pos hq] at h0 h1 ⊢; omega
      · rw [if_neg hq] at h0 h1 ⊢; omega
    rw [e]
    exact h h' t tk (F.grownK keep) (N.grown keep)
theorem min_pair {Q : Value → Shared → Prop} (hh : A.handled = none) (F : Fr h₀ L s.heap m) (N : News h₀ L s.heap news) (hm : (T, { cls := .type "tuple", data := .seq #[Value.int a ta, .int b tb] }) ∈ news)
    (h : ∀ h' (t : Tok) tk, Fr h₀ L h' m → News h₀ L h' news → Q (.int (min a b) t) { s with heap := h', toks := tk }) :
    wpAny (model prog w) A (call (.builtin "min") [.ref T]) Q E s := by
  have hT : s.heap.get? T = some { cls := .type "tuple", data := .seq #[Value.int a ta, .int b tb] } := (N _ hm).1
  have hl : s.heap.IsTuple T #[Value.int a ta, .int b tb] := ⟨_, hT, rfl, _, rfl⟩
  have hlt : T < s.heap.objs.size := Heap.lt_size hT
  refine call_min_walk (wpAny_pyIter_tuple hl ?_)
  refine ⟨_, _, _, _, _, _, _, rfl, Walks.tuple (A := A.in1) hh s.heap.objs.size T (Nat.ne_of_lt hlt) #[Value.int a ta, .int b tb], ⟨⟨_, Heap.get?_push_size _ rfl, rfl, rfl⟩, hl.at fun o e => Heap.get?_push_of_some _ e⟩, ?_, by simp, CmpOf.ints_lt (fun j => if j = 0 then a else b) (fun j v hv => pair_at hv), fun v h' tk hP hk => ?_⟩
  · intro c hc
    show c < (s.heap.push _).objs.size
    rw [Heap.size_push]
    rcases List.mem_cons.mp hc with rfl | hc
    · exact Nat.lt_succ_self _
    · rw [List.mem_singleton.mp hc]; exact Nat.lt_succ_of_lt hlt
  · have keep : ∀ c o, s.heap.get? c = some o → h'.get? c = some o := fun c o e => by
      refine hk c o (fun hm => ?_) (Heap.get?_push_of_some _ e)
      rw [List.mem_singleton.mp hm] at e
      exact absurd (Heap.lt_size e) (Nat.lt_irrefl _)
    obtain ⟨t, rfl⟩ := pair_at hP
    have e : (if argBest (fun i j => decide ((if i = 0 then a else b) < (if j = 0 then a else b))) (#[Value.int a ta, Value.int b tb].size - 1) = 0 then a else b) = min a b := by
      have hb := argBest_lt (fun j => if j = 0 then a else b) 1
      have h0 := hb.2 0 (by omega)
      have h1 := hb.2 1 (by omega)
      have h2 := hb.1
      show (if argBest _ 1 = 0 then a else b) = min a b
      generalize argBest (fun i j => decide ((if i = 0 then a else b) < (if j = 0 then a else b))) 1 = q at *
      simp at h0 h1
      by_cases hq : q = 0
      · rw [if_pos hq] at h0 h1 ⊢; omega
      · rw [if_neg hq] at h0 h1 ⊢; omega
    rw [e]
    exact h h' t tk (F.grownK keep) (N.grown keep)
end
end Mine
end
section
theorem Mine.fresh_W22 : True := by
  w_top off
  exact trivial
open PySem PySem.W PyProof.Rows PySem.Calls PySem.Spec
namespace Mine
theorem fillK22 (w : World) : row.name = row.name ∧ Kf w.params = Kf w.params := by
  k_fill
  exact ⟨rfl, rfl⟩
local macro_rules | `(tactic| walk_at "mine steps") => `(tactic| w_strict (repeat' (walk_at "mine no 0"; walk_at "mine no 1"; walk_at "mine no 2"; walk_at "mine no 5"; walk_at "mine no 6"; walk_at "mine core")))
theorem room64z {A : Around} {L : Addr} {h : Heap} {dep : Nat} (Y : At A L h dep) (hd : 8 ≤ dep) : A.units + 64 < cLine := by have := Y.hu; omega
local macro_rules | `(tactic| ke_room) => `(tactic| exact room64z (by assumption) (by decide))
noncomputable def stepT (x : Int) (ts : List Int) (v : Int) : List Int := (evens ts).zipWith (fun a b => if Builtin.bitAnd (x.fdiv (2 ^ v.toNat)) 1 ≠ 0 then min a b else max a b) (odds ts)
noncomputable def PlayJ (g : Heap) (cs ct lo : Addr) (os ts : List Int) (x : Int) (t : Tok) (i : Nat) (m : Str → Option Value) (nx : List (Addr × Obj)) : Prop :=
  ∃ la tv k v o1 o2 cur, nx = cur ++ [(ct, o2), (cs, o1)] ∧ (cur = [] ∧ g.IsList la (List.toArray tv) ∨ cur = [(la, listOf (List.toArray tv) k)] ∧ la ≠ ct ∧ la ≠ cs) ∧ o1.data = .cell (some (.int x t)) ∧ o2.data = .cell v ∧ m "table" = some (.ref la) ∧ m "order" = some (.ref lo) ∧ IntsAre tv ((os.take i).foldl (stepT x) ts) ∧ ((os.take i).foldl (stepT x) ts).length = 16 / 2 ^ i
theorem plays_spec {w : World} {A : Around} {E : Value → Shared → Prop} {s : Shared} {h₀ : Heap} {L : Addr} {m : Str → Option Value} {rest : List (Addr × Obj)} {Q : Value → Shared → Prop} {lo : Addr} {ovs : List Value} {os : List Int} {ok : Nat} {x : Int} {t : Tok} {lt : Addr} {tvs : List Value} {ts : List Int} {tk0 : Nat}
    (X : Ok w h₀) (Y : At A L h₀ 20) (F : Fr h₀ L s.heap m) (N : News h₀ L s.heap rest)
    (ho : (lo, listOf ovs.toArray ok) ∈ rest ∨ h₀.get? lo = some (listOf ovs.toArray ok)) (hO : IntsAre ovs os) (hos : os ∈ orders) (ht : (lt, listOf tvs.toArray tk0) ∈ rest ∨ h₀.get? lt = some (listOf tvs.toArray tk0)) (hT : IntsAre tvs ts) (hts : ts.length = 16) (hx : 0 ≤ x) (hxb : x < 16)
    (ret : ∀ h' tk', Fr h₀ L h' m → News h₀ L h' rest → Q (.bool ((os.foldl (stepT x) ts).getD 0 0 == 1)) { s with heap := h', toks := tk' }) :
    wpAny (model row.row.prog w) A (call (.ref 123) [.int x t, .ref lo, .ref lt]) Q E s := by
  obtain ⟨ha, dp, fr, gd, un0⟩ := A
  obtain rfl : ha = none := Y.hh
  refine enterMC (mu := []) (stay := rest) (binds := [("sentence", .int x t), ("order", .ref lo), ("table", .ref lt)]) (dep := 19) X Y F News.nil N (fun _ _ _ h => nomatch h) (by k_is) (by k_is) (by exact BindsTo.of_eq rfl) (by exact rfl) (by decide +kernel) (by exact rfl) (by exact rfl) (by exact rfl) ?_
  intro g L' h₁ tk cells X' Y' gk gs F' N' CA lt1 lt2
  obtain ⟨o1, o2, hE, d1, d2⟩ := CellsAre.two CA
  subst hE
  clear CA
  simp only [List.cons_append, List.nil_append] at N'
  obtain ⟨p, loose, mean, mg, mb, T'⟩ := X'.top
  have K' := X'.K
  have hLlo : g.IsList lo ovs.toArray := ⟨_, ho.elim (gs _) (gk _ _), rfl, _, rfl⟩
  have hLlt : g.IsList lt tvs.toArray := ⟨_, ht.elim (gs _) (gk _ _), rfl, _, rfl⟩
  show wpAny _ _ _ _ _ _
  k_fold
  walk_at "mine steps"
  refine forG ?_ (fun _ => rfl)
  walk_at "mine steps"
  have hol4 := (orders_are hos).1
  have hob := (orders_are hos).2
  refine listG (PlayJ g (L' + 1) (L' + 1 + 1) lo os ts x t) rfl (fun _ _ => rfl) PassesOwn.never hLlo hO F' N' ⟨lt, tvs, 0, _, o2, o1, [], rfl, .inl ⟨rfl, hLlt⟩, d2, d1, rfl, rfl, hT, by simpa using hts⟩ ?_ ?_
  · intro I i v ti m₁ nx h4 tk4 o hI hi hJ hne F4 N4
    obtain ⟨la, tv, k, vc, oc1, oc2, cur, rfl, hcur, hoc1, hoc2, hm1, hm2, htv, htl⟩ := hJ
    have F5 := fr2 hm1 hm2 F4
    have hI1 : @LT.lt Nat _ (L' + 1 + 1) I := hI _ (.head _)
    have hI2 : @LT.lt Nat _ (L' + 1) I := hI _ (.tail _ (.head _))
    have hi4 : i < 4 := by have := (List.getElem?_eq_some_iff.mp hi).1; omega
    obtain ⟨hv0, hv1⟩ := hob v (List.mem_of_getElem? hi)
    refine wpAny_assign_Name ?_
    clear F4
    generalize hcs : (os.take i).foldl (stepT x) ts = us at *
    have hul : us.length ≤ 16 := by
      rw [htl]; exact Nat.div_le_self _ _
    rcases hcur with ⟨rfl, hbase⟩ | ⟨rfl, hne1, hne2⟩
    · simp only [List.nil_append] at N4 hne
      walk_at "mine steps"
      rename_i h5 oc5 F6 N6 hoc5
      refine compA F6 rfl (by with_unfolding_all rfl) (by with_unfolding_all rfl) (by decide) rfl (by decide) rfl rfl ?_ (fun _ => rfl)
      walk_at "mine steps"
      rename_i D1 h6 hI7 l7 D2 h8 F8 N8 hI8 l8
      have hlen : (evens us).length = (odds us).length := by
        rw [evens_len, odds_len, htl]
        rcases (by omega : i = 0 ∨ i = 1 ∨ i = 2 ∨ i = 3) with h | h | h | h <;> subst h <;> decide
      have hpos : 0 < (evens us).length := by
        rw [evens_len, htl]
        rcases (by omega : i = 0 ∨ i = 1 ∨ i = 2 ∨ i = 3) with h | h | h | h <;> subst h <;> decide
      refine zipC (news := [(I, o), (L' + 1 + 1, oc5), (L' + 1, oc1)]) (fun j ys => IntsAre ys ((stepT x us v).take j)) rfl (nsub N8 (by walk_at "mine sub")) ?_ ?_ hI7 hI8 hlen hpos (by rw [evens_len]; omega) F8 (by simp only [List.take_zero]; exact .nil) rfl rfl ?_ ?_
      · w_strict k_all
      · w_strict k_all
      · intro Tp R j ys C oC m₂ D h9 tk9 tk0 E' a b ta tb ha hb hyl hK hoC hx2 F9 N9 hR
        have hc1 := hR (L' + 1 + 1, oc5) (by walk_at "mine deep")
        have hc2 := hR (L' + 1, oc1) (by walk_at "mine deep")
        have hval : ∀ r, r = (if Builtin.bitAnd (x.fdiv (2 ^ v.toNat)) 1 ≠ 0 then min a b else max a b) → ∀ t, IntsAre (ys ++ [Value.int r t]) ((stepT x us v).take (j + 1)) := by
          intro r hr t
          have hg : (stepT x us v)[j]? = some r := by
            unfold stepT
            rw [List.getElem?_zipWith, ha, hb, hr]
          rw [List.take_add_one, hg]
          exact IntsAre.append hK (.cons _ _ .nil)
        walk_at "mine steps"
        · refine min_pair rfl F9 N9 (by walk_at "mine deep") ?_
          intro h10 t10 tk10 F10 N10
          exact ⟨_, _, rfl, F10, N10, hval _ (by rw [if_pos (by assumption)]) _⟩
        · refine max_pair rfl F9 N9 (by walk_at "mine deep") ?_
          intro h10 t10 tk10 F10 N10
          exact ⟨_, _, rfl, F10, N10, hval _ (by rw [if_neg (by intro h; exact h (by assumption))]) _⟩
      · intro hp tkp ys hyl hK
        intro D h9 tk9 F9 N9 offD
        walk_at "mine steps"
        have hu : (os.take (i + 1)).foldl (stepT x) ts = stepT x us v := by
          rw [List.take_add_one, hi, List.foldl_append, hcs]; rfl
        have hsl : (stepT x us v).length = (evens us).length := by
          unfold stepT; rw [List.length_zipWith, hlen]; omega
        have hD1 : @Ne Nat (L' + 1 + 1) D := offD (L' + 1 + 1, oc5) (by walk_at "mine deep")
        have hD2 : @Ne Nat (L' + 1) D := offD (L' + 1, oc1) (by walk_at "mine deep")
        have hD3 : @Ne Nat I D := offD (I, o) (by walk_at "mine deep")
        refine ⟨_, _, _, [(D, LCg.lst ys), (L' + 1 + 1, oc5), (L' + 1, oc1)], rfl, F9, nsub N9 (by walk_at "mine sub"), ?_, D, ys, ys.length, _, oc1, oc5, [(D, LCg.lst ys)], rfl, .inr ⟨rfl, Ne.symm hD1, Ne.symm hD2⟩, hoc1, hoc5, rfl, rfl, ?_, ?_⟩
        · exact List.forall_mem_cons.mpr ⟨Ne.symm hD3, List.forall_mem_cons.mpr ⟨Nat.ne_of_lt hI1, List.forall_mem_cons.mpr ⟨Nat.ne_of_lt hI2, List.forall_mem_nil _⟩⟩⟩
        · rw [hu]
          rw [← hsl, List.take_length] at hK
          exact hK
        · rw [hu, hsl, evens_len, htl]
          rcases (by omega : i = 0 ∨ i = 1 ∨ i = 2 ∨ i = 3) with h | h | h | h <;> subst h <;> decide
    · simp only [List.cons_append, List.nil_append] at N4 hne
      have hn1 : @Ne Nat la I := hne _ (.head _)
      have hne1' : @Ne Nat la (L' + 1 + 1) := hne1
      have hne2' : @Ne Nat la (L' + 1) := hne2
      walk_at "mine steps"
      rename_i h5 oc5 F6 N6 hoc5
      refine compA F6 rfl (by with_unfolding_all rfl) (by with_unfolding_all rfl) (by decide) rfl (by decide) rfl rfl ?_ (fun _ => rfl)
      walk_at "mine steps"
      rename_i D1 h6 hI7 l7 D2 h8 F8 N8 hI8 l8
      have hlen : (evens us).length = (odds us).length := by
        rw [evens_len, odds_len, htl]
        rcases (by omega : i = 0 ∨ i = 1 ∨ i = 2 ∨ i = 3) with h | h | h | h <;> subst h <;> decide
      have hpos : 0 < (evens us).length := by
        rw [evens_len, htl]
        rcases (by omega : i = 0 ∨ i = 1 ∨ i = 2 ∨ i = 3) with h | h | h | h <;> subst h <;> decide
      refine zipC (news := [(I, o), (la, listOf tv.toArray k), (L' + 1 + 1, oc5), (L' + 1, oc1)]) (fun j ys => IntsAre ys ((stepT x us v).take j)) rfl (nsub N8 (by walk_at "mine sub")) ?_ ?_ hI7 hI8 hlen hpos (by rw [evens_len]; omega) F8 (by simp only [List.take_zero]; exact .nil) rfl rfl ?_ ?_
      · w_strict k_all
      · w_strict k_all
      · intro Tp R j ys C oC m₂ D h9 tk9 tk0 E' a b ta tb ha hb hyl hK hoC hx2 F9 N9 hR
        have hc1 := hR (L' + 1 + 1, oc5) (by walk_at "mine deep")
        have hc2 := hR (L' + 1, oc1) (by walk_at "mine deep")
        have hval : ∀ r, r = (if Builtin.bitAnd (x.fdiv (2 ^ v.toNat)) 1 ≠ 0 then min a b else max a b) → ∀ t, IntsAre (ys ++ [Value.int r t]) ((stepT x us v).take (j + 1)) := by
          intro r hr t
          have hg : (stepT x us v)[j]? = some r := by
            unfold stepT
            rw [List.getElem?_zipWith, ha, hb, hr]
          rw [List.take_add_one, hg]
          exact IntsAre.append hK (.cons _ _ .nil)
        walk_at "mine steps"
        · refine min_pair rfl F9 N9 (by walk_at "mine deep") ?_
          intro h10 t10 tk10 F10 N10
          exact ⟨_, _, rfl, F10, N10, hval _ (by rw [if_pos (by assumption)]) _⟩
        · refine max_pair rfl F9 N9 (by walk_at "mine deep") ?_
          intro h10 t10 tk10 F10 N10
          exact ⟨_, _, rfl, F10, N10, hval _ (by rw [if_neg (by intro h; exact h (by assumption))]) _⟩
      · intro hp tkp ys hyl hK
        intro D h9 tk9 F9 N9 offD
        walk_at "mine steps"
        have hu : (os.take (i + 1)).foldl (stepT x) ts = stepT x us v := by
          rw [List.take_add_one, hi, List.foldl_append, hcs]; rfl
        have hsl : (stepT x us v).length = (evens us).length := by
          unfold stepT; rw [List.length_zipWith, hlen]; omega
        have hD1 : @Ne Nat (L' + 1 + 1) D := offD (L' + 1 + 1, oc5) (by walk_at "mine deep")
        have hD2 : @Ne Nat (L' + 1) D := offD (L' + 1, oc1) (by walk_at "mine deep")
        have hD3 : @Ne Nat I D := offD (I, o) (by walk_at "mine deep")
        refine ⟨_, _, _, [(D, LCg.lst ys), (L' + 1 + 1, oc5), (L' + 1, oc1)], rfl, F9, nsub N9 (by walk_at "mine sub"), ?_, D, ys, ys.length, _, oc1, oc5, [(D, LCg.lst ys)], rfl, .inr ⟨rfl, Ne.symm hD1, Ne.symm hD2⟩, hoc1, hoc5, rfl, rfl, ?_, ?_⟩
        · exact List.forall_mem_cons.mpr ⟨Ne.symm hD3, List.forall_mem_cons.mpr ⟨Nat.ne_of_lt hI1, List.forall_mem_cons.mpr ⟨Nat.ne_of_lt hI2, List.forall_mem_nil _⟩⟩⟩
        · rw [hu]
          rw [← hsl, List.take_length] at hK
          exact hK
        · rw [hu, hsl, evens_len, htl]
          rcases (by omega : i = 0 ∨ i = 1 ∨ i = 2 ∨ i = 3) with h | h | h | h <;> subst h <;> decide
  · intro m₁ nx h4 tk4 hJ F4 N4
    obtain ⟨la, tv, k, vc, oc1, oc2, cur, rfl, hcur, hoc1, hoc2, hm1, hm2, htv, htl⟩ := hJ
    have F5 := fr2 hm1 hm2 F4
    clear F4
    have e4 : os.take os.length = os := List.take_length
    rw [e4] at htv htl
    rw [hol4] at htl
    generalize hcs : os.foldl (stepT x) ts = us at *
    have hu1 : us.length = 1 := htl
    rcases hcur with ⟨rfl, hbase⟩ | ⟨rfl, hne1, hne2⟩
    · simp only [List.nil_append] at N4
      walk_at "mine steps"
      try dsimp only
      show LeaveM h₀ L m g rest Q _ _
      exact leaveM F5 News.nil (fun F3 N3 => ret _ _ F3 N3)
    · simp only [List.cons_append, List.nil_append] at N4
      walk_at "mine steps"
      try dsimp only
      show LeaveM h₀ L m g rest Q _ _
      exact leaveM F5 News.nil (fun F3 N3 => ret _ _ F3 N3)
end Mine
end
local macro_rules | `(tactic| walk_at "mine pad") => `(tactic| fail "pad")
local macro_rules | `(tactic| walk_at "mine pad") => `(tactic| fail "pad")
section
theorem Mine.fresh_Plain3 : True := by
  w_top off
  exact trivial
open PySem PySem.W PyProof.Rows
namespace Mine
theorem dg_bits : ∀ (k : Nat) (x : Int), 0 ≤ x → x < 2 ^ k → dg 2 k x = (List.range k).map fun j => Builtin.bitAnd (x.fdiv (2 ^ j)) 1
  | 0, x, _, _ => rfl
  | 1, x, h0, h1 => by
    have e : x = 0 ∨ x = 1 := by
      have : x < 2 := by simpa using h1
      omega
    rcases e with rfl | rfl <;> decide
  | k + 2, x, h0, h1 => by
    have h2 : x / 2 < 2 ^ (k + 1) := by
      have : (2 : Int) ^ (k + 2) = 2 * 2 ^ (k + 1) := by rw [Int.pow_succ, Int.mul_comm]
      omega
    rw [dg, dg_bits (k + 1) (x / 2) (by omega) h2, List.range_succ_eq_map (n := k + 1), List.map_cons, List.map_map]
    congr 1
    · rw [bitAnd_m1]; simp
    · apply List.map_congr_left
      intro j _
      show Builtin.bitAnd ((x / 2).fdiv (2 ^ j)) 1 = Builtin.bitAnd (x.fdiv (2 ^ (j + 1))) 1
      have hp := kbt_pos j
      have hp2 := kbt_pos (j + 1)
      rw [Int.fdiv_eq_ediv_of_nonneg _ (Int.le_of_lt hp), Int.fdiv_eq_ediv_of_nonneg _ (Int.le_of_lt hp2), Int.ediv_ediv_of_nonneg (by decide), Int.pow_succ, Int.mul_comm]
theorem dg_last (b : Int) (hb : 0 < b) : ∀ (k : Nat) (x : Int), (dg b (k + 1) x).getLast? = some (x / b ^ k)
  | 0, x => by simp [dg]
  | k + 1, x => by
    have ih := dg_last b hb k (x / b)
    rw [dg, List.getLast?_cons, ih, Int.ediv_ediv_of_nonneg (Int.le_of_lt hb), Int.pow_succ, Int.mul_comm (b ^ k) b]
    rfl
theorem tp_key : ∀ w ∈ ([8, 4, 2] : List Nat), ∀ k < 17, ((((k : Nat) : Int) + (w : Int) - 1).fdiv (w : Int)).toNat ≤ 16 ∧ (k = 0 → ((((k : Nat) : Int) + (w : Int) - 1).fdiv (w : Int)).toNat = 0) ∧
    (k ≠ 0 → ((((k : Nat) : Int) + (w : Int) - 1).fdiv (w : Int)).toNat = ((((k : Nat) : Int) + (w : Int) - 1).fdiv (w : Int)).toNat - 1 + 1 ∧ w * (((((k : Nat) : Int) + (w : Int) - 1).fdiv (w : Int)).toNat - 1) ≤ k - 1) := by decide +kernel
theorem tp_mem {v : Int} (hv : v = 8 ∨ v = 4 ∨ v = 2) : ∃ w : Nat, v = (w : Int) ∧ w ∈ ([8, 4, 2] : List Nat) := by
  rcases hv with rfl | rfl | rfl
  · exact ⟨8, rfl, by decide⟩
  · exact ⟨4, rfl, by decide⟩
  · exact ⟨2, rfl, by decide⟩
theorem top_facts {x v : Int} (hx : 0 ≤ x) (hxb : x < 65536) (hv : v = 8 ∨ v = 4 ∨ v = 2) : (dg (2 ^ v.toNat) (((Builtin.Int.intBits x : Int) + v - 1).fdiv v).toNat x).length ≤ 16 ∧ (dg (2 ^ v.toNat) (((Builtin.Int.intBits x : Int) + v - 1).fdiv v).toNat x).getLast? ≠ some 0 := by
  have hb16 : Builtin.Int.intBits x ≤ 16 := intBits_le_iff.mpr (nabs_lt hx hxb)
  obtain ⟨w, rfl, hw⟩ := tp_mem hv
  obtain ⟨k1, k2, k3⟩ := tp_key w hw _ (Nat.lt_succ_of_le hb16)
  rw [dg_length]
  refine ⟨k1, ?_⟩
  by_cases h0 : Builtin.Int.intBits x = 0
  · rw [k2 h0]
    exact fun h => nomatch h
  · obtain ⟨k4, k5⟩ := k3 h0
    have hlow : ¬ x.natAbs < 2 ^ (Builtin.Int.intBits x - 1) := fun h => h0 (by
      have h2 := intBits_le_iff.mpr h
      generalize Builtin.Int.intBits x = n at h2 ⊢
      cases n with
      | zero => rfl
      | succ n => exact absurd h2 (Nat.not_succ_le_self n))
    rw [k4, dg_last _ (kbt_pos _)]
    intro h
    have h := Option.some.inj h
    rw [← Int.pow_mul, Int.toNat_natCast] at h
    have h3 := Nat.le_trans (Nat.pow_le_pow_right (by decide : 0 < 2) k5) (Nat.not_lt.mp hlow)
    obtain ⟨n, rfl⟩ := Int.eq_ofNat_of_zero_le hx
    rw [← kbt_cast] at h
    have h5 : n / 2 ^ (w * (((((Builtin.Int.intBits (n : Int) : Nat) : Int) + (w : Int) - 1).fdiv (w : Int)).toNat - 1)) = 0 := Int.ofNat_inj.mp h
    exact absurd h3 (Nat.not_le.mpr ((Nat.div_eq_zero_iff_lt (Nat.two_pow_pos _)).mp h5))
end Mine
end
section
theorem Mine.fresh_W24 : True := by
  w_top off
  exact trivial
open PySem PySem.W PyProof.Rows PySem.Calls PySem.Spec
namespace Mine
section
variable {prog : Program} {w : World} {A : Around} {h₀ : Heap} {L : Addr} {m : Str → Option Value} {env : Env} {ct elt : PySem.Expr} {x : Str} {scope : Scope} {cl : List (Str × Addr)} {s : Shared} {S : List (Addr × Obj) → Prop} {P : Nat → Value → Prop} {Fin : List Value → List (Addr × Obj) → Prop} {news : List (Addr × Obj)}
/-- the turns of a comprehension that leaves the ledger as it was -/
theorem restK {n : Nat} (K : Nat → List Value → Prop) (hS : S news) (hK : K 0 [])
    (turn : ∀ i v ys I oI C oC D m₂ h tk (E' : Value → Shared → Prop), i < n → P i v → K i ys → LCg.NsObj oC m₂ → m₂ x = some v → Fr h₀ L h m → News h₀ L h ((I, oI) :: (C, oC) :: (D, LCg.lst ys) :: news) →
      wpAny (model prog w) A (eval elt (compEnvC scope cl C env)) (ZipEnd h₀ L m s ((I, oI) :: (C, oC) :: (D, LCg.lst ys) :: news) (fun y => K (i + 1) (ys ++ [y]))) E' { s with heap := h, toks := tk })
    (fin : ∀ ys, K n ys → Fin ys news) : LCg.CompRest prog w A h₀ L m env elt x scope cl s S P Fin n 0 [] news := by
  have key : ∀ (j i : Nat) (ys : List Value), i + j = n → K i ys → LCg.CompRest prog w A h₀ L m env elt x scope cl s S P Fin j i ys news := by
    intro j
    induction j with
    | zero =>
      intro i ys hi hy
      obtain rfl : i = n := by omega
      exact LCg.CompRest.zero (fin ys hy)
    | succ j ih =>
      intro i ys hi hy
      refine LCg.CompRest.succ ?_
      intro v I oI C oC D m₂ h tk E' hv hC hx F N off ne
      refine wpAny_mono (turn i v ys I oI C oC D m₂ h tk E' (by omega) hv hy hC hx F N) (fun y s₂ hq => ?_) fun _ _ e => e
      obtain ⟨h', tk', e, F', N', hk⟩ := hq
      exact ⟨h', tk', news, e, F', N', off, hS, ih (i + 1) _ (by omega) hk⟩
  exact key n 0 [] (by omega) hK
/-- an end of a turn with a test -/
noncomputable def TestEnd (h₀ : Heap) (L : Addr) (m : Str → Option Value) (s : Shared) (led : List (Addr × Obj)) (Kn : Prop) (s₄ : Shared) : Prop :=
  ∃ h' tk', s₄ = { s with heap := h', toks := tk' } ∧ Fr h₀ L h' m ∧ News h₀ L h' led ∧ Kn
theorem restKT {n : Nat} (K : Nat → List Value → Prop) (hS : S news) (hK : K 0 [])
    (turn : ∀ i v ys I oI C oC D m₂ h tk (E' : Value → Shared → Prop), i < n → P i v → K i ys → LCg.NsObj oC m₂ → m₂ x = some v → Fr h₀ L h m → News h₀ L h ((I, oI) :: (C, oC) :: (D, LCg.lst ys) :: news) → LCg.Off3 I C D news → ((@Ne Nat I C) ∧ (@Ne Nat I D) ∧ (@Ne Nat C D)) →
      wpAny (model prog w) A (isTrue ct (compEnvC scope cl C env) (eval ct (compEnvC scope cl C env))) (fun ok s' => if ok = true then
        wpAny (model prog w) A (eval elt (compEnvC scope cl C env)) (fun y s₄ => TestEnd h₀ L m s ((I, oI) :: (C, oC) :: (D, LCg.lst ys) :: news) (K (i + 1) (ys ++ [y])) s₄) E' s'
        else TestEnd h₀ L m s ((I, oI) :: (C, oC) :: (D, LCg.lst ys) :: news) (K (i + 1) ys) s') E' { s with heap := h, toks := tk })
    (fin : ∀ ys, K n ys → Fin ys news) : LCt.CompRestT prog w A h₀ L m env ct elt x scope cl s S P Fin n 0 [] news := by
  have key : ∀ (j i : Nat) (ys : List Value), i + j = n → K i ys → LCt.CompRestT prog w A h₀ L m env ct elt x scope cl s S P Fin j i ys news := by
    intro j
    induction j with
    | zero =>
      intro i ys hi hy
      obtain rfl : i = n := by omega
      exact LCt.CompRestT.zero (fin ys hy)
    | succ j ih =>
      intro i ys hi hy
      refine LCt.CompRestT.succ ?_
      intro v I oI C oC D m₂ h tk E' hv hC hx F N off ne
      refine wpAny_mono (turn i v ys I oI C oC D m₂ h tk E' (by omega) hv hy hC hx F N off ne) (fun ok s₂ hq => ?_) fun _ _ e => e
      cases ok with
      | true =>
        simp only [if_true] at hq ⊢
        refine wpAny_mono hq (fun y s₄ hq4 => ?_) fun _ _ e => e
        obtain ⟨h', tk', e, F', N', hk⟩ := hq4
        exact ⟨h', tk', news, e, F', N', off, hS, ih (i + 1) _ (by omega) hk⟩
      | false =>
        simp only [Bool.false_eq_true, if_false] at hq ⊢
        obtain ⟨h', tk', e, F', N', hk⟩ := hq
        exact ⟨h', tk', news, e, F', N', off, hS, ih (i + 1) _ (by omega) hk⟩
  exact key n 0 [] (by omega) hK
end
end Mine
end
section
theorem Mine.fresh_W23 : True := by
  w_top off
  exact trivial
open PySem PySem.W PyProof.Rows PySem.Calls PySem.Spec
namespace Mine
theorem fillK23 (w : World) : row.name = row.name ∧ Kf w.params = Kf w.params := by
  k_fill
  exact ⟨rfl, rfl⟩
local macro_rules | `(tactic| walk_at "mine steps") => `(tactic| w_strict (repeat' (walk_at "mine no 0"; walk_at "mine no 1"; walk_at "mine no 5"; walk_at "mine no 6"; walk_at "mine no 7"; walk_at "mine no 8"; walk_at "mine core")))
section
variable {prog : Program} {w : World} {A : Around} {E : Value → Shared → Prop} {s : Shared} {env : Env} {h₀ : Heap} {target : PySem.Expr} {body orelse : List Stmt} {Q : Flow → Shared → Prop}
/-- a for over a tuple of ints of the ledger -/
theorem tupG {l : Addr} {vs : List Value} {ns : List Int} {m₀ : Str → Option Value} {news : List (Addr × Obj)} (J : Nat → (Str → Option Value) → List (Addr × Obj) → Prop)
    (hh : A.handled = none) (ht : ∀ I v, letOwnedTupleGo target (.ref I) v = pure ()) (hE : PassesOwn (model prog w) A env E) {kt : Nat} (hl : ∀ i m nx, J i m nx → (l, { cls := .type "tuple", data := .seq vs.toArray kt }) ∈ nx) (hi : IntsAre vs ns) (F : Fr h₀ env.locals s.heap m₀) (N : News h₀ env.locals s.heap news) (hj : J 0 m₀ news)
    (turn : ∀ I i n t m₁ nx h tk o, (∀ p ∈ news, p.1 < I) → ns[i]? = some n → J i m₁ nx → (∀ p ∈ nx, p.1 ≠ I) → Fr h₀ env.locals h m₁ → News h₀ env.locals h ((I, o) :: nx) →
      wpAny (model prog w) A (assign target env (.int n t)) (fun _ s₂ => wpAny (model prog w) A (execs body env) (TurnE h₀ env.locals I o (J (i + 1)) { s with heap := h, toks := tk } Q) E s₂) E { s with heap := h, toks := tk })
    (done : ∀ m₁ nx h tk, J ns.length m₁ nx → Fr h₀ env.locals h m₁ → News h₀ env.locals h nx → wpAny (model prog w) A (execs orelse env) Q E { s with heap := h, toks := tk }) :
    wpAny (model prog w) A (pyIter (.ref l)) (fun it s₂ => LoopAtG prog w A env target body orelse Q E it s₂) E s := by
  have zl := N _ (hl _ _ _ hj)
  have hls : s.heap.IsTuple l vs.toArray := ⟨_, zl.1, rfl, _, rfl⟩
  have hne : l ≠ s.heap.objs.size := Nat.ne_of_lt (Heap.lt_size zl.1)
  refine wpAny_pyIter_tuple hls ?_
  have W := Walks.tuple (prog := prog) (w := w) hh s.heap.objs.size l hne vs.toArray
  have hlen : vs.toArray.size = ns.length := by simp [hi.length]
  rw [hlen] at W
  refine loopG J W (ht _) hE (.head _) (fun b hb => ?_) (next_is_new F) (Nat.ne_of_lt F.ns.lt) (fun i h st => ?_) ⟨⟨_, Heap.get?_push_size _ rfl, rfl, rfl⟩, hls.at fun o e => Heap.get?_push_of_some _ e⟩ (F.push _) (fun p hp => ⟨Heap.get?_push_of_some _ (N p hp).1, (N p hp).2⟩) (fun p hp => Nat.ne_of_lt (Heap.lt_size (N p hp).1)) hj ?_ ?_
  · rcases List.mem_cons.mp hb with e | hb
    · exact .inl e
    · exact .inr (.inr ⟨_, by rw [List.mem_singleton.mp hb]; exact hl⟩)
  · obtain ⟨⟨o, ho, _⟩, _⟩ := st
    exact ⟨o, ho⟩
  · intro i v m₁ nx h tk o hin hP hJ hne' F₁ N₁
    have hlt' : i < ns.length := hin
    obtain ⟨t, hx⟩ := hi.get i ns[i] (by simp [hlt'])
    have hv : v = .int ns[i] t := by
      have hP' : vs[i]? = some v := by simpa using hP
      rw [hx] at hP'; exact (Option.some.inj hP').symm
    subst hv
    exact turn _ i ns[i] t m₁ nx h tk o (fun p hp => Heap.lt_size (N p hp).1) (by simp [hlt']) hJ hne' F₁ N₁
  · exact fun m₁ nx h tk hJ F₁ N₁ => done m₁ nx h tk hJ F₁ N₁
end
theorem room64f {A : Around} {L : Addr} {h : Heap} {dep : Nat} (Y : At A L h dep) (hd : 8 ≤ dep) : A.units + 64 < cLine := by have := Y.hu; omega
noncomputable def FigJ (B : Addr → Obj → Prop) (D c : Addr) (oT o1 : Obj) (p2 : Array Value) (i : Nat) (m : Str → Option Value) (nx : List (Addr × Obj)) : Prop :=
  ∃ q1 ext, nx = (D, oT) :: (c, o1) :: (30, tabObj q1) :: (37, tabObj p2) :: ext ∧ TabOk B (PySem.Str.ofString "_int2digits.<locals>.inner") 32 4 q1 ext ∧ (∀ p ∈ ext, 37 < p.1 ∧ p.1 ≠ D ∧ p.1 ≠ c)
theorem figures_spec {w : World} {A : Around} {E : Value → Shared → Prop} {s : Shared} {h₀ : Heap} {L : Addr} {m : Str → Option Value} {rest : List (Addr × Obj)} {Q : Value → Shared → Prop} {p1 p2 : Array Value} {B : Addr → Obj → Prop} {x : Int} {t : Tok}
    (X : Ok w h₀) (Y : At A L h₀ 30) (F : Fr h₀ L s.heap m) (N : News h₀ L s.heap ((30, tabObj p1) :: (37, tabObj p2) :: rest)) (hap : ∀ p ∈ rest, p.1 ≠ 30 ∧ p.1 ≠ 37)
    (hB : ∀ c o, B c o → h₀.get? c = some o) (hp1 : TabOk B (PySem.Str.ofString "_int2digits.<locals>.inner") 32 4 p1 rest)
    (hx : 0 ≤ x) (hxb : x < 65536)
    (ret : ∀ p1' ext h' tk', Fr h₀ L h' m → News h₀ L h' ((30, tabObj p1') :: (37, tabObj p2) :: (ext ++ rest)) → TabOk B (PySem.Str.ofString "_int2digits.<locals>.inner") 32 4 p1' (ext ++ rest) → (∀ p ∈ ext, 37 < p.1) → Q (.bool true) { s with heap := h', toks := tk' }) :
    wpAny (model row.row.prog w) A (call (.ref 128) [.int x t]) Q E s := by
  obtain ⟨ha, dp, fr, gd, un0⟩ := A
  obtain rfl : ha = none := Y.hh
  refine enterMC (mu := [(30, tabObj p1), (37, tabObj p2)]) (stay := rest) (binds := [("family", .int x t)]) (dep := 29) X Y F (nsub N (by walk_at "mine sub")) (nsub N (by walk_at "mine sub")) (tabs_apart hap) (by k_is) (by k_is) (by exact BindsTo.of_eq rfl) (by exact rfl) (by decide +kernel) (by exact rfl) (by exact rfl) (by exact rfl) ?_
  intro g L' h₁ tk1 cells X' Y' gk gs F' N' CA lt1 lt2
  obtain ⟨o1, hE, d1⟩ := CellsAre.one CA
  subst hE
  clear CA
  simp only [List.cons_append, List.nil_append] at N'
  obtain ⟨p, loose, mean, mg, mb, T'⟩ := X'.top
  have K' := X'.K
  have hB' : ∀ c o, ((c, o) ∈ rest ∨ B c o) → g.get? c = some o := fun c o h => h.elim (gs _) (fun h => gk _ _ (hB _ _ h))
  have lt30 : @LT.lt Nat _ 30 L' := lt1 _ (.head _)
  have lt37 : @LT.lt Nat _ 37 L' := lt1 _ (.tail _ (.head _))
  have hq1 : TabOk (fun c o => (c, o) ∈ rest ∨ B c o) (PySem.Str.ofString "_int2digits.<locals>.inner") 32 4 p1 [] := hp1.toB
  show wpAny _ _ _ _ _ _
  k_fold
  walk_at "mine steps"
  refine forG ?_ (fun _ => rfl)
  walk_at "mine steps"
  rename_i D h2 F2 N2 l2
  have hD37 : @LT.lt Nat _ 37 D := l2.2.2
  have hLD : @LT.lt Nat _ (L' + 1) D := l2.1
  refine tupG (kt := 0) (ns := [8, 4, 2]) (vs := [Value.int 8 tk1, Value.int 4 (tk1 + 1), Value.int 2 (tk1 + 1 + 1)]) (FigJ (fun c o => (c, o) ∈ rest ∨ B c o) D (L' + 1) { cls := Value.type "tuple", data := Data.seq #[Value.int 8 tk1, Value.int 4 (tk1 + 1), Value.int 2 (tk1 + 1 + 1)] } o1 p2) rfl (fun _ _ => rfl) PassesOwn.never (fun i m nx hJ => ?_) (.cons _ _ (.cons _ _ (.cons _ _ .nil))) F2 N2 ⟨p1, [], rfl, hq1, fun _ h => absurd h List.not_mem_nil⟩ ?_ ?_
  · obtain ⟨q1, ext, rfl, _⟩ := hJ
    exact .head _
  · intro I i v ti m₁ nx h4 tk4 o hI hi hJ hne F4 N4
    obtain ⟨q1, ext, rfl, hT, hext⟩ := hJ
    have hv : v = 8 ∨ v = 4 ∨ v = 2 := by
      have := List.mem_of_getElem? hi
      simpa using this
    have hI1 : @LT.lt Nat _ D I := hI _ (.head _)
    refine wpAny_assign_Name ?_
    walk_at "mine steps"
    rename_i h5 F5 N5
    refine i2d_spec (rest := (I, o) :: (D, { cls := Value.type "tuple", data := Data.seq #[Value.int 8 tk1, Value.int 4 (tk1 + 1), Value.int 2 (tk1 + 1 + 1)] }) :: (L' + 1, o1) :: ext) (TL := ext) X' (Y'.less (by omega)) F5 (nsub N5 (by walk_at "mine sub")) hT (fun p hp => .tail _ (.tail _ (.tail _ hp))) hB' ?hapx hx (by omega) (by omega) (by omega) ?_
    case hapx =>
      intro p hp
      rcases List.mem_cons.mp hp with rfl | hp
      · exact Nat.lt_trans hD37 hI1
      rcases List.mem_cons.mp hp with rfl | hp
      · exact hD37
      rcases List.mem_cons.mp hp with rfl | hp
      · exact Nat.lt_succ_of_lt lt37
      · exact (hext p hp).1
    intro d vs k q1' ext' h6 tk6 F6 N6 hT6 hext6 hd6 hd37 hI6
    obtain ⟨hdl, hnz⟩ := top_facts hx hxb hv
    generalize hdg : dg (2 ^ v.toNat) (((Builtin.Int.intBits x : Int) + v - 1).fdiv v).toNat x = ds at *
    have hne0 : decide (List.drop (ds.length - 1) ds = [0]) = false := by
      rw [decide_eq_false_iff_not]
      intro h
      apply hnz
      have : ds = ds.take (ds.length - 1) ++ [0] := by rw [← h, List.take_append_drop]
      rw [this, List.getLast?_append]; rfl
    walk_at "mine steps"
    rename_i D5 ws5 h7 hI7 hC7 hL7 l7 l8 h8 F8 N8 l9
    refine ke_eq_ints (News.isList N8 (.tail _ (.head _))) (News.isList N8 (.head _)) hI7 (.cons 0 _ .nil) (room64f Y' (by decide)) ?_
    rw [hne0]
    walk_at "mine steps"
    have hLI : @LT.lt Nat _ (L' + 1) I := Nat.lt_trans hLD hI1
    refine ⟨_, _, _, (D, _) :: (L' + 1, o1) :: (30, tabObj q1') :: (37, tabObj p2) :: (ext' ++ ext), rfl, F8, nsub N8 ?sub, ?ap, q1', ext' ++ ext, rfl, hT6, ?ex⟩
    case sub =>
      intro p hp
      rcases List.mem_cons.mp hp with rfl | hp
      · exact .tail _ (.tail _ (.tail _ (.tail _ (.tail _ (List.mem_append_right _ (.head _))))))
      rcases List.mem_cons.mp hp with rfl | hp
      · exact .tail _ (.tail _ (.tail _ (.tail _ (.tail _ (List.mem_append_right _ (.tail _ (.head _)))))))
      rcases List.mem_cons.mp hp with rfl | hp
      · exact .tail _ (.tail _ (.tail _ (.tail _ (.tail _ (List.mem_append_right _ (.tail _ (.tail _ (.head _))))))))
      rcases List.mem_cons.mp hp with rfl | hp
      · exact .tail _ (.tail _ (.head _))
      rcases List.mem_cons.mp hp with rfl | hp
      · exact .tail _ (.tail _ (.tail _ (.head _)))
      rcases List.mem_append.mp hp with hp | hp
      · exact .tail _ (.tail _ (.tail _ (.tail _ (.tail _ (List.mem_append_left _ hp)))))
      · exact .tail _ (.tail _ (.tail _ (.tail _ (.tail _ (List.mem_append_right _ (.tail _ (.tail _ (.tail _ hp))))))))
    case ap =>
      intro p hp
      rcases List.mem_cons.mp hp with rfl | hp
      · exact Nat.ne_of_lt hI1
      rcases List.mem_cons.mp hp with rfl | hp
      · exact Nat.ne_of_lt hLI
      rcases List.mem_cons.mp hp with rfl | hp
      · exact Nat.ne_of_lt (Nat.lt_trans lt30 (Nat.lt_of_succ_lt hLI))
      rcases List.mem_cons.mp hp with rfl | hp
      · exact Nat.ne_of_lt (Nat.lt_trans lt37 (Nat.lt_of_succ_lt hLI))
      rcases List.mem_append.mp hp with hp | hp
      · exact Nat.ne_of_gt ((hext6 p hp).2 _ (.head _))
      · exact hne p (.tail _ (.tail _ (.tail _ (.tail _ hp))))
    case ex =>
      intro p hp
      rcases List.mem_append.mp hp with hp | hp
      · exact ⟨(hext6 p hp).1, Nat.ne_of_gt ((hext6 p hp).2 _ (.tail _ (.head _))), Nat.ne_of_gt ((hext6 p hp).2 _ (.tail _ (.tail _ (.head _))))⟩
      · exact hext p hp
  · intro m₁ nx h4 tk4 hJ F4 N4
    obtain ⟨q1, ext, rfl, hT, hext⟩ := hJ
    walk_at "mine steps"
    refine i2d_spec (rest := (L' + 1, o1) :: ext) (TL := ext) X' (Y'.less (by omega)) F4 (nsub N4 (by walk_at "mine sub")) hT (fun p hp => .tail _ hp) hB' ?hapx hx (by omega) (by decide) (by decide) ?_
    case hapx =>
      intro p hp
      rcases List.mem_cons.mp hp with rfl | hp
      · exact Nat.lt_succ_of_lt lt37
      · exact (hext p hp).1
    intro d vs k q1' ext' h6 tk6 F6 N6 hT6 hext6 hd6 hd37 hI6
    obtain ⟨hdd, hdl, hde⟩ := bits_digits hx hxb
    rw [hde] at hI6 hdd hdl
    have hmo : (L' + 1, o1) ∈ (30, tabObj q1') :: (37, tabObj p2) :: (d, listOf vs.toArray k) :: (ext' ++ (L' + 1, o1) :: ext) := .tail _ (.tail _ (.tail _ (List.mem_append_right _ (.head _))))
    have d1 : o1.data = .cell (some (.int x t)) := d1
    walk_at "mine steps"
    refine LCg.ListComp_U (F₀ := F6) (by with_unfolding_all rfl) (by decide) (by rfl) (by decide) (by rfl) ?_
    walk_at "mine steps"
    rename_i F6 N6 h7 tk7 t7 u7 v7 hR7 F7 N7 hk7
    have hb16 : Builtin.Int.intBits x ≤ 16 := by rw [intBits_le_iff]; omega
    refine LCg.CompSrc.range (n := Builtin.Int.intBits x) rfl F7 N7 hR7 (small_one (by omega) (by omega) (by omega) (by omega)) (rangeSize_nat _ _) (by rw [PySem.sizeLine_eq]; omega) ?_
    intro g7
    refine restK (fun j ys => IntsAre ys ((List.range j).map fun j => Builtin.bitAnd (x.fdiv (2 ^ j)) 1)) trivial .nil ?_ ?_
    · intro j y ys I oI C oC D2 m₂ h8 tk8 E' hj hy hys hoC hx2 F8 N8
      obtain ⟨ty, rfl⟩ := hy
      rw [Int.zero_add] at hx2
      have hmo2 : (L' + 1, o1) ∈ (I, oI) :: (C, oC) :: (D2, LCg.lst ys) :: (30, tabObj q1') :: (37, tabObj p2) :: (d, listOf vs.toArray k) :: (ext' ++ (L' + 1, o1) :: ext) := .tail _ (.tail _ (.tail _ hmo))
      have hj0 : 0 ≤ (j : Int) := by omega
      have hj1 : (j : Int) < 16 := by omega
      walk_at "mine steps"
      refine ⟨_, _, rfl, F8, N8, ?_⟩
      rw [List.range_succ, List.map_append]
      exact IntsAre.append hys (.cons _ _ .nil)
    · intro ys hys D2 h8 tk8 F8 N8 off8
      refine ke_eq_ints (News.isList N8 (.tail _ (.tail _ (.tail _ (.head _))))) (News.isList N8 (.head _)) hI6 hys (room64f Y' (by decide)) ?_
      have hlt : x.natAbs < 2 ^ Builtin.Int.intBits x := intBits_le_iff.mp (Nat.le_refl _)
      have hlt2 : x < 2 ^ Builtin.Int.intBits x := by rw [← kbt_cast]; omega
      rw [decide_eq_true (dg_bits _ _ hx hlt2)]
      show LeaveM h₀ L m g rest Q _ _
      refine leaveM F8 (nsub (b := (30, tabObj q1') :: (37, tabObj p2) :: (ext' ++ ext)) N8 ?_) (fun F3 N3 => ret q1' (ext' ++ ext) _ _ F3 (by simpa using N3) ((hT6.mono (news' := (ext' ++ ext) ++ rest) (fun p hp => List.mem_append_left _ hp) (fun c o h => h.imp (fun h => List.mem_append_right _ h) id))) ?_)
      · intro p hp
        rcases List.mem_cons.mp hp with rfl | hp
        · exact .tail _ (.head _)
        rcases List.mem_cons.mp hp with rfl | hp
        · exact .tail _ (.tail _ (.head _))
        rcases List.mem_append.mp hp with hp | hp
        · exact .tail _ (.tail _ (.tail _ (.tail _ (List.mem_append_left _ hp))))
        · exact .tail _ (.tail _ (.tail _ (.tail _ (List.mem_append_right _ (.tail _ hp)))))
      · intro p hp
        rcases List.mem_append.mp hp with hp | hp
        · exact (hext6 p hp).1
        · exact (hext p hp).1
end Mine
end
local macro_rules | `(tactic| walk_at "mine pad") => `(tactic| fail "pad")
local macro_rules | `(tactic| walk_at "mine pad") => `(tactic| fail "pad")
section
theorem Mine.fresh_W25 : True := by
  w_top off
  exact trivial
open PySem PySem.W PyProof.Rows PySem.Calls PySem.Spec
namespace Mine
theorem fillK25 (w : World) : row.name = row.name ∧ Kf w.params = Kf w.params := by
  k_fill
  exact ⟨rfl, rfl⟩
local macro_rules | `(tactic| walk_at "mine steps") => `(tactic| w_strict (repeat' (walk_at "mine no 0"; walk_at "mine no 1"; walk_at "mine no 5"; walk_at "mine no 6"; walk_at "mine no 7"; walk_at "mine no 8"; walk_at "mine core")))
theorem small16 {x : Int} (h0 : 0 ≤ x) (h1 : x ≤ 16) : Builtin.Range.small x (x + 16) 1 = true := small_one (by omega) (by omega) (by omega) (by omega)
theorem rangeSizeN (a : Int) (n : Nat) : Builtin.Range.rangeSize a (a + (n : Int)) 1 = (n : Int) := by
  rw [rangeSize_nat]; omega
noncomputable def flagNames : List Str := ["OPTIMIZED", "NEWLOCALS", "VARARGS", "VARKEYWORDS", "NESTED", "GENERATOR", "NOFREE", "COROUTINE", "ITERABLE_COROUTINE", "ASYNC_GENERATOR"]
noncomputable def wordOf (i : Nat) : Str := if i < 10 then flagNames.getD i Str.empty else baseText "0x" 16 (2 ^ i)
theorem hex_len {i : Nat} (h : i < 32) : (baseText "0x" 16 (2 ^ i)).length ≤ sizeLine := by
  have key : ∀ j : Fin 32, (baseText "0x" 16 (2 ^ (j.val))).length ≤ 20 := by decide +kernel
  have := key ⟨i, h⟩
  rw [PySem.sizeLine_eq]
  exact Nat.le_trans this (by decide)
theorem words_spec {w : World} {A : Around} {E : Value → Shared → Prop} {s : Shared} {h₀ : Heap} {L : Addr} {m : Str → Option Value} {rest : List (Addr × Obj)} {Q : Value → Shared → Prop} {lr : Addr} {x : Int} {t u v : Tok}
    (X : Ok w h₀) (Y : At A L h₀ 20) (F : Fr h₀ L s.heap m) (N : News h₀ L s.heap rest)
    (hx : 0 ≤ x) (hxb : x ≤ 16) (hr : (lr, { cls := .type "range", dict := none, data := .fields #[.int x t, .int (x + 16) u, .int 1 v], slots := #[] }) ∈ rest)
    (ret : ∀ D ys k h' tk', Fr h₀ L h' m → News h₀ L h' ((D, listOf (List.toArray ys) k) :: rest) → StrsAre ys ((List.range 16).map fun j => wordOf (x.toNat + j)) → (∀ p ∈ rest, p.1 ≠ D) → Q (.ref D) { s with heap := h', toks := tk' }) :
    wpAny (model row.row.prog w) A (call (.ref 94) [.ref lr]) Q E s := by
  obtain ⟨ha, dp, fr, gd, un0⟩ := A
  obtain rfl : ha = none := Y.hh
  refine enterMC (mu := []) (stay := rest) (binds := [("places", .ref lr)]) (dep := 19) X Y F News.nil N (fun _ _ _ h => nomatch h) (by k_is) (by k_is) (by exact BindsTo.of_eq rfl) (by exact rfl) (by decide +kernel) (by exact rfl) (by exact rfl) (by exact rfl) ?_
  intro g L' h₁ tk cells X' Y' gk gs F' N' CA lt1 lt2
  obtain ⟨o1, hE, d1⟩ := CellsAre.one CA
  subst hE
  clear CA
  simp only [List.cons_append, List.nil_append] at N'
  obtain ⟨p, loose, mean, mg, mb, T'⟩ := X'.top
  have K' := X'.K
  have hR : IsRange g lr x (x + 16) 1 t u v := gs _ hr
  show wpAny _ _ _ _ _ _
  k_fold
  walk_at "mine steps"
  rename_i nl h3 l3 h4 oc4 F4 N4 hoc4
  refine LCg.ListComp_U (F₀ := F4) (by with_unfolding_all rfl) (by decide) (by rfl) (by decide) (by rfl) ?_
  walk_at "mine steps"
  refine' LCg.CompSrc.range (n := 16) (a := x) (b := x + 16) (t := t) (u := u) (v := v) ?ca F4 N4 ?cd ?ce ?cf ?cg ?ch
  case ca => rfl
  case cd => exact F4.keep _ _ hR
  case ce => exact small16 hx hxb
  case cf => exact rangeSizeN x 16
  case cg => decide
  intro g5
  refine restK (fun j ys => StrsAre ys ((List.range j).map fun j => wordOf (x.toNat + j))) trivial .nil ?_ ?_
  · intro j y ys I oI C oC D2 m₂ h8 tk8 E' hj hy hys hoC hx2 F8 N8
    obtain ⟨ty, rfl⟩ := hy
    obtain ⟨k, hk⟩ : ∃ k : Int, k = x + (j : Int) := ⟨_, rfl⟩
    rw [← hk] at hx2
    have hk0 : 0 ≤ k := by omega
    have hk1 : k < 32 := by omega
    have hkn : x.toNat + j = k.toNat := by first | (rw [hk, Int.toNat_add_nat (by assumption)]) | omega
    have hval : ∀ w, w = wordOf k.toNat → ∀ t, StrsAre (ys ++ [Value.str w t]) ((List.range (j + 1)).map fun j => wordOf (x.toNat + j)) := by
      intro w hw t
      rw [List.range_succ, List.map_append, hw]
      show StrsAre _ (_ ++ [wordOf (x.toNat + j)])
      rw [hkn]
      exact hys.append' (.cons _ _ .nil)
    walk_at "mine steps"
    · exact ⟨_, _, rfl, F8, N8, hval _ (by rw [wordOf, if_pos (by omega)]; rfl) _⟩
    · have e2 : (1 : Int) * 2 ^ k.toNat = 2 ^ k.toNat := Int.one_mul _
      rw [e2]
      refine P.hex_of_int ?_ (hex_len (by omega))
      exact ⟨_, _, rfl, F8, N8, hval _ (by rw [wordOf, if_neg (by omega)]) _⟩
  · intro ys hys D2 h8 tk8 F8 N8 off8
    dsimp only
    show LeaveM h₀ L m g rest Q _ _
    exact leaveM F8 (nsub (b := [(D2, LCg.lst ys)]) N8 (by walk_at "mine sub")) (fun F3 N3 => ret D2 ys _ _ _ F3 N3 hys (apart_of gs N8 (.head _)))
end Mine
end
local macro_rules | `(tactic| walk_at "mine pad") => `(tactic| fail "pad")
local macro_rules | `(tactic| walk_at "mine pad") => `(tactic| fail "pad")
section
theorem Mine.fresh_PlainS : True := by
  w_top off
  exact trivial
open PySem PySem.W PyProof.Rows
namespace Mine
noncomputable def hasBit (x : Int) (j : Nat) : Bool := decide (x / 2 ^ j % 2 = 1)
noncomputable def namesB (x : Int) (i : Nat) : List Str := ((List.range i).filter (hasBit x)).map wordOf
theorem pr_step {x y : Int} {i : Nat} (hy : y = x / 2 ^ i * 2 ^ i) :
    (Builtin.bitAnd y (1 * 2 ^ i) ≠ 0 → hasBit x i = true ∧ Builtin.bitXor y (1 * 2 ^ i) = x / 2 ^ (i + 1) * 2 ^ (i + 1)) ∧
    (Builtin.bitAnd y (1 * 2 ^ i) = 0 → hasBit x i = false ∧ y = x / 2 ^ (i + 1) * 2 ^ (i + 1)) := by
  have hp := kbt_pos i
  have e1 : y / 2 ^ i = x / 2 ^ i := by rw [hy]; exact Int.mul_ediv_cancel _ (by omega)
  have e2 : Builtin.bitAnd y (1 * 2 ^ i) = (x / 2 ^ i % 2) * 2 ^ i := by rw [Int.one_mul, kbt_bit, e1]
  have e3 : x / 2 ^ (i + 1) = x / 2 ^ i / 2 := by rw [Int.pow_succ, Int.ediv_ediv_of_nonneg (Int.le_of_lt hp)]
  have e4 : (2 : Int) ^ (i + 1) = 2 ^ i * 2 := Int.pow_succ ..
  have hm : x / 2 ^ i % 2 = 0 ∨ x / 2 ^ i % 2 = 1 := by omega
  have e5 := Int.mul_ediv_add_emod (x / 2 ^ i) 2
  unfold hasBit
  rw [bitXor_and, e2, e3, e4, hy]
  generalize x / 2 ^ i = q at *
  have e6 : q / 2 * (2 ^ i * 2) = 2 * (q / 2) * 2 ^ i := by rw [Int.mul_comm (2 ^ i) 2, ← Int.mul_assoc, Int.mul_comm (q / 2) 2]
  rw [e6]
  constructor
  · intro h
    have h1 : q % 2 = 1 := by
      rcases hm with h0 | h0
      · rw [h0] at h; simp at h
      · exact h0
    refine ⟨decide_eq_true h1, ?_⟩
    rw [h1]
    have : q * 2 ^ i = (2 * (q / 2) + 1) * 2 ^ i := by rw [← h1, e5]
    rw [this, Int.add_mul]; omega
  · intro h
    have h1 : q % 2 = 0 := by
      rcases hm with h0 | h0
      · exact h0
      · rw [h0] at h; omega
    refine ⟨by rw [h1]; rfl, ?_⟩
    have : q = 2 * (q / 2) := by omega
    rw [← this]
theorem namesB_yes {x : Int} {i : Nat} (h : hasBit x i = true) : namesB x (i + 1) = namesB x i ++ [wordOf i] := by
  unfold namesB
  rw [List.range_succ, List.filter_append, List.map_append]
  simp [h]
theorem namesB_no {x : Int} {i : Nat} (h : hasBit x i = false) : namesB x (i + 1) = namesB x i := by
  unfold namesB
  rw [List.range_succ, List.filter_append, List.map_append]
  simp [h]
theorem namesB_over {x : Int} {i : Nat} (h0 : x / 2 ^ i = 0) : ∀ d, namesB x (i + d) = namesB x i
  | 0 => rfl
  | d + 1 => by
    rw [← Nat.add_assoc, namesB_no ?_, namesB_over h0 d]
    unfold hasBit
    have e : x / 2 ^ (i + d) = 0 := by
      rw [Int.pow_add, ← Int.ediv_ediv_of_nonneg (Int.le_of_lt (kbt_pos i)), h0]; simp
    rw [e]; rfl
theorem namesB_full {x : Int} {i : Nat} (hi : i ≤ 32) (h0 : x / 2 ^ i = 0) : namesB x i = namesB x 32 := by
  have := namesB_over h0 (32 - i)
  rw [Nat.add_sub_cancel' hi] at this
  exact this.symm
noncomputable def Plainly (w : Str) : Prop := w.length ≤ 20 ∧ 44 ∉ w.cps.toList ∧ 1 ≤ w.length
theorem wordOf_plain {i : Nat} (h : i < 32) : Plainly (wordOf i) := by
  have key : ∀ j : Fin 32, (decide ((wordOf j.val).length ≤ 20) && !((wordOf j.val).cps.toList.contains 44) && decide (1 ≤ (wordOf j.val).length)) = true := by decide +kernel
  have := key ⟨i, h⟩
  simp only [Bool.and_eq_true, decide_eq_true_eq, Bool.not_eq_true', List.contains_eq_mem, decide_eq_false_iff_not] at this
  exact ⟨this.1.1, this.1.2, this.2⟩
theorem wordOf_inj {i j : Nat} (hi : i < 32) (hj : j < 32) (h : wordOf i = wordOf j) : i = j := by
  have key : ∀ a b : Fin 32, (wordOf a.val == wordOf b.val) = (a == b) := by decide +kernel
  have := key ⟨i, hi⟩ ⟨j, hj⟩
  rw [h, beq_self_eq_true] at this
  have := eq_of_beq this.symm
  exact Fin.mk.inj this
theorem wordOf_ne0 {i : Nat} (hi : i < 32) : wordOf i ≠ PySem.Str.ofString "0x0" := by
  have key : ∀ a : Fin 32, (wordOf a.val == PySem.Str.ofString "0x0") = false := by decide +kernel
  intro h
  have := key ⟨i, hi⟩
  rw [h, beq_self_eq_true] at this
  cases this
theorem namesB_plain {x : Int} {i : Nat} (hi : i ≤ 32) : ∀ w ∈ namesB x i, Plainly w := by
  intro w hw
  obtain ⟨j, hj, rfl⟩ := List.mem_map.mp hw
  have := List.mem_range.mp (List.mem_filter.mp hj).1
  exact wordOf_plain (by omega)
theorem weight_of {l : List Str} (h : ∀ w ∈ l, Plainly w) (hl : l.length ≤ 40) : (l.map (·.length)).sum + l.length ≤ 1048576 := by
  have h1 := StrLaws.sumLen_le l (fun y hy => (h y hy).1)
  omega
theorem namesB_length {x : Int} {i : Nat} (hi : i ≤ 32) : (namesB x i).length ≤ 32 := by
  unfold namesB
  rw [List.length_map]
  have := List.length_filter_le (hasBit x) (List.range i)
  rw [List.length_range] at this
  omega
end Mine
end
section
theorem Mine.fresh_PlainT : True := by
  w_top off
  exact trivial
open PySem PySem.W PyProof.Rows PySem.StrLaws PySem.Builtin PySem.Builtin.Str
namespace Mine
noncomputable def sepT : Str := PySem.Str.ofString ", "
theorem sep_list : sepT.cps.toList = [44, 32] := by decide
theorem sep_len : sepT.length = 2 := by decide
theorem at_iff (x : Str) (k : Nat) : StrLaws.At x sepT x.length k ↔ (x.cps.toList.drop k).take 2 = [44, 32] := by
  unfold StrLaws.At
  rw [subAt_eq, sep_len, sep_list]
  constructor
  · intro h; exact eq_of_beq h.2
  · intro h
    refine ⟨?_, beq_iff_eq.mpr h⟩
    have h1 := congrArg List.length h
    have h2 : x.cps.toList.length = x.length := by simp [Str.length]
    simp at h1
    simp [Str.length] at *
    omega
theorem at_drop {x : Str} {M : List Nat} {a j : Nat} (hM : x.cps.toList.drop a = M) : StrLaws.At x sepT x.length (a + j) ↔ (M.drop j).take 2 = [44, 32] := by
  rw [at_iff, ← hM, List.drop_drop]
theorem not_at {M R : List Nat} (h : 44 ∉ M) {j : Nat} (hj : j < M.length) : ((M ++ R).drop j).take 2 ≠ [44, 32] := by
  intro e
  apply h
  have h1 := congrArg (fun l : List Nat => l[0]?) e
  simp [List.getElem?_append_left hj] at h1
  exact List.mem_of_getElem? h1
theorem str_of_list {a b : Str} (h : a.cps.toList = b.cps.toList) : a = b := Str.ext' (Array.toList_inj.mp h)
theorem parts_join (x : Str) : ∀ (ts : List Str) (a : Nat) (cuts : List Nat) (f : Nat), ts ≠ [] → (∀ t ∈ ts, 44 ∉ t.cps.toList) → x.cps.toList.drop a = (Str.join sepT ts).cps.toList →
    ChainG x sepT x.length a cuts f → (∀ k, f ≤ k → ¬ StrLaws.At x sepT x.length k) → partsFrom x sepT.length a cuts = ts
  | [], _, _, _, h, _, _, _, _ => absurd rfl h
  | [t], a, cuts, f, _, hc, hd, hch, hf => by
    have hd' : x.cps.toList.drop a = t.cps.toList := hd
    have none : ∀ k, a ≤ k → ¬ StrLaws.At x sepT x.length k := by
      intro k hk hA
      obtain ⟨j, rfl⟩ : ∃ j, k = a + j := ⟨k - a, by omega⟩
      rw [at_drop hd'] at hA
      by_cases hj : j < t.cps.toList.length
      · exact not_at (R := []) (hc t (.head _)) hj (by simpa using hA)
      · rw [List.drop_eq_nil_of_le (by omega)] at hA; cases hA
    cases cuts with
    | cons c r => exact absurd hch.2.1 (none c hch.1)
    | nil =>
      show [strSub x a x.length] = [t]
      congr 1
      apply str_of_list
      rw [strSub_toList, hd', List.take_of_length_le]
      have h2 : x.cps.toList.length = x.length := by simp [Str.length]
      rw [← hd', List.length_drop, h2]
      exact Nat.le_refl _
  | t :: t2 :: r, a, cuts, f, _, hc, hd, hch, hf => by
    have hd' : x.cps.toList.drop a = t.cps.toList ++ ([44, 32] ++ (Str.join sepT (t2 :: r)).cps.toList) := by
      rw [hd]
      show (t ++ sepT ++ Str.join sepT (t2 :: r)).cps.toList = _
      rw [cps_toList_append, cps_toList_append, sep_list, List.append_assoc]
    have here : StrLaws.At x sepT x.length (a + t.cps.toList.length) := by
      rw [at_drop hd', List.drop_left]; rfl
    have before : ∀ k, a ≤ k → k < a + t.cps.toList.length → ¬ StrLaws.At x sepT x.length k := by
      intro k hk hk2 hA
      obtain ⟨j, rfl⟩ : ∃ j, k = a + j := ⟨k - a, by omega⟩
      rw [at_drop hd'] at hA
      exact not_at (hc t (.head _)) (by omega) hA
    cases cuts with
    | nil =>
      have e : f = a := hch
      exact absurd here (hf _ (by omega))
    | cons c q =>
      obtain ⟨h1, h2, h3, h4⟩ := hch
      have ec : c = a + t.cps.toList.length := by
        rcases Nat.lt_trichotomy c (a + t.cps.toList.length) with h | h | h
        · exact absurd h2 (before c h1 h)
        · exact h
        · exact absurd here (h3 _ (by omega) h)
      subst ec
      show strSub x a (a + t.cps.toList.length) :: partsFrom x sepT.length (a + t.cps.toList.length + sepT.length) q = _
      rw [parts_join x (t2 :: r) (a + t.cps.toList.length + sepT.length) q f (by simp) (fun y hy => hc y (.tail _ hy)) ?_ h4 hf]
      · congr 1
        apply str_of_list
        rw [strSub_toList, hd', show a + t.cps.toList.length - a = t.cps.toList.length by omega, List.take_left']
        rfl
      · rw [Nat.add_assoc, ← List.drop_drop, hd', sep_len, ← List.drop_drop, List.drop_left]
        rfl
theorem split_join {ts : List Str} (h : ts ≠ []) (hc : ∀ t ∈ ts, 44 ∉ t.cps.toList) (hp : ∀ t ∈ ts, 1 ≤ t.length) : Txt.split (Txt.join sepT ts) sepT = ts := by
  have ej : Txt.join sepT ts = Str.join sepT ts := glued_eq_join sepT ts
  rw [ej]
  generalize hx : Str.join sepT ts = x
  obtain ⟨f, hch, hf⟩ := occ_tight x sepT (by rw [sep_len]; decide)
  have key := parts_join x ts 0 _ f h hc (by rw [List.drop_zero, hx]) hch hf
  have one : ∀ q, (¬ StrLaws.At x sepT x.length q ∨ True) := fun _ => .inr trivial
  unfold Txt.split
  split
  · -- too short or another kind: no cut, so one part
    rename_i hs
    have hk : strKind sepT = 1 := by decide +kernel
    have hk1 : 1 ≤ strKind x := strKind_pos x
    have hlen : x.length < sepT.length := by
      rw [hk] at hs
      simp only [Bool.or_eq_true, decide_eq_true_eq] at hs
      rcases hs with h1 | h1
      · exact h1
      · omega
    cases ho : occurrences x sepT 0 x.length (x.length + 1) with
    | nil =>
      rw [ho] at key
      rw [← key]
      show [x] = [strSub x 0 x.length]
      rw [sub_whole]
    | cons c r =>
      rw [ho] at hch
      have := hch.2.1.1
      omega
  · split
    · rename_i ho
      have ho' : occurrences x sepT 0 x.length (x.length + 1) = [] := List.isEmpty_iff.mp ho
      rw [ho'] at key
      rw [← key]
      show [x] = [strSub x 0 x.length]
      rw [sub_whole]
    · rw [partsBetween_eq, key]
end Mine
end
section
theorem Mine.fresh_PlainU : True := by
  w_top off
  exact trivial
open PySem PySem.W PyProof.Rows
namespace Mine
noncomputable def bits16 (x : Int) : List Nat := (List.range 16).filter (hasBit x)
theorem hasBit_shift {x : Int} {b i : Nat} : hasBit (x * 2 ^ b) (b + i) = hasBit x i := by
  unfold hasBit
  have hp := kbt_pos b
  rw [Int.pow_add, ← Int.ediv_ediv_of_nonneg (Int.le_of_lt hp), Int.mul_ediv_cancel _ (by omega)]
theorem hasBit_low {x : Int} {b j : Nat} (h : j < b) : hasBit (x * 2 ^ b) j = false := by
  unfold hasBit
  obtain ⟨d, rfl⟩ : ∃ d, b = j + (d + 1) := ⟨b - (j + 1), by rw [← Nat.add_assoc, Nat.add_right_comm, Nat.add_sub_cancel' h]⟩
  have hp := kbt_pos j
  have e : x * 2 ^ (j + (d + 1)) / 2 ^ j = x * 2 ^ d * 2 := by
    rw [Int.pow_add, Int.pow_succ, Int.mul_comm (2 ^ j), ← Int.mul_assoc, Int.mul_ediv_cancel _ (by omega), Int.mul_assoc]
  rw [e, decide_eq_false_iff_not, Int.mul_emod_left]
  decide
theorem namesB_shift {x : Int} {b : Nat} (h0 : 0 ≤ x) (h1 : x < 65536) (hb : b ≤ 16) : namesB (x * 2 ^ b) 32 = (bits16 x).map fun i => wordOf (b + i) := by
  have hz : x * 2 ^ b / 2 ^ (b + 16) = 0 := by
    have hp := kbt_pos b
    rw [Int.pow_add, ← Int.ediv_ediv_of_nonneg (Int.le_of_lt hp), Int.mul_ediv_cancel _ (by omega)]
    exact Int.ediv_eq_zero_of_lt h0 (by simpa using h1)
  rw [← namesB_full (by omega) hz]
  unfold namesB bits16
  rw [List.range_add, List.filter_append, List.map_append]
  have e1 : (List.range b).filter (hasBit (x * 2 ^ b)) = [] := by
    rw [List.filter_eq_nil_iff]
    intro j hj
    rw [hasBit_low (List.mem_range.mp hj)]; simp
  rw [e1, List.map_nil, List.nil_append, List.filter_map, List.map_map]
  have e2 : (hasBit (x * 2 ^ b) ∘ fun x => b + x) = hasBit x := by
    funext i
    exact hasBit_shift
  rw [e2]
  rfl
theorem low_clear {x : Int} : ∀ i : Nat, (∀ j, j < i → hasBit x j = false) → x / 2 ^ i * 2 ^ i = x
  | 0, _ => by simp
  | i + 1, h => by
    have ih := low_clear i fun j hj => h j (by omega)
    have hi := h i (by omega)
    unfold hasBit at hi
    rw [decide_eq_false_iff_not] at hi
    have hp := kbt_pos i
    rw [Int.pow_succ, ← Int.ediv_ediv_of_nonneg (Int.le_of_lt hp)]
    generalize x / 2 ^ i = q at *
    have e : q / 2 * (2 ^ i * 2) = 2 * (q / 2) * 2 ^ i := by rw [Int.mul_comm (2 ^ i) 2, ← Int.mul_assoc, Int.mul_comm (q / 2) 2]
    have : 2 * (q / 2) = q := by omega
    rw [e, this, ih]
theorem bits16_nil {x : Int} (h0 : 0 ≤ x) (h1 : x < 65536) (h : bits16 x = []) : x = 0 := by
  have hl := low_clear (x := x) 16 fun j hj => by
    unfold bits16 at h
    rw [List.filter_eq_nil_iff] at h
    have := h j (List.mem_range.mpr hj)
    simpa using this
  have : x / 2 ^ 16 = 0 := Int.ediv_eq_zero_of_lt h0 (by simpa using h1)
  rw [this] at hl
  omega
theorem bits16_zero : bits16 0 = [] := by decide +kernel
/-- what pretty_flags tells, cut -/
noncomputable def toldL (x : Int) (b : Nat) : List Str := if x = 0 then [PySem.Str.ofString "0x0"] else (bits16 x).map fun i => wordOf (b + i)
theorem told_cut {x : Int} {b : Nat} (h0 : 0 ≤ x) (h1 : x < 65536) (hb : b ≤ 16) :
    Txt.split (Txt.join (PySem.Str.ofString ", ") (if x * 2 ^ b = 0 then [PySem.Str.ofString "0x0"] else namesB (x * 2 ^ b) 32)) (PySem.Str.ofString ", ") = toldL x b := by
  have hp := kbt_pos b
  have hz : x * 2 ^ b = 0 ↔ x = 0 := by
    rw [Int.mul_eq_zero]; omega
  unfold toldL
  by_cases hx : x = 0
  · rw [if_pos (hz.mpr hx), if_pos hx]
    exact split_join (by simp) (fun t ht => by rw [List.mem_singleton.mp ht]; decide) (fun t ht => by rw [List.mem_singleton.mp ht]; decide)
  · rw [if_neg (fun h => hx (hz.mp h)), if_neg hx, namesB_shift h0 h1 hb]
    have hpl : ∀ t ∈ (bits16 x).map (fun i => wordOf (b + i)), Plainly t := by
      rw [← namesB_shift h0 h1 hb]; exact namesB_plain (Nat.le_refl _)
    refine split_join ?_ (fun t ht => (hpl t ht).2.1) (fun t ht => (hpl t ht).2.2)
    intro h
    exact hx (bits16_nil h0 h1 (by simpa using h))
theorem told_in {x : Int} {b i : Nat} (hb : b ≤ 16) (hi : i < 16) : (toldL x b).any (· == wordOf (b + i)) = hasBit x i := by
  unfold toldL
  by_cases hx : x = 0
  · rw [if_pos hx]
    have e : hasBit x i = false := by
      rw [hx]; unfold hasBit; simp
    rw [e]
    simp only [List.any_cons, List.any_nil, Bool.or_false, beq_eq_false_iff_ne]
    exact Ne.symm (wordOf_ne0 (by omega))
  · rw [if_neg hx, Bool.eq_iff_iff, List.any_eq_true]
    constructor
    · rintro ⟨w, hw, he⟩
      obtain ⟨j, hj, rfl⟩ := List.mem_map.mp hw
      have hj' := List.mem_filter.mp hj
      have := wordOf_inj (i := b + j) (j := b + i) (by have := List.mem_range.mp hj'.1; omega) (by omega) (eq_of_beq he)
      have : j = i := by omega
      rw [← this]; exact hj'.2
    · intro h
      exact ⟨_, List.mem_map.mpr ⟨i, List.mem_filter.mpr ⟨List.mem_range.mpr hi, h⟩, rfl⟩, by simp⟩
theorem toldL_or {x : Int} {b : Nat} (h0 : 0 ≤ x) (h1 : x < 65536) : toldL x b = if (bits16 x).length = 0 then [PySem.Str.ofString "0x0"] else (bits16 x).map fun i => wordOf (b + i) := by
  unfold toldL
  by_cases hx : x = 0
  · subst hx
    rw [if_pos rfl, bits16_zero]; rfl
  · rw [if_neg hx, if_neg]
    intro h
    exact hx (bits16_nil h0 h1 (List.eq_nil_of_length_eq_zero h))
end Mine
end
section
theorem Mine.fresh_W27a : True := by
  w_top off
  exact trivial
open PySem PySem.W PyProof.Rows PySem.Calls PyProof.V PySem.Spec PySem.SeqAt
namespace Mine
theorem canLayAll0_strs : ∀ ns : List Str, (∀ n ∈ ns, PyData.strOk n = true) → PyData.canLayAll0 (ns.map PyData.str) = true
  | [], _ => by simp [PyData.canLayAll0]
  | n :: r, h => by simp [PyData.canLayAll0, PyData.canLay0, h n (.head _), canLayAll0_strs r fun y hy => h y (.tail _ hy)]
theorem depthAll_strs : ∀ ns : List Str, PyData.depthAll (ns.map PyData.str) ≤ 1
  | [] => by simp [PyData.depthAll]
  | n :: r => by
    have := depthAll_strs r
    simp only [List.map_cons, PyData.depthAll, PyData.depth]
    omega
theorem shaped_strs {ns : List Str} (h : ∀ n ∈ ns, PyData.strOk n = true) : shaped (.list (ns.map PyData.str)) = true := by
  have h1 := depthAll_strs ns
  have h2 : PyData.depth (.list (ns.map PyData.str)) ≤ 64 := by simp only [PyData.depth]; omega
  show (PyData.canLay0 (.list (ns.map PyData.str)) && decide (PyData.depth (.list (ns.map PyData.str)) ≤ 64)) = true
  rw [Bool.and_eq_true]
  exact ⟨by simp only [PyData.canLay0]; exact canLayAll0_strs ns h, decide_eq_true h2⟩
theorem same_strs : ∀ ns ms : List Str, PySem.Spec.sameAll (ns.map PyData.str) (ms.map PyData.str) = decide (ns = ms)
  | [], [] => by simp [PySem.Spec.sameAll]
  | [], _ :: _ => by simp [PySem.Spec.sameAll]
  | _ :: _, [] => by simp [PySem.Spec.sameAll]
  | n :: r, k :: q => by
    simp only [List.map_cons, PySem.Spec.sameAll, PySem.Spec.same, same_strs r q]
    by_cases h : n = k <;> simp [h]
theorem noMix_strs : ∀ ns ms : List Str, noMixAll (ns.map PyData.str) (ms.map PyData.str) = true
  | [], [] => by simp [noMixAll]
  | [], _ :: _ => by simp [noMixAll]
  | _ :: _, [] => by simp [noMixAll]
  | _ :: r, _ :: q => by simp [noMixAll, noMix, noMix_strs r q]
section
variable {prog : Program} {w : World} {A : Around} {E : Value → Shared → Prop} {s : Shared}
theorem eq_strsK {a b : Addr} {xs ys : List Value} {ns ms : List Str} {Q : Value → Shared → Prop} (ha : s.heap.IsList a xs.toArray) (hb : s.heap.IsList b ys.toArray) (hi : StrsAre xs ns) (hj : StrsAre ys ms) (h1 : ∀ n ∈ ns, PyData.strOk n = true) (h2 : ∀ n ∈ ms, PyData.strOk n = true) (hu : A.units + 64 < cLine) (h : Q (.bool (decide (ns = ms))) s) :
    wpAny (model prog w) A (compareOp .Eq (.ref a) (.ref b)) Q E s :=
  eq_dataH_same (reads_newData ha hi.carried) (reads_newData hb hj.carried) (shaped_strs h1) (shaped_strs h2) hu (by simp only [noMix]; exact noMix_strs ns ms) (by simp only [PySem.Spec.same]; rw [same_strs]; exact h)
end
theorem wordOf_ok {i : Nat} (h : i < 32) : PyData.strOk (wordOf i) = true := by
  have key : ∀ j : Fin 32, PyData.strOk (wordOf j.val) = true := by decide +kernel
  exact key ⟨i, h⟩
theorem toldL_ok {x : Int} {b : Nat} (hb : b ≤ 16) : ∀ n ∈ toldL x b, PyData.strOk n = true := by
  unfold toldL
  by_cases hx : x = 0
  · rw [if_pos hx]
    intro n hn
    rw [List.mem_singleton.mp hn]; decide +kernel
  · rw [if_neg hx]
    intro n hn
    obtain ⟨i, hi, rfl⟩ := List.mem_map.mp hn
    have := List.mem_range.mp (List.mem_filter.mp hi).1
    exact wordOf_ok (by omega)
end Mine
end
section
theorem Mine.fresh_W26 : True := by
  w_top off
  exact trivial
open PySem PySem.W PyProof.Rows PySem.Calls PySem.Spec
namespace Mine
theorem fillK26 (w : World) : row.name = row.name ∧ Kf w.params = Kf w.params := by
  k_fill
  exact ⟨rfl, rfl⟩
local macro_rules | `(tactic| walk_at "mine steps") => `(tactic| w_strict (repeat' (walk_at "mine no 0"; walk_at "mine no 1"; walk_at "mine no 9"; walk_at "mine no 10"; walk_at "mine no 11"; walk_at "mine no 5"; walk_at "mine no 6"; walk_at "mine no 7"; walk_at "mine no 8"; walk_at "mine core")))
noncomputable def flagTab : List (Int × PyData) := [(1, PyData.str { cps := #[79, 80, 84, 73, 77, 73, 90, 69, 68] }), (2, PyData.str { cps := #[78, 69, 87, 76, 79, 67, 65, 76, 83] }), (4, PyData.str { cps := #[86, 65, 82, 65, 82, 71, 83] }), (8, PyData.str { cps := #[86, 65, 82, 75, 69, 89, 87, 79, 82, 68, 83] }), (16, PyData.str { cps := #[78, 69, 83, 84, 69, 68] }), (32, PyData.str { cps := #[71, 69, 78, 69, 82, 65, 84, 79, 82] }), (64, PyData.str { cps := #[78, 79, 70, 82, 69, 69] }), (128, PyData.str { cps := #[67, 79, 82, 79, 85, 84, 73, 78, 69] }), (256, PyData.str { cps := #[73, 84, 69, 82, 65, 66, 76, 69, 95, 67, 79, 82, 79, 85, 84, 73, 78, 69] }), (512, PyData.str { cps := #[65, 83, 89, 78, 67, 95, 71, 69, 78, 69, 82, 65, 84, 79, 82] })]
noncomputable def textOf (d : PyData) : Option Str := match d with | .str w => some w | _ => none
theorem flag_get {i : Nat} (h : i < 32) : (PySem.Spec.lookup (.int (1 * 2 ^ i)) (flagTab.map fun p => (PyData.int p.1, p.2))).getD (.str (baseText "0x" 16 (1 * 2 ^ i))) = .str (wordOf i) := by
  have key : ∀ a : Fin 32, (textOf ((PySem.Spec.lookup (.int (1 * 2 ^ a.val)) (flagTab.map fun p => (PyData.int p.1, p.2))).getD (.str (baseText "0x" 16 (1 * 2 ^ a.val)))) == some (wordOf a.val)) = true := by decide +kernel
  have := eq_of_beq (key ⟨i, h⟩)
  generalize (PySem.Spec.lookup (.int (1 * 2 ^ i)) (flagTab.map fun p => (PyData.int p.1, p.2))).getD (.str (baseText "0x" 16 (1 * 2 ^ i))) = d at *
  cases d with
  | str w => exact congrArg PyData.str (Option.some.inj this)
  | _ => cases this
noncomputable def PrettyJ (x : Int) (nl : Addr) (i : Nat) (m : Str → Option Value) (nx : List (Addr × Obj)) : Prop :=
  ∃ ys k y ty, nx = [(nl, listOf (List.toArray ys) k)] ∧ m "names" = some (.ref nl) ∧ m "flags" = some (.int y ty) ∧ y = x / 2 ^ i * 2 ^ i ∧ StrsAre ys (namesB x i) ∧ (x ≠ 0 → y ≠ 0)
theorem pretty_spec {w : World} {A : Around} {E : Value → Shared → Prop} {s : Shared} {h₀ : Heap} {L : Addr} {m : Str → Option Value} {rest : List (Addr × Obj)} {Q : Value → Shared → Prop} {x : Int} {t : Tok}
    (X : Ok w h₀) (Y : At A L h₀ 20) (F : Fr h₀ L s.heap m) (N : News h₀ L s.heap rest)
    (hx : 0 ≤ x) (hxb : x < 2 ^ 32)
    (ret : ∀ t' h' tk', Fr h₀ L h' m → News h₀ L h' rest → Q (.str (PySem.Txt.join (PySem.Str.ofString ", ") (if x = 0 then [PySem.Str.ofString "0x0"] else namesB x 32)) t') { s with heap := h', toks := tk' }) :
    wpAny (model row.row.prog w) A (call (.ref 82) [.int x t]) Q E s := by
  obtain ⟨ha, dp, fr, gd, un0⟩ := A
  obtain rfl : ha = none := Y.hh
  refine enterM (mu := []) (stay := rest) (binds := [("flags", .int x t)]) (dep := 19) X Y F News.nil N (fun _ _ _ h => nomatch h) (by k_is) (by k_is) (by exact BindsTo.of_eq rfl) (by exact locs rfl) (by decide) (by exact rfl) (by exact rfl) (by exact rfl) ?_
  intro g L' h₁ X' Y' gk gs F' N' lt1 lt2
  obtain ⟨p, loose, mean, mg, mb, T'⟩ := X'.top
  have K' := X'.K
  show wpAny _ _ _ _ _ _
  k_fold
  walk_at "mine steps"
  rename_i nl h2x l2x h2 F2 N2
  refine forG ?_ (fun _ => rfl)
  walk_at "mine steps"
  rename_i h3 tk3 t3 u3 v3 hR F3 N3 hk3
  refine rangeG (n := 32) (PrettyJ x nl) rfl (fun _ _ => rfl) PassesOwn.never hR (by decide) (by decide) F3 N3 ⟨[], 0, x, t, rfl, rfl, rfl, by simp, .nil, id⟩ ?_ ?_
  · intro I i ti m₁ nx h4 tk4 o hI hi hJ hne F4 N4
    obtain ⟨ys, k, y, ty, rfl, hm1, hm2, hy, hys, hnz⟩ := hJ
    have F5 := fr2 hm1 hm2 F4
    have hI1 : @LT.lt Nat _ nl I := hI _ (.head _)
    rw [Int.zero_add]
    obtain ⟨z, hz⟩ : ∃ z : Int, z = (i : Int) := ⟨_, rfl⟩
    have hz0 : 0 ≤ z := by omega
    have hz1 : z < 32 := by omega
    rw [← hz]
    refine wpAny_assign_Name ?_
    clear F4
    have hzi : z.toNat = i := by omega
    obtain ⟨st1, st2⟩ := pr_step hy
    have hyl : ys.length ≤ 32 := by rw [hys.length]; exact namesB_length (by omega)
    walk_at "mine steps"
    · rename_i h5 _ _ h6 F6 N6 _ _ hb ky
      have ky' : KTD.Keyed g 75 flagTab := ky
      rw [hzi] at hb
      obtain ⟨hbit, hxor⟩ := st1 hb
      rw [hzi] at F6 ⊢
      refine P.hex_of_int ?_ (by rw [Int.one_mul]; exact hex_len hi)
      walk_at "mine steps"
      refine call_get2_intTab (KTD.tab_keep (ky' _ _) F6.keep) (PyProof.V.Flat.str _ _) ?_
      intro v hv
      rw [flag_get hi] at hv
      obtain ⟨tv, rfl⟩ := hv.str_inv
      walk_at "mine steps"
      · rename_i h7 _ _ h8 F8 N8 hne2
        refine ⟨_, _, _, [(nl, listOf (ys ++ [Value.str (wordOf i) tv]).toArray (k + 1))], rfl, F8, ?_, ?_, ys ++ [Value.str (wordOf i) tv], k + 1, _, _, rfl, rfl, rfl, hxor, ?_, fun _ => hne2⟩
        · rw [List.push_toArray] at N8
          exact N8
        · exact List.forall_mem_cons.mpr ⟨Nat.ne_of_lt hI1, List.forall_mem_nil _⟩
        · rw [namesB_yes hbit]
          exact hys.append' (.cons _ _ .nil)
      · rename_i h7 _ _ h8 F8 N8 _ _ h0
        rw [hxor] at h0
        have hq0 : x / 2 ^ (i + 1) = 0 := by
          rcases Int.mul_eq_zero.mp h0 with h | h
          · exact h
          · have := kbt_pos (i + 1); omega
        have hfull := namesB_full (x := x) (i := i + 1) (by omega) hq0
        have hxne : x ≠ 0 := by
          intro h
          rw [h] at hbit
          unfold hasBit at hbit
          simp at hbit
        rw [List.push_toArray] at N8
        have hys2 : StrsAre (ys ++ [Value.str (wordOf i) tv]) (namesB x 32) := by
          rw [← hfull, namesB_yes hbit]
          exact hys.append' (.cons _ _ .nil)
        show wpAny _ _ (execs _ _) _ _ _
        walk_at "mine steps"
        refine join_listW (News.isList N8 (.tail _ (.head _))) (by simpa using hys2) (by decide) (weight_of (namesB_plain (Nat.le_refl _)) (Nat.le_trans (namesB_length (Nat.le_refl _)) (by decide))) ?_
        intro t9 tk9
        rw [if_neg hxne] at ret
        show LeaveM h₀ L m g rest Q _ _
        exact leaveM F8 News.nil (fun F3 N3 => ret _ _ _ F3 N3)
    · rename_i h5 _ _ h6 F6 N6 hb
      rw [hzi] at hb F6
      obtain ⟨hbit, hsame⟩ := st2 hb
      exact ⟨_, _, _, _, rfl, F6, N6, hne, ys, k, y, ty, rfl, rfl, rfl, hsame, by rw [namesB_no hbit]; exact hys, hnz⟩
  · intro m₁ nx h4 tk4 hJ F4 N4
    obtain ⟨ys, k, y, ty, rfl, hm1, hm2, hy, hys, hnz⟩ := hJ
    have F5 := fr2 hm1 hm2 F4
    clear F4
    have hq0 : x / 2 ^ 32 = 0 := Int.ediv_eq_zero_of_lt hx hxb
    have hy0 : y = 0 := by rw [hy, hq0, Int.zero_mul]
    subst hy0
    have hx0 : x = 0 := by
      by_cases h : x = 0
      · exact h
      · exact absurd rfl (hnz h)
    subst hx0
    have hyl : ys = [] := by
      have e : namesB 0 32 = [] := by decide +kernel
      rw [e] at hys
      cases hys
      rfl
    subst hyl
    walk_at "mine steps"
    have e0 : baseText "0x" 16 0 = PySem.Str.ofString "0x0" := by decide +kernel
    refine P.hex_of_int ?_ (by rw [e0]; decide)
    rw [e0]
    walk_at "mine steps"
    rename_i h6 F6 N6
    refine join_listW (ys := [PySem.Str.ofString "0x0"]) (News.isList N6 (.head _)) (by exact .cons _ _ .nil) (by decide) (by decide) ?_
    intro t9 tk9
    rw [if_pos rfl] at ret
    show LeaveM h₀ L m g rest Q _ _
    exact leaveM F6 News.nil (fun F3 N3 => ret _ _ _ F3 N3)
end Mine
end
local macro_rules | `(tactic| walk_at "mine pad") => `(tactic| fail "pad")
local macro_rules | `(tactic| walk_at "mine pad") => `(tactic| fail "pad")
section
theorem Mine.fresh_W27 : True := by
  w_top off
  exact trivial
open PySem PySem.W PyProof.Rows PySem.Calls PySem.Spec
namespace Mine
theorem fillK27 (w : World) : row.name = row.name ∧ Kf w.params = Kf w.params := by
  k_fill
  exact ⟨rfl, rfl⟩
local macro_rules | `(tactic| walk_at "mine steps") => `(tactic| w_strict (repeat' (walk_at "mine no 0"; walk_at "mine no 1"; walk_at "mine no 12"; walk_at "mine no 13"; walk_at "mine no 14"; walk_at "mine no 5"; walk_at "mine no 6"; walk_at "mine no 7"; walk_at "mine no 8"; walk_at "mine core")))
noncomputable def bitsI (x : Int) : List Int := (bits16 x).map Int.ofNat
theorem shift_bound {x : Int} {b : Nat} (h0 : 0 ≤ x) (h1 : x < 65536) (hb : b ≤ 16) : 0 ≤ x * 2 ^ b ∧ x * 2 ^ b < 2 ^ 32 := by
  have hp := kbt_pos b
  have h2 : (2 : Nat) ^ b ≤ 2 ^ 16 := Nat.pow_le_pow_right (by decide) hb
  have h3 := kbt_cast b
  have h4 : (2 : Int) ^ b ≤ 65536 := by omega
  refine ⟨Int.mul_nonneg h0 (Int.le_of_lt hp), ?_⟩
  have h5 : x * 2 ^ b ≤ 65535 * 65536 := Int.mul_le_mul (by omega) h4 (Int.le_of_lt hp) (by decide)
  have h6 : (2 : Int) ^ 32 = 4294967296 := by decide
  omega
theorem text_len {x : Int} : (Txt.join (PySem.Str.ofString ", ") (if x = 0 then [PySem.Str.ofString "0x0"] else namesB x 32)).length + 2 ≤ sizeLine := by
  have e : ∀ ts, Txt.join (PySem.Str.ofString ", ") ts = Str.join sepT ts := fun ts => StrLaws.glued_eq_join sepT ts
  rw [e, PySem.sizeLine_eq]
  have h1 := StrLaws.join_length_le sepT (if x = 0 then [PySem.Str.ofString "0x0"] else namesB x 32)
  rw [sep_len] at h1
  have h2 : ∀ w ∈ (if x = 0 then [PySem.Str.ofString "0x0"] else namesB x 32), w.length ≤ 20 := by
    by_cases hx : x = 0
    · rw [if_pos hx]
      intro w hw
      rw [List.mem_singleton.mp hw]; decide
    · rw [if_neg hx]
      exact fun w hw => (namesB_plain (Nat.le_refl _) w hw).1
  have h3 : (if x = 0 then [PySem.Str.ofString "0x0"] else namesB x 32).length ≤ 32 := by
    by_cases hx : x = 0
    · rw [if_pos hx]; decide
    · rw [if_neg hx]; exact namesB_length (Nat.le_refl _)
  have h4 := StrLaws.sumLen_le _ h2
  generalize (if x = 0 then [PySem.Str.ofString "0x0"] else namesB x 32) = ts at *
  omega
theorem upTo_yes {x : Int} {j : Nat} (h : hasBit x j = true) : ((List.range (j + 1)).filter (hasBit x)).map Int.ofNat = ((List.range j).filter (hasBit x)).map Int.ofNat ++ [(j : Int)] := by
  rw [List.range_succ, List.filter_append, List.map_append]
  simp [h]
theorem upTo_no {x : Int} {j : Nat} (h : hasBit x j = false) : ((List.range (j + 1)).filter (hasBit x)).map Int.ofNat = ((List.range j).filter (hasBit x)).map Int.ofNat := by
  rw [List.range_succ, List.filter_append, List.map_append]
  simp [h]
theorem room64t {A : Around} {L : Addr} {h : Heap} {dep : Nat} (Y : At A L h dep) (hd : 8 ≤ dep) : A.units + 64 < cLine := by have := Y.hu; omega
theorem told_spec {w : World} {A : Around} {E : Value → Shared → Prop} {s : Shared} {h₀ : Heap} {L : Addr} {m : Str → Option Value} {rest : List (Addr × Obj)} {Q : Value → Shared → Prop} {x b : Int} {t u : Tok}
    (X : Ok w h₀) (Y : At A L h₀ 30) (F : Fr h₀ L s.heap m) (N : News h₀ L s.heap rest)
    (hx : 0 ≤ x) (hxb : x < 65536) (hb : 0 ≤ b) (hbb : b ≤ 16)
    (ret : ∀ D ys k h' tk', Fr h₀ L h' m → News h₀ L h' ((D, listOf (List.toArray ys) k) :: rest) → IntsAre ys (bitsI x) → (∀ p ∈ rest, p.1 ≠ D) → Q (.ref D) { s with heap := h', toks := tk' }) :
    wpAny (model row.row.prog w) A (call (.ref 113) [.int x t, .int b u]) Q E s := by
  obtain ⟨ha, dp, fr, gd, un0⟩ := A
  obtain rfl : ha = none := Y.hh
  refine enterMC (mu := []) (stay := rest) (binds := [("family", .int x t), ("base", .int b u)]) (dep := 29) X Y F News.nil N (fun _ _ _ h => nomatch h) (by k_is) (by k_is) (by exact BindsTo.of_eq rfl) (by exact rfl) (by decide +kernel) (by exact rfl) (by exact rfl) (by exact rfl) ?_
  intro g L' h₁ tk cells X' Y' gk gs F' N' CA lt1 lt2
  obtain ⟨o1, o2, hE, d1, d2⟩ := CellsAre.two CA
  subst hE
  clear CA
  simp only [List.cons_append, List.nil_append] at N'
  obtain ⟨p, loose, mean, mg, mb, T'⟩ := X'.top
  have K' := X'.K
  have hLn : @LT.lt Nat _ L' h₁.objs.size := F'.ns.lt
  have hn0 := next_is_new F'
  show wpAny _ _ _ _ _ _
  k_fold
  walk_at "mine steps"
  rename_i h3 tk3 t3 u3 v3 hR F3 N3 hk3
  have hRn : News g L' h3 ((h₁.objs.size, { cls := .type "range", dict := none, data := .fields #[.int b t3, .int (b + 16) u3, .int 1 v3], slots := #[] }) :: [(L' + 1 + 1, o1), (L' + 1, o2)]) := fun p hp => by
    rcases List.mem_cons.mp hp with rfl | hp
    · exact ⟨hR, Nat.ne_of_gt hLn, hn0⟩
    · exact N3 p hp
  refine words_spec X' (Y'.less (by omega)) F3 hRn hb hbb (.head _) ?_
  intro W ws kw h4 tk4 F4 N4 hws hap4
  have hW1 : @Ne Nat (L' + 1 + 1) W := hap4 (L' + 1 + 1, o1) (.tail _ (.head _))
  have hW2 : @Ne Nat (L' + 1) W := hap4 (L' + 1, o2) (.tail _ (.tail _ (.head _)))
  obtain ⟨bn, hbn⟩ : ∃ bn : Nat, bn = b.toNat := ⟨_, rfl⟩
  have hb16 : bn ≤ 16 := by omega
  have hfb : 0 ≤ x * 2 ^ b.toNat ∧ x * 2 ^ b.toNat < 2 ^ 32 := by rw [← hbn]; exact shift_bound hx hxb hb16
  walk_at "mine steps"
  rename_i h5 oc5 F5 N5 hoc5
  refine pretty_spec X' (Y'.less (by omega)) F5 N5 hfb.1 hfb.2 ?_
  intro t6 h6 tk6 F6 N6
  walk_at "mine steps"
  refine KSpl.split1 F6 N6 (by decide) ?_ (text_len (x := x * 2 ^ b.toNat))
  intro D l h7 k7 hl hst F7 N7 hlt7
  rw [← hbn, told_cut hx hxb hb16] at hl
  rw [hl] at hst
  generalize hlv : strValues l = tv at *
  clear hl hlv l
  simp only [List.cons_append, List.nil_append] at hlt7
  have hD1 : @LT.lt Nat _ (L' + 1 + 1) D := hlt7 (L' + 1 + 1, o1) (by walk_at "mine deep")
  have hD2 : @LT.lt Nat _ (L' + 1) D := hlt7 (L' + 1, oc5) (by walk_at "mine deep")
  walk_at "mine steps"
  rename_i h8 oc8 F8 N8 hoc8
  simp only [List.cons_append, List.nil_append] at N8
  refine LCt.Assign_ListComp_T (F₀ := F8) rfl (by with_unfolding_all rfl) (by with_unfolding_all rfl) (by decide) (by rfl) (by decide) (by rfl) (by rfl) (by rfl) ?_
  walk_at "mine steps"
  rename_i h9 tk9 t9 u9 v9 hR9 F9 N9 hk9
  refine LCt.CompSrcT.range (n := 16) rfl F9 N9 hR9 (by decide) (by decide) (by decide) ?_
  intro g9
  refine restKT (fun j ys => IntsAre ys (((List.range j).filter (hasBit x)).map Int.ofNat)) trivial .nil ?_ ?_
  · intro j y ys I oI C oC D3 m₂ h10 tk10 E' hj hy hys hoC hx2 F10 N10 off10 ne10
    obtain ⟨ty, rfl⟩ := hy
    rw [Int.zero_add] at hx2
    walk_at "mine steps"
    have hwj : ((List.range 16).map fun j => wordOf (b.toNat + j)).getD ((j : Nat) : Int).toNat Str.empty = wordOf (bn + j) := by
      rw [Int.toNat_natCast, List.getD_eq_getElem?_getD, List.getElem?_map, List.getElem?_range hj, hbn]; rfl
    refine KTb.item_list (News.isList N10 (by walk_at "mine deep")) hws (by omega) (by rw [List.length_map, List.length_range]; omega) (by omega) ?_
    intro t11 _
    rw [hwj]
    walk_at "mine steps"
    refine in_list_strs (News.isList N10 (by walk_at "mine deep")) hst ?_
    rw [told_in hb16 hj]
    walk_at "mine steps"
    · rename_i hbit
      exact ⟨_, _, rfl, F10, N10, by rw [upTo_yes hbit]; exact IntsAre.append hys (.cons _ _ .nil)⟩
    · rename_i hbit
      exact ⟨_, _, rfl, F10, N10, by rw [upTo_no hbit]; exact hys⟩
  · intro ys hys D3 h10 tk10 F10 N10 off10
    walk_at "mine steps"
    refine LCg.ListComp_U (F₀ := F10) (by with_unfolding_all rfl) (by decide) (by rfl) (by decide) (by rfl) ?_
    walk_at "mine steps"
    have hyl : ys.length ≤ 16 := by
      rw [hys.length, List.length_map]
      exact Nat.le_trans (List.length_filter_le _ _) (by simp)
    refine LCg.CompSrc.ledger (its := ys.toArray) (k := ys.length) rfl F10 N10 (.head _) (by rw [List.size_toArray, PySem.sizeLine_eq]; omega) ?_
    intro g11
    refine restK (fun j zs => StrsAre zs (((bits16 x).take j).map fun i => wordOf (bn + i))) (.inr ⟨_, .head _, rfl, _, rfl⟩) .nil ?_ ?_
    · intro j v zs I oI C oC D4 m₂ h12 tk12 E' hj hv hzs hoC hx2 F12 N12
      obtain ⟨kk, tv', rfl, hk⟩ := IntsAre.at hys j v (by simpa using hv)
      rw [List.getElem?_map] at hk
      obtain ⟨q, hq, hqk⟩ := Option.map_eq_some_iff.mp hk
      have hq16 : q < 16 := List.mem_range.mp (List.mem_filter.mp (List.mem_of_getElem? hq)).1
      have hkk : kk = (q : Int) := hqk.symm
      subst hkk
      walk_at "mine steps"
      have hwj : ((List.range 16).map fun j => wordOf (b.toNat + j)).getD ((q : Nat) : Int).toNat Str.empty = wordOf (bn + q) := by
        rw [Int.toNat_natCast, List.getD_eq_getElem?_getD, List.getElem?_map, List.getElem?_range hq16, hbn]; rfl
      refine KTb.item_list (News.isList N12 (by walk_at "mine deep")) hws (by omega) (by rw [List.length_map, List.length_range]; omega) (by omega) ?_
      intro t11 _
      rw [hwj]
      refine ⟨_, _, rfl, F12, N12, ?_⟩
      have hq' : (bits16 x)[j]? = some q := hq
      rw [List.take_add_one, hq', List.map_append]
      exact hzs.append' (.cons _ _ .nil)
    · intro zs hzs D4 h12 tk12 F12 N12 off12
      have hbl : (bits16 x).length = ys.toArray.size := by rw [List.size_toArray, hys.length, List.length_map]; rfl
      rw [← hbl, List.take_length] at hzs
      have hzl : zs.length = (bits16 x).length := by rw [hzs.length, List.length_map]
      refine wpAny_truthy_list (News.isList N12 (.head _)) (by rw [List.size_toArray, hzl, hbl, List.size_toArray]; omega) ?_
      have htr : (!zs.toArray.isEmpty) = !decide ((bits16 x).length = 0) := by
        rw [← hzl]
        cases zs <;> simp
      rw [htr]
      have hor := toldL_or (b := bn) hx hxb
      by_cases hl0 : (bits16 x).length = 0
      · rw [if_pos hl0] at hor
        simp only [hl0, decide_true, Bool.not_true, Bool.false_eq_true, if_false]
        walk_at "mine steps"
        rename_i l13 h13 F13 N13 l14
        have hok := toldL_ok (x := x) hb16
        refine eq_strsK (ms := [PySem.Str.ofString "0x0"]) (News.isList N13 (by walk_at "mine deep")) (News.isList N13 (.head _)) hst (.cons _ _ .nil) hok (by rw [← hor]; exact hok) (room64t Y' (by decide)) ?_
        rw [decide_eq_true hor]
        walk_at "mine steps"
        show LeaveM h₀ L m g rest Q _ _
        exact leaveM F13 (nsub (b := [(D3, LCg.lst ys)]) N13 (by walk_at "mine sub")) (fun F3 N3 => ret D3 ys _ _ _ F3 N3 hys (apart_of gs N13 (by walk_at "mine deep")))
      · rw [if_neg hl0] at hor
        simp only [hl0, decide_false, Bool.not_false, if_true]
        walk_at "mine steps"
        have hok := toldL_ok (x := x) hb16
        refine eq_strsK (News.isList N12 (by walk_at "mine deep")) (News.isList N12 (.head _)) hst hzs hok (by rw [← hor]; exact hok) (room64t Y' (by decide)) ?_
        rw [decide_eq_true hor]
        walk_at "mine steps"
        show LeaveM h₀ L m g rest Q _ _
        exact leaveM F12 (nsub (b := [(D3, LCg.lst ys)]) N12 (by walk_at "mine sub")) (fun F3 N3 => ret D3 ys _ _ _ F3 N3 hys (apart_of gs N12 (by walk_at "mine deep")))
end Mine
end
local macro_rules | `(tactic| walk_at "mine pad") => `(tactic| fail "pad")
local macro_rules | `(tactic| walk_at "mine pad") => `(tactic| fail "pad")
section
theorem Mine.fresh_W28 : True := by
  w_top off
  exact trivial
open PySem PySem.W PyProof.Rows PySem.Calls PySem.Spec
namespace Mine
theorem fillK28 (w : World) : row.name = row.name ∧ Kf w.params = Kf w.params := by
  k_fill
  exact ⟨rfl, rfl⟩
local macro_rules | `(tactic| walk_at "mine steps") => `(tactic| w_strict (repeat' (walk_at "mine no 0"; walk_at "mine no 1"; walk_at "mine no 5"; walk_at "mine no 6"; walk_at "mine no 7"; walk_at "mine no 8"; walk_at "mine core")))
theorem room64c {A : Around} {L : Addr} {h : Heap} {dep : Nat} (Y : At A L h dep) (hd : 8 ≤ dep) : A.units + 64 < cLine := by have := Y.hu; omega
local macro_rules | `(tactic| ke_room) => `(tactic| exact room64c (by assumption) (by decide))
theorem other_eq {os owns : List Int} {p : Int → Bool} (h1 : os.filter p = owns) : os.filter (fun v => !(owns.any (· == v))) = os.filter (fun v => !p v) := by
  apply List.filter_congr
  intro v hv
  congr 1
  rw [Bool.eq_iff_iff, List.any_eq_true]
  constructor
  · rintro ⟨u, hu, he⟩
    rw [← eq_of_beq he]
    rw [← h1] at hu
    exact (List.mem_filter.mp hu).2
  · intro hp
    exact ⟨v, by rw [← h1]; exact List.mem_filter.mpr ⟨hv, hp⟩, by simp⟩
theorem own_other {os owns oths : List Int} {aim : Int} (hos : os ∈ orders) (h1 : os.filter (fun v => decide (Builtin.bitAnd (aim.fdiv (2 ^ v.toNat)) 1 ≠ 0)) = owns) (h2 : os.filter (fun v => !(owns.any (· == v))) = oths) : (owns ++ oths).length = 4 ∧ ∀ v ∈ owns ++ oths, 0 ≤ v ∧ v < 4 := by
  obtain ⟨hl, hb⟩ := orders_are hos
  rw [other_eq h1] at h2
  constructor
  · rw [List.length_append, ← h1, ← h2, ← hl]
    have := List.length_eq_countP_add_countP (fun v : Int => decide (Builtin.bitAnd (aim.fdiv (2 ^ v.toNat)) 1 ≠ 0)) (l := os)
    rw [List.countP_eq_length_filter, List.countP_eq_length_filter] at this
    rw [this]
    congr 2
    apply List.filter_congr
    intro v _
    simp
  · intro v hv
    rcases List.mem_append.mp hv with h | h
    · rw [← h1] at h; exact hb v (List.mem_filter.mp h).1
    · rw [← h2] at h; exact hb v (List.mem_filter.mp h).1
theorem pushF_lt : ∀ (os : List Int) {x : Int}, (∀ v ∈ os, 0 ≤ v ∧ v < 4) → 0 ≤ x → x < 65536 → 0 ≤ os.foldl push1 x ∧ os.foldl push1 x < 65536
  | [], _, _, h0, h1 => ⟨h0, h1⟩
  | v :: r, x, h, h0, h1 => by
    obtain ⟨a, b⟩ := push1_lt h0 h1 (h v (.head _))
    exact pushF_lt r (fun u hu => h u (.tail _ hu)) a b
noncomputable def r16 : List Int := (List.range 16).map Int.ofNat
theorem r16_get {j : Nat} (h : j < 16) : r16[j]? = some (j : Int) := by
  unfold r16
  rw [List.getElem?_map, List.getElem?_range h]; rfl
theorem r16_all : r16.take 16 = r16 := by decide
noncomputable def otherP (own : List Int) (v : Int) : Bool := !(own.any (· == v))
theorem filt_yes {p : Int → Bool} {ns : List Int} {j : Nat} {v : Int} (hv : ns[j]? = some v) (h : p v = true) : (ns.take (j + 1)).filter p = (ns.take j).filter p ++ [v] := by
  rw [List.take_add_one, hv, List.filter_append]; simp [h]
theorem filt_no {p : Int → Bool} {ns : List Int} {j : Nat} {v : Int} (hv : ns[j]? = some v) (h : p v = false) : (ns.take (j + 1)).filter p = (ns.take j).filter p := by
  rw [List.take_add_one, hv, List.filter_append]; simp [h]
noncomputable def ownP (aim v : Int) : Bool := decide (Builtin.bitAnd (aim.fdiv (2 ^ v.toNat)) 1 ≠ 0)
noncomputable def comesV (os sns : List Int) (x aim : Int) : Bool :=
  (Builtin.bitAnd (((os.filter (ownP aim) ++ os.filter (otherP (os.filter (ownP aim)))).foldl push1 x).fdiv (2 ^ aim.toNat)) 1 == 0) == cutW (15 - aim) (r16.filter (otherP sns)) &&
    (Builtin.bitAnd (((os.filter (otherP (os.filter (ownP aim))) ++ os.filter (ownP aim)).foldl push1 x).fdiv (2 ^ aim.toNat)) 1 == 1) == cutW aim sns
theorem comes_spec {w : World} {A : Around} {E : Value → Shared → Prop} {s : Shared} {h₀ : Heap} {L : Addr} {m : Str → Option Value} {rest : List (Addr × Obj)} {Q : Value → Shared → Prop} {p1 p2 : Array Value} {B : Addr → Obj → Prop} {x aim : Int} {t t2 : Tok} {lo ls : Addr} {ovs svs : List Value} {os sns : List Int} {ok sk : Nat}
    (X : Ok w h₀) (Y : At A L h₀ 40) (F : Fr h₀ L s.heap m) (N : News h₀ L s.heap ((30, tabObj p1) :: (37, tabObj p2) :: rest)) (hap : ∀ p ∈ rest, p.1 ≠ 30 ∧ p.1 ≠ 37)
    (hB : ∀ c o, B c o → h₀.get? c = some o) (hp1 : TabOk B (PySem.Str.ofString "_int2digits.<locals>.inner") 32 4 p1 rest) (hp2 : TabOk B (PySem.Str.ofString "_digits2int.<locals>.inner") 47 4 p2 rest)
    (ho : (lo, listOf ovs.toArray ok) ∈ rest ∨ h₀.get? lo = some (listOf ovs.toArray ok)) (hO : IntsAre ovs os) (hos : os ∈ orders) (hls : (ls, listOf svs.toArray sk) ∈ rest ∨ h₀.get? ls = some (listOf svs.toArray sk)) (hS : IntsAre svs sns) (hsl : sns.length ≤ 16)
    (hx : 0 ≤ x) (hxb : x < 65536) (ha0 : 0 ≤ aim) (ha1 : aim < 16)
    (ret : ∀ p1' p2' ext h' tk', Fr h₀ L h' m → News h₀ L h' ((30, tabObj p1') :: (37, tabObj p2') :: (ext ++ rest)) → TabOk B (PySem.Str.ofString "_int2digits.<locals>.inner") 32 4 p1' (ext ++ rest) → TabOk B (PySem.Str.ofString "_digits2int.<locals>.inner") 47 4 p2' (ext ++ rest) → (∀ p ∈ ext, p.1 ≠ 30 ∧ p.1 ≠ 37) → Q (.bool (comesV os sns x aim)) { s with heap := h', toks := tk' }) :
    wpAny (model row.row.prog w) A (call (.ref 145) [.int x t, .ref ls, .ref lo, .int aim t2]) Q E s := by
  obtain ⟨ha, dp, fr, gd, un0⟩ := A
  obtain rfl : ha = none := Y.hh
  refine enterMC (mu := [(30, tabObj p1), (37, tabObj p2)]) (stay := rest) (binds := [("family", .int x t), ("sets", .ref ls), ("order", .ref lo), ("aim", .int aim t2)]) (dep := 39) X Y F (nsub N (by walk_at "mine sub")) (nsub N (by walk_at "mine sub")) (tabs_apart hap) (by k_is) (by k_is) (by exact BindsTo.of_eq rfl) (by exact rfl) (by decide +kernel) (by exact rfl) (by exact rfl) (by exact rfl) ?_
  intro g L' h₁ tk1 cells X' Y' gk gs F' N' CA lt1 lt2
  obtain ⟨o1, o2, o3, hE, d1, d2, d3⟩ := CellsAre.three CA
  subst hE
  clear CA
  simp only [List.cons_append, List.nil_append] at N'
  obtain ⟨p, loose, mean, mg, mb, T'⟩ := X'.top
  have K' := X'.K
  have hB' : ∀ c o, ((c, o) ∈ rest ∨ B c o) → g.get? c = some o := fun c o h => h.elim (gs _) (fun h => gk _ _ (hB _ _ h))
  have lt30 : @LT.lt Nat _ 30 L' := lt1 _ (.head _)
  have lt37 : @LT.lt Nat _ 37 L' := lt1 _ (.tail _ (.head _))
  have hq1 : TabOk (fun c o => (c, o) ∈ rest ∨ B c o) (PySem.Str.ofString "_int2digits.<locals>.inner") 32 4 p1 [] := hp1.toB
  have hq2 : TabOk (fun c o => (c, o) ∈ rest ∨ B c o) (PySem.Str.ofString "_digits2int.<locals>.inner") 47 4 p2 [] := hp2.toB
  have hLlo : g.IsList lo ovs.toArray := ⟨_, ho.elim (gs _) (gk _ _), rfl, _, rfl⟩
  have hLls : g.IsList ls svs.toArray := ⟨_, hls.elim (gs _) (gk _ _), rfl, _, rfl⟩
  obtain ⟨hol4, hob⟩ := orders_are hos
  show wpAny _ _ _ _ _ _
  k_fold
  walk_at "mine steps"
  refine wpAny_Assign_Name ?_ (by with_unfolding_all rfl)
  refine LCt.ListComp_T (F₀ := F') (by with_unfolding_all rfl) (by decide) (by rfl) (by decide) (by rfl) ?_
  walk_at "mine steps"
  have hovl : ovs.toArray.size = 4 := by rw [List.size_toArray, hO.length, hol4]
  refine LCt.CompSrcT.base rfl F' N' hLlo (by rw [hovl]; decide) ?_
  intro g2
  refine restKT (fun j ys => IntsAre ys ((os.take j).filter (ownP aim))) (.inl hLlo) .nil ?_ ?_
  · intro j y ys I oI C oC D m₂ h3 tk3 E' hj hy hys hoC hx2 F3 N3 off3 ne3
    obtain ⟨v, tv, rfl, hv⟩ := IntsAre.at hO j y (by simpa using hy)
    obtain ⟨hv0, hv1⟩ := hob v (List.mem_of_getElem? hv)
    walk_at "mine steps"
    · rename_i hb
      exact ⟨_, _, rfl, F3, N3, by rw [filt_yes hv (show ownP aim v = true from decide_eq_true hb)]; exact IntsAre.append hys (.cons _ _ .nil)⟩
    · rename_i hb
      exact ⟨_, _, rfl, F3, N3, by rw [filt_no hv (show ownP aim v = false from decide_eq_false (fun h => h hb))]; exact hys⟩
  · intro ys hys D h3 tk3 F3 N3 off3
    rw [hovl, ← hol4, List.take_length] at hys
    simp only [LCg.Off1, and_true] at off3
    generalize hown : os.filter (ownP aim) = owns at *
    have hownl : owns.length ≤ 4 := by rw [← hown, ← hol4]; exact List.length_filter_le _ _
    walk_at "mine steps"
    rename_i h4 oc4 F4 N4 hoc4
    refine LCt.Assign_ListComp_T (F₀ := F4) rfl (by with_unfolding_all rfl) (by with_unfolding_all rfl) (by decide) (by rfl) (by decide) (by rfl) (by rfl) (by rfl) ?_
    walk_at "mine steps"
    refine LCt.CompSrcT.base rfl F4 N4 hLlo (by rw [hovl]; decide) ?_
    intro g5
    refine restKT (fun j ys => IntsAre ys ((os.take j).filter (otherP owns))) (.inl hLlo) .nil ?_ ?_
    · intro j y ys5 I oI C oC D5 m₂ h5 tk5 E' hj hy hys5 hoC hx2 F5 N5 off5 ne5
      obtain ⟨v, tv, rfl, hv⟩ := IntsAre.at hO j y (by simpa using hy)
      obtain ⟨hv0, hv1⟩ := hob v (List.mem_of_getElem? hv)
      walk_at "mine steps"
      all_goals (rename_i hb; first
        | exact ⟨_, _, rfl, F5, N5, by rw [filt_yes hv (show otherP owns v = true by unfold otherP; rw [hb]; rfl)]; exact IntsAre.append hys5 (.cons _ _ .nil)⟩
        | exact ⟨_, _, rfl, F5, N5, by rw [filt_no hv (show otherP owns v = false by unfold otherP; rw [hb]; rfl)]; exact hys5⟩)
    · intro ys5 hys5 D5 h5 tk5 F5 N5 off5
      rw [hovl, ← hol4, List.take_length] at hys5
      simp only [LCg.Off1, and_true] at off5
      generalize hoth : os.filter (otherP owns) = oths at *
      have hothl : oths.length ≤ 4 := by rw [← hoth, ← hol4]; exact List.length_filter_le _ _
      walk_at "mine steps"
      refine LCt.Assign_ListComp_T (F₀ := F5) rfl (by with_unfolding_all rfl) (by with_unfolding_all rfl) (by decide) (by rfl) (by decide) (by rfl) (by rfl) (by rfl) ?_
      walk_at "mine steps"
      rename_i h6 tk6 t6 u6 v6 hR6 F6 N6 hk6
      refine LCt.CompSrcT.range (n := 16) rfl F6 N6 hR6 (by decide) (by decide) (by decide) ?_
      intro g6
      refine restKT (fun j ys => IntsAre ys ((r16.take j).filter (otherP sns))) trivial .nil ?_ ?_
      · intro j y ys7 I oI C oC D7 m₂ h7 tk7 E' hj hy hys7 hoC hx2 F7 N7 off7 ne7
        obtain ⟨ty, rfl⟩ := hy
        rw [Int.zero_add] at hx2
        have hv : r16[j]? = some (j : Int) := r16_get hj
        walk_at "mine steps"
        all_goals (rename_i hb; first
          | exact ⟨_, _, rfl, F7, N7, by rw [filt_yes hv (show otherP sns (j : Int) = true by unfold otherP; rw [hb]; rfl)]; exact IntsAre.append hys7 (.cons _ _ .nil)⟩
          | exact ⟨_, _, rfl, F7, N7, by rw [filt_no hv (show otherP sns (j : Int) = false by unfold otherP; rw [hb]; rfl)]; exact hys7⟩)
      · intro ys7 hys7 D7 h7 tk7 F7 N7 off7
        rw [r16_all] at hys7
        simp only [LCg.Off1, and_true] at off7
        generalize habs : r16.filter (otherP sns) = abss at *
        have habl : abss.length ≤ 16 := by rw [← habs]; exact Nat.le_trans (List.length_filter_le _ _) (by decide)
        walk_at "mine steps"
        rename_i D8 ws8 h8 F8 N8 hI8 l8
        obtain ⟨hcl, hcb⟩ := own_other hos hown hoth
        have hall : ∀ v ∈ owns ++ oths, 0 ≤ v ∧ v < 4 := hcb
        refine pushed_spec (ok := 0) (B := fun c o => (c, o) ∈ rest ∨ B c o) (rest := (D8, listOf ws8.toArray 0) :: (D7, LCg.lst ys7) :: (D5, LCg.lst ys5) :: (D, LCg.lst ys) :: (L' + 1 + 1 + 1, oc4) :: (L' + 1 + 1, o2) :: [(L' + 1, o3)]) X' (Y'.less (by omega)) F8 (nsub N8 (by walk_at "mine sub")) ?hap1 hB' (hq1.mono (fun _ h => absurd h List.not_mem_nil) (fun c o h => .inr h)) (hq2.mono (fun _ h => absurd h List.not_mem_nil) (fun c o h => .inr h)) (.inl (.head _)) hI8 hcl hall hx hxb ?_
        case hap1 =>
          have n3 : @LT.lt Nat _ 37 (L' + 1 + 1 + 1) := by omega
          have n2 : @LT.lt Nat _ 37 (L' + 1 + 1) := by omega
          have n1 : @LT.lt Nat _ 37 (L' + 1) := by omega
          refine List.forall_mem_cons.mpr ⟨gt37 l8.2.2.2.2.2.2.2, List.forall_mem_cons.mpr ⟨⟨Ne.symm off7.2.2.2.2.2.1, Ne.symm off7.2.2.2.2.2.2⟩, List.forall_mem_cons.mpr ⟨⟨Ne.symm off5.2.2.2.2.1, Ne.symm off5.2.2.2.2.2⟩, List.forall_mem_cons.mpr ⟨⟨Ne.symm off3.2.2.2.1, Ne.symm off3.2.2.2.2⟩, List.forall_mem_cons.mpr ⟨gt37 n3, List.forall_mem_cons.mpr ⟨gt37 n2, List.forall_mem_cons.mpr ⟨gt37 n1, List.forall_mem_nil _⟩⟩⟩⟩⟩⟩⟩
        intro q1 q2 ext h9 t9 tk9 F9 N9 hT1 hT2 hext _
        obtain ⟨hy0, hy1⟩ := pushF_lt (owns ++ oths) hall hx hxb
        generalize hyv : (owns ++ oths).foldl push1 x = y1 at *
        have N10 : News g L' h9 ((30, tabObj q1) :: (37, tabObj q2) :: (D7, LCg.lst ys7) :: (D5, LCg.lst ys5) :: (D, LCg.lst ys) :: (L' + 1 + 1 + 1, oc4) :: (L' + 1 + 1, o2) :: (L' + 1, o3) :: (D8, listOf ws8.toArray 0) :: ext) := nsub N9 fun p hp => by
          rcases List.mem_cons.mp hp with rfl | hp
          · exact .head _
          rcases List.mem_cons.mp hp with rfl | hp
          · exact .tail _ (.head _)
          refine .tail _ (.tail _ ?_)
          rcases List.mem_cons.mp hp with rfl | hp
          · exact List.mem_append_right _ (.tail _ (.head _))
          rcases List.mem_cons.mp hp with rfl | hp
          · exact List.mem_append_right _ (.tail _ (.tail _ (.head _)))
          rcases List.mem_cons.mp hp with rfl | hp
          · exact List.mem_append_right _ (.tail _ (.tail _ (.tail _ (.head _))))
          rcases List.mem_cons.mp hp with rfl | hp
          · exact List.mem_append_right _ (.tail _ (.tail _ (.tail _ (.tail _ (.head _)))))
          rcases List.mem_cons.mp hp with rfl | hp
          · exact List.mem_append_right _ (.tail _ (.tail _ (.tail _ (.tail _ (.tail _ (.head _))))))
          rcases List.mem_cons.mp hp with rfl | hp
          · exact List.mem_append_right _ (.tail _ (.tail _ (.tail _ (.tail _ (.tail _ (.tail _ (.head _)))))))
          rcases List.mem_cons.mp hp with rfl | hp
          · exact List.mem_append_right _ (.head _)
          · exact List.mem_append_left _ hp
        clear N9
        walk_at "mine steps"
        rename_i D12 ws12 h12 F12 N12 hI12 l12
        obtain ⟨hcl2, hall2⟩ : (oths ++ owns).length = 4 ∧ ∀ v ∈ oths ++ owns, 0 ≤ v ∧ v < 4 := ⟨by rw [List.length_append] at hcl ⊢; omega, fun v hv => hall v (by rcases List.mem_append.mp hv with h | h; exact List.mem_append_right _ h; exact List.mem_append_left _ h)⟩
        have hmv : ∀ p ∈ ext ++ ((D8, listOf ws8.toArray 0) :: (D7, LCg.lst ys7) :: (D5, LCg.lst ys5) :: (D, LCg.lst ys) :: (L' + 1 + 1 + 1, oc4) :: (L' + 1 + 1, o2) :: [(L' + 1, o3)]), p ∈ (D12, listOf ws12.toArray 0) :: (D7, LCg.lst ys7) :: (D5, LCg.lst ys5) :: (D, LCg.lst ys) :: (L' + 1 + 1 + 1, oc4) :: (L' + 1 + 1, o2) :: (L' + 1, o3) :: (D8, listOf ws8.toArray 0) :: ext := by
          intro p hp
          rcases List.mem_append.mp hp with hp | hp
          · exact .tail _ (.tail _ (.tail _ (.tail _ (.tail _ (.tail _ (.tail _ (.tail _ hp)))))))
          · have hs : ∀ q ∈ ((D8, listOf ws8.toArray 0) :: (D7, LCg.lst ys7) :: (D5, LCg.lst ys5) :: (D, LCg.lst ys) :: (L' + 1 + 1 + 1, oc4) :: (L' + 1 + 1, o2) :: [(L' + 1, o3)]), q ∈ (D12, listOf ws12.toArray 0) :: (D7, LCg.lst ys7) :: (D5, LCg.lst ys5) :: (D, LCg.lst ys) :: (L' + 1 + 1 + 1, oc4) :: (L' + 1 + 1, o2) :: (L' + 1, o3) :: (D8, listOf ws8.toArray 0) :: ext := by walk_at "mine sub"
            exact hs p hp
        refine pushed_spec (ok := 0) (B := fun c o => (c, o) ∈ rest ∨ B c o) (rest := (D12, listOf ws12.toArray 0) :: (D7, LCg.lst ys7) :: (D5, LCg.lst ys5) :: (D, LCg.lst ys) :: (L' + 1 + 1 + 1, oc4) :: (L' + 1 + 1, o2) :: (L' + 1, o3) :: (D8, listOf ws8.toArray 0) :: ext) X' (Y'.less (by omega)) F12 (nsub N12 (by walk_at "mine sub")) ?hap2 hB' (hT1.mono hmv (fun c o h => .inr h)) (hT2.mono hmv (fun c o h => .inr h)) (.inl (.head _)) hI12 hcl2 hall2 hx hxb ?_
        case hap2 =>
          have n3 : @LT.lt Nat _ 37 (L' + 1 + 1 + 1) := by omega
          have n2 : @LT.lt Nat _ 37 (L' + 1 + 1) := by omega
          have n1 : @LT.lt Nat _ 37 (L' + 1) := by omega
          refine List.forall_mem_cons.mpr ⟨gt37 l12.2.1, List.forall_mem_cons.mpr ⟨⟨Ne.symm off7.2.2.2.2.2.1, Ne.symm off7.2.2.2.2.2.2⟩, List.forall_mem_cons.mpr ⟨⟨Ne.symm off5.2.2.2.2.1, Ne.symm off5.2.2.2.2.2⟩, List.forall_mem_cons.mpr ⟨⟨Ne.symm off3.2.2.2.1, Ne.symm off3.2.2.2.2⟩, List.forall_mem_cons.mpr ⟨gt37 n3, List.forall_mem_cons.mpr ⟨gt37 n2, List.forall_mem_cons.mpr ⟨gt37 n1, List.forall_mem_cons.mpr ⟨gt37 l8.2.2.2.2.2.2.2, fun p hp => gt37 (hext p hp)⟩⟩⟩⟩⟩⟩⟩⟩
        intro q3 q4 ext2 h13 t13 tk13 F13 N13 hT3 hT4 hext2 _
        obtain ⟨hz0, hz1⟩ := pushF_lt (oths ++ owns) hall2 hx hxb
        generalize hzv : (oths ++ owns).foldl push1 x = y2 at *
        have N14 : News g L' h13 ((30, tabObj q3) :: (37, tabObj q4) :: (D7, LCg.lst ys7) :: (L' + 1 + 1, o2) :: (L' + 1, o3) :: (D12, listOf ws12.toArray 0) :: (D5, LCg.lst ys5) :: (D, LCg.lst ys) :: (L' + 1 + 1 + 1, oc4) :: (D8, listOf ws8.toArray 0) :: (ext2 ++ ext)) := nsub N13 fun p hp => by
          rcases List.mem_cons.mp hp with rfl | hp
          · exact .head _
          rcases List.mem_cons.mp hp with rfl | hp
          · exact .tail _ (.head _)
          refine .tail _ (.tail _ ?_)
          rcases List.mem_cons.mp hp with rfl | hp
          · exact List.mem_append_right _ (by walk_at "mine deep")
          rcases List.mem_cons.mp hp with rfl | hp
          · exact List.mem_append_right _ (by walk_at "mine deep")
          rcases List.mem_cons.mp hp with rfl | hp
          · exact List.mem_append_right _ (by walk_at "mine deep")
          rcases List.mem_cons.mp hp with rfl | hp
          · exact List.mem_append_right _ (by walk_at "mine deep")
          rcases List.mem_cons.mp hp with rfl | hp
          · exact List.mem_append_right _ (by walk_at "mine deep")
          rcases List.mem_cons.mp hp with rfl | hp
          · exact List.mem_append_right _ (by walk_at "mine deep")
          rcases List.mem_cons.mp hp with rfl | hp
          · exact List.mem_append_right _ (by walk_at "mine deep")
          rcases List.mem_cons.mp hp with rfl | hp
          · exact List.mem_append_right _ (by walk_at "mine deep")
          rcases List.mem_append.mp hp with hp | hp
          · exact List.mem_append_left _ hp
          · exact List.mem_append_right _ (.tail _ (.tail _ (.tail _ (.tail _ (.tail _ (.tail _ (.tail _ (.tail _ hp))))))))
        clear N13
        walk_at "mine steps"
        rename_i tk15 D15 h15 F15 N15 l15
        refine cutw_spec X' (Y'.less (by omega)) F15 N15 (.inl (by walk_at "mine deep")) hys7 habl (by omega) (by omega) ?_
        intro h16 tk16 F16 N16
        walk_at "mine steps"
        refine cutw_spec X' (Y'.less (by omega)) F16 N16 (.inr (hls.elim (gs _) (gk _ _))) hS hsl ha0 ha1 ?_
        intro h17 tk17 F17 N17
        walk_at "mine steps"
        rename_i D18 h18 F18 N18 l18
        have hcv : ((Builtin.bitAnd (y1.fdiv (2 ^ aim.toNat)) 1 == 0) == cutW (15 - aim) abss && (Builtin.bitAnd (y2.fdiv (2 ^ aim.toNat)) 1 == 1) == cutW aim sns) = comesV os sns x aim := by
          unfold comesV
          rw [hown, hoth, habs, hyv, hzv]
        rw [hcv]
        refine leaveM F18 (nsub (b := (30, tabObj q3) :: (37, tabObj q4) :: ((D8, listOf ws8.toArray 0) :: (D7, LCg.lst ys7) :: (D5, LCg.lst ys5) :: (D, LCg.lst ys) :: (L' + 1 + 1 + 1, oc4) :: (L' + 1 + 1, o2) :: (L' + 1, o3) :: (D12, listOf ws12.toArray 0) :: (ext2 ++ ext))) N18 (by walk_at "mine sub")) (fun F3 N3 => ret q3 q4 _ _ _ F3 N3 (hT3.mono ?m1 ?m0) (hT4.mono ?m1 ?m0) ?m2)
        case m0 => exact fun c o h => h.imp (fun h => List.mem_append_right _ h) id
        case m1 =>
          intro p hp
          refine List.mem_append_left _ ?_
          rcases List.mem_append.mp hp with hp | hp
          · exact .tail _ (.tail _ (.tail _ (.tail _ (.tail _ (.tail _ (.tail _ (.tail _ (List.mem_append_left _ hp))))))))
          · have hs : ∀ q ∈ (D12, listOf ws12.toArray 0) :: (D7, LCg.lst ys7) :: (D5, LCg.lst ys5) :: (D, LCg.lst ys) :: (L' + 1 + 1 + 1, oc4) :: (L' + 1 + 1, o2) :: [(L' + 1, o3), (D8, listOf ws8.toArray 0)], q ∈ (D8, listOf ws8.toArray 0) :: (D7, LCg.lst ys7) :: (D5, LCg.lst ys5) :: (D, LCg.lst ys) :: (L' + 1 + 1 + 1, oc4) :: (L' + 1 + 1, o2) :: (L' + 1, o3) :: (D12, listOf ws12.toArray 0) :: (ext2 ++ ext) := by walk_at "mine sub"
            have hp' : p ∈ [(D12, listOf ws12.toArray 0), (D7, LCg.lst ys7), (D5, LCg.lst ys5), (D, LCg.lst ys), (L' + 1 + 1 + 1, oc4), (L' + 1 + 1, o2), (L' + 1, o3), (D8, listOf ws8.toArray 0)] ++ ext := hp
            rcases List.mem_append.mp hp' with hp | hp
            · exact hs p hp
            · exact .tail _ (.tail _ (.tail _ (.tail _ (.tail _ (.tail _ (.tail _ (.tail _ (List.mem_append_right _ hp))))))))
        case m2 =>
          have n3 : @LT.lt Nat _ 37 (L' + 1 + 1 + 1) := by omega
          have n2 : @LT.lt Nat _ 37 (L' + 1 + 1) := by omega
          have n1 : @LT.lt Nat _ 37 (L' + 1) := by omega
          refine List.forall_mem_cons.mpr ⟨gt37 l8.2.2.2.2.2.2.2, List.forall_mem_cons.mpr ⟨⟨Ne.symm off7.2.2.2.2.2.1, Ne.symm off7.2.2.2.2.2.2⟩, List.forall_mem_cons.mpr ⟨⟨Ne.symm off5.2.2.2.2.1, Ne.symm off5.2.2.2.2.2⟩, List.forall_mem_cons.mpr ⟨⟨Ne.symm off3.2.2.2.1, Ne.symm off3.2.2.2.2⟩, List.forall_mem_cons.mpr ⟨gt37 n3, List.forall_mem_cons.mpr ⟨gt37 n2, List.forall_mem_cons.mpr ⟨gt37 n1, List.forall_mem_cons.mpr ⟨gt37 l12.2.1, fun p hp => ?_⟩⟩⟩⟩⟩⟩⟩⟩
          rcases List.mem_append.mp hp with hp | hp
          · exact gt37 (hext2 p hp)
          · exact gt37 (hext p hp)
end Mine
end
local macro_rules | `(tactic| walk_at "mine pad") => `(tactic| fail "pad")
local macro_rules | `(tactic| walk_at "mine pad") => `(tactic| fail "pad")
section
theorem Mine.fresh_PlainM : True := by
  w_top off
  exact trivial
open PySem PySem.W PyProof.Rows
namespace Mine
/-- a family pushed down by a thing of size w, bit by bit -/
noncomputable def pushF (w : Nat) (f : Nat → Bool) (i : Nat) : Bool := if i / w % 2 = 1 then f (i - w) && f i else f i || f (i + w)
theorem hasBit_nat (n j : Nat) : hasBit (n : Int) j = n.testBit j := by
  unfold hasBit
  rw [Nat.testBit_eq_decide_div_mod_eq, ← kbt_cast, decide_eq_decide]
  exact Int.ofNat_inj
theorem hasBit_or {a b : Int} (ha : 0 ≤ a) (hb : 0 ≤ b) (j : Nat) : hasBit (Builtin.bitOr a b) j = (hasBit a j || hasBit b j) := by
  obtain ⟨p, rfl⟩ := Int.eq_ofNat_of_zero_le ha
  obtain ⟨q, rfl⟩ := Int.eq_ofNat_of_zero_le hb
  rw [bitOr_nat, hasBit_nat, hasBit_nat, hasBit_nat, Nat.testBit_or]
theorem hasBit_and {a b : Int} (ha : 0 ≤ a) (hb : 0 ≤ b) (j : Nat) : hasBit (Builtin.bitAnd a b) j = (hasBit a j && hasBit b j) := by
  obtain ⟨p, rfl⟩ := Int.eq_ofNat_of_zero_le ha
  obtain ⟨q, rfl⟩ := Int.eq_ofNat_of_zero_le hb
  rw [bitAnd_nat, hasBit_nat, hasBit_nat, hasBit_nat, Nat.testBit_and]
theorem hasBit_zero (j : Nat) : hasBit 0 j = false := by unfold hasBit; simp
theorem hasBit_hi {d u : Int} {W k : Nat} (h0 : 0 ≤ d) (h1 : d < 2 ^ W) : hasBit (d + 2 ^ W * u) (W + k) = hasBit u k := by
  unfold hasBit
  have hp := kbt_pos W
  have e : (d + 2 ^ W * u) / 2 ^ W = u := by
    rw [Int.add_mul_ediv_left _ _ (by omega), Int.ediv_eq_zero_of_lt h0 h1]; omega
  rw [Int.pow_add, ← Int.ediv_ediv_of_nonneg (Int.le_of_lt hp), e]
theorem hasBit_lo {d u : Int} {W r : Nat} (hr : r < W) : hasBit (d + 2 ^ W * u) r = hasBit d r := by
  unfold hasBit
  obtain ⟨k, rfl⟩ : ∃ k, W = r + (k + 1) := ⟨W - (r + 1), by rw [← Nat.add_assoc, Nat.add_right_comm, Nat.add_sub_cancel' hr]⟩
  have hp := kbt_pos r
  have e : (d + 2 ^ (r + (k + 1)) * u) / 2 ^ r = d / 2 ^ r + 2 * (2 ^ k * u) := by
    rw [Int.pow_add, Int.mul_assoc, Int.add_mul_ediv_left _ _ (by omega), Int.pow_succ, Int.mul_comm (2 ^ k) 2, Int.mul_assoc]
  rw [e, Int.add_mul_emod_self_left]
theorem un_bit {W : Nat} : ∀ (ds : List Int), (∀ d ∈ ds, 0 ≤ d ∧ d < (2 : Int) ^ W) → ∀ (q r : Nat), r < W → hasBit (un (2 ^ W) ds) (W * q + r) = hasBit (ds.getD q 0) r
  | [], _, q, r, _ => by simp [un, hasBit_zero]
  | d :: ds, h, 0, r, hr => by
    rw [un, Nat.mul_zero, Nat.zero_add, hasBit_lo hr]; rfl
  | d :: ds, h, q + 1, r, hr => by
    have hd := h d (.head _)
    rw [un, Nat.mul_succ, Nat.add_right_comm, Nat.add_comm (W * q + r) W, hasBit_hi hd.1 hd.2, un_bit ds (fun x hx => h x (.tail _ hx)) q r hr]
    simp
theorem pairs_get : ∀ (ds : List Int), ds.length % 2 = 0 → ∀ q, (pairs (evens ds) (odds ds)).getD (2 * q) 0 = Builtin.bitOr (ds.getD (2 * q) 0) (ds.getD (2 * q + 1) 0) ∧ (pairs (evens ds) (odds ds)).getD (2 * q + 1) 0 = Builtin.bitAnd (ds.getD (2 * q) 0) (ds.getD (2 * q + 1) 0)
  | [], _, q => by
    have e1 : Builtin.bitOr 0 0 = 0 := by decide
    have e2 : Builtin.bitAnd 0 0 = 0 := by decide
    simp [evens, odds, pairs, e1, e2]
  | [_], h, _ => by simp at h
  | a :: b :: r, h, 0 => by simp [evens, odds, pairs]
  | a :: b :: r, h, q + 1 => by
    have ih := pairs_get r (by simp only [List.length_cons] at h; omega) q
    have e : pairs (evens (a :: b :: r)) (odds (a :: b :: r)) = Builtin.bitOr a b :: Builtin.bitAnd a b :: pairs (evens r) (odds r) := by simp [evens, odds, pairs]
    rw [e]
    have e1 : 2 * (q + 1) = 2 * q + 2 := by omega
    rw [e1]
    simpa using ih
theorem un_pad {b : Int} (ds : List Int) : un b (pad ds) = un b ds := by
  unfold pad
  rw [krep_flat, un_append]
  have e : ∀ n : Nat, un b (List.replicate n (0 : Int)) = 0 := by
    intro n
    induction n with
    | zero => rfl
    | succ n ih => rw [List.replicate_succ, un, ih]; simp
  rw [e]; simp
theorem pad_even (ds : List Int) : (pad ds).length % 2 = 0 := by
  unfold pad
  rw [krep_flat, List.length_append, List.length_replicate, Int.fmod_eq_emod_of_nonneg _ (by decide)]
  show (ds.length + ds.length % 2) % 2 = 0
  omega
/-- P1: what a push does to the bits -/
theorem push_bits {x v : Int} (h0 : 0 ≤ x) (h1 : x < 65536) (hv : 0 ≤ v ∧ v < 4) (i : Nat) : hasBit (push1 x v) i = pushF (2 ^ v.toNat) (hasBit x) i := by
  obtain ⟨f1, _⟩ := figs_facts h0 h1 hv
  obtain ⟨g1, g2⟩ := pad_facts (kbt_pos _) f1
  obtain ⟨p1, _⟩ := push_digits h0 h1 hv
  have hW : (1 * 2 ^ v.toNat : Int).toNat = 2 ^ v.toNat := by
    rw [Int.one_mul, ← kbt_cast, Int.toNat_natCast]
  have hux : un (2 ^ (1 * 2 ^ v.toNat : Int).toNat) (pad (figs x v)) = x := by
    rw [un_pad]
    unfold figs
    refine un_dg _ _ ?_
    by_cases hx0 : x = 0
    · exact .inr hx0
    · left
      have hb : ¬ Builtin.Int.intBits x ≤ 0 := by rw [intBits_le_iff]; omega
      have hw : 1 ≤ (1 * 2 ^ v.toNat : Int) := by rw [Int.one_mul]; have := kbt_pos v.toNat; omega
      rw [Int.fdiv_eq_ediv_of_nonneg _ (by omega)]
      have : 1 ≤ ((Builtin.Int.intBits x : Int) + 1 * 2 ^ v.toNat - 1) / (1 * 2 ^ v.toNat) := (Int.le_ediv_iff_mul_le (by omega)).mpr (by omega)
      exact Int.lt_toNat.mpr (Int.lt_of_lt_of_le Int.zero_lt_one this)
  unfold push1
  rw [hW] at g1 p1 hux ⊢
  clear hW
  generalize hds : pad (figs x v) = ds at *
  have hev : ds.length % 2 = 0 := by rw [← hds]; exact pad_even _
  have hWp : 0 < 2 ^ v.toNat := Nat.two_pow_pos _
  generalize 2 ^ v.toNat = W at *
  have hx : ∀ q r, r < W → hasBit x (W * q + r) = hasBit (ds.getD q 0) r := fun q r hr => by rw [← hux]; exact un_bit ds g1 q r hr
  have hnn : ∀ q, 0 ≤ ds.getD q 0 := fun q => by
    rw [List.getD_eq_getElem?_getD]
    cases hq : ds[q]? with
    | none => simp
    | some d => exact (g1 d (List.mem_of_getElem? hq)).1
  have hi : i = W * (i / W) + i % W := (Nat.div_add_mod i W).symm
  have hr : i % W < W := Nat.mod_lt _ hWp
  have hL : hasBit (un (2 ^ W) (pairs (evens ds) (odds ds))) i = hasBit ((pairs (evens ds) (odds ds)).getD (i / W) 0) (i % W) := by
    conv => lhs; rw [hi]
    exact un_bit _ p1 _ _ hr
  rw [hL]
  unfold pushF
  generalize i / W = q at *
  generalize i % W = r at *
  subst hi
  rcases Nat.mod_two_eq_zero_or_one q with hq | hq
  · obtain ⟨p, rfl⟩ : ∃ p, q = 2 * p := ⟨q / 2, by omega⟩
    rw [if_neg (by omega), (pairs_get ds hev p).1, hasBit_or (hnn _) (hnn _), hx _ _ hr]
    have e : W * (2 * p) + r + W = W * (2 * p + 1) + r := by rw [Nat.mul_succ]; omega
    rw [e, hx _ _ hr]
  · obtain ⟨p, rfl⟩ : ∃ p, q = 2 * p + 1 := ⟨q / 2, by omega⟩
    rw [if_pos hq, (pairs_get ds hev p).2, hasBit_and (hnn _) (hnn _)]
    have e : W * (2 * p + 1) + r - W = W * (2 * p) + r := by rw [Nat.mul_succ, Nat.add_right_comm, Nat.add_sub_cancel]
    rw [e, hx _ _ hr, hx _ _ hr]
end Mine
end
section
theorem Mine.fresh_MathA : True := by
  w_top off
  exact trivial
open PySem PySem.W PyProof.Rows
namespace Mine
theorem ownP_hasBit (x : Int) (j : Nat) : ownP x (j : Int) = hasBit x j := by
  unfold ownP hasBit
  have hp := kbt_pos j
  rw [Int.toNat_natCast, Int.fdiv_eq_ediv_of_nonneg _ (by omega), bitAnd_m1 _, decide_eq_decide]
  omega
theorem bitsI_filt (x : Int) : bitsI x = r16.filter (ownP x) := by
  unfold bitsI bits16 r16
  rw [List.filter_map]
  congr 1
  refine List.filter_congr fun j _ => ?_
  exact (ownP_hasBit x j).symm
noncomputable def b2 (b : Bool) : Int := if b then 1 else 0
theorem b2_inj {a b : Bool} : (b2 a == b2 b) = (a == b) := by cases a <;> cases b <;> decide
theorem b2_max (a b : Bool) : max (b2 a) (b2 b) = b2 (a || b) := by cases a <;> cases b <;> decide
theorem b2_min (a b : Bool) : min (b2 a) (b2 b) = b2 (a && b) := by cases a <;> cases b <;> decide
noncomputable def evB : List Bool → List Bool
  | a :: _ :: r => a :: evB r
  | [a] => [a]
  | [] => []
noncomputable def odB : List Bool → List Bool
  | _ :: b :: r => b :: odB r
  | [_] => []
  | [] => []
noncomputable def stepB (c : Bool) (ts : List Bool) : List Bool := (evB ts).zipWith (fun a b => if c then a && b else a || b) (odB ts)
theorem evens_map : ∀ ts : List Bool, evens (ts.map b2) = (evB ts).map b2
  | a :: b :: r => by have := evens_map r; simp [evens, evB, this]
  | [a] => by simp [evens, evB]
  | [] => by simp [evens, evB]
theorem odds_map : ∀ ts : List Bool, odds (ts.map b2) = (odB ts).map b2
  | a :: b :: r => by have := odds_map r; simp [odds, odB, this]
  | [a] => by simp [odds, odB]
  | [] => by simp [odds, odB]
theorem stepT_map {j v : Nat} (ts : List Bool) : stepT (j : Int) (ts.map b2) (v : Int) = (stepB (j.testBit v) ts).map b2 := by
  unfold stepT stepB
  rw [evens_map, odds_map]
  have hc : (Builtin.bitAnd ((j : Int).fdiv (2 ^ (v : Int).toNat)) 1 ≠ 0) ↔ j.testBit v = true := by
    have := ownP_hasBit (j : Int) v
    rw [hasBit_nat] at this
    unfold ownP at this
    rw [← this, decide_eq_true_iff]
  rw [List.map_zipWith, List.zipWith_map]
  congr 1
  funext a b
  by_cases h : j.testBit v = true
  · rw [if_pos (hc.mpr h), if_pos h, b2_min]
  · rw [if_neg (fun h' => h (hc.mp h')), if_neg h, b2_max]
theorem fold_map {j : Nat} : ∀ (os : List Nat) (ts : List Bool), (os.map Int.ofNat).foldl (stepT (j : Int)) (ts.map b2) = (os.foldl (fun ts v => stepB (j.testBit v) ts) ts).map b2
  | [], ts => rfl
  | v :: os, ts => by
    rw [List.map_cons, List.foldl_cons, List.foldl_cons]
    rw [show stepT (j : Int) (ts.map b2) (Int.ofNat v) = (stepB (j.testBit v) ts).map b2 from stepT_map ts]
    exact fold_map os _
noncomputable def choE (os : List Nat) (i : Nat) : Nat := ((List.range 4).map fun j => if i.testBit j then 2 ^ os.getD j 0 else 0).sum
noncomputable def pushE (f : Nat → Bool) (os : List Nat) : Nat → Bool := os.foldl (fun f v => pushF (2 ^ v) f) f
inductive Tr where
  | at (n : Nat)
  | ff
  | an (a b : Tr)
  | or (a b : Tr)
noncomputable def Tr.same : Tr → Tr → Bool
  | .at n, .at m => n == m
  | .ff, .ff => true
  | .an a b, .an c d => a.same c && b.same d
  | .or a b, .or c d => a.same c && b.same d
  | _, _ => false
theorem Tr.same_eq : ∀ {s t : Tr}, s.same t = true → s = t
  | .at n, .at m, h => congrArg Tr.at (beq_iff_eq.mp h)
  | .ff, .ff, _ => rfl
  | .an a b, .an c d, h => by
    obtain ⟨h1, h2⟩ := Bool.and_eq_true_iff.mp h
    rw [Tr.same_eq h1, Tr.same_eq h2]
  | .or a b, .or c d, h => by
    obtain ⟨h1, h2⟩ := Bool.and_eq_true_iff.mp h
    rw [Tr.same_eq h1, Tr.same_eq h2]
noncomputable def Tr.ev (f : Nat → Bool) : Tr → Bool
  | .at n => f n
  | .ff => false
  | .an a b => a.ev f && b.ev f
  | .or a b => a.ev f || b.ev f
noncomputable def evG {α : Type} : List α → List α
  | a :: _ :: r => a :: evG r
  | [a] => [a]
  | [] => []
noncomputable def odG {α : Type} : List α → List α
  | _ :: b :: r => b :: odG r
  | [_] => []
  | [] => []
theorem evG_map (f : Nat → Bool) : ∀ ts : List Tr, evB (ts.map (Tr.ev f)) = (evG ts).map (Tr.ev f)
  | a :: b :: r => by have := evG_map f r; simp [evG, evB, this]
  | [a] => by simp [evG, evB]
  | [] => by simp [evG, evB]
theorem odG_map (f : Nat → Bool) : ∀ ts : List Tr, odB (ts.map (Tr.ev f)) = (odG ts).map (Tr.ev f)
  | a :: b :: r => by have := odG_map f r; simp [odG, odB, this]
  | [a] => by simp [odG, odB]
  | [] => by simp [odG, odB]
noncomputable def stepG (c : Bool) (ts : List Tr) : List Tr := (evG ts).zipWith (fun a b => if c then .an a b else .or a b) (odG ts)
noncomputable def pushG (w : Nat) (f : Nat → Tr) (i : Nat) : Tr := if i / w % 2 = 1 then .an (f (i - w)) (f i) else .or (f i) (f (i + w))
theorem stepG_ev (f : Nat → Bool) (c : Bool) (ts : List Tr) : stepB c (ts.map (Tr.ev f)) = (stepG c ts).map (Tr.ev f) := by
  unfold stepB stepG
  rw [evG_map, odG_map, List.map_zipWith, List.zipWith_map]
  congr 1
  funext a b
  cases c <;> rfl
theorem pushG_ev (f : Nat → Bool) (w : Nat) (g : Nat → Tr) : pushF w (fun k => (g k).ev f) = fun i => (pushG w g i).ev f := by
  funext i
  unfold pushF pushG
  by_cases h : i / w % 2 = 1
  · rw [if_pos h, if_pos h]; rfl
  · rw [if_neg h, if_neg h]; rfl
theorem steps_ev (f : Nat → Bool) (j : Nat) : ∀ (os : List Nat) (ts : List Tr), os.foldl (fun ts v => stepB (j.testBit v) ts) (ts.map (Tr.ev f)) = (os.foldl (fun ts v => stepG (j.testBit v) ts) ts).map (Tr.ev f)
  | [], _ => rfl
  | v :: os, ts => by
    rw [List.foldl_cons, List.foldl_cons, stepG_ev]
    exact steps_ev f j os _
theorem pushes_ev (f : Nat → Bool) : ∀ (os : List Nat) (g : Nat → Tr), pushE (fun k => (g k).ev f) os = fun i => ((os.foldl (fun g v => pushG (2 ^ v) g) g) i).ev f
  | [], _ => rfl
  | v :: os, g => by
    unfold pushE
    rw [List.foldl_cons, List.foldl_cons, pushG_ev]
    exact pushes_ev f os _
noncomputable def ordersN : List (List Nat) := orders.map (List.map Int.toNat)
theorem trees_same : ∀ os ∈ ordersN, ∀ j < 16, Tr.same ((os.foldl (fun ts v => stepG (j.testBit v) ts) ((List.range 16).map fun i => Tr.at (choE os i))).getD 0 .ff) ((os.foldl (fun g v => pushG (2 ^ v) g) Tr.at) j) = true := by decide +kernel
theorem trees : ∀ os ∈ ordersN, ∀ j < 16, (os.foldl (fun ts v => stepG (j.testBit v) ts) ((List.range 16).map fun i => Tr.at (choE os i))).getD 0 .ff = (os.foldl (fun g v => pushG (2 ^ v) g) Tr.at) j := fun os ho j hj => Tr.same_eq (trees_same os ho j hj)
theorem orders_nat : ∀ os ∈ orders, os = (os.map Int.toNat).map Int.ofNat ∧ ∀ i : Nat, i < 16 → (chosen os (i : Int)).toNat = choE (os.map Int.toNat) i := by decide +kernel
theorem plays_push (f : Nat → Bool) {os : List Nat} (ho : os ∈ ordersN) {j : Nat} (hj : j < 16) : (os.foldl (fun ts v => stepB (j.testBit v) ts) ((List.range 16).map fun i => f (choE os i))).getD 0 false = pushE f os j := by
  have e : ((List.range 16).map fun i => f (choE os i)) = ((List.range 16).map fun i => Tr.at (choE os i)).map (Tr.ev f) := by
    rw [List.map_map]; rfl
  rw [e, steps_ev, show pushE f os = pushE (fun k => (Tr.at k).ev f) os from rfl, pushes_ev]
  show _ = Tr.ev f (List.foldl (fun g v => pushG (2 ^ v) g) Tr.at os j)
  rw [← trees os ho j hj]
  rw [List.getD_eq_getElem?_getD, List.getD_eq_getElem?_getD, List.getElem?_map]
  cases (List.foldl (fun ts v => stepG (j.testBit v) ts) (List.map (fun i => Tr.at (choE os i)) (List.range 16)) os)[0]? <;> rfl
theorem push_fold : ∀ (os : List Nat) (x : Int), (∀ v ∈ os, v < 4) → 0 ≤ x → x < 65536 → hasBit ((os.map Int.ofNat).foldl push1 x) = pushE (hasBit x) os
  | [], _, _, _, _ => rfl
  | v :: os, x, h, h0, h1 => by
    have hv : 0 ≤ (v : Int) ∧ (v : Int) < 4 := ⟨by omega, by have := h v (.head _); omega⟩
    obtain ⟨a0, a1⟩ := pushF_lt [(v : Int)] (fun u hu => by rw [List.mem_singleton.mp hu]; exact hv) h0 h1
    have e : hasBit (push1 x (v : Int)) = pushF (2 ^ v) (hasBit x) := funext fun i => push_bits h0 h1 hv i
    unfold pushE
    rw [List.map_cons, List.foldl_cons, List.foldl_cons, ← e]
    exact push_fold os _ (fun u hu => h u (.tail _ hu)) a0 a1
theorem tab_b2 (os : List Int) (x : Int) (i : Nat) : tabF os x i = b2 (hasBit x (chosen os i).toNat) := by
  unfold tabF hasBit b2
  have hp := kbt_pos (chosen os i).toNat
  rw [Int.fdiv_eq_ediv_of_nonneg _ (by omega), bitAnd_m1 _]
  by_cases h : x / 2 ^ (chosen os i).toNat % 2 = 1
  · rw [if_pos (decide_eq_true h), h]
  · rw [if_neg (by simpa using h)]; omega
noncomputable def playsB (os ts : List Int) (v : Int) : Bool := (os.foldl (stepT v) ts).getD 0 0 == 1
theorem down_law {os : List Int} {x : Int} (hos : os ∈ orders) (hx : 0 ≤ x) (hxb : x < 65536) : bitsI (os.foldl push1 x) = r16.filter (playsB os ((List.range 16).map (tabF os x))) := by
  rw [bitsI_filt]
  unfold r16
  rw [List.filter_map, List.filter_map]
  congr 1
  refine List.filter_congr fun j hj => ?_
  have hj : j < 16 := List.mem_range.mp hj
  show ownP _ (j : Int) = playsB _ _ (j : Int)
  obtain ⟨h1, h2⟩ := orders_nat os hos
  have ho : os.map Int.toNat ∈ ordersN := List.mem_map_of_mem hos
  have ht : (List.range 16).map (tabF os x) = ((List.range 16).map fun i => hasBit x (choE (os.map Int.toNat) i)).map b2 := by
    rw [List.map_map]
    refine List.map_congr_left fun i hi => ?_
    rw [tab_b2, h2 i (List.mem_range.mp hi)]; rfl
  have hob := (orders_are hos).2
  rw [ownP_hasBit, ht]
  unfold playsB
  generalize os.map Int.toNat = on at *
  subst h1
  rw [push_fold on x (fun v hv => by have := hob (v : Int) (List.mem_map_of_mem hv); omega) hx hxb, fold_map, ← plays_push _ ho hj, List.getD_eq_getElem?_getD, List.getD_eq_getElem?_getD, List.getElem?_map]
  cases (List.foldl (fun ts v => stepB (j.testBit v) ts) (List.map (fun i => hasBit x (choE on i)) (List.range 16)) on)[0]? with
  | none => rfl
  | some b => cases b <;> rfl
end Mine
end
section
theorem Mine.fresh_MathB : True := by
  w_top off
  exact trivial
open PySem PySem.W PyProof.Rows
namespace Mine
noncomputable def cnt (f : Nat → Bool) : Int := ((List.range 16).map fun j => b2 (f j)).sum
theorem b2_add (a b : Bool) : b2 (a || b) + b2 (a && b) = b2 a + b2 b := by cases a <;> cases b <;> decide
theorem cnt_all (f : Nat → Bool) : cnt f = b2 (f 0) + b2 (f 1) + b2 (f 2) + b2 (f 3) + b2 (f 4) + b2 (f 5) + b2 (f 6) + b2 (f 7) + b2 (f 8) + b2 (f 9) + b2 (f 10) + b2 (f 11) + b2 (f 12) + b2 (f 13) + b2 (f 14) + b2 (f 15) := by
  show (b2 (f 0) + (b2 (f 1) + (b2 (f 2) + (b2 (f 3) + (b2 (f 4) + (b2 (f 5) + (b2 (f 6) + (b2 (f 7) + (b2 (f 8) + (b2 (f 9) + (b2 (f 10) + (b2 (f 11) + (b2 (f 12) + (b2 (f 13) + (b2 (f 14) + (b2 (f 15) + 0))))))))))))))) : Int) = _
  omega
theorem cnt_push1 (f : Nat → Bool) : cnt (pushF 1 f) = cnt f := by
  rw [cnt_all, cnt_all]
  show (b2 (f 0 || f 1) + b2 (f 0 && f 1) + b2 (f 2 || f 3) + b2 (f 2 && f 3) + b2 (f 4 || f 5) + b2 (f 4 && f 5) + b2 (f 6 || f 7) + b2 (f 6 && f 7) + b2 (f 8 || f 9) + b2 (f 8 && f 9) + b2 (f 10 || f 11) + b2 (f 10 && f 11) + b2 (f 12 || f 13) + b2 (f 12 && f 13) + b2 (f 14 || f 15) + b2 (f 14 && f 15) : Int) = _
  have h0 := b2_add (f 0) (f 1)
  have h2 := b2_add (f 2) (f 3)
  have h4 := b2_add (f 4) (f 5)
  have h6 := b2_add (f 6) (f 7)
  have h8 := b2_add (f 8) (f 9)
  have h10 := b2_add (f 10) (f 11)
  have h12 := b2_add (f 12) (f 13)
  have h14 := b2_add (f 14) (f 15)
  omega
theorem cnt_push2 (f : Nat → Bool) : cnt (pushF 2 f) = cnt f := by
  rw [cnt_all, cnt_all]
  show (b2 (f 0 || f 2) + b2 (f 1 || f 3) + b2 (f 0 && f 2) + b2 (f 1 && f 3) + b2 (f 4 || f 6) + b2 (f 5 || f 7) + b2 (f 4 && f 6) + b2 (f 5 && f 7) + b2 (f 8 || f 10) + b2 (f 9 || f 11) + b2 (f 8 && f 10) + b2 (f 9 && f 11) + b2 (f 12 || f 14) + b2 (f 13 || f 15) + b2 (f 12 && f 14) + b2 (f 13 && f 15) : Int) = _
  have h0 := b2_add (f 0) (f 2)
  have h1 := b2_add (f 1) (f 3)
  have h4 := b2_add (f 4) (f 6)
  have h5 := b2_add (f 5) (f 7)
  have h8 := b2_add (f 8) (f 10)
  have h9 := b2_add (f 9) (f 11)
  have h12 := b2_add (f 12) (f 14)
  have h13 := b2_add (f 13) (f 15)
  omega
theorem cnt_push4 (f : Nat → Bool) : cnt (pushF 4 f) = cnt f := by
  rw [cnt_all, cnt_all]
  show (b2 (f 0 || f 4) + b2 (f 1 || f 5) + b2 (f 2 || f 6) + b2 (f 3 || f 7) + b2 (f 0 && f 4) + b2 (f 1 && f 5) + b2 (f 2 && f 6) + b2 (f 3 && f 7) + b2 (f 8 || f 12) + b2 (f 9 || f 13) + b2 (f 10 || f 14) + b2 (f 11 || f 15) + b2 (f 8 && f 12) + b2 (f 9 && f 13) + b2 (f 10 && f 14) + b2 (f 11 && f 15) : Int) = _
  have h0 := b2_add (f 0) (f 4)
  have h1 := b2_add (f 1) (f 5)
  have h2 := b2_add (f 2) (f 6)
  have h3 := b2_add (f 3) (f 7)
  have h8 := b2_add (f 8) (f 12)
  have h9 := b2_add (f 9) (f 13)
  have h10 := b2_add (f 10) (f 14)
  have h11 := b2_add (f 11) (f 15)
  omega
theorem cnt_push8 (f : Nat → Bool) : cnt (pushF 8 f) = cnt f := by
  rw [cnt_all, cnt_all]
  show (b2 (f 0 || f 8) + b2 (f 1 || f 9) + b2 (f 2 || f 10) + b2 (f 3 || f 11) + b2 (f 4 || f 12) + b2 (f 5 || f 13) + b2 (f 6 || f 14) + b2 (f 7 || f 15) + b2 (f 0 && f 8) + b2 (f 1 && f 9) + b2 (f 2 && f 10) + b2 (f 3 && f 11) + b2 (f 4 && f 12) + b2 (f 5 && f 13) + b2 (f 6 && f 14) + b2 (f 7 && f 15) : Int) = _
  have h0 := b2_add (f 0) (f 8)
  have h1 := b2_add (f 1) (f 9)
  have h2 := b2_add (f 2) (f 10)
  have h3 := b2_add (f 3) (f 11)
  have h4 := b2_add (f 4) (f 12)
  have h5 := b2_add (f 5) (f 13)
  have h6 := b2_add (f 6) (f 14)
  have h7 := b2_add (f 7) (f 15)
  omega
theorem cnt_pushF (f : Nat → Bool) {v : Nat} (hv : v < 4) : cnt (pushF (2 ^ v) f) = cnt f := by
  rcases v with _ | _ | _ | _ | v
  · exact cnt_push1 f
  · exact cnt_push2 f
  · exact cnt_push4 f
  · exact cnt_push8 f
  · omega
theorem cnt_fold : ∀ (os : List Nat) (f : Nat → Bool), (∀ v ∈ os, v < 4) → cnt (pushE f os) = cnt f
  | [], _, _ => rfl
  | v :: os, f, h => (cnt_fold os (pushF (2 ^ v) f) fun u hu => h u (.tail _ hu)).trans (cnt_pushF f (h v (.head _)))
theorem len_b2 {α : Type} (p : α → Bool) : ∀ l : List α, ((l.filter p).length : Int) = (l.map fun j => b2 (p j)).sum
  | [] => rfl
  | a :: l => by
    have ih := len_b2 p l
    rw [List.filter_cons, List.map_cons, List.sum_cons, ← ih]
    by_cases h : p a = true
    · rw [if_pos h, h, List.length_cons]; show _ = (1 : Int) + _; omega
    · have h' : p a = false := by simpa using h
      rw [if_neg h, h']; show _ = (0 : Int) + _; omega
theorem sets_len (x : Int) : ((r16.filter (ownP x)).length : Int) = cnt (hasBit x) := by
  rw [len_b2]
  unfold r16 cnt
  rw [List.map_map]
  congr 1
  refine List.map_congr_left fun j _ => ?_
  show b2 (ownP x (j : Int)) = _
  rw [ownP_hasBit]
theorem un32_step (d u s : Int) (h : u % 31 = s % 31) : (d + 32 * u) % 31 = (d + s) % 31 := by
  rw [Int.add_emod, Int.add_emod d s, ← h, Int.mul_emod, show (32 : Int) % 31 = 1 from rfl, Int.one_mul, Int.emod_emod_of_dvd _ (Int.dvd_refl 31)]
theorem un32 : ∀ ds : List Int, (un 32 ds) % 31 = ds.sum % 31
  | [] => rfl
  | d :: ds => by
    rw [un, List.sum_cons]; exact un32_step _ _ _ (un32 ds)
theorem sum_more (g : Nat → Int) (k : Nat) (h : ∀ i, g (k + i) = 0) : ∀ m, ((List.range (k + m)).map g).sum = ((List.range k).map g).sum
  | 0 => rfl
  | m + 1 => by
    rw [← Nat.add_assoc, List.range_succ, List.map_append, List.sum_append, sum_more g k h m]
    simp [h]
theorem bits_cnt {y : Int} (h0 : 0 ≤ y) (h1 : y < 65536) : (dg 2 (Builtin.Int.intBits y) y).sum = cnt (hasBit y) := by
  have hlt : y.natAbs < 2 ^ Builtin.Int.intBits y := intBits_le_iff.mp (Nat.le_refl _)
  have hb : Builtin.Int.intBits y ≤ 16 := intBits_le_iff.mpr (nabs_lt h0 h1)
  generalize Builtin.Int.intBits y = k at *
  have hlt2 : y < 2 ^ k := by rw [← kbt_cast]; exact of_nabs h0 hlt
  rw [dg_bits k y h0 hlt2]
  have e : ∀ j, Builtin.bitAnd (y.fdiv (2 ^ j)) 1 = b2 (hasBit y j) := fun j => by
    have hp := kbt_pos j
    unfold hasBit b2
    rw [Int.fdiv_eq_ediv_of_nonneg _ (by omega), bitAnd_m1 _]
    by_cases h : y / 2 ^ j % 2 = 1
    · rw [if_pos (decide_eq_true h), h]
    · rw [if_neg (by simpa using h)]; exact mod2_0 h
  have hz : ∀ i, b2 (hasBit y (k + i)) = 0 := fun i => by
    have hp := kbt_pos i
    have hpk := kbt_pos k
    have : y / 2 ^ (k + i) = 0 := by
      refine Int.ediv_eq_zero_of_lt h0 ?_
      rw [Int.pow_add]
      have : (2 : Int) ^ k * 1 ≤ 2 ^ k * 2 ^ i := Int.mul_le_mul_of_nonneg_left (by omega) (by omega)
      omega
    unfold hasBit
    rw [this]; rfl
  rw [List.map_congr_left (fun j _ => e j), ← sum_more (fun j => b2 (hasBit y j)) k hz (16 - k), show k + (16 - k) = 16 by omega]
  rfl
theorem lacks_law {os : List Int} {x : Int} (hos : os ∈ orders) (hx : 0 ≤ x) (hxb : x < 65536) : (-(un 32 (dg 2 (Builtin.Int.intBits (os.foldl push1 x)) (os.foldl push1 x)))) % 31 = (-((r16.filter (ownP x)).length : Int)) % 31 := by
  obtain ⟨h1, _⟩ := orders_nat os hos
  have hob := (orders_are hos).2
  obtain ⟨y0, y1⟩ := pushF_lt os hob hx hxb
  have h := un32 (dg 2 (Builtin.Int.intBits (os.foldl push1 x)) (os.foldl push1 x))
  rw [bits_cnt y0 y1] at h
  rw [sets_len]
  have hc : cnt (hasBit (os.foldl push1 x)) = cnt (hasBit x) := by
    generalize os.map Int.toNat = on at *
    subst h1
    have hb : ∀ v ∈ on, v < 4 := fun v hv => by have := hob (v : Int) (List.mem_map_of_mem hv); omega
    rw [push_fold on x hb hx hxb, cnt_fold _ _ hb]
  rw [hc] at h
  omega
theorem xor_all {x : Int} (hx : 0 ≤ x) (hxb : x < 65536) : Builtin.bitXor 65535 x = 65535 - x := by
  rw [bitXor_and]
  obtain ⟨n, rfl⟩ := Int.eq_ofNat_of_zero_le hx
  have e : (65535 : Nat) &&& n = n := by
    rw [Nat.and_comm]
    have := Nat.and_two_pow_sub_one_eq_mod n 16
    rw [show 2 ^ 16 - 1 = 65535 from rfl] at this
    rw [this]; omega
  rw [show (65535 : Int) = ((65535 : Nat) : Int) from rfl, bitAnd_nat, e]
  omega
theorem xor_bound {x : Int} (hx : 0 ≤ x) (hxb : x < 65536) : 0 ≤ Builtin.bitXor 65535 x ∧ Builtin.bitXor 65535 x < 65536 := by
  rw [xor_all hx hxb]; omega
end Mine
end
section
theorem Mine.fresh_MathC : True := by
  w_top off
  exact trivial
open PySem PySem.W PyProof.Rows
namespace Mine
noncomputable def Tr.dual : Tr → Tr
  | .at n => .at n
  | .ff => .ff
  | .an a b => .or a.dual b.dual
  | .or a b => .an a.dual b.dual
noncomputable def Tr.ok : Tr → Bool
  | .at n => decide (n < 16)
  | .ff => false
  | .an a b => a.ok && b.ok
  | .or a b => a.ok && b.ok
theorem Tr.dual_ev (f g : Nat → Bool) (h : ∀ k < 16, g k = !f k) : ∀ t : Tr, t.ok = true → t.ev g = !(t.dual.ev f)
  | .at n, ok => h n (of_decide_eq_true ok)
  | .ff, ok => nomatch ok
  | .an a b, ok => by
    obtain ⟨p, q⟩ := Bool.and_eq_true_iff.mp ok
    show (a.ev g && b.ev g) = !(a.dual.ev f || b.dual.ev f)
    rw [Tr.dual_ev f g h a p, Tr.dual_ev f g h b q, Bool.not_or]
  | .or a b, ok => by
    obtain ⟨p, q⟩ := Bool.and_eq_true_iff.mp ok
    show (a.ev g || b.ev g) = !(a.dual.ev f && b.dual.ev f)
    rw [Tr.dual_ev f g h a p, Tr.dual_ev f g h b q, Bool.not_and]
theorem tree_dual_same : ∀ os ∈ ordersN, ∀ j < 16, ((os.foldl (fun g v => pushG (2 ^ v) g) Tr.at) j).ok = true ∧ Tr.same ((os.foldl (fun g v => pushG (2 ^ v) g) Tr.at) j).dual ((os.foldl (fun g v => pushG (2 ^ v) g) Tr.at) (15 - j)) = true := by decide +kernel
theorem tree_dual : ∀ os ∈ ordersN, ∀ j < 16, ((os.foldl (fun g v => pushG (2 ^ v) g) Tr.at) j).ok = true ∧ ((os.foldl (fun g v => pushG (2 ^ v) g) Tr.at) j).dual = (os.foldl (fun g v => pushG (2 ^ v) g) Tr.at) (15 - j) := fun os ho j hj => ⟨(tree_dual_same os ho j hj).1, Tr.same_eq (tree_dual_same os ho j hj).2⟩
theorem push_dual {f g : Nat → Bool} (h : ∀ k < 16, g k = !f k) {os : List Nat} (ho : os ∈ ordersN) {j : Nat} (hj : j < 16) : pushE g os j = !(pushE f os (15 - j)) := by
  obtain ⟨h1, h2⟩ := tree_dual os ho j hj
  rw [show pushE g os = pushE (fun k => (Tr.at k).ev g) os from rfl, show pushE f os = pushE (fun k => (Tr.at k).ev f) os from rfl, pushes_ev, pushes_ev]
  show Tr.ev g _ = !(Tr.ev f _)
  rw [Tr.dual_ev f g h _ h1, h2]
theorem nb_div {x p c : Int} (hp : 0 < p) (e : 65535 = p * c + (p - 1)) : (65535 - x) / p = c - x / p := by
  have h := Int.emod_add_mul_ediv x p
  have h1 := Int.emod_nonneg x (Int.ne_of_gt hp)
  have h2 := Int.emod_lt_of_pos x hp
  have e2 : 65535 - x = (p - 1 - x % p) + p * (c - x / p) := by rw [Int.mul_sub]; omega
  rw [e2, Int.add_mul_ediv_left _ _ (Int.ne_of_gt hp), Int.ediv_eq_zero_of_lt (by omega) (by omega), Int.zero_add]
theorem nb_odd (d a : Int) : (2 * d + 1 - a) % 2 = 1 - a % 2 := by
  rw [show 2 * d + 1 - a = (1 - a) + 2 * d by rw [Int.add_sub_assoc, Int.add_comm], Int.add_mul_emod_self_left]
  omega
theorem nb_key : ∀ k < 16, (65535 : Int) = 2 ^ k * (2 * (2 ^ (15 - k) - 1) + 1) + (2 ^ k - 1) := by decide +kernel
theorem not_bit {x : Int} : ∀ k < 16, hasBit (65535 - x) k = !hasBit x k := by
  intro k hk
  have e : (65535 - x) / 2 ^ k % 2 = 1 - x / 2 ^ k % 2 := by
    rw [nb_div (kbt_pos k) (nb_key k hk), nb_odd]
  unfold hasBit
  rw [e]
  by_cases h : x / 2 ^ k % 2 = 1
  · rw [h]; rfl
  · have h0 := mod2_0 h
    rw [h0]; rfl
theorem sum_filt (p : Int → Bool) (g : Int → Int) : ∀ l : List Int, ((l.filter p).map g).sum = (l.map fun v => if p v then g v else 0).sum
  | [] => rfl
  | a :: l => by
    have ih := sum_filt p g l
    rw [List.filter_cons, List.map_cons, List.sum_cons, ← ih]
    by_cases h : p a = true
    · rw [if_pos h, if_pos h, List.map_cons, List.sum_cons]
    · rw [if_neg h, if_neg h]; omega
theorem bits_sum (y : Int) : ∀ k : Nat, ((List.range k).map fun j => if hasBit y j then (2 : Int) ^ j else 0).sum = y % 2 ^ k
  | 0 => by simp [Int.emod_one]
  | k + 1 => by
    rw [List.range_succ, List.map_append, List.sum_append, bits_sum y k]
    have hp := kbt_pos k
    have e : y % 2 ^ (k + 1) = y % 2 ^ k + 2 ^ k * (y / 2 ^ k % 2) := by
      have a1 := Int.emod_add_mul_ediv y (2 ^ k)
      have a2 := Int.emod_add_mul_ediv (y / 2 ^ k) 2
      have a3 : y / 2 ^ (k + 1) = y / 2 ^ k / 2 := by rw [Int.pow_succ, ← Int.ediv_ediv_of_nonneg (Int.le_of_lt hp)]
      have a4 := Int.emod_add_mul_ediv y (2 ^ (k + 1))
      rw [a3] at a4
      have a5 : (2 : Int) ^ (k + 1) * (y / 2 ^ k / 2) = 2 ^ k * (2 * (y / 2 ^ k / 2)) := by rw [Int.pow_succ, Int.mul_assoc]
      have a6 : (2 : Int) ^ k * (y / 2 ^ k % 2 + 2 * (y / 2 ^ k / 2)) = 2 ^ k * (y / 2 ^ k) := by rw [a2]
      rw [Int.mul_add] at a6
      omega
    rw [e]
    simp only [List.map_cons, List.map_nil, List.sum_cons, List.sum_nil, Int.add_zero]
    unfold hasBit
    by_cases h : y / 2 ^ k % 2 = 1
    · rw [if_pos (decide_eq_true h), h, Int.mul_one]
    · have h0 := mod2_0 h
      rw [h0]; simp
theorem any_bits (y : Int) {k : Nat} (hk : k < 16) : (r16.filter (ownP y)).any (· == (k : Int)) = hasBit y k := by
  rw [Bool.eq_iff_iff, List.any_eq_true]
  constructor
  · rintro ⟨v, hv, e⟩
    rw [beq_iff_eq] at e
    subst e
    have := (List.mem_filter.mp hv).2
    rwa [ownP_hasBit] at this
  · intro h
    refine ⟨(k : Int), List.mem_filter.mpr ⟨List.mem_of_getElem? (r16_get hk), by rw [ownP_hasBit]; exact h⟩, by simp⟩
theorem other_law {os : List Int} {x : Int} (hos : os ∈ orders) (hx : 0 ≤ x) (hxb : x < 65536) : os.foldl push1 (Builtin.bitXor 65535 x) = ((r16.filter fun v => otherP (r16.filter (playsB os ((List.range 16).map (tabF os x)))) (15 - v)).map fun v => 1 * 2 ^ v.toNat).sum := by
  obtain ⟨h1, _⟩ := orders_nat os hos
  have hob := (orders_are hos).2
  have ho : os.map Int.toNat ∈ ordersN := List.mem_map_of_mem hos
  obtain ⟨b0, b1⟩ := xor_bound hx hxb
  obtain ⟨y0, y1⟩ := pushF_lt os hob b0 b1
  rw [← down_law hos hx hxb, bitsI_filt, sum_filt]
  have hbit : ∀ k < 16, hasBit (os.foldl push1 (Builtin.bitXor 65535 x)) k = !hasBit (os.foldl push1 x) (15 - k) := by
    intro k hk
    rw [xor_all hx hxb] at b0 b1 ⊢
    generalize os.map Int.toNat = on at *
    subst h1
    have hb : ∀ v ∈ on, v < 4 := fun v hv => by have := hob (v : Int) (List.mem_map_of_mem hv); omega
    rw [push_fold on x hb hx hxb, push_fold on _ hb b0 b1]
    exact push_dual (not_bit) ho hk
  have hs := bits_sum (os.foldl push1 (Builtin.bitXor 65535 x)) 16
  rw [Int.emod_eq_of_lt y0 (by omega)] at hs
  rw [← hs]
  unfold r16
  rw [List.map_map]
  congr 1
  refine List.map_congr_left fun j hj => ?_
  have hj : j < 16 := List.mem_range.mp hj
  show _ = if otherP _ (15 - (j : Int)) then 1 * (2 : Int) ^ (j : Int).toNat else 0
  unfold otherP
  rw [show (15 : Int) - (j : Int) = ((15 - j : Nat) : Int) by omega, show List.filter (ownP (os.foldl push1 x)) (List.map Int.ofNat (List.range 16)) = r16.filter (ownP (os.foldl push1 x)) from rfl, any_bits _ (by omega : 15 - j < 16), ← hbit j hj, Int.toNat_natCast, Int.one_mul]
end Mine
end
section
theorem Mine.fresh_MathD : True := by
  w_top off
  exact trivial
open PySem PySem.W PyProof.Rows
namespace Mine
theorem step_mem (σ : List Int) (v k : Int) : k ∈ step_dedup σ v ↔ k ∈ σ ∨ k = v := by
  have h := step_any σ v k
  have e : ∀ l : List Int, l.any (· == k) = true ↔ k ∈ l := fun l => by
    rw [List.any_eq_true]
    constructor
    · rintro ⟨w, hw, e⟩
      rw [beq_iff_eq] at e; subst e; exact hw
    · intro h; exact ⟨k, h, by simp⟩
  rw [← e, h, Bool.or_eq_true, e, decide_eq_true_iff]
theorem step_nodup {σ : List Int} (v : Int) (h : σ.Nodup) : (step_dedup σ v).Nodup := by
  unfold step_dedup
  split
  · exact h
  · rename_i hv
    rw [List.nodup_append]
    refine ⟨h, by simp, fun a ha b hb => ?_⟩
    rw [List.mem_singleton.mp hb]
    intro e
    subst e
    exact hv (by simpa using ha)
theorem fold_mem : ∀ (l σ : List Int) (k : Int), k ∈ l.foldl step_dedup σ ↔ k ∈ σ ∨ k ∈ l
  | [], σ, k => by simp
  | v :: l, σ, k => by
    rw [List.foldl_cons, fold_mem l, step_mem, List.mem_cons, or_assoc]
theorem fold_nodup : ∀ (l σ : List Int), σ.Nodup → (l.foldl step_dedup σ).Nodup
  | [], _, h => h
  | v :: l, σ, h => fold_nodup l _ (step_nodup v h)
theorem ddp_mem (l : List Int) (k : Int) : k ∈ ddp l ↔ k ∈ l := by
  unfold ddp
  rw [fold_mem]; simp
theorem ddp_len (l P : List Int) (hP : P.Nodup) (h : ∀ k ∈ l, k ∈ P) : (ddp l).length = P.length ↔ ∀ k ∈ P, k ∈ l := by
  have hn : (ddp l).Nodup := fold_nodup l [] List.nodup_nil
  have hp : (P.filter fun k => decide (k ∈ l)).Perm (ddp l) := (List.perm_ext_iff_of_nodup (hP.filter _) hn).mpr fun a => by
    rw [ddp_mem, List.mem_filter, decide_eq_true_iff]
    exact ⟨fun x => x.2, fun x => ⟨h a x, x⟩⟩
  rw [← hp.length_eq, List.length_filter_eq_length_iff]
  exact ⟨fun x k hk => of_decide_eq_true (x k hk), fun x k hk => decide_eq_true (x k hk)⟩
noncomputable def parts (a : Nat) : List Nat := (List.range 16).filter fun s => s &&& a == s
noncomputable def cl (a s : Nat) : List Nat := (List.range 16).filter fun k => a &&& k == s
noncomputable def allB (a : Nat) (f : Nat → Bool) : Bool := (parts a).all fun s => (cl a s).any f
theorem parts_facts : ∀ a : Nat, a < 16 → (1 * 2 ^ (popI (a : Int)).toNat : Int) = ((parts a).length : Int) ∧ ∀ k : Nat, k < 16 → a &&& k ∈ parts a := by decide +kernel
theorem parts_nodup (a : Nat) : ((parts a).map Int.ofNat).Nodup := by
  rw [List.nodup_iff_pairwise_ne, List.pairwise_map]
  unfold parts
  refine (List.Pairwise.filter _ List.nodup_range).imp fun h e => h (Int.ofNat.inj e)
theorem cut_all {a : Nat} (ha : a < 16) (f : Nat → Bool) : cutW (a : Int) (((List.range 16).filter f).map Int.ofNat) = allB a f := by
  obtain ⟨h1, h2⟩ := parts_facts a ha
  unfold cutW
  rw [h1, List.map_map]
  have em : ((fun k => Builtin.bitAnd (a : Int) k) ∘ Int.ofNat) = fun k : Nat => ((a &&& k : Nat) : Int) := funext fun k => bitAnd_nat a k
  rw [em]
  have key := ddp_len (((List.range 16).filter f).map fun k : Nat => ((a &&& k : Nat) : Int)) ((parts a).map Int.ofNat) (parts_nodup a) (fun k hk => by
    obtain ⟨n, hn, rfl⟩ := List.mem_map.mp hk
    exact List.mem_map.mpr ⟨_, h2 n (List.mem_range.mp (List.mem_filter.mp hn).1), rfl⟩)
  rw [List.length_map] at key
  rw [Bool.eq_iff_iff, beq_iff_eq, Int.ofNat_inj, key]
  unfold allB
  rw [List.all_eq_true]
  constructor
  · intro h s hs
    obtain ⟨n, hn, e⟩ := List.mem_map.mp (h _ (List.mem_map.mpr ⟨s, hs, rfl⟩))
    have hn := List.mem_filter.mp hn
    refine List.any_eq_true.mpr ⟨n, List.mem_filter.mpr ⟨hn.1, ?_⟩, hn.2⟩
    rw [beq_iff_eq]; exact Int.ofNat.inj e
  · intro h k hk
    obtain ⟨s, hs, rfl⟩ := List.mem_map.mp hk
    obtain ⟨n, hn, hf⟩ := List.any_eq_true.mp (h s hs)
    have hn := List.mem_filter.mp hn
    refine List.mem_map.mpr ⟨n, List.mem_filter.mpr ⟨hn.1, hf⟩, ?_⟩
    exact congrArg Int.ofNat (beq_iff_eq.mp hn.2)
noncomputable def cnf : Tr → List (List Nat)
  | .at n => [[n]]
  | .ff => [[]]
  | .an a b => cnf a ++ cnf b
  | .or a b => (cnf a).flatMap fun c => (cnf b).map fun d => c ++ d
theorem all_or (p : Bool) {α : Type} (q : α → Bool) : ∀ l : List α, (l.all fun d => p || q d) = (p || l.all q)
  | [] => by simp
  | a :: l => by rw [List.all_cons, List.all_cons, all_or p q l]; cases p <;> simp
theorem all_or' (p : Bool) {α : Type} (q : α → Bool) (l : List α) : (l.all fun d => q d || p) = (l.all q || p) := by
  have := all_or p q l
  simp only [Bool.or_comm p] at this
  exact this
theorem cnf_ev (f : Nat → Bool) : ∀ t : Tr, t.ev f = (cnf t).all fun c => c.any f
  | .at n => by simp [Tr.ev, cnf]
  | .ff => by simp [Tr.ev, cnf]
  | .an a b => by
    show (a.ev f && b.ev f) = _
    rw [cnf_ev f a, cnf_ev f b, cnf, List.all_append]
  | .or a b => by
    show (a.ev f || b.ev f) = _
    rw [cnf_ev f a, cnf_ev f b, cnf, List.all_flatMap]
    rw [← all_or' _ _ (cnf a)]
    congr 1
    funext c
    rw [List.all_map, ← all_or]
    congr 1
    funext d
    exact List.any_append.symm
noncomputable def mask (c : List Nat) : Nat := c.foldr (fun k m => 2 ^ k ||| m) 0
theorem mask_bit : ∀ (c : List Nat) (i : Nat), (mask c).testBit i = true ↔ i ∈ c
  | [], i => by simp [mask]
  | k :: c, i => by
    show (2 ^ k ||| mask c).testBit i = true ↔ _
    rw [Nat.testBit_or, Nat.testBit_two_pow, Bool.or_eq_true, mask_bit c i, List.mem_cons, decide_eq_true_iff]
    exact ⟨fun h => h.imp Eq.symm id, fun h => h.imp Eq.symm id⟩
theorem mask_any {c d : List Nat} (h : mask c = mask d) (f : Nat → Bool) (hc : c.any f = true) : d.any f = true := by
  obtain ⟨k, hk, hf⟩ := List.any_eq_true.mp hc
  exact List.any_eq_true.mpr ⟨k, (mask_bit d k).mp (h ▸ (mask_bit c k).mpr hk), hf⟩
noncomputable def chk (C P : List (List Nat)) : Bool := ((C.map mask).all fun m => (P.map mask).contains m) && ((P.map mask).all fun m => (C.map mask).contains m)
theorem chk_half {C P : List (List Nat)} (h : ((C.map mask).all fun m => (P.map mask).contains m) = true) (f : Nat → Bool) (hp : (P.all fun c => c.any f) = true) : (C.all fun c => c.any f) = true := by
  rw [List.all_eq_true] at h hp ⊢
  intro c hc
  have := h _ (List.mem_map_of_mem hc)
  rw [List.contains_iff_mem] at this
  obtain ⟨d, hd, e⟩ := List.mem_map.mp this
  exact mask_any e f (hp d hd)
theorem chk_ev {C P : List (List Nat)} (h : chk C P = true) (f : Nat → Bool) : (C.all fun c => c.any f) = P.all fun c => c.any f := by
  obtain ⟨h1, h2⟩ := Bool.and_eq_true_iff.mp h
  rw [Bool.eq_iff_iff]
  exact ⟨chk_half h2 f, chk_half h1 f⟩
noncomputable def treeN (os : List Nat) : Nat → Tr := os.foldl (fun g v => pushG (2 ^ v) g) Tr.at
theorem push_tree (f : Nat → Bool) (os : List Nat) (j : Nat) : pushE f os j = (treeN os j).ev f := by
  rw [show pushE f os = pushE (fun k => (Tr.at k).ev f) os from rfl, pushes_ev]
  rfl
noncomputable def ownN (os : List Nat) (j : Nat) : List Nat := os.filter fun v => j.testBit v
noncomputable def othN (os : List Nat) (j : Nat) : List Nat := os.filter fun v => !j.testBit v
theorem tree_checks : ∀ os ∈ ordersN, ∀ j < 16, chk (cnf (treeN (othN os j ++ ownN os j) j)) ((parts j).map (cl j)) = true ∧ (treeN (ownN os j ++ othN os j) j).ok = true ∧ chk (cnf (treeN (ownN os j ++ othN os j) j).dual) ((parts (15 - j)).map (cl (15 - j))) = true := by decide +kernel
theorem own_first {os : List Nat} (ho : os ∈ ordersN) {j : Nat} (hj : j < 16) (f g : Nat → Bool) (h : ∀ k < 16, f k = !g k) : (!(pushE f (ownN os j ++ othN os j) j)) = allB (15 - j) g := by
  obtain ⟨_, h2, h3⟩ := tree_checks os ho j hj
  rw [push_tree, Tr.dual_ev g f h _ h2, Bool.not_not, cnf_ev, chk_ev h3, List.all_map]
  rfl
theorem own_last {os : List Nat} (ho : os ∈ ordersN) {j : Nat} (hj : j < 16) (f : Nat → Bool) : pushE f (othN os j ++ ownN os j) j = allB j f := by
  obtain ⟨h1, _, _⟩ := tree_checks os ho j hj
  rw [push_tree, cnf_ev, chk_ev h1, List.all_map]
  rfl
theorem bit_is1 (y : Int) (j : Nat) : (Builtin.bitAnd (y.fdiv (2 ^ j)) 1 == 1) = hasBit y j := by
  have hp := kbt_pos j
  unfold hasBit
  rw [Int.fdiv_eq_ediv_of_nonneg _ (by omega), bitAnd_m1 _, Bool.eq_iff_iff, beq_iff_eq, decide_eq_true_iff]
theorem bit_is0 (y : Int) (j : Nat) : (Builtin.bitAnd (y.fdiv (2 ^ j)) 1 == 0) = !hasBit y j := by
  have hp := kbt_pos j
  unfold hasBit
  rw [Int.fdiv_eq_ediv_of_nonneg _ (by omega), bitAnd_m1 _, Bool.eq_iff_iff, beq_iff_eq, Bool.not_eq_true', decide_eq_false_iff_not]
  omega
theorem own_nat (on : List Nat) (j : Nat) : (on.map Int.ofNat).filter (ownP (j : Int)) = (ownN on j).map Int.ofNat := by
  unfold ownN
  rw [List.filter_map]
  congr 1
  refine List.filter_congr fun v _ => ?_
  show ownP (j : Int) (v : Int) = _
  rw [ownP_hasBit, hasBit_nat]
theorem oth_nat (on : List Nat) (j : Nat) : (on.map Int.ofNat).filter (otherP ((ownN on j).map Int.ofNat)) = (othN on j).map Int.ofNat := by
  unfold othN
  rw [List.filter_map]
  congr 1
  refine List.filter_congr fun v hv => ?_
  show (!(((ownN on j).map Int.ofNat).any (· == (v : Int)))) = !j.testBit v
  congr 1
  rw [Bool.eq_iff_iff, List.any_eq_true]
  constructor
  · rintro ⟨w, hw, e⟩
    obtain ⟨n, hn, rfl⟩ := List.mem_map.mp hw
    rw [beq_iff_eq] at e
    have e : n = v := Int.ofNat.inj e
    subst e
    exact (List.mem_filter.mp hn).2
  · intro h
    exact ⟨(v : Int), List.mem_map.mpr ⟨v, List.mem_filter.mpr ⟨hv, h⟩, rfl⟩, by simp⟩
theorem abs_sets (x : Int) : r16.filter (otherP (r16.filter (ownP x))) = ((List.range 16).filter fun k => !hasBit x k).map Int.ofNat := by
  rw [show r16.filter (otherP (r16.filter (ownP x))) = (r16 : List Int).filter (otherP (r16.filter (ownP x))) from rfl]
  conv => lhs; unfold r16; rw [List.filter_map]
  congr 1
  refine List.filter_congr fun k hk => ?_
  show (!((r16.filter (ownP x)).any (· == (k : Int)))) = _
  rw [any_bits x (List.mem_range.mp hk)]
theorem comes_law {os : List Int} {x aim : Int} (hos : os ∈ orders) (hx : 0 ≤ x) (hxb : x < 65536) (ha0 : 0 ≤ aim) (ha1 : aim < 16) : comesV os (r16.filter (ownP x)) x aim = true := by
  obtain ⟨h1, _⟩ := orders_nat os hos
  have hob := (orders_are hos).2
  have ho : os.map Int.toNat ∈ ordersN := List.mem_map_of_mem hos
  obtain ⟨j, rfl⟩ := Int.eq_ofNat_of_zero_le ha0
  have hj : j < 16 := by omega
  generalize os.map Int.toNat = on at *
  subst h1
  have hb : ∀ v ∈ on, v < 4 := fun v hv => by have := hob (v : Int) (List.mem_map_of_mem hv); omega
  have hbo : ∀ v ∈ ownN on j, v < 4 := fun v hv => hb v (List.mem_filter.mp hv).1
  have hbt : ∀ v ∈ othN on j, v < 4 := fun v hv => hb v (List.mem_filter.mp hv).1
  unfold comesV
  rw [own_nat, oth_nat, ← List.map_append, ← List.map_append, Int.toNat_natCast, bit_is0, bit_is1]
  rw [push_fold _ x (fun v hv => (List.mem_append.mp hv).elim (hbo v) (hbt v)) hx hxb, push_fold _ x (fun v hv => (List.mem_append.mp hv).elim (hbt v) (hbo v)) hx hxb]
  rw [own_last ho hj, own_first ho hj (hasBit x) (fun k => !hasBit x k) (fun k _ => by simp)]
  rw [abs_sets, show (15 : Int) - (j : Int) = ((15 - j : Nat) : Int) by omega, cut_all (by omega), ← bitsI_filt]
  rw [show bitsI x = ((List.range 16).filter (hasBit x)).map Int.ofNat from rfl, cut_all hj]
  simp
theorem r16_sorted (p : Int → Bool) : (r16.filter p).Pairwise (· < ·) := List.Pairwise.filter p (by decide)
end Mine
end
end
local macro_rules | `(tactic| omega) => `(tactic| walk_at "mine short")
section
theorem Mine.fresh_X_law : True := by
  w_top off
  exact trivial
open PySem PySem.W PyProof.Rows PySem.Calls PySem.Spec
namespace Mine
theorem fillK29 (w : World) : row.name = row.name ∧ Kf w.params = Kf w.params := by
  k_fill
  exact ⟨rfl, rfl⟩
local macro_rules | `(tactic| walk_at "mine steps") => `(tactic| w_strict (repeat' (walk_at "mine no 0"; walk_at "mine no 1"; walk_at "mine no 15"; walk_at "mine no 16"; walk_at "mine no 5"; walk_at "mine no 6"; walk_at "mine no 7"; walk_at "mine no 8"; walk_at "mine core")))
theorem room64l {A : Around} {L : Addr} {h : Heap} {dep : Nat} (Y : At A L h dep) (hd : 8 ≤ dep) : A.units + 64 < cLine := by have := Y.hu; omega
local macro_rules | `(tactic| ke_room) => `(tactic| exact room64l (by assumption) (by decide))
theorem mv6 {α : Type} (a b c d e f u v : α) (l : List α) : ∀ p ∈ a :: b :: c :: d :: e :: f :: u :: v :: l, p ∈ u :: v :: (l ++ [a, b, c, d, e, f]) :=
  List.forall_mem_cons.mpr ⟨.tail _ (.tail _ (List.mem_append_right _ (.head _))), List.forall_mem_cons.mpr ⟨.tail _ (.tail _ (List.mem_append_right _ (.tail _ (.head _)))), List.forall_mem_cons.mpr ⟨.tail _ (.tail _ (List.mem_append_right _ (.tail _ (.tail _ (.head _))))), List.forall_mem_cons.mpr ⟨.tail _ (.tail _ (List.mem_append_right _ (.tail _ (.tail _ (.tail _ (.head _)))))), List.forall_mem_cons.mpr ⟨.tail _ (.tail _ (List.mem_append_right _ (.tail _ (.tail _ (.tail _ (.tail _ (.head _))))))), List.forall_mem_cons.mpr ⟨.tail _ (.tail _ (List.mem_append_right _ (.tail _ (.tail _ (.tail _ (.tail _ (.tail _ (.head _)))))))), List.forall_mem_cons.mpr ⟨.head _, List.forall_mem_cons.mpr ⟨.tail _ (.head _), fun _ h => .tail _ (.tail _ (List.mem_append_left _ h))⟩⟩⟩⟩⟩⟩⟩⟩
theorem mv8 {α : Type} (a b c d e f u v t1 t2 : α) (l m : List α) : ∀ p ∈ t1 :: t2 :: a :: b :: c :: d :: e :: f :: u :: v :: (m ++ l), p ∈ t1 :: t2 :: (m ++ a :: b :: c :: d :: e :: f :: u :: v :: l) :=
  List.forall_mem_cons.mpr ⟨.head _, List.forall_mem_cons.mpr ⟨.tail _ (.head _), List.forall_mem_cons.mpr ⟨.tail _ (.tail _ (List.mem_append_right _ (.head _))), List.forall_mem_cons.mpr ⟨.tail _ (.tail _ (List.mem_append_right _ (.tail _ (.head _)))), List.forall_mem_cons.mpr ⟨.tail _ (.tail _ (List.mem_append_right _ (.tail _ (.tail _ (.head _))))), List.forall_mem_cons.mpr ⟨.tail _ (.tail _ (List.mem_append_right _ (.tail _ (.tail _ (.tail _ (.head _)))))), List.forall_mem_cons.mpr ⟨.tail _ (.tail _ (List.mem_append_right _ (.tail _ (.tail _ (.tail _ (.tail _ (.head _))))))), List.forall_mem_cons.mpr ⟨.tail _ (.tail _ (List.mem_append_right _ (.tail _ (.tail _ (.tail _ (.tail _ (.tail _ (.head _)))))))), List.forall_mem_cons.mpr ⟨.tail _ (.tail _ (List.mem_append_right _ (.tail _ (.tail _ (.tail _ (.tail _ (.tail _ (.tail _ (.head _))))))))), List.forall_mem_cons.mpr ⟨.tail _ (.tail _ (List.mem_append_right _ (.tail _ (.tail _ (.tail _ (.tail _ (.tail _ (.tail _ (.tail _ (.head _)))))))))), fun _ h => (List.mem_append.mp h).elim (fun h => .tail _ (.tail _ (List.mem_append_left _ h))) (fun h => .tail _ (.tail _ (List.mem_append_right _ (.tail _ (.tail _ (.tail _ (.tail _ (.tail _ (.tail _ (.tail _ (.tail _ (h))))))))))))⟩⟩⟩⟩⟩⟩⟩⟩⟩⟩
theorem mv8' {α : Type} (a b c d e f u v : α) (l m : List α) : ∀ p ∈ m ++ a :: b :: c :: d :: e :: f :: u :: v :: l, p ∈ (m ++ l) ++ [a, b, c, d, e, f, u, v] := fun p hp =>
  (List.mem_append.mp hp).elim (fun h => List.mem_append_left _ (List.mem_append_left _ h)) ((List.forall_mem_cons.mpr ⟨List.mem_append_right _ (.head _), List.forall_mem_cons.mpr ⟨List.mem_append_right _ (.tail _ (.head _)), List.forall_mem_cons.mpr ⟨List.mem_append_right _ (.tail _ (.tail _ (.head _))), List.forall_mem_cons.mpr ⟨List.mem_append_right _ (.tail _ (.tail _ (.tail _ (.head _)))), List.forall_mem_cons.mpr ⟨List.mem_append_right _ (.tail _ (.tail _ (.tail _ (.tail _ (.head _))))), List.forall_mem_cons.mpr ⟨List.mem_append_right _ (.tail _ (.tail _ (.tail _ (.tail _ (.tail _ (.head _)))))), List.forall_mem_cons.mpr ⟨List.mem_append_right _ (.tail _ (.tail _ (.tail _ (.tail _ (.tail _ (.tail _ (.head _))))))), List.forall_mem_cons.mpr ⟨List.mem_append_right _ (.tail _ (.tail _ (.tail _ (.tail _ (.tail _ (.tail _ (.tail _ (.head _)))))))), fun _ h => List.mem_append_left _ (List.mem_append_right _ h)⟩⟩⟩⟩⟩⟩⟩⟩ : ∀ p ∈ a :: b :: c :: d :: e :: f :: u :: v :: l, p ∈ (m ++ l) ++ [a, b, c, d, e, f, u, v]) p)
theorem mv10 {α : Type} (x y a b c d e f u v t1 t2 : α) (l : List α) : ∀ p ∈ t1 :: t2 :: a :: b :: c :: d :: e :: f :: u :: v :: l, p ∈ x :: y :: a :: b :: c :: d :: e :: f :: u :: v :: t1 :: t2 :: l :=
  List.forall_mem_cons.mpr ⟨.tail _ (.tail _ (.tail _ (.tail _ (.tail _ (.tail _ (.tail _ (.tail _ (.tail _ (.tail _ (.head _)))))))))), List.forall_mem_cons.mpr ⟨.tail _ (.tail _ (.tail _ (.tail _ (.tail _ (.tail _ (.tail _ (.tail _ (.tail _ (.tail _ (.tail _ (.head _))))))))))), List.forall_mem_cons.mpr ⟨.tail _ (.tail _ (.head _)), List.forall_mem_cons.mpr ⟨.tail _ (.tail _ (.tail _ (.head _))), List.forall_mem_cons.mpr ⟨.tail _ (.tail _ (.tail _ (.tail _ (.head _)))), List.forall_mem_cons.mpr ⟨.tail _ (.tail _ (.tail _ (.tail _ (.tail _ (.head _))))), List.forall_mem_cons.mpr ⟨.tail _ (.tail _ (.tail _ (.tail _ (.tail _ (.tail _ (.head _)))))), List.forall_mem_cons.mpr ⟨.tail _ (.tail _ (.tail _ (.tail _ (.tail _ (.tail _ (.tail _ (.head _))))))), List.forall_mem_cons.mpr ⟨.tail _ (.tail _ (.tail _ (.tail _ (.tail _ (.tail _ (.tail _ (.tail _ (.head _)))))))), List.forall_mem_cons.mpr ⟨.tail _ (.tail _ (.tail _ (.tail _ (.tail _ (.tail _ (.tail _ (.tail _ (.tail _ (.head _))))))))), fun _ h => .tail _ (.tail _ (.tail _ (.tail _ (.tail _ (.tail _ (.tail _ (.tail _ (.tail _ (.tail _ (.tail _ (.tail _ (h))))))))))))⟩⟩⟩⟩⟩⟩⟩⟩⟩⟩
theorem TabOk.thin {B : Addr → Obj → Prop} {q : Str} {l c : Nat} {ps : Array Value} {ext old : List (Addr × Obj)} (h : TabOk B q l c ps (ext ++ old)) (ho : ∀ p ∈ old, ∀ v, p.2.data ≠ .fields v) : TabOk B q l c ps ext := by
  rcases h with h | ⟨c', oc, cvs, ct, h1, h2, h3, h4⟩
  · exact .inl h
  · refine .inr ⟨c', oc, cvs, ct, h1, h2.elim (fun h => ?_) .inr, h3, h4⟩
    rcases List.mem_append.mp h with h | h
    · exact .inl h
    · exact absurd h3 (ho _ h cvs)
theorem no_fields {o : Obj} {v : Option Value} (h : o.data = .cell v) : ∀ f, o.data ≠ .fields f := fun f e => by rw [h] at e; exact Data.noConfusion e
theorem law_start {w : World} {g : Heap} {L : Addr} {env : Env} {t : Sem Flow} {Q : Flow → Shared → Prop} {E : Value → Shared → Prop} {s : Shared} (K : Below callerA g [] g) (hf : env.frame = some L) (hk : env.scope.kind = .function)
    (h : At (callerA.deeper env) L g 60 → wpAny (model row.row.prog w) (callerA.deeper env) t Q E s) : wpAny (model row.row.prog w) (callerA.deeper env) t Q E s :=
  h ⟨⟨callerA, g, env, [], K, rfl, hf, hk⟩, rfl, by show callerA.depth + 1 + 60 < recursionLimit; decide, by show callerA.units + 3 + 8 * 60 < cLine; decide⟩
theorem lawT : row.Holds := hd (by
  w_strict (k_go0; (all_goals try k_fold))
  rename_i w s₀ s₁ mg mb G Y fa o pm cd doc ho hcd hg X V T B TE TW ns hs hlay0 hLl hr hl2 wa wb ls svs wc hL ra w1 r0 hI hr2 hc1 hc2 hD h₁ tk₁ oa ob oc od da db dc dd X0 X' T' K' F' cHd N' l0
  have XX : Ok w (ghostOf s₁.heap [(41, 37), (34, 30)]) := ⟨X', ⟨_, _, _, _, _, T'⟩, cHd, codeHd⟩
  refine law_start K' rfl rfl fun YY => ?_
  have hgW := PLift.up hg
  clear X0 ho hcd hg X V T B TE TW Y G hD hT8 hT9 w1 r0 ra
  have hns : ns.length ≤ 63 := by omega
  have hls := lifted
  generalize hLL : s₁.heap.objs.size = L at *
  induction L using genV with | h L => ?_
  generalize hgg : ghostOf s₁.heap [(41, 37), (34, 30)] = g at *
  induction g using genV with | h g => ?_
  have hL37 : @LT.lt Nat _ 37 L := l0.1
  have m1 : @LT.lt Nat _ 37 (L + 1) := Nat.lt_succ_of_lt hL37
  have m2 : @LT.lt Nat _ 37 (L + 1 + 1) := Nat.lt_succ_of_lt m1
  have m3 : @LT.lt Nat _ 37 (L + 1 + 1 + 1) := Nat.lt_succ_of_lt m2
  have m4 : @LT.lt Nat _ 37 (L + 1 + 1 + 1 + 1) := Nat.lt_succ_of_lt m3
  have d1 : oa.data = .cell none := da
  have d2 : ob.data = .cell none := db
  have d3 : oc.data = .cell none := dc
  have d4 : od.data = .cell none := dd
  walk_at "mine steps"
  refine cells_spec XX (YY.less (by omega)) F' N' hls hI hns ?_
  intro C cv cs kc h2 tk2 F2 N2 hcv hcl hcb hap2
  have e1 : @Ne Nat (L + 1) C := hap2 (L + 1, od) (by walk_at "mine deep")
  have e2 : @Ne Nat (L + 1 + 1) C := hap2 (L + 1 + 1, oc) (by walk_at "mine deep")
  have e3 : @Ne Nat (L + 1 + 1 + 1) C := hap2 (L + 1 + 1 + 1, ob) (by walk_at "mine deep")
  have e4 : @Ne Nat (L + 1 + 1 + 1 + 1) C := hap2 (L + 1 + 1 + 1 + 1, oa) (by walk_at "mine deep")
  have e5 : @Ne Nat 37 C := hap2 (37, _) (by walk_at "mine deep")
  have e6 : @Ne Nat 30 C := hap2 (30, _) (by walk_at "mine deep")
  have hg0 : 0 ≤ cs.getD 0 0 := by rw [List.getD_eq_getElem?_getD, List.getElem?_eq_getElem (by omega)]; exact (hcb _ (List.getElem_mem _)).1
  have hg1 : 0 ≤ cs.getD 1 0 := by rw [List.getD_eq_getElem?_getD, List.getElem?_eq_getElem (by omega)]; exact (hcb _ (List.getElem_mem _)).1
  walk_at "mine steps"
  rename_i h3 oF F3 N3 hoF t3
  have hx0 : 0 ≤ (cs.getD (Int.toNat 0) 0).fmod 65536 ∧ (cs.getD (Int.toNat 0) 0).fmod 65536 < 65536 := by rw [Int.fmod_eq_emod_of_nonneg _ (by decide)]; omega
  obtain ⟨tF, hoF⟩ : ∃ tF, oF.data = .cell (some (.int ((cs.getD (Int.toNat 0) 0).fmod 65536) tF)) := ⟨_, hoF⟩
  generalize (cs.getD (Int.toNat 0) 0).fmod 65536 = x at *
  induction x using genV with | h x => ?_
  obtain ⟨hx, hxb⟩ := hx0
  refine drawn_spec XX (YY.less (by omega)) F3 N3 hg1 ?_
  intro D lo ovs os ok b a tb ta h4 tk4 F4 N4 hO hos hb0 hb1 ha0 ha1 hap4 hlD
  have q1 := hap4 (L + 1, oF) (by walk_at "mine deep")
  have q2 := hap4 (L + 1 + 1, oc) (by walk_at "mine deep")
  have q3 := hap4 (L + 1 + 1 + 1, ob) (by walk_at "mine deep")
  have q4 := hap4 (L + 1 + 1 + 1 + 1, oa) (by walk_at "mine deep")
  have q5 := hap4 (37, _) (by walk_at "mine deep")
  have q6 := hap4 (30, _) (by walk_at "mine deep")
  have q7 := hap4 (C, _) (by walk_at "mine deep")
  have q1a : @Ne Nat (L + 1) lo := q1.1
  have q1b : @Ne Nat (L + 1) D := q1.2
  have q2a : @Ne Nat (L + 1 + 1) lo := q2.1
  have q2b : @Ne Nat (L + 1 + 1) D := q2.2
  have q3a : @Ne Nat (L + 1 + 1 + 1) lo := q3.1
  have q3b : @Ne Nat (L + 1 + 1 + 1) D := q3.2
  have q4a : @Ne Nat (L + 1 + 1 + 1 + 1) lo := q4.1
  have q4b : @Ne Nat (L + 1 + 1 + 1 + 1) D := q4.2
  have q5a : @Ne Nat 37 lo := q5.1
  have q5b : @Ne Nat 37 D := q5.2
  have q6a : @Ne Nat 30 lo := q6.1
  have q6b : @Ne Nat 30 D := q6.2
  have q7a : @Ne Nat C lo := q7.1
  have q7b : @Ne Nat C D := q7.2
  walk_at "mine steps"
  rename_i oO hoO hxx h5 F5 N5
  refine LCt.Assign_ListComp_T (F₀ := F5) rfl (by with_unfolding_all rfl) (by with_unfolding_all rfl) (by decide) (by rfl) (by decide) (by rfl) (by rfl) (by rfl) ?_
  walk_at "mine steps"
  rename_i h6 tk6 t6 u6 v6 hR6 F6 N6 hk6
  refine LCt.CompSrcT.range (n := 16) rfl F6 N6 hR6 (by decide) (by decide) (by decide) ?_
  intro g6
  refine restKT (fun j ys => IntsAre ys ((r16.take j).filter (ownP x))) trivial .nil ?_ ?_
  · intro j y ys7 I oI Cc oC D7 m₂ h7 tk7 E' hj hy hys7 hoC hx2 F7 N7 off7 ne7
    obtain ⟨ty, rfl⟩ := hy
    rw [Int.zero_add] at hx2
    have hv : r16[j]? = some (j : Int) := r16_get hj
    have hj0 : 0 ≤ (j : Int) := by omega
    have hj1 : (j : Int) < 16 := by omega
    walk_at "mine steps"
    · rename_i hb
      exact ⟨_, _, rfl, F7, N7, by rw [filt_yes hv (show ownP x (j : Int) = true from decide_eq_true hb)]; exact IntsAre.append hys7 (.cons _ _ .nil)⟩
    · rename_i hb
      exact ⟨_, _, rfl, F7, N7, by rw [filt_no hv (show ownP x (j : Int) = false from decide_eq_false (fun h => h hb))]; exact hys7⟩
  intro ys7 hys7 S7 h7 tk7 F7 N7 off7
  rw [r16_all] at hys7
  simp only [LCg.Off1, and_true] at off7
  generalize hsets : r16.filter (ownP x) = sets at *
  induction sets using genV with | h sets => ?_
  have hsl : sets.length ≤ 16 := by rw [← hsets]; exact Nat.le_trans (List.length_filter_le _ _) (by decide)
  walk_at "mine steps"
  obtain ⟨hol4, hob⟩ := orders_are hos
  have z1 : S7 ≠ 30 ∧ S7 ≠ 37 := ⟨Ne.symm off7.2.2.2.2.2.2.2.2, Ne.symm off7.2.2.2.2.2.2.2.1⟩
  have z2 : lo ≠ 30 ∧ lo ≠ 37 := ⟨Ne.symm q6a, Ne.symm q5a⟩
  have hlS : @Ne Nat lo S7 := off7.2.1
  refine pushed_spec (B := fun _ _ => False) (rest := (S7, LCg.lst ys7) :: (lo, listOf ovs.toArray ok) :: (L + 1 + 1 + 1 + 1, oa) :: (L + 1 + 1 + 1, ob) :: (L + 1 + 1, oO) :: [(L + 1, oF)]) XX (YY.less (by omega)) F7 (nsub N7 (by walk_at "mine sub")) ?hap1 (fun _ _ h => h.elim) (.inl rfl) (.inl rfl) (.inl (by walk_at "mine deep")) hO hol4 hob hx hxb ?_
  case hap1 =>
    exact List.forall_mem_cons.mpr ⟨z1, List.forall_mem_cons.mpr ⟨z2, List.forall_mem_cons.mpr ⟨gt37 m4, List.forall_mem_cons.mpr ⟨gt37 m3, List.forall_mem_cons.mpr ⟨gt37 m2, List.forall_mem_cons.mpr ⟨gt37 m1, List.forall_mem_nil _⟩⟩⟩⟩⟩⟩
  intro r1 r2 ext h8 ty8 tk8 F8 N8 hT1 hT2 hext hapx
  obtain ⟨hy0, hy1⟩ := pushF_lt os hob hx hxb
  have hyd : os.foldl push1 x = os.foldl push1 x := rfl
  generalize hyv : os.foldl push1 x = y at *
  induction y using genV with | h y => ?_
  clear hyd
  have x1 : ∀ p ∈ ext, @Ne Nat p.1 (L + 1) := fun p hp => Ne.symm (hapx p hp (L + 1, oF) (by walk_at "mine deep"))
  have x2 : ∀ p ∈ ext, @Ne Nat p.1 (L + 1 + 1) := fun p hp => Ne.symm (hapx p hp (L + 1 + 1, oO) (by walk_at "mine deep"))
  have x3 : ∀ p ∈ ext, @Ne Nat p.1 (L + 1 + 1 + 1) := fun p hp => Ne.symm (hapx p hp (L + 1 + 1 + 1, ob) (by walk_at "mine deep"))
  have x4 : ∀ p ∈ ext, @Ne Nat p.1 (L + 1 + 1 + 1 + 1) := fun p hp => Ne.symm (hapx p hp (L + 1 + 1 + 1 + 1, oa) (by walk_at "mine deep"))
  have w0 : @Ne Nat (L + 1 + 1 + 1 + 1) S7 := off7.2.2.2.1
  have w1 : @Ne Nat (L + 1 + 1 + 1) S7 := off7.2.2.2.2.1
  have N9 : News g L h8 ((S7, LCg.lst ys7) :: (lo, listOf ovs.toArray ok) :: (L + 1 + 1 + 1 + 1, oa) :: (L + 1 + 1 + 1, ob) :: (L + 1 + 1, oO) :: (L + 1, oF) :: (30, tabObj r1) :: (37, tabObj r2) :: ext) := nsub N8 (mv6 _ _ _ _ _ _ _ _ _)
  clear N8
  walk_at "mine steps"
  rename_i h9 F9 N10
  refine table_spec XX (YY.less (by omega)) F9 N10 (.inl (by walk_at "mine deep")) hO hos hx hxb ?_
  intro T tv tk5 h10 tk10 F11 N11 hTv hapT
  generalize hts : (List.range 16).map (tabF os x) = ts at *
  induction ts using genV with | h ts => ?_
  have hTl : ts.length = 16 := by rw [← hts]; simp
  have y1 : @Ne Nat (L + 1) T := hapT (L + 1, oF) (by walk_at "mine deep")
  have y2 : @Ne Nat (L + 1 + 1) T := hapT (L + 1 + 1, oO) (by walk_at "mine deep")
  have y3 : @Ne Nat (L + 1 + 1 + 1) T := hapT (L + 1 + 1 + 1, ob) (by walk_at "mine deep")
  have y4 : @Ne Nat (L + 1 + 1 + 1 + 1) T := hapT (L + 1 + 1 + 1 + 1, oa) (by walk_at "mine deep")
  have y5 : @Ne Nat 37 T := hapT (37, _) (by walk_at "mine deep")
  have y6 : @Ne Nat 30 T := hapT (30, _) (by walk_at "mine deep")
  have y7 : @Ne Nat lo T := hapT (lo, _) (by walk_at "mine deep")
  have y8 : @Ne Nat S7 T := hapT (S7, _) (by walk_at "mine deep")
  walk_at "mine steps"
  rename_i h12 oT F12 N12 hoT
  obtain ⟨tkT, hoT⟩ : ∃ z : Nat, oT.data = Data.cell (some (Value.ref T)) := ⟨0, hoT⟩
  refine wpAny_Assign_Name ?_ (by with_unfolding_all rfl)
  refine LCt.ListComp_T (F₀ := F12) (by with_unfolding_all rfl) (by decide) (by rfl) (by decide) (by rfl) ?_
  walk_at "mine steps"
  rename_i h13 tk13 t13 u13 v13 hR13 F13 N13 hk13
  refine LCt.CompSrcT.range (n := 16) rfl F13 N13 hR13 (by decide) (by decide) (by decide) ?_
  intro g13
  refine restKT (fun j ys => IntsAre ys ((r16.take j).filter (playsB os ts))) trivial .nil ?_ ?_
  · intro j y ys14 I oI Cc oC D14 m₂ h14 tk14 E' hj hy hys14 hoC hx2 F14 N14 off14 ne14
    obtain ⟨ty, rfl⟩ := hy
    rw [Int.zero_add] at hx2
    have hv : r16[j]? = some (j : Int) := r16_get hj
    have hj0 : 0 ≤ (j : Int) := by omega
    have hj1 : (j : Int) < 16 := by omega
    walk_at "mine steps"
    refine plays_spec XX (YY.less (by omega)) F14 N14 (.inl (by walk_at "mine deep")) hO hos (.inl (by walk_at "mine deep")) hTv hTl hj0 hj1 ?_
    intro h15 tk15 F15 N15
    walk_at "mine steps"
    all_goals (rename_i hb; first
      | exact ⟨_, _, rfl, F15, N15, by rw [filt_yes hv (show playsB os ts (j : Int) = true by unfold playsB; exact beq_iff_eq.mpr hb)]; exact IntsAre.append hys14 (.cons _ _ .nil)⟩
      | exact ⟨_, _, rfl, F15, N15, by rw [filt_no hv (show playsB os ts (j : Int) = false by unfold playsB; exact beq_eq_false_iff_ne.mpr hb)]; exact hys14⟩)
  intro ys14 hys14 S14 h14 tk14 F14 N14 off14
  rw [r16_all] at hys14
  simp only [LCg.Off1, and_true] at off14
  have w3 : @Ne Nat (L + 1 + 1 + 1 + 1) S14 := off14.2.2.2.1
  generalize hdown : r16.filter (playsB os ts) = downs at *
  induction downs using genV with | h downs => ?_
  have hdl : downs.length ≤ 16 := by rw [← hdown]; exact Nat.le_trans (List.length_filter_le _ _) (by decide)
  walk_at "mine steps"
  rename_i h16 oDn F16 N16 hDn
  obtain ⟨tkD, hDn⟩ : ∃ z : Nat, oDn.data = Data.cell (some (Value.ref S14)) := ⟨0, hDn⟩
  refine told_spec XX (YY.less (by omega)) F16 N16 hx hxb hb0 hb1 ?_
  intro D17 ys17 k17 h17 tk17 F17 N17 hys17 hap17
  rw [bitsI_filt, hsets] at hys17
  walk_at "mine steps"
  refine ke_ne_ints (News.isList N17 (.head _)) (News.isList N17 (by walk_at "mine deep")) hys17 hys7 (by ke_room) ?_
  rw [show (!decide (sets = sets)) = false by simp]
  walk_at "mine steps"
  refine told_spec XX (YY.less (by omega)) F17 N17 hy0 hy1 hb0 hb1 ?_
  intro D18 ys18 k18 h18 tk18 F18 N18 hys18 hap18
  rw [← hyv, down_law hos hx hxb, hts, hdown] at hys18
  walk_at "mine steps"
  refine ke_ne_ints (News.isList N18 (.head _)) (News.isList N18 (by walk_at "mine deep")) hys18 hys14 (by ke_room) ?_
  rw [show (!decide (downs = downs)) = false by simp]
  walk_at "mine steps"
  have N19 := nsub N18 (mv10 _ _ _ _ _ _ _ _ _ _ _ _ _)
  clear N18
  have z3 : S14 ≠ 30 ∧ S14 ≠ 37 := ⟨Ne.symm off14.2.2.2.2.2.2.2.1, Ne.symm off14.2.2.2.2.2.2.2.2.1⟩
  have z4 : T ≠ 30 ∧ T ≠ 37 := ⟨Ne.symm y6, Ne.symm y5⟩
  have ap8 : ∀ l : List (Addr × Obj), (∀ p ∈ l, p.1 ≠ 30 ∧ p.1 ≠ 37) → ∀ p ∈ (S14, LCg.lst ys14) :: (T, listOf tv.toArray tk5) :: (S7, LCg.lst ys7) :: (lo, listOf ovs.toArray ok) :: (L + 1 + 1 + 1 + 1, oDn) :: (L + 1 + 1 + 1, oT) :: (L + 1 + 1, oO) :: (L + 1, oF) :: l, p.1 ≠ 30 ∧ p.1 ≠ 37 := fun l hl =>
    List.forall_mem_cons.mpr ⟨z3, List.forall_mem_cons.mpr ⟨z4, List.forall_mem_cons.mpr ⟨z1, List.forall_mem_cons.mpr ⟨z2, List.forall_mem_cons.mpr ⟨gt37 m4, List.forall_mem_cons.mpr ⟨gt37 m3, List.forall_mem_cons.mpr ⟨gt37 m2, List.forall_mem_cons.mpr ⟨gt37 m1, hl⟩⟩⟩⟩⟩⟩⟩⟩
  have hB0 : ∀ (c : Addr) (o : Obj), (fun _ _ => False : Addr → Obj → Prop) c o → g.get? c = some o := fun _ _ h => h.elim
  have hT19 := hT1.thin (List.forall_mem_cons.mpr ⟨fun _ e => Data.noConfusion e, List.forall_mem_cons.mpr ⟨fun _ e => Data.noConfusion e, List.forall_mem_cons.mpr ⟨no_fields d1, List.forall_mem_cons.mpr ⟨no_fields d2, List.forall_mem_cons.mpr ⟨no_fields hoO, List.forall_mem_cons.mpr ⟨no_fields hoF, List.forall_mem_nil _⟩⟩⟩⟩⟩⟩)
  have hT29 := hT2.thin (List.forall_mem_cons.mpr ⟨fun _ e => Data.noConfusion e, List.forall_mem_cons.mpr ⟨fun _ e => Data.noConfusion e, List.forall_mem_cons.mpr ⟨no_fields d1, List.forall_mem_cons.mpr ⟨no_fields d2, List.forall_mem_cons.mpr ⟨no_fields hoO, List.forall_mem_cons.mpr ⟨no_fields hoF, List.forall_mem_nil _⟩⟩⟩⟩⟩⟩)
  clear hT1 hT2
  have nf8 : ∀ p ∈ [(S14, LCg.lst ys14), (T, listOf tv.toArray tk5), (S7, LCg.lst ys7), (lo, listOf ovs.toArray ok), (L + 1 + 1 + 1 + 1, oDn), (L + 1 + 1 + 1, oT), (L + 1 + 1, oO), (L + 1, oF)], ∀ v, p.2.data ≠ .fields v := List.forall_mem_cons.mpr ⟨fun _ e => Data.noConfusion e, List.forall_mem_cons.mpr ⟨fun _ e => Data.noConfusion e, List.forall_mem_cons.mpr ⟨fun _ e => Data.noConfusion e, List.forall_mem_cons.mpr ⟨fun _ e => Data.noConfusion e, List.forall_mem_cons.mpr ⟨no_fields hDn, List.forall_mem_cons.mpr ⟨no_fields hoT, List.forall_mem_cons.mpr ⟨no_fields hoO, List.forall_mem_cons.mpr ⟨no_fields hoF, List.forall_mem_nil _⟩⟩⟩⟩⟩⟩⟩⟩
  generalize hA8 : [(S14, LCg.lst ys14), (T, listOf tv.toArray tk5), (S7, LCg.lst ys7), (lo, listOf ovs.toArray ok), (L + 1 + 1 + 1 + 1, oDn), (L + 1 + 1 + 1, oT), (L + 1 + 1, oO), (L + 1, oF)] = A8 at nf8
  have h37 : ∀ p ∈ ext, p.1 ≠ 30 ∧ p.1 ≠ 37 := fun p hp => gt37 (hext p hp)
  have inA : ∀ (e1 : List (Addr × Obj)), ∀ p ∈ e1, p ∈ (S14, LCg.lst ys14) :: (T, listOf tv.toArray tk5) :: (S7, LCg.lst ys7) :: (lo, listOf ovs.toArray ok) :: (L + 1 + 1 + 1 + 1, oDn) :: (L + 1 + 1 + 1, oT) :: (L + 1 + 1, oO) :: (L + 1, oF) :: e1 := fun e1 p hp => .tail _ (.tail _ (.tail _ (.tail _ (.tail _ (.tail _ (.tail _ (.tail _ hp)))))))
  have thinA : ∀ (e1 e2 : List (Addr × Obj)) (q : Str) (l c : Nat) (ps : Array Value), TabOk (fun _ _ => False) q l c ps (e2 ++ ((S14, LCg.lst ys14) :: (T, listOf tv.toArray tk5) :: (S7, LCg.lst ys7) :: (lo, listOf ovs.toArray ok) :: (L + 1 + 1 + 1 + 1, oDn) :: (L + 1 + 1 + 1, oT) :: (L + 1 + 1, oO) :: (L + 1, oF) :: e1)) → TabOk (fun _ _ => False) q l c ps (e2 ++ e1) := fun e1 e2 q l c ps h => by
    subst hA8
    exact TabOk.thin (old := [(S14, LCg.lst ys14), (T, listOf tv.toArray tk5), (S7, LCg.lst ys7), (lo, listOf ovs.toArray ok), (L + 1 + 1 + 1 + 1, oDn), (L + 1 + 1 + 1, oT), (L + 1 + 1, oO), (L + 1, oF)]) (h.mono (mv8' _ _ _ _ _ _ _ _ _ _) (fun _ _ h => .inr h)) nf8
  refine figures_spec XX (YY.less (by omega)) F18 N19 (ap8 _ h37) hB0 (hT19.mono (inA _) (fun _ _ h => .inr h)) hx hxb ?_
  intro r1b ext2 h20 tk20 F20 N20 hT20 hext2
  have N21 := nsub N20 (mv8 _ _ _ _ _ _ _ _ _ _ _ _)
  have hT21 := thinA _ _ _ _ _ _ hT20
  have hT31 := hT29.mono (news' := ext2 ++ ext) (fun p hp => List.mem_append_right _ hp) (fun _ _ h => .inr h)
  have h37b : ∀ p ∈ ext2 ++ ext, p.1 ≠ 30 ∧ p.1 ≠ 37 := fun p hp => (List.mem_append.mp hp).elim (fun h => gt37 (hext2 p h)) (h37 p)
  generalize ext2 ++ ext = ex2 at *
  clear N20 hT20 hT29 hT19 N19
  walk_at "mine steps"
  refine lacks_spec XX (YY.less (by omega)) F20 N21 (ap8 _ h37b) hB0 (hT21.mono (inA _) (fun _ _ h => .inr h)) (hT31.mono (inA _) (fun _ _ h => .inr h)) hy0 hy1 ?_
  intro t22 r1c r2c ext3 h22 tk22 F22 N22 hT22 hT32 hext3
  have N23 := nsub N22 (mv8 _ _ _ _ _ _ _ _ _ _ _ _)
  have hT23 := thinA _ _ _ _ _ _ hT22
  have hT33 := thinA _ _ _ _ _ _ hT32
  have h37c : ∀ p ∈ ext3 ++ ex2, p.1 ≠ 30 ∧ p.1 ≠ 37 := fun p hp => (List.mem_append.mp hp).elim (fun h => gt37 (hext3 p h)) (h37b p)
  generalize ext3 ++ ex2 = ex3 at *
  clear N22 hT22 hT32 hT21 hT31 N21
  have hlk : (-(un 32 (dg 2 (Builtin.Int.intBits y) y))) % 31 = (-(sets.length : Int)) % 31 := by rw [← hyv, ← hsets]; exact lacks_law hos hx hxb
  rw [hlk]
  walk_at "mine steps"
  · rename_i hbad
    exact absurd (Int.fmod_eq_emod_of_nonneg _ (by decide)).symm hbad
  obtain ⟨hxx0, hxx1⟩ := xor_bound hx hxb
  refine pushed_spec XX (YY.less (by omega)) F22 N23 (ap8 _ h37c) hB0 (hT23.mono (inA _) (fun _ _ h => .inr h)) (hT33.mono (inA _) (fun _ _ h => .inr h)) (.inl (by walk_at "mine deep")) hO hol4 hob hxx0 hxx1 ?_
  intro r1d r2d ext4 h24 t24 tk24 F24 N24 hT24 hT34 hext4 _
  have N25 := nsub N24 (mv8 _ _ _ _ _ _ _ _ _ _ _ _)
  have hT25 := thinA _ _ _ _ _ _ hT24
  have hT35 := thinA _ _ _ _ _ _ hT34
  have h37d : ∀ p ∈ ext4 ++ ex3, p.1 ≠ 30 ∧ p.1 ≠ 37 := fun p hp => (List.mem_append.mp hp).elim (fun h => gt37 (hext4 p h)) (h37c p)
  generalize ext4 ++ ex3 = ex4 at *
  clear N24 hT24 hT34 hT23 hT33 N23
  walk_at "mine steps"
  refine LCt.ListComp_T (F₀ := F24) (by with_unfolding_all rfl) (by decide) (by rfl) (by decide) (by rfl) ?_
  walk_at "mine steps"
  rename_i h26 tk26 t26 u26 v26 hR26 F26 N26 hk26
  refine LCt.CompSrcT.range (n := 16) rfl F26 N26 hR26 (by decide) (by decide) (by decide) ?_
  intro g26
  refine restKT (fun j ys => IntsAre ys (((r16.take j).filter (fun v => otherP downs (15 - v))).map fun v => 1 * 2 ^ v.toNat)) trivial .nil ?_ ?_
  · intro j y27 ys27 I oI Cc oC D27 m₂ h27 tk27 E' hj hy27 hys27 hoC hx2 F27 N27 off27 ne27
    obtain ⟨ty, rfl⟩ := hy27
    rw [Int.zero_add] at hx2
    have hv : r16[j]? = some (j : Int) := r16_get hj
    have hj0 : 0 ≤ (j : Int) := by omega
    have hj1 : (j : Int) < 16 := by omega
    walk_at "mine steps"
    all_goals (rename_i hb; first
      | exact ⟨_, _, rfl, F27, N27, by rw [filt_yes hv (show otherP downs (15 - (j : Int)) = true by unfold otherP; rw [hb]; rfl), List.map_append]; exact IntsAre.append hys27 (.cons _ _ .nil)⟩
      | exact ⟨_, _, rfl, F27, N27, by rw [filt_no hv (show otherP downs (15 - (j : Int)) = false by unfold otherP; rw [hb]; rfl)]; exact hys27⟩)
  intro ys27 hys27 S27 h27 tk27 F27 N27 off27
  rw [r16_all] at hys27
  have hother : os.foldl push1 (Builtin.bitXor 65535 x) = ((r16.filter fun v => otherP downs (15 - v)).map fun v => 1 * 2 ^ v.toNat).sum := by
    rw [← hdown, ← hts]; exact other_law hos hx hxb
  walk_at "mine steps"
  · rename_i hbad
    exact absurd hother hbad
  rename_i h28 tk28 t28 F28 N28 heq28
  have N29 := nsub N28 (fun p hp => List.Mem.tail _ hp)
  clear N28
  refine comes_spec XX (YY.less (by omega)) F28 N29 (ap8 _ h37d) hB0 (hT25.mono (inA _) (fun _ _ h => .inr h)) (hT35.mono (inA _) (fun _ _ h => .inr h)) (.inl (by walk_at "mine deep")) hO hos (.inl (by walk_at "mine deep")) hys7 hsl hx hxb ha0 ha1 ?_
  intro r1e r2e ext5 h30 tk30 F30 N30 hT30 hT40 hext5
  have N31 := nsub N30 (mv8 _ _ _ _ _ _ _ _ _ _ _ _)
  have hT31 := thinA _ _ _ _ _ _ hT30
  have hT41 := thinA _ _ _ _ _ _ hT40
  have h37e : ∀ p ∈ ext5 ++ ex4, p.1 ≠ 30 ∧ p.1 ≠ 37 := fun p hp => (List.mem_append.mp hp).elim (hext5 p) (h37d p)
  generalize ext5 ++ ex4 = ex5 at *
  clear N30 hT30 hT40 hT25 hT35 N29
  rw [show comesV os sets x a = true by rw [← hsets]; exact comes_law hos hx hxb ha0 ha1]
  walk_at "mine steps"
  refine searched_spec XX (YY.less (by omega)) F30 N31 (.inl (by walk_at "mine deep")) hys14 hdl (by rw [← hdown]; exact r16_sorted _) ?_
  intro h32 tk32 F32 N32
  walk_at "mine steps"
  refine searched_spec XX (YY.less (by omega)) F32 N32 (.inl (by walk_at "mine deep")) hys14 hdl (by rw [← hdown]; exact r16_sorted _) ?_
  intro h34 tk34 F34 N34
  walk_at "mine steps"
  show GoodW _ _ _ _ _ (.ok (.ret (.bool true))) _
  have hg := hgW.down
  refine goodW_bool F34 hg (raisesW_false (by wrow_none_raised)) ?_
  kc_post)
end Mine
end
theorem PySem.Challenge.cw_rs0146_01_holds : PySem.Challenge.rw_rs0146_01.Holds :=
  Mine.row_is ▸ Mine.lawT
