import PyProof.Rows.All
import Wide.All
import OpenK.AllK
import Wide.FinOn
import Lean
import PySem.Challenge.RW_ij0017_01
set_option Elab.async false
section
open PySem PySem.W PyProof.Rows
namespace Mine
theorem foldA {α : Type} {M : Model} {A : Around} {t : Sem α} {Q : α → Shared → Prop} {E : Value → Shared → Prop} {s : Shared} (h : let A' := A; wpAny M A' t Q E s) : wpAny M A t Q E s := h
theorem foldS {α : Type} {M : Model} {A : Around} {t : Sem α} {Q : α → Shared → Prop} {E : Value → Shared → Prop} {s : Shared} (h : let s' := s; wpAny M A t Q E s') : wpAny M A t Q E s := h
theorem foldQ {α : Type} {M : Model} {A : Around} {t : Sem α} {Q : α → Shared → Prop} {E : Value → Shared → Prop} {s : Shared} (h : let Q' := Q; wpAny M A t Q' E s) : wpAny M A t Q E s := h
theorem foldE {α : Type} {M : Model} {A : Around} {t : Sem α} {Q : α → Shared → Prop} {E : Value → Shared → Prop} {s : Shared} (h : let E' := E; wpAny M A t Q E' s) : wpAny M A t Q E s := h
end Mine
namespace Mine
theorem neGt {a b : Nat} (h : b < a) : a ≠ b := Nat.ne_of_gt h
theorem neLt {a b : Nat} (h : a < b) : a ≠ b := Nat.ne_of_lt h
theorem neSym {a b : Nat} (h : b ≠ a) : a ≠ b := h.symm
end Mine
namespace Mine
theorem iCut1 {a m c : Int} (h : m ≤ a) (g : c < m := by decide) : c < a := Int.lt_of_lt_of_le g h
theorem iCut2 {a m c : Int} (h : a < m) (g : m ≤ c := by decide) : a < c := Int.lt_of_lt_of_le h g
theorem iCut3 {a m c : Int} (h : m ≤ a) (g : c ≤ m := by decide) : c ≤ a := Int.le_trans g h
theorem iCut4 {a m c : Int} (h : a ≤ m) (g : m < c := by decide) : a < c := Int.lt_of_le_of_lt h g
theorem leCut {a m c : Nat} (h : a ≤ m) (g : m.ble c = true := by decide) : a ≤ c := Nat.le_trans h (Nat.le_of_ble_eq_true g)
theorem leCut' {a m c : Nat} (h : a < m) (g : m.ble c.succ = true := by decide) : a ≤ c := Nat.le_of_lt_succ (Nat.lt_of_lt_of_le h (Nat.le_of_ble_eq_true g))
theorem ltCut {a m c : Nat} (h : a ≤ m) (g : m.succ.ble c = true := by decide) : a < c := Nat.lt_of_le_of_lt h (Nat.le_of_ble_eq_true g)
theorem ltCut' {a m c : Nat} (h : a < m) (g : m.ble c = true := by decide) : a < c := Nat.lt_of_lt_of_le h (Nat.le_of_ble_eq_true g)
end Mine
namespace Mine
def Via {P : Prop} (_ : P) (G : Prop) : Prop := G
theorem viaLt {a x D : Nat} {R : Prop} (h : x < D ∧ R) (k : Via h (a < D)) : a < D := k
theorem viaNe {a x D : Nat} {R : Prop} (h : x ≠ D ∧ R) (k : Via h (a ≠ D)) : a ≠ D := k
theorem viaHead {P R : Prop} (h : P ∧ R) : Via h P := h.1
theorem viaTail {P R G : Prop} {h : P ∧ R} (k : Via h.2 G) : Via h G := k
theorem viaLast {P : Prop} (h : P) : Via h P := h
theorem u0 {a : Nat} : a < a + 1 := by omega
theorem v0 {a : Nat} : a ≤ a := by omega
theorem u1 {a : Nat} : a < a + 1 + 1 := by omega
theorem v1 {a : Nat} : a ≤ a + 1 := by omega
theorem u2 {a : Nat} : a < a + 1 + 1 + 1 := by omega
theorem v2 {a : Nat} : a ≤ a + 1 + 1 := by omega
theorem u3 {a : Nat} : a < a + 1 + 1 + 1 + 1 := by omega
theorem v3 {a : Nat} : a ≤ a + 1 + 1 + 1 := by omega
theorem u4 {a : Nat} : a < a + 1 + 1 + 1 + 1 + 1 := by omega
theorem v4 {a : Nat} : a ≤ a + 1 + 1 + 1 + 1 := by omega
theorem u5 {a : Nat} : a < a + 1 + 1 + 1 + 1 + 1 + 1 := by omega
theorem v5 {a : Nat} : a ≤ a + 1 + 1 + 1 + 1 + 1 := by omega
theorem u6 {a : Nat} : a < a + 1 + 1 + 1 + 1 + 1 + 1 + 1 := by omega
theorem v6 {a : Nat} : a ≤ a + 1 + 1 + 1 + 1 + 1 + 1 := by omega
theorem u7 {a : Nat} : a < a + 1 + 1 + 1 + 1 + 1 + 1 + 1 + 1 := by omega
theorem v7 {a : Nat} : a ≤ a + 1 + 1 + 1 + 1 + 1 + 1 + 1 := by omega
theorem u8 {a : Nat} : a < a + 1 + 1 + 1 + 1 + 1 + 1 + 1 + 1 + 1 := by omega
theorem v8 {a : Nat} : a ≤ a + 1 + 1 + 1 + 1 + 1 + 1 + 1 + 1 := by omega
end Mine
namespace Mine
theorem an2 {A1 A2 G : Prop} (f : A1 → A2 → G) (h : A1 ∧ A2) : G := f h.1 h.2
theorem an3 {A1 A2 A3 G : Prop} (f : A1 → A2 → A3 → G) (h : A1 ∧ A2 ∧ A3) : G := an2 (f h.1) h.2
theorem an4 {A1 A2 A3 A4 G : Prop} (f : A1 → A2 → A3 → A4 → G) (h : A1 ∧ A2 ∧ A3 ∧ A4) : G := an3 (f h.1) h.2
theorem an5 {A1 A2 A3 A4 A5 G : Prop} (f : A1 → A2 → A3 → A4 → A5 → G) (h : A1 ∧ A2 ∧ A3 ∧ A4 ∧ A5) : G := an4 (f h.1) h.2
theorem an6 {A1 A2 A3 A4 A5 A6 G : Prop} (f : A1 → A2 → A3 → A4 → A5 → A6 → G) (h : A1 ∧ A2 ∧ A3 ∧ A4 ∧ A5 ∧ A6) : G := an5 (f h.1) h.2
theorem an7 {A1 A2 A3 A4 A5 A6 A7 G : Prop} (f : A1 → A2 → A3 → A4 → A5 → A6 → A7 → G) (h : A1 ∧ A2 ∧ A3 ∧ A4 ∧ A5 ∧ A6 ∧ A7) : G := an6 (f h.1) h.2
theorem an8 {A1 A2 A3 A4 A5 A6 A7 A8 G : Prop} (f : A1 → A2 → A3 → A4 → A5 → A6 → A7 → A8 → G) (h : A1 ∧ A2 ∧ A3 ∧ A4 ∧ A5 ∧ A6 ∧ A7 ∧ A8) : G := an7 (f h.1) h.2
theorem an9 {A1 A2 A3 A4 A5 A6 A7 A8 A9 G : Prop} (f : A1 → A2 → A3 → A4 → A5 → A6 → A7 → A8 → A9 → G) (h : A1 ∧ A2 ∧ A3 ∧ A4 ∧ A5 ∧ A6 ∧ A7 ∧ A8 ∧ A9) : G := an8 (f h.1) h.2
theorem an10 {A1 A2 A3 A4 A5 A6 A7 A8 A9 A10 G : Prop} (f : A1 → A2 → A3 → A4 → A5 → A6 → A7 → A8 → A9 → A10 → G) (h : A1 ∧ A2 ∧ A3 ∧ A4 ∧ A5 ∧ A6 ∧ A7 ∧ A8 ∧ A9 ∧ A10) : G := an9 (f h.1) h.2
theorem an11 {A1 A2 A3 A4 A5 A6 A7 A8 A9 A10 A11 G : Prop} (f : A1 → A2 → A3 → A4 → A5 → A6 → A7 → A8 → A9 → A10 → A11 → G) (h : A1 ∧ A2 ∧ A3 ∧ A4 ∧ A5 ∧ A6 ∧ A7 ∧ A8 ∧ A9 ∧ A10 ∧ A11) : G := an10 (f h.1) h.2
theorem an12 {A1 A2 A3 A4 A5 A6 A7 A8 A9 A10 A11 A12 G : Prop} (f : A1 → A2 → A3 → A4 → A5 → A6 → A7 → A8 → A9 → A10 → A11 → A12 → G) (h : A1 ∧ A2 ∧ A3 ∧ A4 ∧ A5 ∧ A6 ∧ A7 ∧ A8 ∧ A9 ∧ A10 ∧ A11 ∧ A12) : G := an11 (f h.1) h.2
theorem an13 {A1 A2 A3 A4 A5 A6 A7 A8 A9 A10 A11 A12 A13 G : Prop} (f : A1 → A2 → A3 → A4 → A5 → A6 → A7 → A8 → A9 → A10 → A11 → A12 → A13 → G) (h : A1 ∧ A2 ∧ A3 ∧ A4 ∧ A5 ∧ A6 ∧ A7 ∧ A8 ∧ A9 ∧ A10 ∧ A11 ∧ A12 ∧ A13) : G := an12 (f h.1) h.2
theorem an14 {A1 A2 A3 A4 A5 A6 A7 A8 A9 A10 A11 A12 A13 A14 G : Prop} (f : A1 → A2 → A3 → A4 → A5 → A6 → A7 → A8 → A9 → A10 → A11 → A12 → A13 → A14 → G) (h : A1 ∧ A2 ∧ A3 ∧ A4 ∧ A5 ∧ A6 ∧ A7 ∧ A8 ∧ A9 ∧ A10 ∧ A11 ∧ A12 ∧ A13 ∧ A14) : G := an13 (f h.1) h.2
theorem ex1 {t1 : Type} {P : t1 → Prop} {G : Prop} (f : ∀ x1, P x1 → G) (h : ∃ x1, P x1) : G := h.elim f
theorem ex2 {t1 t2 : Type} {P : t1 → t2 → Prop} {G : Prop} (f : ∀ x1 x2, P x1 x2 → G) (h : ∃ x1 x2, P x1 x2) : G := h.elim fun x h => ex1 (f x) h
theorem ex3 {t1 t2 t3 : Type} {P : t1 → t2 → t3 → Prop} {G : Prop} (f : ∀ x1 x2 x3, P x1 x2 x3 → G) (h : ∃ x1 x2 x3, P x1 x2 x3) : G := h.elim fun x h => ex2 (f x) h
theorem ex4 {t1 t2 t3 t4 : Type} {P : t1 → t2 → t3 → t4 → Prop} {G : Prop} (f : ∀ x1 x2 x3 x4, P x1 x2 x3 x4 → G) (h : ∃ x1 x2 x3 x4, P x1 x2 x3 x4) : G := h.elim fun x h => ex3 (f x) h
theorem ex5 {t1 t2 t3 t4 t5 : Type} {P : t1 → t2 → t3 → t4 → t5 → Prop} {G : Prop} (f : ∀ x1 x2 x3 x4 x5, P x1 x2 x3 x4 x5 → G) (h : ∃ x1 x2 x3 x4 x5, P x1 x2 x3 x4 x5) : G := h.elim fun x h => ex4 (f x) h
theorem ex6 {t1 t2 t3 t4 t5 t6 : Type} {P : t1 → t2 → t3 → t4 → t5 → t6 → Prop} {G : Prop} (f : ∀ x1 x2 x3 x4 x5 x6, P x1 x2 x3 x4 x5 x6 → G) (h : ∃ x1 x2 x3 x4 x5 x6, P x1 x2 x3 x4 x5 x6) : G := h.elim fun x h => ex5 (f x) h
theorem ex7 {t1 t2 t3 t4 t5 t6 t7 : Type} {P : t1 → t2 → t3 → t4 → t5 → t6 → t7 → Prop} {G : Prop} (f : ∀ x1 x2 x3 x4 x5 x6 x7, P x1 x2 x3 x4 x5 x6 x7 → G) (h : ∃ x1 x2 x3 x4 x5 x6 x7, P x1 x2 x3 x4 x5 x6 x7) : G := h.elim fun x h => ex6 (f x) h
theorem ex8 {t1 t2 t3 t4 t5 t6 t7 t8 : Type} {P : t1 → t2 → t3 → t4 → t5 → t6 → t7 → t8 → Prop} {G : Prop} (f : ∀ x1 x2 x3 x4 x5 x6 x7 x8, P x1 x2 x3 x4 x5 x6 x7 x8 → G) (h : ∃ x1 x2 x3 x4 x5 x6 x7 x8, P x1 x2 x3 x4 x5 x6 x7 x8) : G := h.elim fun x h => ex7 (f x) h
theorem ex9 {t1 t2 t3 t4 t5 t6 t7 t8 t9 : Type} {P : t1 → t2 → t3 → t4 → t5 → t6 → t7 → t8 → t9 → Prop} {G : Prop} (f : ∀ x1 x2 x3 x4 x5 x6 x7 x8 x9, P x1 x2 x3 x4 x5 x6 x7 x8 x9 → G) (h : ∃ x1 x2 x3 x4 x5 x6 x7 x8 x9, P x1 x2 x3 x4 x5 x6 x7 x8 x9) : G := h.elim fun x h => ex8 (f x) h
theorem ex10 {t1 t2 t3 t4 t5 t6 t7 t8 t9 t10 : Type} {P : t1 → t2 → t3 → t4 → t5 → t6 → t7 → t8 → t9 → t10 → Prop} {G : Prop} (f : ∀ x1 x2 x3 x4 x5 x6 x7 x8 x9 x10, P x1 x2 x3 x4 x5 x6 x7 x8 x9 x10 → G) (h : ∃ x1 x2 x3 x4 x5 x6 x7 x8 x9 x10, P x1 x2 x3 x4 x5 x6 x7 x8 x9 x10) : G := h.elim fun x h => ex9 (f x) h
theorem ex11 {t1 t2 t3 t4 t5 t6 t7 t8 t9 t10 t11 : Type} {P : t1 → t2 → t3 → t4 → t5 → t6 → t7 → t8 → t9 → t10 → t11 → Prop} {G : Prop} (f : ∀ x1 x2 x3 x4 x5 x6 x7 x8 x9 x10 x11, P x1 x2 x3 x4 x5 x6 x7 x8 x9 x10 x11 → G) (h : ∃ x1 x2 x3 x4 x5 x6 x7 x8 x9 x10 x11, P x1 x2 x3 x4 x5 x6 x7 x8 x9 x10 x11) : G := h.elim fun x h => ex10 (f x) h
theorem ex12 {t1 t2 t3 t4 t5 t6 t7 t8 t9 t10 t11 t12 : Type} {P : t1 → t2 → t3 → t4 → t5 → t6 → t7 → t8 → t9 → t10 → t11 → t12 → Prop} {G : Prop} (f : ∀ x1 x2 x3 x4 x5 x6 x7 x8 x9 x10 x11 x12, P x1 x2 x3 x4 x5 x6 x7 x8 x9 x10 x11 x12 → G) (h : ∃ x1 x2 x3 x4 x5 x6 x7 x8 x9 x10 x11 x12, P x1 x2 x3 x4 x5 x6 x7 x8 x9 x10 x11 x12) : G := h.elim fun x h => ex11 (f x) h
theorem ex13 {t1 t2 t3 t4 t5 t6 t7 t8 t9 t10 t11 t12 t13 : Type} {P : t1 → t2 → t3 → t4 → t5 → t6 → t7 → t8 → t9 → t10 → t11 → t12 → t13 → Prop} {G : Prop} (f : ∀ x1 x2 x3 x4 x5 x6 x7 x8 x9 x10 x11 x12 x13, P x1 x2 x3 x4 x5 x6 x7 x8 x9 x10 x11 x12 x13 → G) (h : ∃ x1 x2 x3 x4 x5 x6 x7 x8 x9 x10 x11 x12 x13, P x1 x2 x3 x4 x5 x6 x7 x8 x9 x10 x11 x12 x13) : G := h.elim fun x h => ex12 (f x) h
theorem ex14 {t1 t2 t3 t4 t5 t6 t7 t8 t9 t10 t11 t12 t13 t14 : Type} {P : t1 → t2 → t3 → t4 → t5 → t6 → t7 → t8 → t9 → t10 → t11 → t12 → t13 → t14 → Prop} {G : Prop} (f : ∀ x1 x2 x3 x4 x5 x6 x7 x8 x9 x10 x11 x12 x13 x14, P x1 x2 x3 x4 x5 x6 x7 x8 x9 x10 x11 x12 x13 x14 → G) (h : ∃ x1 x2 x3 x4 x5 x6 x7 x8 x9 x10 x11 x12 x13 x14, P x1 x2 x3 x4 x5 x6 x7 x8 x9 x10 x11 x12 x13 x14) : G := h.elim fun x h => ex13 (f x) h
theorem ex15 {t1 t2 t3 t4 t5 t6 t7 t8 t9 t10 t11 t12 t13 t14 t15 : Type} {P : t1 → t2 → t3 → t4 → t5 → t6 → t7 → t8 → t9 → t10 → t11 → t12 → t13 → t14 → t15 → Prop} {G : Prop} (f : ∀ x1 x2 x3 x4 x5 x6 x7 x8 x9 x10 x11 x12 x13 x14 x15, P x1 x2 x3 x4 x5 x6 x7 x8 x9 x10 x11 x12 x13 x14 x15 → G) (h : ∃ x1 x2 x3 x4 x5 x6 x7 x8 x9 x10 x11 x12 x13 x14 x15, P x1 x2 x3 x4 x5 x6 x7 x8 x9 x10 x11 x12 x13 x14 x15) : G := h.elim fun x h => ex14 (f x) h
end Mine
end

section
open PySem PySem.W PyProof.Rows
set_option maxRecDepth 100000
namespace Mine
noncomputable def nthS : List Stmt → Nat → Stmt
  | x :: _, 0 => x
  | _ :: l, n + 1 => nthS l n
  | [], _ => .Pass ⟨0, 0, 0, 0⟩
noncomputable def stAt (k : Nat) : Stmt := nthS PySem.Challenge.pw_ij0017_01.main.body k
noncomputable def inBody (l : List Stmt) (n : Str) : Stmt := match l with
  | .FunctionDef m ps b x1 x2 x3 sc x4 x5 x6 :: l => if m == n then .FunctionDef m ps b x1 x2 x3 sc x4 x5 x6 else inBody l n
  | _ :: l => inBody l n
  | [] => .Pass ⟨0, 0, 0, 0⟩
noncomputable def inCls (s : Stmt) (n : Str) : Stmt := match s with
  | .ClassDef _ _ _ b .. => inBody b n
  | s => s
noncomputable def withDef (s : Stmt) (k : Arguments → List Stmt → Scope → Obj) : Obj := match s with
  | .FunctionDef _ ps b _ _ _ sc .. => k ps b sc
  | _ => Obj.mk .none none .plain #[]
noncomputable def K : Params → Frag := fun P =>
  (nat_lit 2, Obj.mk Value.none none (Data.dict #[]) #[]) ::
  (nat_lit 3, Obj.mk (Value.type "dict") none (Data.dict #[DictEntry.mk (PyData.keyHash P (Str.ofString "__name__")) (Value.str (Str.ofString "__name__") 165) (Value.str (Str.ofString "law_ij0017_01") 464), DictEntry.mk (PyData.keyHash P (Str.ofString "__doc__")) (Value.str (Str.ofString "__doc__") 166) Value.none, DictEntry.mk (PyData.keyHash P (Str.ofString "__package__")) (Value.str (Str.ofString "__package__") 167) Value.none, DictEntry.mk (PyData.keyHash P (Str.ofString "__loader__")) (Value.str (Str.ofString "__loader__") 168) (Value.builtin "__main__.__loader__#opaque"), DictEntry.mk (PyData.keyHash P (Str.ofString "__spec__")) (Value.str (Str.ofString "__spec__") 169) Value.none, DictEntry.mk (PyData.keyHash P (Str.ofString "__annotations__")) (Value.str (Str.ofString "__annotations__") 170) (Value.ref 6), DictEntry.mk (PyData.keyHash P (Str.ofString "__builtins__")) (Value.str (Str.ofString "__builtins__") 171) (Value.ref 4), DictEntry.mk (PyData.keyHash P (Str.ofString "__file__")) (Value.str (Str.ofString "__file__") 173) (Value.str (Str.ofString "/claim/cut.py") 172), DictEntry.mk (PyData.keyHash P (Str.ofString "__cached__")) (Value.str (Str.ofString "__cached__") 174) Value.none, DictEntry.mk (PyData.keyHash P (Str.ofString "_wall")) (Value.str (Str.ofString "_wall") 193) (Value.ref 21), DictEntry.mk (PyData.keyHash P (Str.ofString "_is_int")) (Value.str (Str.ofString "_is_int") 203) (Value.ref 28), DictEntry.mk (PyData.keyHash P (Str.ofString "_whole")) (Value.str (Str.ofString "_whole") 212) (Value.ref 35), DictEntry.mk (PyData.keyHash P (Str.ofString "islice")) (Value.str (Str.ofString "islice") 280) (Value.ref 68), DictEntry.mk (PyData.keyHash P (Str.ofString "filterfalse")) (Value.str (Str.ofString "filterfalse") 330) (Value.ref 108), DictEntry.mk (PyData.keyHash P (Str.ofString "_parents")) (Value.str (Str.ofString "_parents") 339) (Value.ref 119), DictEntry.mk (PyData.keyHash P (Str.ofString "sep")) (Value.str (Str.ofString "sep") 343) (Value.str (Str.ofString "/") 342), DictEntry.mk (PyData.keyHash P (Str.ofString "_kind")) (Value.str (Str.ofString "_kind") 352) (Value.ref 126), DictEntry.mk (PyData.keyHash P (Str.ofString "_fspath")) (Value.str (Str.ofString "_fspath") 361) (Value.ref 133), DictEntry.mk (PyData.keyHash P (Str.ofString "split")) (Value.str (Str.ofString "split") 372) (Value.ref 140), DictEntry.mk (PyData.keyHash P (Str.ofString "_ancestry")) (Value.str (Str.ofString "_ancestry") 382) (Value.ref 147), DictEntry.mk (PyData.keyHash P (Str.ofString "_difference")) (Value.str (Str.ofString "_difference") 390) (Value.ref 154), DictEntry.mk (PyData.keyHash P (Str.ofString "TupleComp")) (Value.str (Str.ofString "TupleComp") 434) (Value.ref 178), DictEntry.mk (PyData.keyHash P (Str.ofString "add_func_stats")) (Value.str (Str.ofString "add_func_stats") 452) (Value.ref 189), DictEntry.mk (PyData.keyHash P (Str.ofString "add_callers")) (Value.str (Str.ofString "add_callers") 463) (Value.ref 196), DictEntry.mk (PyData.keyHash P (Str.ofString "_law_tree")) (Value.str (Str.ofString "_law_tree") 471) (Value.ref 201), DictEntry.mk (PyData.keyHash P (Str.ofString "_law_paths")) (Value.str (Str.ofString "_law_paths") 482) (Value.ref 208), DictEntry.mk (PyData.keyHash P (Str.ofString "_law_way")) (Value.str (Str.ofString "_law_way") 491) (Value.ref 215), DictEntry.mk (PyData.keyHash P (Str.ofString "_law_taken_apart")) (Value.str (Str.ofString "_law_taken_apart") 497) (Value.ref 220), DictEntry.mk (PyData.keyHash P (Str.ofString "_law_due")) (Value.str (Str.ofString "_law_due") 503) (Value.ref 225), DictEntry.mk (PyData.keyHash P (Str.ofString "law")) (Value.str (Str.ofString "law") 509) (Value.ref 230)] 30) #[]) ::
  (nat_lit 6, Obj.mk (Value.type "dict") none (Data.dict #[]) #[]) ::
  (nat_lit 15, Obj.mk (Value.type "tuple") none (Data.seq #[]) #[]) ::
  (nat_lit 17, Obj.mk (Value.type "tuple") none (Data.seq #[Value.str (Str.ofString "k") 190]) #[]) ::
  (nat_lit 18, Obj.mk (Value.type "tuple") none (Data.seq #[]) #[]) ::
  (nat_lit 20, Obj.mk (Value.type "code") none (Data.fields #[Value.str (Str.ofString "_wall") 187, Value.str (Str.ofString "_wall") 188, Value.str (Str.ofString "/claim/cut.py") 189, Value.int 1 0, Value.int 1 0, Value.int 0 0, Value.int 0 0, Value.int 3 0, Value.ref 15, Value.bool true, Value.int 181 0, Value.ref 16, Value.none, Value.ref 17, Value.ref 18, Value.ref 19, Value.int 191 0, Value.int 1 0, Value.str (Str.ofString "/claim/cut.py") 192]) #[]) ::
  (nat_lit 21, withDef (stAt 0) fun ps b sc => Obj.mk (Value.type "function") none (Data.func (FuncData.mk (Str.ofString "_wall") (Str.ofString "_wall") ps (FuncBody.stmts b) sc 3 [] Value.none Value.none Value.none (Value.str (Str.ofString "__main__") 164) none (Value.ref 20) Value.none 0)) #[]) ::
  (nat_lit 22, Obj.mk (Value.type "tuple") none (Data.seq #[]) #[]) ::
  (nat_lit 24, Obj.mk (Value.type "tuple") none (Data.seq #[Value.str (Str.ofString "x") 199, Value.str (Str.ofString "t") 200]) #[]) ::
  (nat_lit 25, Obj.mk (Value.type "tuple") none (Data.seq #[]) #[]) ::
  (nat_lit 27, Obj.mk (Value.type "code") none (Data.fields #[Value.str (Str.ofString "_is_int") 196, Value.str (Str.ofString "_is_int") 197, Value.str (Str.ofString "/claim/cut.py") 198, Value.int 5 0, Value.int 1 0, Value.int 0 0, Value.int 0 0, Value.int 3 0, Value.ref 22, Value.bool true, Value.int 181 0, Value.ref 23, Value.none, Value.ref 24, Value.ref 25, Value.ref 26, Value.int 201 0, Value.int 5 0, Value.str (Str.ofString "/claim/cut.py") 202]) #[]) ::
  (nat_lit 28, withDef (stAt 2) fun ps b sc => Obj.mk (Value.type "function") none (Data.func (FuncData.mk (Str.ofString "_is_int") (Str.ofString "_is_int") ps (FuncBody.stmts b) sc 3 [] Value.none Value.none Value.none (Value.str (Str.ofString "itertools") 194) none (Value.ref 27) Value.none 0)) #[]) ::
  (nat_lit 29, Obj.mk (Value.type "tuple") none (Data.seq #[]) #[]) ::
  (nat_lit 31, Obj.mk (Value.type "tuple") none (Data.seq #[Value.str (Str.ofString "x") 207, Value.str (Str.ofString "top") 208, Value.str (Str.ofString "what") 209]) #[]) ::
  (nat_lit 32, Obj.mk (Value.type "tuple") none (Data.seq #[]) #[]) ::
  (nat_lit 34, Obj.mk (Value.type "code") none (Data.fields #[Value.str (Str.ofString "_whole") 204, Value.str (Str.ofString "_whole") 205, Value.str (Str.ofString "/claim/cut.py") 206, Value.int 8 0, Value.int 3 0, Value.int 0 0, Value.int 0 0, Value.int 3 0, Value.ref 29, Value.bool true, Value.int 181 0, Value.ref 30, Value.none, Value.ref 31, Value.ref 32, Value.ref 33, Value.int 210 0, Value.int 8 0, Value.str (Str.ofString "/claim/cut.py") 211]) #[]) ::
  (nat_lit 35, withDef (stAt 3) fun ps b sc => Obj.mk (Value.type "function") none (Data.func (FuncData.mk (Str.ofString "_whole") (Str.ofString "_whole") ps (FuncBody.stmts b) sc 3 [] Value.none Value.none Value.none (Value.str (Str.ofString "itertools") 194) none (Value.ref 34) Value.none 0)) #[]) ::
  (nat_lit 43, Obj.mk (Value.type "tuple") none (Data.seq #[Value.str (Str.ofString "_it") 225, Value.str (Str.ofString "_next") 226, Value.str (Str.ofString "_stop") 227, Value.str (Str.ofString "_step") 228, Value.str (Str.ofString "_cnt") 229]) #[]) ::
  (nat_lit 44, Obj.mk (Value.type "tuple") none (Data.seq #[]) #[]) ::
  (nat_lit 46, Obj.mk (Value.type "tuple") none (Data.seq #[Value.str (Str.ofString "self") 234, Value.str (Str.ofString "iterable") 235, Value.str (Str.ofString "args") 236, Value.str (Str.ofString "a") 237, Value.str (Str.ofString "start") 238, Value.str (Str.ofString "stop") 239, Value.str (Str.ofString "step") 240, Value.str (Str.ofString "a_stop") 241]) #[]) ::
  (nat_lit 47, Obj.mk (Value.type "tuple") none (Data.seq #[]) #[]) ::
  (nat_lit 49, Obj.mk (Value.type "code") none (Data.fields #[Value.str (Str.ofString "__init__") 231, Value.str (Str.ofString "islice.__init__") 232, Value.str (Str.ofString "/claim/cut.py") 233, Value.int 16 0, Value.int 2 0, Value.int 2 0, Value.int 0 0, Value.int 7 0, Value.ref 44, Value.bool true, Value.int 181 0, Value.ref 45, Value.none, Value.ref 46, Value.ref 47, Value.ref 48, Value.int 242 0, Value.int 16 0, Value.str (Str.ofString "/claim/cut.py") 243]) #[]) ::
  (nat_lit 50, withDef (inCls (stAt 4) "__init__") fun ps b sc => Obj.mk (Value.type "function") none (Data.func (FuncData.mk (Str.ofString "__init__") (Str.ofString "islice.__init__") ps (FuncBody.stmts b) sc 3 [] Value.none Value.none Value.none (Value.str (Str.ofString "itertools") 194) none (Value.ref 49) Value.none 0)) #[]) ::
  (nat_lit 51, Obj.mk (Value.type "tuple") none (Data.seq #[]) #[]) ::
  (nat_lit 53, Obj.mk (Value.type "tuple") none (Data.seq #[Value.str (Str.ofString "self") 248]) #[]) ::
  (nat_lit 54, Obj.mk (Value.type "tuple") none (Data.seq #[]) #[]) ::
  (nat_lit 56, Obj.mk (Value.type "code") none (Data.fields #[Value.str (Str.ofString "__iter__") 245, Value.str (Str.ofString "islice.__iter__") 246, Value.str (Str.ofString "/claim/cut.py") 247, Value.int 47 0, Value.int 1 0, Value.int 0 0, Value.int 0 0, Value.int 3 0, Value.ref 51, Value.bool true, Value.int 181 0, Value.ref 52, Value.none, Value.ref 53, Value.ref 54, Value.ref 55, Value.int 249 0, Value.int 47 0, Value.str (Str.ofString "/claim/cut.py") 250]) #[]) ::
  (nat_lit 57, withDef (inCls (stAt 4) "__iter__") fun ps b sc => Obj.mk (Value.type "function") none (Data.func (FuncData.mk (Str.ofString "__iter__") (Str.ofString "islice.__iter__") ps (FuncBody.stmts b) sc 3 [] Value.none Value.none Value.none (Value.str (Str.ofString "itertools") 194) none (Value.ref 56) Value.none 0)) #[]) ::
  (nat_lit 58, Obj.mk (Value.type "tuple") none (Data.seq #[]) #[]) ::
  (nat_lit 60, Obj.mk (Value.type "tuple") none (Data.seq #[Value.str (Str.ofString "self") 255, Value.str (Str.ofString "it") 256, Value.str (Str.ofString "stop") 257, Value.str (Str.ofString "item") 258]) #[]) ::
  (nat_lit 61, Obj.mk (Value.type "tuple") none (Data.seq #[]) #[]) ::
  (nat_lit 63, Obj.mk (Value.type "code") none (Data.fields #[Value.str (Str.ofString "__next__") 252, Value.str (Str.ofString "islice.__next__") 253, Value.str (Str.ofString "/claim/cut.py") 254, Value.int 50 0, Value.int 1 0, Value.int 0 0, Value.int 0 0, Value.int 3 0, Value.ref 58, Value.bool true, Value.int 181 0, Value.ref 59, Value.none, Value.ref 60, Value.ref 61, Value.ref 62, Value.int 259 0, Value.int 50 0, Value.str (Str.ofString "/claim/cut.py") 260]) #[]) ::
  (nat_lit 64, withDef (inCls (stAt 4) "__next__") fun ps b sc => Obj.mk (Value.type "function") none (Data.func (FuncData.mk (Str.ofString "__next__") (Str.ofString "islice.__next__") ps (FuncBody.stmts b) sc 3 [] Value.none Value.none Value.none (Value.str (Str.ofString "itertools") 194) none (Value.ref 63) Value.none 0)) #[]) ::
  (nat_lit 65, Obj.mk (Value.type "tuple") none (Data.seq #[Value.str (Str.ofString "_cnt") 262, Value.str (Str.ofString "_it") 263, Value.str (Str.ofString "_next") 264, Value.str (Str.ofString "_step") 265, Value.str (Str.ofString "_stop") 266]) #[]) ::
  (nat_lit 67, Obj.mk (Value.type "dict") none (Data.dict #[DictEntry.mk (PyData.keyHash P (Str.ofString "__module__")) (Value.str (Str.ofString "__module__") 220) (Value.str (Str.ofString "itertools") 194), DictEntry.mk (PyData.keyHash P (Str.ofString "__firstlineno__")) (Value.str (Str.ofString "__firstlineno__") 224) (Value.int 13 223), DictEntry.mk (PyData.keyHash P (Str.ofString "__slots__")) (Value.str (Str.ofString "__slots__") 230) (Value.ref 43), DictEntry.mk (PyData.keyHash P (Str.ofString "__init__")) (Value.str (Str.ofString "__init__") 244) (Value.ref 50), DictEntry.mk (PyData.keyHash P (Str.ofString "__iter__")) (Value.str (Str.ofString "__iter__") 251) (Value.ref 57), DictEntry.mk (PyData.keyHash P (Str.ofString "__next__")) (Value.str (Str.ofString "__next__") 261) (Value.ref 64), DictEntry.mk (PyData.keyHash P (Str.ofString "__static_attributes__")) (Value.str (Str.ofString "__static_attributes__") 267) (Value.ref 65), DictEntry.mk (PyData.keyHash P (Str.ofString "_cnt")) (Value.str (Str.ofString "_cnt") 269) (Value.ref 69), DictEntry.mk (PyData.keyHash P (Str.ofString "_it")) (Value.str (Str.ofString "_it") 271) (Value.ref 70), DictEntry.mk (PyData.keyHash P (Str.ofString "_next")) (Value.str (Str.ofString "_next") 273) (Value.ref 71), DictEntry.mk (PyData.keyHash P (Str.ofString "_step")) (Value.str (Str.ofString "_step") 275) (Value.ref 72), DictEntry.mk (PyData.keyHash P (Str.ofString "_stop")) (Value.str (Str.ofString "_stop") 277) (Value.ref 73), DictEntry.mk (PyData.keyHash P (Str.ofString "__doc__")) (Value.str (Str.ofString "__doc__") 278) Value.none] 7) #[]) ::
  (nat_lit 68, Obj.mk (Value.type "type") none (Data.cls (ClassData.mk (Str.ofString "islice") [Value.type "object"] [Value.ref 68, Value.type "object"] 67 (Str.ofString "islice") false [Str.ofString "_cnt", Str.ofString "_it", Str.ofString "_next", Str.ofString "_step", Str.ofString "_stop"] [] false none false)) #[none, none, some (Value.str (Str.ofString "islice") 213), some (Value.str (Str.ofString "islice") 221), some (Value.builtin "object.__new__"), some (Value.bool false)]) ::
  (nat_lit 69, Obj.mk (Value.type "member_descriptor") none (Data.fields #[Value.str (Str.ofString "_cnt") 268, Value.ref 68, Value.builtin "proto.slot", Value.builtin "proto.slot#set", Value.int 4 0]) #[]) ::
  (nat_lit 70, Obj.mk (Value.type "member_descriptor") none (Data.fields #[Value.str (Str.ofString "_it") 270, Value.ref 68, Value.builtin "proto.slot", Value.builtin "proto.slot#set", Value.int 3 0]) #[]) ::
  (nat_lit 71, Obj.mk (Value.type "member_descriptor") none (Data.fields #[Value.str (Str.ofString "_next") 272, Value.ref 68, Value.builtin "proto.slot", Value.builtin "proto.slot#set", Value.int 2 0]) #[]) ::
  (nat_lit 72, Obj.mk (Value.type "member_descriptor") none (Data.fields #[Value.str (Str.ofString "_step") 274, Value.ref 68, Value.builtin "proto.slot", Value.builtin "proto.slot#set", Value.int 1 0]) #[]) ::
  (nat_lit 73, Obj.mk (Value.type "member_descriptor") none (Data.fields #[Value.str (Str.ofString "_stop") 276, Value.ref 68, Value.builtin "proto.slot", Value.builtin "proto.slot#set", Value.int 0 0]) #[]) ::
  (nat_lit 83, Obj.mk (Value.type "tuple") none (Data.seq #[Value.str (Str.ofString "_it") 293, Value.str (Str.ofString "_func") 294]) #[]) ::
  (nat_lit 84, Obj.mk (Value.type "tuple") none (Data.seq #[]) #[]) ::
  (nat_lit 86, Obj.mk (Value.type "tuple") none (Data.seq #[Value.str (Str.ofString "self") 299, Value.str (Str.ofString "function") 300, Value.str (Str.ofString "iterable") 301]) #[]) ::
  (nat_lit 87, Obj.mk (Value.type "tuple") none (Data.seq #[]) #[]) ::
  (nat_lit 89, Obj.mk (Value.type "code") none (Data.fields #[Value.str (Str.ofString "__init__") 296, Value.str (Str.ofString "filterfalse.__init__") 297, Value.str (Str.ofString "/claim/cut.py") 298, Value.int 73 0, Value.int 3 0, Value.int 3 0, Value.int 0 0, Value.int 3 0, Value.ref 84, Value.bool true, Value.int 181 0, Value.ref 85, Value.none, Value.ref 86, Value.ref 87, Value.ref 88, Value.int 302 0, Value.int 73 0, Value.str (Str.ofString "/claim/cut.py") 303]) #[]) ::
  (nat_lit 90, withDef (inCls (stAt 5) "__init__") fun ps b sc => Obj.mk (Value.type "function") none (Data.func (FuncData.mk (Str.ofString "__init__") (Str.ofString "filterfalse.__init__") ps (FuncBody.stmts b) sc 3 [] Value.none Value.none Value.none (Value.str (Str.ofString "itertools") 194) none (Value.ref 89) Value.none 0)) #[]) ::
  (nat_lit 91, Obj.mk (Value.type "tuple") none (Data.seq #[]) #[]) ::
  (nat_lit 93, Obj.mk (Value.type "tuple") none (Data.seq #[Value.str (Str.ofString "self") 308]) #[]) ::
  (nat_lit 94, Obj.mk (Value.type "tuple") none (Data.seq #[]) #[]) ::
  (nat_lit 96, Obj.mk (Value.type "code") none (Data.fields #[Value.str (Str.ofString "__iter__") 305, Value.str (Str.ofString "filterfalse.__iter__") 306, Value.str (Str.ofString "/claim/cut.py") 307, Value.int 77 0, Value.int 1 0, Value.int 0 0, Value.int 0 0, Value.int 3 0, Value.ref 91, Value.bool true, Value.int 181 0, Value.ref 92, Value.none, Value.ref 93, Value.ref 94, Value.ref 95, Value.int 309 0, Value.int 77 0, Value.str (Str.ofString "/claim/cut.py") 310]) #[]) ::
  (nat_lit 97, withDef (inCls (stAt 5) "__iter__") fun ps b sc => Obj.mk (Value.type "function") none (Data.func (FuncData.mk (Str.ofString "__iter__") (Str.ofString "filterfalse.__iter__") ps (FuncBody.stmts b) sc 3 [] Value.none Value.none Value.none (Value.str (Str.ofString "itertools") 194) none (Value.ref 96) Value.none 0)) #[]) ::
  (nat_lit 98, Obj.mk (Value.type "tuple") none (Data.seq #[]) #[]) ::
  (nat_lit 100, Obj.mk (Value.type "tuple") none (Data.seq #[Value.str (Str.ofString "self") 315, Value.str (Str.ofString "func") 316, Value.str (Str.ofString "item") 317]) #[]) ::
  (nat_lit 101, Obj.mk (Value.type "tuple") none (Data.seq #[]) #[]) ::
  (nat_lit 103, Obj.mk (Value.type "code") none (Data.fields #[Value.str (Str.ofString "__next__") 312, Value.str (Str.ofString "filterfalse.__next__") 313, Value.str (Str.ofString "/claim/cut.py") 314, Value.int 80 0, Value.int 1 0, Value.int 0 0, Value.int 0 0, Value.int 3 0, Value.ref 98, Value.bool true, Value.int 181 0, Value.ref 99, Value.none, Value.ref 100, Value.ref 101, Value.ref 102, Value.int 318 0, Value.int 80 0, Value.str (Str.ofString "/claim/cut.py") 319]) #[]) ::
  (nat_lit 104, withDef (inCls (stAt 5) "__next__") fun ps b sc => Obj.mk (Value.type "function") none (Data.func (FuncData.mk (Str.ofString "__next__") (Str.ofString "filterfalse.__next__") ps (FuncBody.stmts b) sc 3 [] Value.none Value.none Value.none (Value.str (Str.ofString "itertools") 194) none (Value.ref 103) Value.none 0)) #[]) ::
  (nat_lit 105, Obj.mk (Value.type "tuple") none (Data.seq #[Value.str (Str.ofString "_func") 321, Value.str (Str.ofString "_it") 322]) #[]) ::
  (nat_lit 107, Obj.mk (Value.type "dict") none (Data.dict #[DictEntry.mk (PyData.keyHash P (Str.ofString "__module__")) (Value.str (Str.ofString "__module__") 288) (Value.str (Str.ofString "itertools") 194), DictEntry.mk (PyData.keyHash P (Str.ofString "__firstlineno__")) (Value.str (Str.ofString "__firstlineno__") 292) (Value.int 70 291), DictEntry.mk (PyData.keyHash P (Str.ofString "__slots__")) (Value.str (Str.ofString "__slots__") 295) (Value.ref 83), DictEntry.mk (PyData.keyHash P (Str.ofString "__init__")) (Value.str (Str.ofString "__init__") 304) (Value.ref 90), DictEntry.mk (PyData.keyHash P (Str.ofString "__iter__")) (Value.str (Str.ofString "__iter__") 311) (Value.ref 97), DictEntry.mk (PyData.keyHash P (Str.ofString "__next__")) (Value.str (Str.ofString "__next__") 320) (Value.ref 104), DictEntry.mk (PyData.keyHash P (Str.ofString "__static_attributes__")) (Value.str (Str.ofString "__static_attributes__") 323) (Value.ref 105), DictEntry.mk (PyData.keyHash P (Str.ofString "_func")) (Value.str (Str.ofString "_func") 325) (Value.ref 109), DictEntry.mk (PyData.keyHash P (Str.ofString "_it")) (Value.str (Str.ofString "_it") 327) (Value.ref 110), DictEntry.mk (PyData.keyHash P (Str.ofString "__doc__")) (Value.str (Str.ofString "__doc__") 328) Value.none] 4) #[]) ::
  (nat_lit 108, Obj.mk (Value.type "type") none (Data.cls (ClassData.mk (Str.ofString "filterfalse") [Value.type "object"] [Value.ref 108, Value.type "object"] 107 (Str.ofString "filterfalse") false [Str.ofString "_func", Str.ofString "_it"] [] false none false)) #[none, none, some (Value.str (Str.ofString "filterfalse") 281), some (Value.str (Str.ofString "filterfalse") 289), some (Value.builtin "object.__new__"), some (Value.bool false)]) ::
  (nat_lit 109, Obj.mk (Value.type "member_descriptor") none (Data.fields #[Value.str (Str.ofString "_func") 324, Value.ref 108, Value.builtin "proto.slot", Value.builtin "proto.slot#set", Value.int 1 0]) #[]) ::
  (nat_lit 110, Obj.mk (Value.type "member_descriptor") none (Data.fields #[Value.str (Str.ofString "_it") 326, Value.ref 108, Value.builtin "proto.slot", Value.builtin "proto.slot#set", Value.int 0 0]) #[]) ::
  (nat_lit 113, Obj.mk (Value.type "tuple") none (Data.seq #[]) #[]) ::
  (nat_lit 115, Obj.mk (Value.type "tuple") none (Data.seq #[Value.str (Str.ofString "path") 336]) #[]) ::
  (nat_lit 116, Obj.mk (Value.type "tuple") none (Data.seq #[]) #[]) ::
  (nat_lit 118, Obj.mk (Value.type "code") none (Data.fields #[Value.str (Str.ofString "_parents") 333, Value.str (Str.ofString "_parents") 334, Value.str (Str.ofString "/claim/cut.py") 335, Value.int 90 0, Value.int 1 0, Value.int 0 0, Value.int 0 0, Value.int 3 0, Value.ref 113, Value.bool true, Value.int 181 0, Value.ref 114, Value.none, Value.ref 115, Value.ref 116, Value.ref 117, Value.int 337 0, Value.int 90 0, Value.str (Str.ofString "/claim/cut.py") 338]) #[]) ::
  (nat_lit 119, withDef (stAt 7) fun ps b sc => Obj.mk (Value.type "function") none (Data.func (FuncData.mk (Str.ofString "_parents") (Str.ofString "_parents") ps (FuncBody.stmts b) sc 3 [] Value.none Value.none Value.none (Value.str (Str.ofString "cpy313.zipfile._path") 331) none (Value.ref 118) Value.none 0)) #[]) ::
  (nat_lit 120, Obj.mk (Value.type "tuple") none (Data.seq #[]) #[]) ::
  (nat_lit 122, Obj.mk (Value.type "tuple") none (Data.seq #[Value.str (Str.ofString "name") 347, Value.str (Str.ofString "x") 348, Value.str (Str.ofString "t") 349]) #[]) ::
  (nat_lit 123, Obj.mk (Value.type "tuple") none (Data.seq #[]) #[]) ::
  (nat_lit 125, Obj.mk (Value.type "code") none (Data.fields #[Value.str (Str.ofString "_kind") 344, Value.str (Str.ofString "_kind") 345, Value.str (Str.ofString "/claim/cut.py") 346, Value.int 94 0, Value.int 2 0, Value.int 0 0, Value.int 0 0, Value.int 3 0, Value.ref 120, Value.bool true, Value.int 181 0, Value.ref 121, Value.none, Value.ref 122, Value.ref 123, Value.ref 124, Value.int 350 0, Value.int 94 0, Value.str (Str.ofString "/claim/cut.py") 351]) #[]) ::
  (nat_lit 126, withDef (stAt 10) fun ps b sc => Obj.mk (Value.type "function") none (Data.func (FuncData.mk (Str.ofString "_kind") (Str.ofString "_kind") ps (FuncBody.stmts b) sc 3 [] Value.none Value.none Value.none (Value.str (Str.ofString "posixpath") 340) none (Value.ref 125) Value.none 0)) #[]) ::
  (nat_lit 127, Obj.mk (Value.type "tuple") none (Data.seq #[]) #[]) ::
  (nat_lit 129, Obj.mk (Value.type "tuple") none (Data.seq #[Value.str (Str.ofString "name") 356, Value.str (Str.ofString "x") 357, Value.str (Str.ofString "k") 358]) #[]) ::
  (nat_lit 130, Obj.mk (Value.type "tuple") none (Data.seq #[]) #[]) ::
  (nat_lit 132, Obj.mk (Value.type "code") none (Data.fields #[Value.str (Str.ofString "_fspath") 353, Value.str (Str.ofString "_fspath") 354, Value.str (Str.ofString "/claim/cut.py") 355, Value.int 115 0, Value.int 2 0, Value.int 0 0, Value.int 0 0, Value.int 3 0, Value.ref 127, Value.bool true, Value.int 181 0, Value.ref 128, Value.none, Value.ref 129, Value.ref 130, Value.ref 131, Value.int 359 0, Value.int 115 0, Value.str (Str.ofString "/claim/cut.py") 360]) #[]) ::
  (nat_lit 133, withDef (stAt 11) fun ps b sc => Obj.mk (Value.type "function") none (Data.func (FuncData.mk (Str.ofString "_fspath") (Str.ofString "_fspath") ps (FuncBody.stmts b) sc 3 [] Value.none Value.none Value.none (Value.str (Str.ofString "posixpath") 340) none (Value.ref 132) Value.none 0)) #[]) ::
  (nat_lit 134, Obj.mk (Value.type "tuple") none (Data.seq #[]) #[]) ::
  (nat_lit 136, Obj.mk (Value.type "tuple") none (Data.seq #[Value.str (Str.ofString "p") 365, Value.str (Str.ofString "sep") 366, Value.str (Str.ofString "i") 367, Value.str (Str.ofString "head") 368, Value.str (Str.ofString "tail") 369]) #[]) ::
  (nat_lit 137, Obj.mk (Value.type "tuple") none (Data.seq #[]) #[]) ::
  (nat_lit 139, Obj.mk (Value.type "code") none (Data.fields #[Value.str (Str.ofString "split") 362, Value.str (Str.ofString "split") 363, Value.str (Str.ofString "/claim/cut.py") 364, Value.int 120 0, Value.int 1 0, Value.int 0 0, Value.int 0 0, Value.int 3 0, Value.ref 134, Value.bool true, Value.int 181 0, Value.ref 135, Value.none, Value.ref 136, Value.ref 137, Value.ref 138, Value.int 370 0, Value.int 120 0, Value.str (Str.ofString "/claim/cut.py") 371]) #[]) ::
  (nat_lit 140, withDef (stAt 12) fun ps b sc => Obj.mk (Value.type "function") none (Data.func (FuncData.mk (Str.ofString "split") (Str.ofString "split") ps (FuncBody.stmts b) sc 3 [] Value.none Value.none Value.none (Value.str (Str.ofString "posixpath") 340) none (Value.ref 139) Value.none 0)) #[]) ::
  (nat_lit 141, Obj.mk (Value.type "tuple") none (Data.seq #[]) #[]) ::
  (nat_lit 143, Obj.mk (Value.type "tuple") none (Data.seq #[Value.str (Str.ofString "path") 378, Value.str (Str.ofString "tail") 379]) #[]) ::
  (nat_lit 144, Obj.mk (Value.type "tuple") none (Data.seq #[]) #[]) ::
  (nat_lit 146, Obj.mk (Value.type "code") none (Data.fields #[Value.str (Str.ofString "_ancestry") 375, Value.str (Str.ofString "_ancestry") 376, Value.str (Str.ofString "/claim/cut.py") 377, Value.int 129 0, Value.int 1 0, Value.int 0 0, Value.int 0 0, Value.int 35 0, Value.ref 141, Value.bool true, Value.int 181 0, Value.ref 142, Value.none, Value.ref 143, Value.ref 144, Value.ref 145, Value.int 380 0, Value.int 129 0, Value.str (Str.ofString "/claim/cut.py") 381]) #[]) ::
  (nat_lit 147, withDef (stAt 14) fun ps b sc => Obj.mk (Value.type "function") none (Data.func (FuncData.mk (Str.ofString "_ancestry") (Str.ofString "_ancestry") ps (FuncBody.stmts b) sc 3 [] Value.none Value.none Value.none (Value.str (Str.ofString "cpy313.zipfile._path") 373) none (Value.ref 146) Value.none 0)) #[]) ::
  (nat_lit 148, Obj.mk (Value.type "tuple") none (Data.seq #[]) #[]) ::
  (nat_lit 150, Obj.mk (Value.type "tuple") none (Data.seq #[Value.str (Str.ofString "minuend") 386, Value.str (Str.ofString "subtrahend") 387]) #[]) ::
  (nat_lit 151, Obj.mk (Value.type "tuple") none (Data.seq #[]) #[]) ::
  (nat_lit 153, Obj.mk (Value.type "code") none (Data.fields #[Value.str (Str.ofString "_difference") 383, Value.str (Str.ofString "_difference") 384, Value.str (Str.ofString "/claim/cut.py") 385, Value.int 134 0, Value.int 2 0, Value.int 0 0, Value.int 0 0, Value.int 3 0, Value.ref 148, Value.bool true, Value.int 181 0, Value.ref 149, Value.none, Value.ref 150, Value.ref 151, Value.ref 152, Value.int 388 0, Value.int 134 0, Value.str (Str.ofString "/claim/cut.py") 389]) #[]) ::
  (nat_lit 154, withDef (stAt 15) fun ps b sc => Obj.mk (Value.type "function") none (Data.func (FuncData.mk (Str.ofString "_difference") (Str.ofString "_difference") ps (FuncBody.stmts b) sc 3 [] Value.none Value.none Value.none (Value.str (Str.ofString "cpy313.zipfile._path") 373) none (Value.ref 153) Value.none 0)) #[]) ::
  (nat_lit 162, Obj.mk (Value.type "tuple") none (Data.seq #[]) #[]) ::
  (nat_lit 164, Obj.mk (Value.type "tuple") none (Data.seq #[Value.str (Str.ofString "self") 408, Value.str (Str.ofString "comp_select_list") 409]) #[]) ::
  (nat_lit 165, Obj.mk (Value.type "tuple") none (Data.seq #[]) #[]) ::
  (nat_lit 167, Obj.mk (Value.type "code") none (Data.fields #[Value.str (Str.ofString "__init__") 405, Value.str (Str.ofString "TupleComp.__init__") 406, Value.str (Str.ofString "/claim/cut.py") 407, Value.int 139 0, Value.int 2 0, Value.int 0 0, Value.int 0 0, Value.int 3 0, Value.ref 162, Value.bool true, Value.int 181 0, Value.ref 163, Value.none, Value.ref 164, Value.ref 165, Value.ref 166, Value.int 410 0, Value.int 139 0, Value.str (Str.ofString "/claim/cut.py") 411]) #[]) ::
  (nat_lit 168, withDef (inCls (stAt 17) "__init__") fun ps b sc => Obj.mk (Value.type "function") none (Data.func (FuncData.mk (Str.ofString "__init__") (Str.ofString "TupleComp.__init__") ps (FuncBody.stmts b) sc 3 [] Value.none Value.none Value.none (Value.str (Str.ofString "cpy313.pstats") 391) none (Value.ref 167) Value.none 0)) #[]) ::
  (nat_lit 169, Obj.mk (Value.type "tuple") none (Data.seq #[]) #[]) ::
  (nat_lit 171, Obj.mk (Value.type "tuple") none (Data.seq #[Value.str (Str.ofString "self") 416, Value.str (Str.ofString "left") 417, Value.str (Str.ofString "right") 418, Value.str (Str.ofString "index") 419, Value.str (Str.ofString "direction") 420, Value.str (Str.ofString "l") 421, Value.str (Str.ofString "r") 422]) #[]) ::
  (nat_lit 172, Obj.mk (Value.type "tuple") none (Data.seq #[]) #[]) ::
  (nat_lit 174, Obj.mk (Value.type "code") none (Data.fields #[Value.str (Str.ofString "compare") 413, Value.str (Str.ofString "TupleComp.compare") 414, Value.str (Str.ofString "/claim/cut.py") 415, Value.int 142 0, Value.int 3 0, Value.int 0 0, Value.int 0 0, Value.int 3 0, Value.ref 169, Value.bool true, Value.int 181 0, Value.ref 170, Value.none, Value.ref 171, Value.ref 172, Value.ref 173, Value.int 423 0, Value.int 142 0, Value.str (Str.ofString "/claim/cut.py") 424]) #[]) ::
  (nat_lit 175, withDef (inCls (stAt 17) "compare") fun ps b sc => Obj.mk (Value.type "function") none (Data.func (FuncData.mk (Str.ofString "compare") (Str.ofString "TupleComp.compare") ps (FuncBody.stmts b) sc 3 [] Value.none Value.none Value.none (Value.str (Str.ofString "cpy313.pstats") 391) none (Value.ref 174) Value.none 0)) #[]) ::
  (nat_lit 176, Obj.mk (Value.type "tuple") none (Data.seq #[Value.str (Str.ofString "comp_select_list") 426]) #[]) ::
  (nat_lit 177, Obj.mk (Value.type "dict") none (Data.dict #[DictEntry.mk (PyData.keyHash P (Str.ofString "__module__")) (Value.str (Str.ofString "__module__") 400) (Value.str (Str.ofString "cpy313.pstats") 391), DictEntry.mk (PyData.keyHash P (Str.ofString "__firstlineno__")) (Value.str (Str.ofString "__firstlineno__") 404) (Value.int 137 403), DictEntry.mk (PyData.keyHash P (Str.ofString "__init__")) (Value.str (Str.ofString "__init__") 412) (Value.ref 168), DictEntry.mk (PyData.keyHash P (Str.ofString "compare")) (Value.str (Str.ofString "compare") 425) (Value.ref 175), DictEntry.mk (PyData.keyHash P (Str.ofString "__static_attributes__")) (Value.str (Str.ofString "__static_attributes__") 427) (Value.ref 176), DictEntry.mk (PyData.keyHash P (Str.ofString "__dict__")) (Value.str (Str.ofString "__dict__") 429) (Value.ref 179), DictEntry.mk (PyData.keyHash P (Str.ofString "__weakref__")) (Value.str (Str.ofString "__weakref__") 431) (Value.ref 180), DictEntry.mk (PyData.keyHash P (Str.ofString "__doc__")) (Value.str (Str.ofString "__doc__") 432) Value.none] 4) #[]) ::
  (nat_lit 178, Obj.mk (Value.type "type") none (Data.cls (ClassData.mk (Str.ofString "TupleComp") [Value.type "object"] [Value.ref 178, Value.type "object"] 177 (Str.ofString "TupleComp") true [] [] false none false)) #[none, none, some (Value.str (Str.ofString "TupleComp") 393), some (Value.str (Str.ofString "TupleComp") 401), some (Value.builtin "object.__new__"), some (Value.bool true)]) ::
  (nat_lit 179, Obj.mk (Value.type "getset_descriptor") none (Data.fields #[Value.str (Str.ofString "__dict__") 428, Value.ref 178, Value.builtin "function.__dict__", Value.builtin "function.__dict__#set"]) #[]) ::
  (nat_lit 180, Obj.mk (Value.type "getset_descriptor") none (Data.fields #[Value.str (Str.ofString "__weakref__") 430, Value.ref 178, Value.builtin "ExceptionGroup.__weakref__", Value.none]) #[]) ::
  (nat_lit 183, Obj.mk (Value.type "tuple") none (Data.seq #[]) #[]) ::
  (nat_lit 185, Obj.mk (Value.type "tuple") none (Data.seq #[Value.str (Str.ofString "target") 438, Value.str (Str.ofString "source") 439, Value.str (Str.ofString "cc") 440, Value.str (Str.ofString "nc") 441, Value.str (Str.ofString "tt") 442, Value.str (Str.ofString "ct") 443, Value.str (Str.ofString "callers") 444, Value.str (Str.ofString "t_cc") 445, Value.str (Str.ofString "t_nc") 446, Value.str (Str.ofString "t_tt") 447, Value.str (Str.ofString "t_ct") 448, Value.str (Str.ofString "t_callers") 449]) #[]) ::
  (nat_lit 186, Obj.mk (Value.type "tuple") none (Data.seq #[]) #[]) ::
  (nat_lit 188, Obj.mk (Value.type "code") none (Data.fields #[Value.str (Str.ofString "add_func_stats") 435, Value.str (Str.ofString "add_func_stats") 436, Value.str (Str.ofString "/claim/cut.py") 437, Value.int 151 0, Value.int 2 0, Value.int 0 0, Value.int 0 0, Value.int 3 0, Value.ref 183, Value.bool true, Value.int 181 0, Value.ref 184, Value.none, Value.ref 185, Value.ref 186, Value.ref 187, Value.int 450 0, Value.int 151 0, Value.str (Str.ofString "/claim/cut.py") 451]) #[]) ::
  (nat_lit 189, withDef (stAt 18) fun ps b sc => Obj.mk (Value.type "function") none (Data.func (FuncData.mk (Str.ofString "add_func_stats") (Str.ofString "add_func_stats") ps (FuncBody.stmts b) sc 3 [] Value.none Value.none Value.none (Value.str (Str.ofString "cpy313.pstats") 391) none (Value.ref 188) Value.none 0)) #[]) ::
  (nat_lit 190, Obj.mk (Value.type "tuple") none (Data.seq #[]) #[]) ::
  (nat_lit 192, Obj.mk (Value.type "tuple") none (Data.seq #[Value.str (Str.ofString "target") 456, Value.str (Str.ofString "source") 457, Value.str (Str.ofString "new_callers") 458, Value.str (Str.ofString "func") 459, Value.str (Str.ofString "caller") 460]) #[]) ::
  (nat_lit 193, Obj.mk (Value.type "tuple") none (Data.seq #[]) #[]) ::
  (nat_lit 195, Obj.mk (Value.type "code") none (Data.fields #[Value.str (Str.ofString "add_callers") 453, Value.str (Str.ofString "add_callers") 454, Value.str (Str.ofString "/claim/cut.py") 455, Value.int 155 0, Value.int 2 0, Value.int 0 0, Value.int 0 0, Value.int 3 0, Value.ref 190, Value.bool true, Value.int 181 0, Value.ref 191, Value.none, Value.ref 192, Value.ref 193, Value.ref 194, Value.int 461 0, Value.int 155 0, Value.str (Str.ofString "/claim/cut.py") 462]) #[]) ::
  (nat_lit 196, withDef (stAt 19) fun ps b sc => Obj.mk (Value.type "function") none (Data.func (FuncData.mk (Str.ofString "add_callers") (Str.ofString "add_callers") ps (FuncBody.stmts b) sc 3 [] Value.none Value.none Value.none (Value.str (Str.ofString "cpy313.pstats") 391) none (Value.ref 195) Value.none 0)) #[]) ::
  (nat_lit 197, Obj.mk (Value.type "tuple") none (Data.seq #[]) #[]) ::
  (nat_lit 200, Obj.mk (Value.type "code") none (Data.fields #[Value.str (Str.ofString "_law_tree") 466, Value.str (Str.ofString "_law_tree") 467, Value.str (Str.ofString "/claim/cut.py") 468, Value.int 169 0, Value.int 2 0, Value.int 0 0, Value.int 0 0, Value.int 3 0, Value.ref 197, Value.bool true, Value.int 181 0, Value.ref 198, Value.none, Value.none, Value.none, Value.ref 199, Value.int 469 0, Value.int 169 0, Value.str (Str.ofString "/claim/cut.py") 470]) #[]) ::
  (nat_lit 201, withDef (stAt 21) fun ps b sc => Obj.mk (Value.type "function") none (Data.func (FuncData.mk (Str.ofString "_law_tree") (Str.ofString "_law_tree") ps (FuncBody.stmts b) sc 3 [] Value.none Value.none Value.none (Value.str (Str.ofString "law_ij0017_01") 464) none (Value.ref 200) Value.none 0)) #[]) ::
  (nat_lit 202, Obj.mk (Value.type "tuple") none (Data.seq #[]) #[]) ::
  (nat_lit 204, Obj.mk (Value.type "tuple") none (Data.seq #[Value.str (Str.ofString "up") 475, Value.str (Str.ofString "root") 476, Value.str (Str.ofString "names") 477, Value.str (Str.ofString "paths") 478, Value.str (Str.ofString "place") 479]) #[]) ::
  (nat_lit 205, Obj.mk (Value.type "tuple") none (Data.seq #[]) #[]) ::
  (nat_lit 207, Obj.mk (Value.type "code") none (Data.fields #[Value.str (Str.ofString "_law_paths") 472, Value.str (Str.ofString "_law_paths") 473, Value.str (Str.ofString "/claim/cut.py") 474, Value.int 178 0, Value.int 2 0, Value.int 0 0, Value.int 0 0, Value.int 3 0, Value.ref 202, Value.bool true, Value.int 181 0, Value.ref 203, Value.none, Value.ref 204, Value.ref 205, Value.ref 206, Value.int 480 0, Value.int 178 0, Value.str (Str.ofString "/claim/cut.py") 481]) #[]) ::
  (nat_lit 208, withDef (stAt 22) fun ps b sc => Obj.mk (Value.type "function") none (Data.func (FuncData.mk (Str.ofString "_law_paths") (Str.ofString "_law_paths") ps (FuncBody.stmts b) sc 3 [] Value.none Value.none Value.none (Value.str (Str.ofString "law_ij0017_01") 464) none (Value.ref 207) Value.none 0)) #[]) ::
  (nat_lit 209, Obj.mk (Value.type "tuple") none (Data.seq #[]) #[]) ::
  (nat_lit 211, Obj.mk (Value.type "tuple") none (Data.seq #[Value.str (Str.ofString "up") 486, Value.str (Str.ofString "place") 487, Value.str (Str.ofString "way") 488]) #[]) ::
  (nat_lit 212, Obj.mk (Value.type "tuple") none (Data.seq #[]) #[]) ::
  (nat_lit 214, Obj.mk (Value.type "code") none (Data.fields #[Value.str (Str.ofString "_law_way") 483, Value.str (Str.ofString "_law_way") 484, Value.str (Str.ofString "/claim/cut.py") 485, Value.int 184 0, Value.int 2 0, Value.int 0 0, Value.int 0 0, Value.int 3 0, Value.ref 209, Value.bool true, Value.int 181 0, Value.ref 210, Value.none, Value.ref 211, Value.ref 212, Value.ref 213, Value.int 489 0, Value.int 184 0, Value.str (Str.ofString "/claim/cut.py") 490]) #[]) ::
  (nat_lit 215, withDef (stAt 23) fun ps b sc => Obj.mk (Value.type "function") none (Data.func (FuncData.mk (Str.ofString "_law_way") (Str.ofString "_law_way") ps (FuncBody.stmts b) sc 3 [] Value.none Value.none Value.none (Value.str (Str.ofString "law_ij0017_01") 464) none (Value.ref 214) Value.none 0)) #[]) ::
  (nat_lit 216, Obj.mk (Value.type "tuple") none (Data.seq #[]) #[]) ::
  (nat_lit 219, Obj.mk (Value.type "code") none (Data.fields #[Value.str (Str.ofString "_law_taken_apart") 492, Value.str (Str.ofString "_law_taken_apart") 493, Value.str (Str.ofString "/claim/cut.py") 494, Value.int 189 0, Value.int 3 0, Value.int 0 0, Value.int 0 0, Value.int 3 0, Value.ref 216, Value.bool true, Value.int 181 0, Value.ref 217, Value.none, Value.none, Value.none, Value.ref 218, Value.int 495 0, Value.int 189 0, Value.str (Str.ofString "/claim/cut.py") 496]) #[]) ::
  (nat_lit 220, withDef (stAt 24) fun ps b sc => Obj.mk (Value.type "function") none (Data.func (FuncData.mk (Str.ofString "_law_taken_apart") (Str.ofString "_law_taken_apart") ps (FuncBody.stmts b) sc 3 [] Value.none Value.none Value.none (Value.str (Str.ofString "law_ij0017_01") 464) none (Value.ref 219) Value.none 0)) #[]) ::
  (nat_lit 221, Obj.mk (Value.type "tuple") none (Data.seq #[]) #[]) ::
  (nat_lit 224, Obj.mk (Value.type "code") none (Data.fields #[Value.str (Str.ofString "_law_due") 498, Value.str (Str.ofString "_law_due") 499, Value.str (Str.ofString "/claim/cut.py") 500, Value.int 210 0, Value.int 2 0, Value.int 0 0, Value.int 0 0, Value.int 3 0, Value.ref 221, Value.bool true, Value.int 181 0, Value.ref 222, Value.none, Value.none, Value.none, Value.ref 223, Value.int 501 0, Value.int 210 0, Value.str (Str.ofString "/claim/cut.py") 502]) #[]) ::
  (nat_lit 225, withDef (stAt 25) fun ps b sc => Obj.mk (Value.type "function") none (Data.func (FuncData.mk (Str.ofString "_law_due") (Str.ofString "_law_due") ps (FuncBody.stmts b) sc 3 [] Value.none Value.none Value.none (Value.str (Str.ofString "law_ij0017_01") 464) none (Value.ref 224) Value.none 0)) #[]) ::
  (nat_lit 226, Obj.mk (Value.type "tuple") none (Data.seq #[]) #[]) ::
  (nat_lit 229, Obj.mk (Value.type "code") none (Data.fields #[Value.str (Str.ofString "law") 504, Value.str (Str.ofString "law") 505, Value.str (Str.ofString "/claim/cut.py") 506, Value.int 218 0, Value.int 1 0, Value.int 0 0, Value.int 0 0, Value.int 3 0, Value.ref 226, Value.bool true, Value.int 181 0, Value.ref 227, Value.none, Value.none, Value.none, Value.ref 228, Value.int 507 0, Value.int 218 0, Value.str (Str.ofString "/claim/cut.py") 508]) #[]) ::
  (nat_lit 230, withDef (stAt 26) fun ps b sc => Obj.mk (Value.type "function") none (Data.func (FuncData.mk (Str.ofString "law") (Str.ofString "law") ps (FuncBody.stmts b) sc 3 [] Value.none Value.none Value.none (Value.str (Str.ofString "law_ij0017_01") 464) none (Value.ref 229) Value.none 0)) #[]) ::
  []
def Kas : List Addr := [2, 3, 6, 15, 17, 18, 20, 21, 22, 24, 25, 27, 28, 29, 31, 32, 34, 35, 43, 44, 46, 47, 49, 50, 51, 53, 54, 56, 57, 58, 60, 61, 63, 64, 65, 67, 68, 69, 70, 71, 72, 73, 83, 84, 86, 87, 89, 90, 91, 93, 94, 96, 97, 98, 100, 101, 103, 104, 105, 107, 108, 109, 110, 113, 115, 116, 118, 119, 120, 122, 123, 125, 126, 127, 129, 130, 132, 133, 134, 136, 137, 139, 140, 141, 143, 144, 146, 147, 148, 150, 151, 153, 154, 162, 164, 165, 167, 168, 169, 171, 172, 174, 175, 176, 177, 178, 179, 180, 183, 185, 186, 188, 189, 190, 192, 193, 195, 196, 197, 200, 201, 202, 204, 205, 207, 208, 209, 211, 212, 214, 215, 216, 219, 220, 221, 224, 225, 226, 229, 230]
def vw : Program := view PySem.Challenge.pw_ij0017_01 [0, 2, 3, 4, 5, 7, 9, 10, 11, 12, 14, 15, 17, 18, 19, 21, 22, 23, 24, 25, 26]
noncomputable def KH : Hook := kHook K Kas (fun _ => by kernel_rfl)
theorem said : PySem.Challenge.rw_ij0017_01.wellSaid = true := by kernel_rfl
theorem left : LeftO PySem.Challenge.rw_ij0017_01.row.prog vw ["islice", "filterfalse"] (fun s => xlAt vw [] s && recOk (RowW.records PySem.Challenge.rw_ij0017_01.row.toRowW) s) KH.obs KH.val 3146 := by intro w; kernel_rfl
set_option maxHeartbeats 0 in
theorem hd {d : DefRec} {kwd : List (Str × Expr)} (hdef : defOf vw "law" = some (d, kwd)) (hp : PySem.Challenge.pw_ij0017_01.theDef "law" = some (d.params, d.body, d.scope)) (hk : kwWritten? d.params.kwonlyargs d.params.kw_defaults = some kwd)
    (call : WalkO vw ["islice", "filterfalse"] (XL vw []) KH.says PySem.Challenge.rw_ij0017_01.row.toRowW d kwd fun f vs => PySem.call f vs) : PySem.Challenge.rw_ij0017_01.Holds := by
  refine holds_law Mine.said fun said => ?_
  refine' W.holds_open (q := vw) (loose := ["islice", "filterfalse"]) (Xt := fun s => xlAt vw [] s && recOk (RowW.records PySem.Challenge.rw_ij0017_01.row.toRowW) s) (XP := XL vw []) (Yf := KH.obs) (Ya := KH.val) (YP := KH.says) (N := 3146) Mine.left KH.of KH.keeps (fun s e => xl_of s (Bool.and_eq_true_iff.mp e).1) XL.keeps hdef hp hk (fun s e => recFacts_of (Bool.and_eq_true_iff.mp e).2) rfl said ?a6 ⟨rfl, rfl, rfl, rfl, rfl, by decide +kernel⟩ ?hw call
  case a6 => decide +kernel
  case hw => w_witness2
end Mine
end

local macro_rules | `(tactic| walk_at $s:str) => `(tactic| k_extra $s)
theorem Mine.walkOff : True := by
  w_top off
  k_with_none
  k_with "flat" => with_reducible first | ((refine Mine.an12 ?_; iterate 11 intro _); walk_at "flat") | ((refine Mine.an6 ?_; iterate 5 intro _); walk_at "flat") | ((refine Mine.an3 ?_; iterate 2 intro _); walk_at "flat") | ((refine Mine.an2 ?_; iterate 1 intro _); walk_at "flat") | ((refine Mine.ex15 ?_; iterate 15 intro _); walk_at "flat") | ((refine Mine.ex8 ?_; iterate 8 intro _); walk_at "flat") | ((refine Mine.ex4 ?_; iterate 4 intro _); walk_at "flat") | ((refine Mine.ex2 ?_; iterate 2 intro _); walk_at "flat") | ((refine Mine.ex1 ?_; iterate 1 intro _); walk_at "flat") | intro _
  trivial
local macro_rules | `(tactic| omega) => `(tactic| first | lia | omega +splitDisjunctions)
section
open PySem PySem.W PyProof.Rows
namespace Mine
/-- a sort's questions, answered by an order -/
noncomputable def pw (lt : Nat → Nat → Bool) (n : Nat) {α : Type} : KasT α → (α → Prop) → Prop
  | .ret a, Q => Q a
  | .ask i j k, Q => i < n ∧ j < n ∧ pw lt n (k (lt i j)) Q
section
variable {lt : Nat → Nat → Bool} {n : Nat} {α β : Type}
theorem pw_mono {Q Q' : α → Prop} (hq : ∀ a, Q a → Q' a) : ∀ t : KasT α, pw lt n t Q → pw lt n t Q'
  | .ret a, h => hq a h
  | .ask _ _ k, h => ⟨h.1, h.2.1, pw_mono hq (k _) h.2.2⟩
theorem pw_bind {f : α → KasT β} {Q : β → Prop} : ∀ t : KasT α, pw lt n t (fun a => pw lt n (f a) Q) → pw lt n (t.bind f) Q
  | .ret _, h => h
  | .ask _ _ k, h => ⟨h.1, h.2.1, pw_bind (k _) h.2.2⟩
theorem pw_kas {cmp : Nat → Nat → (Bool → Shared → Prop) → Shared → Prop} {s : Shared} {Q : α → Shared → Prop} (hc : ∀ i j (C : Bool → Shared → Prop), i < n → j < n → C (lt i j) s → cmp i j C s) : ∀ t : KasT α, pw lt n t (fun a => Q a s) → t.kasWp cmp Q s
  | .ret _, h => h
  | .ask i j k, h => hc i j _ h.1 h.2.1 (pw_kas hc (k _) h.2.2)
structure Ord (lt : Nat → Nat → Bool) (n : Nat) : Prop where
  tr : ∀ i j k, i < n → j < n → k < n → lt i j = true → lt j k = true → lt i k = true
  as : ∀ i j, i < n → j < n → lt i j = true → lt j i = false
  to : ∀ i j, i < n → j < n → i ≠ j → lt i j = false → lt j i = true
noncomputable abbrev at0 (p : Array Nat) (i : Nat) : Nat := p.getD i 0
structure Pm (n : Nat) (p : Array Nat) : Prop where
  sz : p.size = n
  lt : ∀ i, i < n → at0 p i < n
  inj : ∀ i j, i < n → j < n → at0 p i = at0 p j → i = j
theorem at0_eq {p : Array Nat} {i : Nat} (h : i < p.size) : p[i]? = some (at0 p i) := by
  unfold at0; simp [Array.getD, h]
theorem Pm.of_get {p q : Array Nat} (hp : Pm n p) (hz : q.size = n) (g : Nat → Nat) (hg : ∀ i, i < n → g i < n) (hi : ∀ i j, i < n → j < n → g i = g j → i = j) (h : ∀ i, i < n → at0 q i = at0 p (g i)) : Pm n q :=
  ⟨hz, fun i h1 => by rw [h i h1]; exact hp.lt _ (hg i h1), fun i j h1 h2 e => hi i j h1 h2 (hp.inj _ _ (hg i h1) (hg j h2) (by rw [← h i h1, ← h j h2]; exact e))⟩
noncomputable def Srt (lt : Nat → Nat → Bool) (p : Array Nat) (k : Nat) : Prop := ∀ i j, i < j → j < k → lt (at0 p i) (at0 p j) = true
noncomputable def Dsc (lt : Nat → Nat → Bool) (p : Array Nat) (k : Nat) : Prop := ∀ i j, i < j → j < k → lt (at0 p j) (at0 p i) = true
theorem at_rev {p : Array Nat} {m k : Nat} (hm : m ≤ p.size) (hk : k < p.size) : at0 (kas_rev p 0 m) k = if k < m then at0 p (m - 1 - k) else at0 p k := by
  have e := getElem?_mirror_all (xs := p) (i := 0) hm k
  have hs : k < (kas_rev p 0 m).size := by unfold kas_rev; rw [mirror_size]; exact hk
  have e1 := at0_eq hs
  unfold kas_rev at e1
  rw [Nat.sub_zero] at e1
  simp only [Nat.sub_zero, Nat.zero_le, true_and, Nat.zero_add] at e
  by_cases h : k < m
  · rw [if_pos h] at e ⊢
    rw [e, at0_eq (by omega)] at e1
    exact (Option.some.inj e1).symm
  · rw [if_neg h] at e ⊢
    rw [e, at0_eq hk] at e1
    exact (Option.some.inj e1).symm
theorem Pm.rev {p : Array Nat} (hp : Pm n p) {m : Nat} (hm : m ≤ n) : Pm n (kas_rev p 0 m) := by
  refine hp.of_get (by unfold kas_rev; rw [mirror_size]; exact hp.sz) (fun k => if k < m then m - 1 - k else k) (fun i h => by split <;> omega) (fun i j h1 h2 e => by split at e <;> split at e <;> omega) fun i h => ?_
  rw [at_rev (by rw [hp.sz]; exact hm) (by rw [hp.sz]; exact h)]
  split <;> rfl
theorem pw_asc (O : Ord lt n) {p : Array Nat} (hp : Pm n p) : ∀ f k, 1 ≤ k → k + f = n → Srt lt p k → pw lt n (kas_asc p f k) fun m => k ≤ m ∧ m ≤ n ∧ Srt lt p m ∧ (m < n → lt (at0 p m) (at0 p (m - 1)) = true)
  | 0, k, _, hk, hs => ⟨Nat.le_refl _, by omega, hs, fun h => by omega⟩
  | f + 1, k, h1, hk, hs => by
    refine ⟨hp.lt k (by omega), hp.lt (k - 1) (by omega), ?_⟩
    cases hc : lt (p.getD k 0) (p.getD (k - 1) 0) with
    | true => dsimp only; rw [if_pos rfl]; exact ⟨Nat.le_refl _, by omega, hs, fun _ => hc⟩
    | false =>
      dsimp only
      rw [if_neg (by simp)]
      have hd : lt (at0 p (k - 1)) (at0 p k) = true := O.to _ _ (hp.lt k (by omega)) (hp.lt (k - 1) (by omega)) (fun e => by have := hp.inj _ _ (by omega) (by omega) e; omega) hc
      refine pw_mono (fun m hm => ⟨by omega, hm.2⟩) _ (pw_asc O hp f (k + 1) (by omega) (by omega) fun i j hij hj => ?_)
      by_cases hjk : j < k
      · exact hs i j hij hjk
      · obtain rfl : j = k := by omega
        by_cases hi : i = j - 1
        · rw [hi]; exact hd
        · exact O.tr _ _ _ (hp.lt i (by omega)) (hp.lt (j - 1) (by omega)) (hp.lt j (by omega)) (hs i (j - 1) (by omega) (by omega)) hd
theorem pw_desc (O : Ord lt n) {p : Array Nat} (hp : Pm n p) : ∀ f k, 1 ≤ k → k + f = n → Dsc lt p k → pw lt n (kas_desc f p k 0) fun r => r.1 = p ∧ r.2.2 = 0 ∧ k ≤ r.2.1 ∧ r.2.1 ≤ n ∧ Dsc lt p r.2.1
  | 0, k, _, hk, hs => ⟨rfl, rfl, Nat.le_refl _, Nat.le_of_eq hk, hs⟩
  | f + 1, k, h1, hk, hs => by
    refine ⟨hp.lt k (by omega), hp.lt (k - 1) (by omega), ?_⟩
    cases hc : lt (p.getD k 0) (p.getD (k - 1) 0) with
    | true =>
      dsimp only
      rw [if_pos rfl, if_neg (by omega)]
      refine pw_mono (fun m hm => ⟨hm.1, hm.2.1, by omega, hm.2.2.2⟩) _ (pw_desc O hp f (k + 1) (by omega) (by omega) fun i j hij hj => ?_)
      by_cases hjk : j < k
      · exact hs i j hij hjk
      · obtain rfl : j = k := by omega
        by_cases hi : i = j - 1
        · rw [hi]; exact hc
        · exact O.tr _ _ _ (hp.lt j (by omega)) (hp.lt (j - 1) (by omega)) (hp.lt i (by omega)) hc (hs i (j - 1) (by omega) (by omega))
    | false =>
      dsimp only
      rw [if_neg (by simp)]
      have hd : lt (p.getD (k - 1) 0) (p.getD k 0) = true := O.to _ _ (hp.lt k (by omega)) (hp.lt (k - 1) (by omega)) (fun e => by have := hp.inj _ _ (by omega) (by omega) e; omega) hc
      refine ⟨hp.lt (k - 1) (by omega), hp.lt k (by omega), ?_⟩
      rw [hd]
      dsimp only
      rw [if_pos rfl]
      exact ⟨rfl, rfl, Nat.le_refl _, by show k ≤ n; omega, hs⟩
theorem pw_tail (O : Ord lt n) {p : Array Nat} (hp : Pm n p) {m : Nat} (h1 : 1 ≤ m) (hm : m ≤ n) (hd : Dsc lt p m) : pw lt n (kas_tail3 m n p) fun r => 1 ≤ r.1 ∧ r.1 ≤ n ∧ Pm n r.2 ∧ Srt lt r.2 r.1 := by
  unfold kas_tail3
  have hr := hp.rev hm
  refine pw_bind _ (pw_mono (fun k hk => ?_) _ (pw_asc O hr (n - m) m h1 (by omega) fun i j hij hj => ?_))
  · exact ⟨by show 1 ≤ k; omega, hk.2.1, hr, hk.2.2.1⟩
  · rw [at_rev (by rw [hp.sz]; exact hm) (by rw [hp.sz]; omega), at_rev (by rw [hp.sz]; exact hm) (by rw [hp.sz]; omega), if_pos (by omega), if_pos hj]
    exact hd _ _ (by omega) (by omega)
theorem pw_count (O : Ord lt n) {p : Array Nat} (hp : Pm n p) (hn : 1 ≤ n) : pw lt n (kas_count n p) fun r => 1 ≤ r.1 ∧ r.1 ≤ n ∧ Pm n r.2 ∧ Srt lt r.2 r.1 := by
  unfold kas_count
  refine pw_bind _ (pw_mono (fun k hk => ?_) _ (pw_asc O hp (n - 1) 1 (Nat.le_refl _) (by omega) fun i j hij hj => by omega))
  obtain ⟨k1, k2, k3, k4⟩ := hk
  by_cases e : k = n
  · rw [if_pos (by simpa using e)]
    exact ⟨k1, k2, hp, k3⟩
  · rw [if_neg (by simpa using e)]
    by_cases h1 : k > 1
    · rw [if_pos h1]
      refine ⟨hp.lt 0 (by omega), hp.lt (k - 1) (by omega), ?_⟩
      have : lt (p.getD 0 0) (p.getD (k - 1) 0) = true := k3 0 (k - 1) (by omega) (by omega)
      rw [this]
      dsimp only
      rw [if_pos rfl]
      exact ⟨k1, k2, hp, k3⟩
    · rw [if_neg h1]
      obtain rfl : k = 1 := by omega
      have h10 := k4 (by omega)
      unfold kas_descPart
      refine pw_bind _ (pw_mono (fun r hr => ?_) _ (pw_desc O hp (n - (1 + 1)) (1 + 1) (by omega) (by omega) fun i j hij hj => ?_))
      · obtain ⟨r1, r2, r3, r4, r5⟩ := hr
        rw [if_neg (by omega), r1]
        exact pw_tail O hp (by omega) r4 r5
      · obtain rfl : i = 0 := by omega
        obtain rfl : j = 1 := by omega
        exact h10
theorem pw_place (O : Ord lt n) {p : Array Nat} (hp : Pm n p) {k : Nat} (hk : k < n) (hs : Srt lt p k) : ∀ f l r, l ≤ r → r ≤ k → r - l ≤ f → (∀ i, i < l → lt (at0 p i) (at0 p k) = true) → (∀ i, r ≤ i → i < k → lt (at0 p k) (at0 p i) = true) →
    pw lt n (kas_place p k f l r) fun l => l ≤ k ∧ (∀ i, i < l → lt (at0 p i) (at0 p k) = true) ∧ ∀ i, l ≤ i → i < k → lt (at0 p k) (at0 p i) = true
  | 0, l, r, hlr, hr, hf, hlo, hhi => by
    obtain rfl : l = r := by omega
    exact ⟨hr, hlo, hhi⟩
  | f + 1, l, r, hlr, hr, hf, hlo, hhi => by
    unfold kas_place
    by_cases e : l ≥ r
    · rw [if_pos e]
      obtain rfl : l = r := by omega
      exact ⟨hr, hlo, hhi⟩
    · rw [if_neg e]
      have hm1 : (l + r) / 2 < r := by omega
      have hm0 : l ≤ (l + r) / 2 := by omega
      generalize (l + r) / 2 = m at hm1 hm0
      refine ⟨hp.lt k hk, hp.lt m (by omega), ?_⟩
      cases hc : lt (p.getD k 0) (p.getD m 0) with
      | true =>
        dsimp only
        rw [if_pos rfl]
        refine pw_place O hp hk hs f l m hm0 (by omega) (by omega) hlo fun i h1 h2 => ?_
        by_cases e : i = m
        · rw [e]; exact hc
        · exact O.tr _ _ _ (hp.lt k hk) (hp.lt m (by omega)) (hp.lt i (by omega)) hc (hs m i (by omega) h2)
      | false =>
        dsimp only
        rw [if_neg (by simp)]
        have hd : lt (at0 p m) (at0 p k) = true := O.to _ _ (hp.lt k hk) (hp.lt m (by omega)) (fun e => by have := hp.inj _ _ hk (by omega) e; omega) hc
        refine pw_place O hp hk hs f (m + 1) r (by omega) hr (by omega) (fun i h1 => ?_) hhi
        by_cases e : i = m
        · rw [e]; exact hd
        · exact O.tr _ _ _ (hp.lt i (by omega)) (hp.lt m (by omega)) (hp.lt k hk) (hs i m (by omega) (by omega)) hd
theorem at_bub {p : Array Nat} {k l i : Nat} (hk : k < p.size) (hl : l ≤ k) (hi : i < p.size) : at0 (bubble p k (k - l)) i = if i = l then at0 p k else if l < i ∧ i ≤ k then at0 p (i - 1) else at0 p i := by
  have e := getElem?_bubble hk (k - l) (by omega) i
  have e1 := at0_eq (p := bubble p k (k - l)) (i := i) (by rw [bubble_size]; exact hi)
  rw [show k - (k - l) = l by omega] at e
  rw [e] at e1
  split at e1
  · rename_i h; rw [at0_eq hk] at e1; rw [if_pos h]; exact (Option.some.inj e1).symm
  · rename_i h
    rw [if_neg h]
    split at e1
    · rename_i h2; rw [at0_eq (by omega)] at e1; rw [if_pos h2]; exact (Option.some.inj e1).symm
    · rename_i h2; rw [at0_eq hi] at e1; rw [if_neg h2]; exact (Option.some.inj e1).symm
theorem pw_bin (O : Ord lt n) : ∀ f p k, Pm n p → k + f = n → Srt lt p k → pw lt n (kas_bin f p k) fun q => Pm n q ∧ Srt lt q n
  | 0, p, k, hp, hk, hs => ⟨hp, (show k = n by omega) ▸ hs⟩
  | f + 1, p, k, hp, hk, hs => by
    unfold kas_bin
    refine pw_bind _ (pw_mono (fun l hl => ?_) _ (pw_place O hp (by omega) hs k 0 k (Nat.zero_le _) (Nat.le_refl _) (by omega) (fun i h => by omega) fun i h1 h2 => by omega))
    obtain ⟨l1, l2, l3⟩ := hl
    have hg : ∀ i, i < n → at0 (bubble p k (k - l)) i = if i = l then at0 p k else if l < i ∧ i ≤ k then at0 p (i - 1) else at0 p i := fun i hi => at_bub (by rw [hp.sz]; omega) l1 (by rw [hp.sz]; exact hi)
    refine pw_bin O f _ (k + 1) (hp.of_get (by rw [bubble_size]; exact hp.sz) (fun i => if i = l then k else if l < i ∧ i ≤ k then i - 1 else i) (fun i h => by split; omega; split <;> omega)
      (fun i j h1 h2 e => by split at e <;> split at e <;> (try split at e) <;> (try split at e) <;> omega) fun i h => by rw [hg i h]; split; rfl; split <;> rfl) (by omega) fun i j hij hj => ?_
    rw [hg i (by omega), hg j (by omega)]
    by_cases hi : i = l
    · rw [if_pos hi, if_neg (by omega), if_pos (by omega)]
      exact l3 (j - 1) (by omega) (by omega)
    · rw [if_neg hi]
      by_cases hjl : j = l
      · rw [if_pos hjl, if_neg (by omega)]
        exact l2 i (by omega)
      · rw [if_neg hjl]
        by_cases h1 : l < i ∧ i ≤ k
        · rw [if_pos h1, if_pos (by omega)]
          exact hs (i - 1) (j - 1) (by omega) (by omega)
        · rw [if_neg h1]
          by_cases h2 : l < j ∧ j ≤ k
          · rw [if_pos h2]
            exact hs i (j - 1) (by omega) (by omega)
          · rw [if_neg h2]
            exact hs i j hij (by omega)
theorem pw_sort (O : Ord lt n) (hn : 1 ≤ n) : pw lt n (kas_sort n) fun q => Pm n q ∧ Srt lt q n := by
  unfold kas_sort
  have hr : ∀ i, i < n → at0 (List.range n).toArray i = i := fun i h => by simp [at0, Array.getD, h]
  have h0 : Pm n (List.range n).toArray := ⟨by simp, fun i h => by rw [hr i h]; exact h, fun i j h1 h2 e => by rw [hr i h1, hr j h2] at e; exact e⟩
  refine pw_bind _ (pw_mono (fun r h => ?_) _ (pw_count O h0 hn))
  obtain ⟨r1, r2, r3, r4⟩ := h
  have hm : max r.1 1 = r.1 := by omega
  by_cases e : r.1 < n
  · rw [if_pos e, hm]
    exact pw_bin O _ _ _ r3 (by omega) r4
  · rw [if_neg e]
    have e2 : r.1 = n := by omega
    rw [e2] at r4
    exact ⟨r3, r4⟩
end
end Mine
end

section
open PySem PySem.W PyProof.Rows
set_option maxRecDepth 100000
namespace Mine

/-- what a call leaves of the state beside heap and marks -/
structure GR (a b : Array GenState) : Prop where
  bare : AllBare a → AllBare b
  keep : ∀ (i : Nat) (g : GenState), a[i]? = some g → b[i]? = some g
theorem GR.rfl (a : Array GenState) : GR a a := ⟨id, fun _ _ e => e⟩
theorem GR.trans {a b c : Array GenState} (x : GR a b) (y : GR b c) : GR a c := ⟨fun h => y.bare (x.bare h), fun i g e => y.keep i g (x.keep i g e)⟩
noncomputable def Sm (s s' : Shared) : Prop := s'.os = s.os ∧ GR s.gens s'.gens
theorem Sm.rfl (s : Shared) : Sm s s := ⟨Eq.refl _, GR.rfl _⟩
theorem Sm.trans {a b c : Shared} (x : Sm a b) (y : Sm b c) : Sm a c := ⟨y.1.trans x.1, x.2.trans y.2⟩
theorem Sm.of {s s' : Shared} {h : Heap} {t : Nat} (x : Sm s s') : Sm s { s' with heap := h, toks := t } := x

noncomputable abbrev NoE : Value → Shared → Prop := fun _ _ => False

section
variable {prog : Program} {w : World} {A : Around} {E : Value → Shared → Prop} {s : Shared} {env : Env}
theorem wp_noE {α : Type} {M : Model} {t : Sem α} {Q : α → Shared → Prop} (h : wpAny M A t Q NoE s) : wpAny M A t Q E s := wpAny_mono h (fun _ _ x => x) fun _ _ x => x.elim

noncomputable def WEnd (I : Nat → Shared → Prop) (n : Nat) (s : Shared) : Prop := ∃ m, m < n ∧ I m s

theorem while_rule {test : Expr} {body : List Stmt} {pos : Pos} {Q : Flow → Shared → Prop} (I : Nat → Shared → Prop)
    (n : Nat) (h0 : I n s)
    (turn : ∀ n s, I n s → wpAny (model prog w) A (isTrue test env (eval test env)) (fun b s₂ =>
        if b = true then wpAny (model prog w) A (execs body env) (fun f s₃ => match f with | .next => WEnd I n s₃ | .cont => WEnd I n s₃ | .brk => Q .next s₃ | .ret v => Q (.ret v) s₃) NoE s₂
        else Q .next s₂) NoE s) :
    wpAny (model prog w) A (exec (.While test body [] pos) env) Q E s := by
  refine wpAny_While (codeAny_whileLoop I (fun n s' hI => wpAny_mono (turn n s' hI) (fun b s₂ hb => ?_) fun _ _ x => x.elim) n h0)
  cases b with
  | true => 
    simp only [if_true] at hb ⊢
    refine wpAny_mono hb (fun f s₃ hf => ?_) fun _ _ x => x.elim
    cases f <;> exact hf
  | false =>
    simp only [Bool.false_eq_true, if_false] at hb ⊢
    exact wpAny_execs_nil hb

/-- what a turn of a for asks -/
noncomputable def ForTurn (M : Model) (A : Around) (env : Env) (target : Expr) (body : List Stmt) (Q : Flow → Shared → Prop) (I : Nat → Shared → Prop) (n : Nat) (r : Option Value) (s₁ : Shared) : Prop := match r with
  | none => Q .next s₁
  | some v => wpAny M A (assign target env v) (fun _ s₂ => wpAny M A (execs body env) (fun f s₃ => match f with | .next => ∃ m, m < n ∧ I m s₃ | .cont => ∃ m, m < n ∧ I m s₃ | .brk => Q .next s₃ | .ret v => Q (.ret v) s₃) NoE s₂) NoE s₁

noncomputable def ForAt (prog : Program) (w : World) (A : Around) (env : Env) (target : Expr) (body : List Stmt) (Q : Flow → Shared → Prop) (it : Value) (s₂ : Shared) : Prop :=
  ∃ (I : Nat → Shared → Prop) (n : Nat), I n s₂ ∧ ∀ n s, I n s → wpAny (model prog w) A (pyNext it) (ForTurn (model prog w) A env target body Q I n) NoE s

theorem for_rule {target iter : Expr} {body : List Stmt} {pos : Pos} {Q : Flow → Shared → Prop}
    (h : wpAny (model prog w) A (eval iter env) (fun xv s₁ => wpAny (model prog w) A (pyIter xv) (ForAt prog w A env target body Q) E s₁) E s)
    (ht : ∀ it v, letOwnedTupleGo target it v = pure () := by intro _ _; rfl)
    (hs : ∀ x, foldedSetIterable iter env x = pure x := by intro _; rfl) :
    wpAny (model prog w) A (exec (.For target iter body [] pos) env) Q E s := by
  refine wpAny_For (wpAny_mono h (fun xv s₁ h₁ => wpAny_mono h₁ (fun it s₂ h₂ => ?_) fun _ _ x => x) fun _ _ x => x) hs
  obtain ⟨I, n, h0, turn⟩ := h₂
  refine codeAny_forLoop I (fun n s' hI => wpAny_mono (turn n s' hI) (fun r s₁ hr => ?_) fun _ _ x => x.elim) n h0 (ht it)
  cases r with
  | none => exact wpAny_execs_nil hr
  | some v =>
    refine wpAny_mono hr (fun _ s₂ h₂ => wpAny_mono h₂ (fun f s₃ hf => ?_) fun _ _ x => x.elim) fun _ _ x => x.elim
    cases f <;> exact hf

/-- the end of a turn -/
noncomputable def KEnd (h₀ : Heap) (L I : Addr) (oI : Obj) (s : Shared) (R : (Str → Option Value) → List (Addr × Obj) → Prop) (s₃ : Shared) : Prop :=
  ∃ m' led', Sm s s₃ ∧ Fr h₀ L s₃.heap m' ∧ News h₀ L s₃.heap ((I, oI) :: led') ∧ (∀ p ∈ led', p.1 ≠ I) ∧ R m' led'

theorem itMoved {g h h' : Heap} {L I : Addr} {m₁ : Str → Option Value} {l₁ : List (Addr × Obj)} {o : Obj} (F₁ : Fr g L h m₁) (N₁ : News g L h ((I, o) :: l₁)) (h1 : ∀ p ∈ l₁, p.1 ≠ I) (hk : ∀ b o, b ∉ [I] → h.get? b = some o → h'.get? b = some o) : Fr g L h' m₁ ∧ News g L h' l₁ := by
  have nI : L ∉ [I] := fun e => (N₁ _ (List.mem_cons_self ..)).2.1 (List.mem_singleton.mp e).symm
  refine ⟨⟨F₁.ns.at' fun o e => hk _ o nI e, fun b o e => hk b o (fun hb => ?_) (F₁.keep b o e), F₁.above⟩, fun p hp => ⟨hk _ _ (fun e => h1 p hp (List.mem_singleton.mp e)) (N₁ p (List.mem_cons_of_mem _ hp)).1, (N₁ p (List.mem_cons_of_mem _ hp)).2⟩⟩
  have := (N₁ _ (List.mem_cons_self ..)).2.2
  rw [List.mem_singleton.mp hb] at e
  rw [this] at e; cases e
theorem itStay {h₀ h h' : Heap} {L I : Addr} {m₁ m₂ : Str → Option Value} {l₁ l₂ src : List (Addr × Obj)} {o : Obj} {fp : List Addr} {S : Prop} (frame : (∀ b ∈ fp, ∀ ob, h.get? b = some ob → h'.get? b = some ob) → S)
    (hfp : ∀ b ∈ fp, b = I ∨ (∃ o, (b, o) ∈ src) ∨ ∃ o, h₀.get? b = some o) (s1 : ∀ p ∈ src, p ∈ l₁) (s2 : ∀ p ∈ src, p ∈ l₂) (F₁ : Fr h₀ L h m₁) (N₁ : News h₀ L h ((I, o) :: l₁)) (F₂ : Fr h₀ L h' m₂) (N₂ : News h₀ L h' ((I, o) :: l₂)) : S := by
  refine frame fun b hb ob e => ?_
  rcases hfp b hb with rfl | ⟨o', ho'⟩ | ⟨o', ho'⟩
  · have e1 := (N₁ _ (List.mem_cons_self ..)).1
    dsimp only at e1
    rw [e1] at e; cases e
    exact (N₂ _ (List.mem_cons_self ..)).1
  · have e1 := (N₁ _ (List.mem_cons_of_mem _ (s1 _ ho'))).1
    dsimp only at e1
    rw [e1] at e; cases e
    exact (N₂ _ (List.mem_cons_of_mem _ (s2 _ ho'))).1
  · rw [← e, F₁.keep b o' ho']
    exact F₂.keep b o' ho'
theorem iter_K {h₀ : Heap} {I : Addr} {oI : Obj} {fp : List Addr} {n : Nat} {P : Nat → Value → Prop} {St : Nat → Heap → Prop} {m : Str → Option Value} {news src : List (Addr × Obj)} {target : Expr} {body : List Stmt} {Q : Flow → Shared → Prop}
    (W : Walks prog w A I fp [I] n P St) (Rel : Nat → (Str → Option Value) → List (Addr × Obj) → Prop)
    (hfp : ∀ b ∈ fp, b = I ∨ (∃ o, (b, o) ∈ src) ∨ ∃ o, h₀.get? b = some o) (hsrc : ∀ i m led, Rel i m led → ∀ p ∈ src, p ∈ led)
    (hob : ∀ i h, St i h → ∃ o, h.get? I = some o) (hst : St 0 s.heap) (F : Fr h₀ env.locals s.heap m) (N : News h₀ env.locals s.heap ((I, oI) :: news)) (hI : ∀ p ∈ news, p.1 ≠ I) (h0 : Rel 0 m news)
    (turn : ∀ i v m₁ led s₁ oI, i < n → P i v → Rel i m₁ led → Sm s s₁ → Fr h₀ env.locals s₁.heap m₁ → News h₀ env.locals s₁.heap ((I, oI) :: led) → (∀ p ∈ led, p.1 ≠ I) →
      wpAny (model prog w) A (assign target env v) (fun _ s₂ => wpAny (model prog w) A (execs body env) (fun f s₃ => match f with
        | .next => KEnd h₀ env.locals I oI s (Rel (i + 1)) s₃ | .cont => KEnd h₀ env.locals I oI s (Rel (i + 1)) s₃ | .brk => Q .next s₃ | .ret v => Q (.ret v) s₃) NoE s₂) NoE s₁)
    (done : ∀ m₁ led s₁, Rel n m₁ led → Sm s s₁ → Fr h₀ env.locals s₁.heap m₁ → News h₀ env.locals s₁.heap led → Q .next s₁) :
    ForAt prog w A env target body Q (.ref I) s := by
  refine ⟨fun k s' => ∃ i m₁ led oI, k = n + 1 - i ∧ i ≤ n ∧ St i s'.heap ∧ Sm s s' ∧ Fr h₀ env.locals s'.heap m₁ ∧ News h₀ env.locals s'.heap ((I, oI) :: led) ∧ (∀ p ∈ led, p.1 ≠ I) ∧ Rel i m₁ led, n + 1, ⟨0, m, news, oI, by omega, by omega, hst, Sm.rfl s, F, N, hI, h0⟩, ?_⟩
  rintro k s'
  walk_at "flat"
  rename_i i m₁ led oI' hz91 hi st sm F₁ N₁ h1 R₁
  subst hz91
  by_cases hlt : i < n
  · refine W.item i s' _ _ hlt st fun v h' tk hP st' hk => ?_
    obtain ⟨F₂, N₂⟩ := itMoved F₁ N₁ h1 hk
    have nIh : h₀.get? I = none := (N₁ _ (List.mem_cons_self ..)).2.2
    have nIL : I ≠ env.locals := (N₁ _ (List.mem_cons_self ..)).2.1
    obtain ⟨oJ, hoJ⟩ : ∃ oJ, h'.get? I = some oJ := hob _ _ st'
    have N₃ : News h₀ env.locals h' ((I, oJ) :: led) := fun p hp => by
      rcases List.mem_cons.mp hp with rfl | hp
      · exact ⟨hoJ, nIL, nIh⟩
      · exact N₂ p hp
    refine wpAny_mono (turn i v m₁ led _ oJ hlt hP R₁ (Sm.of sm) F₂ N₃ h1) (fun _ s₂ h₂ => wpAny_mono h₂ (fun f s₃ hf => ?_) fun _ _ x => x) fun _ _ x => x
    have fin : KEnd h₀ env.locals I oJ s (Rel (i + 1)) s₃ → ∃ m, m < n + 1 - i ∧ ∃ i' m₁ led oI, m = n + 1 - i' ∧ i' ≤ n ∧ St i' s₃.heap ∧ Sm s s₃ ∧ Fr h₀ env.locals s₃.heap m₁ ∧ News h₀ env.locals s₃.heap ((I, oI) :: led) ∧ (∀ p ∈ led, p.1 ≠ I) ∧ Rel i' m₁ led := by
      rintro ⟨m', led', sm', F', N', h1', R'⟩
      exact ⟨n + 1 - (i + 1), by omega, i + 1, m', led', oJ, rfl, by omega, itStay (W.frame _ _ _ st') hfp (hsrc _ _ _ R₁) (hsrc _ _ _ R') F₂ N₃ F' N', sm', F', N', h1', R'⟩
    cases f with
    | next => exact fin hf
    | cont => exact fin hf
    | brk => exact hf
    | ret v => exact hf
  · have hin : i = n := by omega
    subst hin
    refine W.done s' _ _ st fun h' tk hk => ?_
    obtain ⟨F₂, N₂⟩ := itMoved F₁ N₁ h1 hk
    exact done m₁ led _ R₁ (Sm.of sm) F₂ N₂
end
end Mine
end

section
open PySem PySem.W PyProof.Rows
set_option maxRecDepth 100000
namespace Mine

noncomputable def NsObj (o : Obj) (m : Str → Option Value) : Prop := ∃ es ep, o.data = .dict es ep ∧ StrKeys es ∧ ∀ name, nsFind es name = m name
theorem NsObj.ns {h : Heap} {a : Addr} {o : Obj} {m : Str → Option Value} (x : NsObj o m) (e : h.get? a = some o) : h.Ns a m :=
  let ⟨es, ep, h1, h2, h3⟩ := x; ⟨o, es, ep, e, h1, h2, h3⟩
theorem NsObj.of {h : Heap} {a : Addr} {m : Str → Option Value} (x : h.Ns a m) : ∃ o, h.get? a = some o ∧ NsObj o m :=
  let ⟨o, es, ep, e, h1, h2, h3⟩ := x; ⟨o, e, es, ep, h1, h2, h3⟩

section
variable {prog : Program} {w : World} {A : Around} {E : Value → Shared → Prop} {s : Shared} {env : Env}

/-- the comprehension's names are let go -/
noncomputable def FreeC (C : Addr) (Q : Shared → Prop) (s₁ : Shared) : Prop := ∃ m, s₁.heap.Ns C m ∧ ∀ h', Heap.SameBut C s₁.heap h' → Q { s₁ with heap := h' }
noncomputable def UEnd (Q : Value → Shared → Prop) (C D : Addr) (s₁ : Shared) : Prop := FreeC C (Q (.ref D)) s₁
noncomputable def UAss (M : Model) (A : Around) (env : Env) (y : Str) (py : Pos) (Q : Flow → Shared → Prop) (C D : Addr) (s₁ : Shared) : Prop := wpAny M A (assign (.Name y py) env (.ref D)) (fun _ s₂ => FreeC C (Q .next) s₂) NoE s₁
noncomputable def CompTurn (M : Model) (A : Around) (cenv : Env) (x : Str) (ifs : List Expr) (elt : Expr) (U : Shared → Prop) (D : Addr) (I : Nat → Shared → Prop) (n : Nat) (r : Option Value) (s₁ : Shared) : Prop := match r with
  | none => U s₁
  | some v => wpAny M A (storeName cenv x v) (fun _ s₂ => wpAny M A (forIn ifs true fun c r => if r = true then do let ok ← isTrue c cenv (eval c cenv); pure (ForInStep.yield ok) else pure (ForInStep.yield r))
      (fun ok s₃ => if ok = true then wpAny M A (eval elt cenv) (fun y s₄ => wpAny M A (call (.builtin "list.append") [.ref D, y]) (fun _ s₅ => ∃ m, m < n ∧ I m s₅) NoE s₄) NoE s₃ else ∃ m, m < n ∧ I m s₃) NoE s₂) NoE s₁

noncomputable def CompAt (prog : Program) (w : World) (A : Around) (env : Env) (scope : Scope) (cl : List (Str × Addr)) (x : Str) (ifs : List Expr) (elt : Expr) (U : Addr → Addr → Shared → Prop) (it : Value) (s₂ : Shared) : Prop :=
  ∀ h₃ tk, h₃.objs.size = s₂.heap.objs.size + 2 → (∀ b o, s₂.heap.get? b = some o → h₃.get? b = some o) → h₃.get? s₂.heap.objs.size = some (listOf #[] 0) → h₃.Ns (s₂.heap.objs.size + 1) (fun _ => none) →
    ∃ (I : Nat → Shared → Prop) (n : Nat), I n { s₂ with heap := h₃, toks := tk } ∧ (∀ n s, I n s → ∀ (Q' : Value → Shared → Prop), Q' it s → wpAny (model prog w) A (pyIter it) Q' NoE s) ∧
      ∀ n s, I n s → wpAny (model prog w) A (pyNext it) (CompTurn (model prog w) A (compEnvC scope cl (s₂.heap.objs.size + 1) env) x ifs elt (U (s₂.heap.objs.size + 1) s₂.heap.objs.size) s₂.heap.objs.size I n) NoE s

theorem comp_rule {elt iter : Expr} {x : Str} {px : Pos} {ifs : List Expr} {scope : Scope} {cl : List (Str × Addr)} {pos : Pos} {Q : Value → Shared → Prop}
    (hclos : closureFor scope env = pure cl) (hcell : ∀ y ∈ scope.names, y.2 ≠ .cell) (hkind : scope.kind = .function)
    (hnames : ∀ y ∈ scope.names, y.2 = .local → scope.names.lookup y.1 = some .local) (hx : scope.names.lookup x = some .local)
    (h : wpAny (model prog w) A (eval iter env) (fun xv s₁ => wpAny (model prog w) A (pyIter xv) (CompAt prog w A env scope cl x ifs elt (UEnd Q)) E s₁) E s)
    (hs : ∀ x, foldedSetIterable iter env x = pure x := by intro _; rfl) :
    wpAny (model prog w) A (eval (.ListComp elt [⟨.Name x px, iter, ifs, 0⟩] scope pos) env) Q E s := by
  rw [eval_ListComp]
  refine wpAny_comprehension_free (use := none) rfl hs hclos hkind hnames (wpAny_mono h (fun xv s₁ h₁ => wpAny_mono h₁ (fun it s₂ h₂ => ?_) fun _ _ e => e) fun _ _ e => e)
  refine wpAny_newObj_type (wpAny_newFunctionEnv hcell (by intro y hy; simp at hy) (fun h₁ hns₁ hsb₁ => ?_) hkind)
  dsimp only at hns₁ hsb₁ ⊢
  generalize hH2 : s₂.heap.push { cls := .type "list", dict := none, data := .seq ([] : List Value).toArray } = H2 at hns₁ hsb₁ ⊢
  have hC : H2.objs.size = s₂.heap.objs.size + 1 := by rw [← hH2, Heap.size_push]
  have hDC : s₂.heap.objs.size ≠ H2.objs.size := by rw [hC]; exact Nat.ne_of_lt (Nat.lt_succ_self _)
  have old : ∀ b o, s₂.heap.get? b = some o → h₁.get? b = some o := fun b o e => hsb₁.extBut b o (Nat.ne_of_lt (by rw [hC]; exact Nat.lt_succ_of_lt (Heap.lt_size e))) (Heap.get?_push_of_some _ (hH2 ▸ Heap.get?_push_of_some _ e))
  have hacc : h₁.get? s₂.heap.objs.size = some (listOf #[] 0) := hsb₁.extBut _ _ hDC (Heap.get?_push_of_some _ (hH2 ▸ Heap.get?_push_size _ rfl))
  have hsz : h₁.objs.size = s₂.heap.objs.size + 2 := by rw [hsb₁.1, Heap.size_push, hC]
  rw [hC] at hns₁ ⊢
  have hq99 := h₂ h₁ (s₂.toks + ([] : List (Str × Value)).length) hsz old hacc hns₁
  revert hq99
  walk_at "flat"
  rename_i I n hI0 hself turn
  have loop : ∀ s₃ : Shared, s₃ = { s₂ with heap := h₁, toks := s₂.toks + ([] : List (Str × Value)).length } →
      codeAny (model prog w) A (.compLoop (.ListComp elt [⟨.Name x px, iter, ifs, 0⟩] scope pos) 0 it (.ref s₂.heap.objs.size) (compEnvC scope cl (s₂.heap.objs.size + 1) env))
        (compPost (model prog w) A E none Q (.ref s₂.heap.objs.size) (s₂.heap.objs.size + 1)) s₃ := by
    rintro s₃ rfl
    refine codeAny_compLoop_tests I (fun k s' hI => wpAny_mono (turn k s' hI) (fun r s₄ hr => ?_) fun _ _ e => e.elim) n hI0
    cases r with
    | none => exact hr
    | some v => 
      refine wpAny_assign_Name (wpAny_mono hr (fun _ s₅ h₅ => wpAny_mono h₅ (fun ok s₆ h₆ => ?_) fun _ _ e => e.elim) fun _ _ e => e.elim)
      cases ok with
      | false => simpa using h₆
      | true => 
        simp only [if_true] at h₆ ⊢
        exact wpAny_mono h₆ (fun y s₇ h₇ => wpAny_mono h₇ (fun _ _ z => z) fun _ _ e => e.elim) fun _ _ e => e.elim
  exact codeAny_compStart_list (loop _ rfl) (wpAny_mono (hself n _ hI0 (fun it' s' => it' = it ∧ s' = { s₂ with heap := h₁, toks := s₂.toks + ([] : List (Str × Value)).length }) ⟨rfl, rfl⟩) (fun it' s' hh => by obtain ⟨rfl, rfl⟩ := hh; exact loop _ rfl) fun _ _ e => e.elim)
theorem comp_ruleA {elt iter : Expr} {x y : Str} {px py spos : Pos} {ifs : List Expr} {scope : Scope} {cl : List (Str × Addr)} {pos : Pos} {Q : Flow → Shared → Prop}
    (hsw : swapsWith (.ListComp elt [⟨.Name x px, iter, ifs, 0⟩] scope pos) (some (.Name y py)) spos.line env = pure true)
    (hclos : closureFor scope env = pure cl) (hcell : ∀ y ∈ scope.names, y.2 ≠ .cell) (hkind : scope.kind = .function)
    (hnames : ∀ y ∈ scope.names, y.2 = .local → scope.names.lookup y.1 = some .local) (hx : scope.names.lookup x = some .local)
    (h : wpAny (model prog w) A (eval iter env) (fun xv s₁ => wpAny (model prog w) A (pyIter xv) (CompAt prog w A env scope cl x ifs elt (UAss (model prog w) A env y py Q)) E s₁) E s)
    (hs : ∀ x, foldedSetIterable iter env x = pure x := by intro _; rfl) :
    wpAny (model prog w) A (exec (.Assign [.Name y py] (.ListComp elt [⟨.Name x px, iter, ifs, 0⟩] scope pos) spos) env) Q E s := by
  rw [exec_Assign_Name_used _ _ _ _ hsw]
  refine wpAny_bind (wpAny_standAt (wpAny_bind ?_))
  show wpAny _ A (do let _ ← comprehension (.ListComp elt [⟨.Name x px, iter, ifs, 0⟩] scope pos) scope env _ (newList []) false (eval iter env) (some (assign (.Name y py) env))) _ _ s
  refine wpAny_bind (wpAny_mono (wpAny_comprehension_free (use := some (assign (.Name y py) env)) (Q := fun _ s' => Q .next s') rfl hs hclos hkind hnames
    (wpAny_mono h (fun xv s₁ h₁ => wpAny_mono h₁ (fun it s₂ h₂ => ?_) fun _ _ e => e) fun _ _ e => e)) (fun _ s' hq => wpAny_pure (wpAny_pure hq)) fun _ _ e => e)
  refine wpAny_newObj_type (wpAny_newFunctionEnv hcell (by intro y hy; simp at hy) (fun h₁ hns₁ hsb₁ => ?_) hkind)
  dsimp only at hns₁ hsb₁ ⊢
  generalize hH2 : s₂.heap.push { cls := .type "list", dict := none, data := .seq ([] : List Value).toArray } = H2 at hns₁ hsb₁ ⊢
  have hC : H2.objs.size = s₂.heap.objs.size + 1 := by rw [← hH2, Heap.size_push]
  have hDC : s₂.heap.objs.size ≠ H2.objs.size := by rw [hC]; exact Nat.ne_of_lt (Nat.lt_succ_self _)
  have old : ∀ b o, s₂.heap.get? b = some o → h₁.get? b = some o := fun b o e => hsb₁.extBut b o (Nat.ne_of_lt (by rw [hC]; exact Nat.lt_succ_of_lt (Heap.lt_size e))) (Heap.get?_push_of_some _ (hH2 ▸ Heap.get?_push_of_some _ e))
  have hacc : h₁.get? s₂.heap.objs.size = some (listOf #[] 0) := hsb₁.extBut _ _ hDC (Heap.get?_push_of_some _ (hH2 ▸ Heap.get?_push_size _ rfl))
  have hsz : h₁.objs.size = s₂.heap.objs.size + 2 := by rw [hsb₁.1, Heap.size_push, hC]
  rw [hC] at hns₁ ⊢
  have hq99 := h₂ h₁ (s₂.toks + ([] : List (Str × Value)).length) hsz old hacc hns₁
  revert hq99
  walk_at "flat"
  rename_i I n hI0 hself turn
  have loop : ∀ s₃ : Shared, s₃ = { s₂ with heap := h₁, toks := s₂.toks + ([] : List (Str × Value)).length } →
      codeAny (model prog w) A (.compLoop (.ListComp elt [⟨.Name x px, iter, ifs, 0⟩] scope pos) 0 it (.ref s₂.heap.objs.size) (compEnvC scope cl (s₂.heap.objs.size + 1) env))
        (compPost (model prog w) A E (some (assign (.Name y py) env)) (fun _ s' => Q .next s') (.ref s₂.heap.objs.size) (s₂.heap.objs.size + 1)) s₃ := by
    rintro s₃ rfl
    refine codeAny_compLoop_tests I (fun k s' hI => wpAny_mono (turn k s' hI) (fun r s₄ hr => ?_) fun _ _ e => e.elim) n hI0
    cases r with
    | none => exact wpAny_mono hr (fun _ _ z => z) fun _ _ e => e.elim
    | some v => 
      refine wpAny_assign_Name (wpAny_mono hr (fun _ s₅ h₅ => wpAny_mono h₅ (fun ok s₆ h₆ => ?_) fun _ _ e => e.elim) fun _ _ e => e.elim)
      cases ok with
      | false => simpa using h₆
      | true => 
        simp only [if_true] at h₆ ⊢
        exact wpAny_mono h₆ (fun y s₇ h₇ => wpAny_mono h₇ (fun _ _ z => z) fun _ _ e => e.elim) fun _ _ e => e.elim
  exact codeAny_compStart_list (loop _ rfl) (wpAny_mono (hself n _ hI0 (fun it' s' => it' = it ∧ s' = { s₂ with heap := h₁, toks := s₂.toks + ([] : List (Str × Value)).length }) ⟨rfl, rfl⟩) (fun it' s' hh => by obtain ⟨rfl, rfl⟩ := hh; exact loop _ rfl) fun _ _ e => e.elim)
end
end Mine
end

section
open PySem PySem.W PyProof.Rows
set_option maxRecDepth 100000
namespace Mine
section
variable {prog : Program} {w : World} {A : Around} {E : Value → Shared → Prop} {s : Shared} {env : Env}

/-- the end of a comprehension's turn -/
noncomputable def CEnd (h₀ : Heap) (L : Addr) (m : Str → Option Value) (I C D : Addr) (oI oC oD : Obj) (s : Shared) (R : List (Addr × Obj) → Prop) (s₃ : Shared) : Prop :=
  ∃ led', Sm s s₃ ∧ Fr h₀ L s₃.heap m ∧ News h₀ L s₃.heap ((I, oI) :: (C, oC) :: (D, oD) :: led') ∧ (∀ p ∈ led', p.1 ≠ I ∧ p.1 ≠ C ∧ p.1 ≠ D) ∧ R led'

theorem news_sub {h₀ h : Heap} {L : Addr} {l l' : List (Addr × Obj)} (N : News h₀ L h l) (hs : ∀ p ∈ l', p ∈ l) : News h₀ L h l' := fun p hp => N p (hs p hp)

theorem comp_KG {h₀ : Heap} {I : Addr} {oI : Obj} {fp : List Addr} {n : Nat} {P : Nat → Value → Prop} {St : Nat → Heap → Prop} {m : Str → Option Value} {news src : List (Addr × Obj)} {scope : Scope} {cl : List (Str × Addr)} {x : Str} {ifs : List Expr} {elt : Expr} {U : Addr → Addr → Shared → Prop}
    (W : Walks prog w A I fp [I] n P St) (Rel : Nat → List Value → List (Addr × Obj) → Prop)
    (hfp : ∀ b ∈ fp, b = I ∨ (∃ o, (b, o) ∈ src) ∨ ∃ o, h₀.get? b = some o) (hsrc : ∀ i ys led, Rel i ys led → ∀ p ∈ src, p ∈ led)
    (hob : ∀ i h, St i h → ∃ o, h.get? I = some o) (hst : St 0 s.heap) (F : Fr h₀ env.locals s.heap m) (N : News h₀ env.locals s.heap ((I, oI) :: news)) (hI : ∀ p ∈ news, p.1 ≠ I) (h0 : Rel 0 [] news)
    (hx : scope.names.lookup x = some .local) (hkind : scope.kind = .function) (hn : n ≤ sizeLine)
    (turn : ∀ D C i v ys led s₁ oI oC oD mc, (∀ p ∈ (I, oI) :: news, p.1 < D) → D < C → i < n → P i v → Rel i ys led → ys.length ≤ i → Sm s s₁ → Fr h₀ env.locals s₁.heap m → News h₀ env.locals s₁.heap ((I, oI) :: (C, oC) :: (D, oD) :: led) →
      (∀ p ∈ led, p.1 ≠ I ∧ p.1 ≠ C ∧ p.1 ≠ D) → NsObj oC mc → mc x = some v →
      wpAny (model prog w) A (forIn ifs true fun c r => if r = true then do let ok ← isTrue c (compEnvC scope cl C env) (eval c (compEnvC scope cl C env)); pure (ForInStep.yield ok) else pure (ForInStep.yield r))
        (fun ok s₃ => if ok = true then wpAny (model prog w) A (eval elt (compEnvC scope cl C env)) (fun y s₄ => CEnd h₀ env.locals m I C D oI oC oD s (Rel (i + 1) (ys ++ [y])) s₄) NoE s₃ else CEnd h₀ env.locals m I C D oI oC oD s (Rel (i + 1) ys) s₃) NoE s₁)
    (fin : ∀ D C ys led s₁ c oC mc, (∀ p ∈ news, p.1 < D) → D < C → Rel n ys led → Sm s s₁ → Fr h₀ env.locals s₁.heap m → News h₀ env.locals s₁.heap ((C, oC) :: (D, listOf ys.toArray c) :: led) → (∀ p ∈ led, p.1 ≠ C ∧ p.1 ≠ D) → NsObj oC mc → U C D s₁) :
    CompAt prog w A env scope cl x ifs elt U (.ref I) s := by
  intro h₃ tk hsz hk hDo hCn
  generalize hD : s.heap.objs.size = D at *
  have hltD : ∀ p ∈ (I, oI) :: news, p.1 < D := fun p hp => hD ▸ Heap.lt_size (N p hp).1
  have hLD : env.locals < D := hD ▸ F.ns.lt
  have hh0 : h₀.objs.size ≤ D := hD ▸ Nat.le_of_lt (Nat.lt_of_le_of_lt F.above F.ns.lt)
  have none0 : ∀ b, D ≤ b → h₀.get? b = none := fun b hb => by
    cases e : h₀.get? b with
    | none => rfl
    | some o => exact absurd (Nat.lt_of_lt_of_le (Heap.lt_size e) hh0) (Nat.not_lt.mpr hb)
  obtain ⟨oC0, hoC0, hnC0⟩ := NsObj.of hCn
  have F3 : Fr h₀ env.locals h₃ m := ⟨F.ns.keeps hk, fun b o e => hk b o (F.keep b o e), F.above⟩
  have N3 : News h₀ env.locals h₃ ((I, oI) :: (D + 1, oC0) :: (D, listOf #[] 0) :: news) := by
    intro p hp
    rcases List.mem_cons.mp hp with rfl | hp
    · have z := N _ (List.mem_cons_self ..); exact ⟨hk _ _ z.1, z.2⟩
    rcases List.mem_cons.mp hp with rfl | hp
    · exact ⟨hoC0, Nat.ne_of_gt (Nat.lt_succ_of_lt hLD), none0 _ (Nat.le_succ _)⟩
    rcases List.mem_cons.mp hp with rfl | hp
    · exact ⟨hDo, Nat.ne_of_gt hLD, none0 _ (Nat.le_refl _)⟩
    · have z := N _ (List.mem_cons_of_mem _ hp); exact ⟨hk _ _ z.1, z.2⟩
  have ltI : I < D := hltD _ (List.mem_cons_self ..)
  have ap3 : ∀ p ∈ news, p.1 ≠ I ∧ p.1 ≠ D + 1 ∧ p.1 ≠ D := fun p hp => by
    have z := hltD p (List.mem_cons_of_mem _ hp)
    exact ⟨hI p hp, Nat.ne_of_lt (Nat.lt_succ_of_lt z), Nat.ne_of_lt z⟩
  have stay : ∀ {i : Nat} {h h' : Heap} {l₁ l₂ : List (Addr × Obj)} {y₁ y₂ : List Value} {j k : Nat} {o oc od oc' od' : Obj}, St i h → Fr h₀ env.locals h m → News h₀ env.locals h ((I, o) :: (D + 1, oc) :: (D, od) :: l₁) → Rel j y₁ l₁ → Fr h₀ env.locals h' m →
      News h₀ env.locals h' ((I, o) :: (D + 1, oc') :: (D, od') :: l₂) → Rel k y₂ l₂ → St i h' := by
    intro i h h' l₁ l₂ y₁ y₂ j k o oc od oc' od' st F₁ N₁ R₁ F₂ N₂ R₂
    refine W.frame i h h' st fun b hb ob e => ?_
    rcases hfp b hb with rfl | ⟨o', ho'⟩ | ⟨o', ho'⟩
    · have e1 := (N₁ _ (List.mem_cons_self ..)).1
      dsimp only at e1
      rw [e1] at e; cases e
      exact (N₂ _ (List.mem_cons_self ..)).1
    · have e1 := (N₁ _ (List.mem_cons_of_mem _ (List.mem_cons_of_mem _ (List.mem_cons_of_mem _ (hsrc _ _ _ R₁ _ ho'))))).1
      dsimp only at e1
      rw [e1] at e; cases e
      exact (N₂ _ (List.mem_cons_of_mem _ (List.mem_cons_of_mem _ (List.mem_cons_of_mem _ (hsrc _ _ _ R₂ _ ho'))))).1
    · rw [← e, F₁.keep b o' ho']
      exact F₂.keep b o' ho'
  -- what a change at one address of the ledger leaves
  have chg : ∀ {h h' : Heap} {l : List (Addr × Obj)} {a : Addr}, Fr h₀ env.locals h m → News h₀ env.locals h l → (∃ o, h.get? a = some o) → a ≠ env.locals → h₀.get? a = none → (∀ b o, b ≠ a → h.get? b = some o → h'.get? b = some o) → Fr h₀ env.locals h' m ∧ ∀ p ∈ l, p.1 ≠ a → (h'.get? p.1 = some p.2 ∧ p.1 ≠ env.locals ∧ h₀.get? p.1 = none) := by
    intro h h' l a F₁ N₁ _ haL ha0 hk'
    refine ⟨⟨F₁.ns.at' fun o e => hk' _ o (Ne.symm haL) e, fun b o e => hk' b o (fun z => by rw [z, ha0] at e; cases e) (F₁.keep b o e), F₁.above⟩, fun p hp hpa => ⟨hk' _ _ hpa (N₁ p hp).1, (N₁ p hp).2⟩⟩
  have nI0 : h₀.get? I = none := (N _ (List.mem_cons_self ..)).2.2
  have nIL : I ≠ env.locals := (N _ (List.mem_cons_self ..)).2.1
  refine ⟨fun k s' => ∃ i ys led oI oC c mc, k = n + 1 - i ∧ i ≤ n ∧ ys.length ≤ i ∧ St i s'.heap ∧ Sm s s' ∧ Fr h₀ env.locals s'.heap m ∧ News h₀ env.locals s'.heap ((I, oI) :: (D + 1, oC) :: (D, listOf ys.toArray c) :: led) ∧ (∀ p ∈ led, p.1 ≠ I ∧ p.1 ≠ D + 1 ∧ p.1 ≠ D) ∧ NsObj oC mc ∧ Rel i ys led, n + 1,
    ⟨0, [], news, oI, oC0, 0, _, by omega, by omega, Nat.le_refl _, W.frame _ _ _ hst fun b _ o e => hk b o e, ⟨rfl, GR.rfl _⟩, F3, N3, ap3, hnC0, h0⟩, ?_, ?_⟩
  · rintro k s'
    walk_at "flat"
    rename_i i ys led oI' oC c mc hz91 hi hys st sm F₁ N₁ h1 hC R₁
    subst hz91
    rintro Q' hQ'
    exact W.self i s' _ _ st hQ'
  rintro k s'
  walk_at "flat"
  rename_i i ys led oI' oC c mc hz92 hi hys st sm F₁ N₁ h1 hC R₁
  subst hz92
  by_cases hlt : i < n
  · refine W.item i s' _ _ hlt st fun v h' tk' hP st' hk' => ?_
    obtain ⟨F₂, N₂⟩ := chg (a := I) F₁ N₁ ⟨_, (N₁ _ (List.mem_cons_self ..)).1⟩ nIL nI0 (fun b o hb e => hk' b o (by simpa using hb) e)
    obtain ⟨oJ, hoJ⟩ := hob _ _ st'
    have NC₂ := N₂ (D + 1, oC) (by simp) (Nat.ne_of_gt (Nat.lt_succ_of_lt ltI))
    have cx : (compEnvC scope cl (D + 1) env).kindOf x = some .local := lookup_relabel_local hx
    refine wpAny_storeName_local cx (hC.ns NC₂.1) (fun h₅ hn₅ hs₅ => ?_) (by simp [compEnvC, relabel, hkind])
    have hk₅ : ∀ b o, b ≠ D + 1 → h'.get? b = some o → h₅.get? b = some o := fun b o hb e => (hs₅.2 b hb).trans e
    have hk₆ : ∀ b o, b ≠ I → b ≠ D + 1 → s'.heap.get? b = some o → h₅.get? b = some o := fun b o hb hb' e => hk₅ b o hb' (hk' b o (by simpa using hb) e)
    obtain ⟨oC₅, hoC₅, hnC₅⟩ := NsObj.of hn₅
    have F₅ : Fr h₀ env.locals h₅ m := ⟨F₂.ns.at' fun o e => hk₅ _ o (fun z => by rw [z] at hLD; exact absurd hLD (Nat.not_lt.mpr (Nat.le_succ _))) e, fun b o e => hk₅ b o (fun z => by rw [z, none0 _ (Nat.le_succ _)] at e; cases e) (F₂.keep b o e), F₂.above⟩
    have N₅ : News h₀ env.locals h₅ ((I, oJ) :: (D + 1, oC₅) :: (D, listOf ys.toArray c) :: led) := by
      intro p hp
      rcases List.mem_cons.mp hp with rfl | hp
      · exact ⟨hk₅ _ _ (Nat.ne_of_lt (Nat.lt_succ_of_lt ltI)) hoJ, nIL, nI0⟩
      rcases List.mem_cons.mp hp with rfl | hp
      · exact ⟨hoC₅, NC₂.2⟩
      rcases List.mem_cons.mp hp with rfl | hp
      · have z := N₁ (D, listOf ys.toArray c) (by simp)
        exact ⟨hk₆ _ _ (Nat.ne_of_gt ltI) (Nat.ne_of_lt (Nat.lt_succ_self _)) z.1, z.2⟩
      · have z := N₁ p (by simp [hp])
        exact ⟨hk₆ _ _ (h1 p hp).1 (h1 p hp).2.1 z.1, z.2⟩
    have st₅ : St (i + 1) h₅ := W.frame _ _ _ st' fun b hb o e => hk₅ b o (fun z => by
      rcases hfp b hb with rfl | ⟨o', ho'⟩ | ⟨o', ho'⟩
      · exact absurd z (Nat.ne_of_lt (Nat.lt_succ_of_lt ltI))
      · exact (h1 _ (hsrc _ _ _ R₁ _ ho')).2.1 z
      · rw [z, none0 _ (Nat.le_succ _)] at ho'; cases ho') e
    refine wpAny_mono (turn D (D + 1) i v ys led { s' with heap := h₅, toks := tk' + 1 } oJ oC₅ (listOf ys.toArray c) _ (fun p hp => ?_) (Nat.lt_succ_self _) hlt hP R₁ hys sm F₅ N₅ h1 hnC₅ (by simp)) (fun ok s₃ hok => ?_) fun _ _ e => e
    · rcases List.mem_cons.mp hp with rfl | hp
      · exact ltI
      · exact hltD p (List.mem_cons_of_mem _ hp)
    cases ok with
    | false =>
      simp only [Bool.false_eq_true, if_false] at hok ⊢
      obtain ⟨led', sm', F', N', h1', R'⟩ := hok
      exact ⟨n + 1 - (i + 1), by omega, i + 1, ys, led', oJ, oC₅, c, _, rfl, by omega, by omega, stay st₅ F₅ N₅ R₁ F' N' R', sm', F', N', h1', hnC₅, R'⟩
    | true =>
      simp only [if_true] at hok ⊢
      refine wpAny_mono hok (fun y s₄ h₄ => ?_) fun _ _ e => e
      obtain ⟨led', sm', F', N', h1', R'⟩ := h₄
      have z := N' (D, listOf ys.toArray c) (by simp)
      refine wpAny_list_append_plain (items := ys.toArray) ⟨c, z.1⟩ (fun h₇ hl₇ hs₇ => ?_) (by rw [List.size_toArray]; omega)
      obtain ⟨c', hc'⟩ := hl₇
      have hk₇ : ∀ b o, b ≠ D → s₄.heap.get? b = some o → h₇.get? b = some o := fun b o hb e => (hs₇.2 b hb).trans e
      have F₇ : Fr h₀ env.locals h₇ m := ⟨F'.ns.at' fun o e => hk₇ _ o (Nat.ne_of_lt hLD) e, fun b o e => hk₇ b o (fun q => by rw [q, none0 _ (Nat.le_refl _)] at e; cases e) (F'.keep b o e), F'.above⟩
      have N₇ : News h₀ env.locals h₇ ((I, oJ) :: (D + 1, oC₅) :: (D, listOf (ys ++ [y]).toArray c') :: led') := by
        intro p hp
        rcases List.mem_cons.mp hp with rfl | hp
        · have z := N' (I, oJ) (by simp); exact ⟨hk₇ _ _ (Nat.ne_of_lt ltI) z.1, z.2⟩
        rcases List.mem_cons.mp hp with rfl | hp
        · have z := N' (D + 1, oC₅) (by simp); exact ⟨hk₇ _ _ (Nat.ne_of_gt (Nat.lt_succ_self _)) z.1, z.2⟩
        rcases List.mem_cons.mp hp with rfl | hp
        · refine ⟨?_, z.2⟩
          rw [hc']; simp
        · have z := N' p (by simp [hp]); exact ⟨hk₇ _ _ (h1' p hp).2.2 z.1, z.2⟩
      have st₄ : St (i + 1) s₄.heap := stay st₅ F₅ N₅ R₁ F' N' R'
      exact ⟨n + 1 - (i + 1), by omega, i + 1, ys ++ [y], led', oJ, oC₅, c', _, rfl, by omega, by simp; omega, stay st₄ F' N' R' F₇ N₇ R', sm', F₇, N₇, h1', hnC₅, R'⟩
  · have hin : i = n := by omega
    subst hin
    refine W.done s' _ _ st fun h' tk' hk' => ?_
    obtain ⟨F₂, N₂⟩ := chg (a := I) F₁ N₁ ⟨_, (N₁ _ (List.mem_cons_self ..)).1⟩ nIL nI0 (fun b o hb e => hk' b o (by simpa using hb) e)
    have NC₂ := N₂ (D + 1, oC) (by simp) (Nat.ne_of_gt (Nat.lt_succ_of_lt ltI))
    refine fin D (D + 1) ys led _ c oC mc (fun p hp => hltD p (List.mem_cons_of_mem _ hp)) (Nat.lt_succ_self _) R₁ sm F₂ (fun p hp => ?_) (fun p hp => (h1 p hp).2) hC
    rcases List.mem_cons.mp hp with rfl | hp
    · exact NC₂
    rcases List.mem_cons.mp hp with rfl | hp
    · exact N₂ (D, listOf ys.toArray c) (by simp) (Nat.ne_of_gt ltI)
    · exact N₂ p (by simp [hp]) (h1 p hp).1

variable {h₀ : Heap} {L C : Addr} {m : Str → Option Value} {led : List (Addr × Obj)} {oC : Obj} {mc : Str → Option Value}
theorem free_done {Q : Shared → Prop} (F : Fr h₀ L s.heap m) (N : News h₀ L s.heap ((C, oC) :: led)) (hC : NsObj oC mc) (h1 : ∀ p ∈ led, p.1 ≠ C)
    (h : ∀ h', Fr h₀ L h' m → News h₀ L h' led → Q { s with heap := h' }) : FreeC C Q s := by
  have z := N (C, oC) (List.mem_cons_self ..)
  refine ⟨mc, hC.ns z.1, fun h' hs => ?_⟩
  have hk : ∀ b o, b ≠ C → s.heap.get? b = some o → h'.get? b = some o := fun b o hb e => (hs.2 b hb).trans e
  refine h h' ⟨F.ns.at' fun o e => hk _ o (fun q => z.2.1 q.symm) e, fun b o e => hk b o (fun q => ?_) (F.keep b o e), F.above⟩ fun p hp => ?_
  · rw [q] at e
    have := z.2.2
    dsimp only at this
    rw [this] at e; cases e
  · have y := N p (List.mem_cons_of_mem _ hp)
    exact ⟨hk _ _ (h1 p hp) y.1, y.2⟩
theorem fin_done {Q : Value → Shared → Prop} {news : List (Addr × Obj)} {R : List Value → List (Addr × Obj) → Prop} {s₀ : Shared}
    (done : ∀ D ys led s₁ c, (∀ p ∈ news, p.1 < D) → R ys led → Sm s₀ s₁ → Fr h₀ L s₁.heap m → News h₀ L s₁.heap ((D, listOf ys.toArray c) :: led) → (∀ p ∈ led, p.1 ≠ D) → Q (.ref D) s₁) :
    ∀ D C ys led s₁ c oC mc, (∀ p ∈ news, p.1 < D) → D < C → R ys led → Sm s₀ s₁ → Fr h₀ L s₁.heap m → News h₀ L s₁.heap ((C, oC) :: (D, listOf ys.toArray c) :: led) → (∀ p ∈ led, p.1 ≠ C ∧ p.1 ≠ D) → NsObj oC mc → UEnd Q C D s₁ := by
  intro D C ys led s₁ c oC mc hD hDC R sm F N h1 hC
  refine free_done F N hC (fun p hp => ?_) fun h' F' N' => done D ys led _ c hD R (Sm.of sm) F' N' fun p hp => (h1 p hp).2
  rcases List.mem_cons.mp hp with rfl | hp
  · exact Nat.ne_of_lt hDC
  · exact (h1 p hp).1
end
end Mine
end

section
open PySem PySem.W PySem.Calls PyProof.Rows PySem.SeqAt PySem.MeetsSeq
set_option maxRecDepth 100000
namespace Mine
section
variable {prog : Program} {w : World} {A : Around} {E : Value → Shared → Prop} {s : Shared} {h₀ : Heap} {L : Addr} {m : Str → Option Value} {news : List (Addr × Obj)}

theorem updF_run {h h' : Heap} {d : Addr} {o o' : Obj} {g : Obj → List (Addr × Obj)} (F : Fr h₀ L h m) (N : News h₀ L h news) (U : UpdF d o news g) (hs : Heap.SameBut d h h') (ho : h'.get? d = some o') :
    Fr h₀ L h' m ∧ News h₀ L h' (g o') := by
  have hq99 := U.split
  revert hq99
  walk_at "flat"
  rename_i own rest hz91 hg h1 h2
  subst hz91
  have hmem := N (d, o) (List.mem_append_right _ (.head _))
  exact ⟨⟨F.ns.sameBut hs (Ne.symm hmem.2.1), fun b ob e => (hs.2 b (fun q => by rw [q, hmem.2.2] at e; cases e)).trans (F.keep b ob e), F.above⟩, hg o' ▸ N.setAt h1 h2 hs ho⟩

theorem len_L {l : Addr} {vs : List Value} {k : Nat} {Q : Value → Shared → Prop} (N : News h₀ L s.heap news) (hm : (l, listOf vs.toArray k) ∈ news) (hfit : vs.length < 2 ^ 62) (h : Q (.int vs.length (s.toks + 1)) { s with toks := s.toks + 1 + 1 }) :
    wpAny (model prog w) A (call (.builtin "len") [.ref l]) Q E s :=
  len_list (News.isList N hm) (by rw [List.size_toArray]; omega) (by rw [List.size_toArray]; exact h)

/-- an item of a list at a place that is 0 or more -/
theorem item_L {value slice : Expr} {l : Addr} {vs : List Value} {k : Nat} {i : Int} {u : Tok} {v : Value} {Q : Value → Shared → Prop} (N : News h₀ L s.heap news) (hm : (l, listOf vs.toArray k) ∈ news)
    (h0 : 0 ≤ i) (hi : i < 2 ^ 63) (hx : vs[i.toNat]? = some v) (h : Q v s)
    (hs : subscripted slice false (.ref l) (.int i u) = operate [.ref l, .int i u] (getItem (.ref l) (.int i u)) := by with_unfolding_all rfl) :
    wpAny (model prog w) A (subscriptTail value slice (.ref l) (.int i u)) Q E s :=
  have hL := News.isList N hm
  tail_any hL.typeIs slot_list_getitem.lookup (wpAny_getItem_list hL h0 hi (by simpa using hx) h) hs

theorem ints_any {x : Int} {u : Tok} : ∀ {vs : List Value} {ns : List Int}, IntsAre vs ns → ∃ e : Value → Bool, (∀ {A : Around} {s : Shared} (y : Value), y ∈ vs → EqAt A s y (.int x u) (e y)) ∧ vs.any e = decide (x ∈ ns)
  | _, _, hi => by
    refine ⟨fun y => match y with | .int a _ => a == x | _ => false, ?_, ?_⟩
    · intro A s y hy
      induction hi with
      | nil => cases hy
      | cons n t _ ih =>
        rcases List.mem_cons.mp hy with rfl | hy
        · exact EqAt.int_int n t x u
        · exact ih hy
    · induction hi with
      | nil => simp
      | cons n t _ ih =>
        rw [List.any_cons, ih]
        by_cases h : n = x
        · subst h; simp
        · have : ¬ x = n := fun z => h z.symm
          simp [h, this]

theorem notIn_L {l : Addr} {vs : List Value} {ns : List Int} {k : Nat} {x : Int} {u : Tok} {Q : Value → Shared → Prop} (N : News h₀ L s.heap news) (hm : (l, listOf vs.toArray k) ∈ news) (hi : IntsAre vs ns)
    (h : Q (.bool (decide (x ∉ ns))) s) : wpAny (model prog w) A (compareOp .NotIn (.int x u) (.ref l)) Q E s := by
  obtain ⟨e, he, ha⟩ := ints_any (x := x) (u := u) hi
  refine notIn_listAt e (News.isList N hm) (fun y hy => he y (by simpa using hy)) ?_
  have : vs.toArray.any e = decide (x ∈ ns) := by rw [← ha]; simp
  rw [this]
  simpa using h
theorem in_L {l : Addr} {vs : List Value} {ns : List Int} {k : Nat} {x : Int} {u : Tok} {Q : Value → Shared → Prop} (N : News h₀ L s.heap news) (hm : (l, listOf vs.toArray k) ∈ news) (hi : IntsAre vs ns)
    (h : Q (.bool (decide (x ∈ ns))) s) : wpAny (model prog w) A (compareOp .In (.int x u) (.ref l)) Q E s := by
  obtain ⟨e, he, ha⟩ := ints_any (x := x) (u := u) hi
  refine in_listAt e (News.isList N hm) (fun y hy => he y (by simpa using hy)) ?_
  have : vs.toArray.any e = decide (x ∈ ns) := by rw [← ha]; simp
  rw [this]
  exact h

theorem ints_at {vs : List Value} {ns : List Int} (hi : IntsAre vs ns) {j : Nat} {v : Value} (hv : vs[j]? = some v) : ∃ n t, v = .int n t ∧ ns[j]? = some n := by
  induction hi generalizing j with
  | nil => simp at hv
  | cons n t _ ih =>
    cases j with
    | zero => simp at hv; exact ⟨n, t, hv.symm, rfl⟩
    | succ j => simp at hv; exact ih hv
theorem IntsAre.eraseIdx : ∀ {vs : List Value} {ns : List Int}, IntsAre vs ns → ∀ j, IntsAre (vs.eraseIdx j) (ns.eraseIdx j)
  | _, _, .nil, j => by simp; exact .nil
  | _, _, .cons n t r, 0 => r
  | _, _, .cons n t r, j + 1 => by rw [List.eraseIdx_cons_succ, List.eraseIdx_cons_succ]; exact .cons n t (eraseIdx r j)

theorem remove_L {l : Addr} {vs : List Value} {ns : List Int} {k : Nat} {x : Int} {u : Tok} {g : Obj → List (Addr × Obj)} {Q : Value → Shared → Prop} (F : Fr h₀ L s.heap m) (N : News h₀ L s.heap news) (U : UpdF l (listOf vs.toArray k) news g) (hi : IntsAre vs ns)
    (hx : x ∈ ns) (hsz : vs.length ≤ 1000) (h : ∀ h' vs' k', Fr h₀ L h' m → News h₀ L h' (g (listOf vs'.toArray k')) → IntsAre vs' (ns.erase x) → Q .none { s with heap := h' }) :
    wpAny (model prog w) A (call (.builtin "list.remove") [.ref l, .int x u]) Q E s := by
  have hmem : (l, listOf vs.toArray k) ∈ news := by
    have hq99 := U.split
    revert hq99
    walk_at "flat"
    rename_i own rest hz92 _ _ _
    subst hz92
    exact List.mem_append_right _ (.head _)
  have ho := (N _ hmem).1
  obtain ⟨j, hj⟩ : ∃ j, ns.idxOf? x = some j := by
    cases e : ns.idxOf? x with
    | some j => exact ⟨j, rfl⟩
    | none => simp [List.idxOf?] at e; exact absurd rfl (e x hx)
  have hj' : j < ns.length ∧ ns[j]? = some x ∧ ∀ i, i < j → ns[i]? ≠ some x := by
    have hj₂ := hj
    simp only [List.idxOf?, List.findIdx?_eq_some_iff_getElem] at hj₂
    obtain ⟨h1, h2, h3⟩ := hj₂
    refine ⟨h1, by rw [List.getElem?_eq_getElem h1, beq_iff_eq.mp h2], fun i hi => ?_⟩
    have := h3 i hi
    rw [List.getElem?_eq_getElem (Nat.lt_trans hi h1)]
    simpa using this
  have hlen := hi.length
  have at_ : ∀ i (hi' : i < vs.length), ∃ n t, vs[i] = .int n t ∧ ns[i]? = some n := fun i hi' => by
    have h1 : i < ns.length := by omega
    obtain ⟨t, ht⟩ := hi.get i ns[i] (by simp [h1])
    refine ⟨ns[i], t, ?_, by simp [h1]⟩
    rw [List.getElem?_eq_getElem hi'] at ht; exact Option.some.inj ht
  refine call_meets (Q := Q) (E := E) PySem.F.slot_list_remove ⟨_, ho, rfl⟩ PySem.F.entry_list_remove (PySem.F.args_list_remove_2 _ _)
    (list_remove l vs.toArray k (.int x u) (fun y => match y with | .int a _ => a == x | _ => false) ?_ j (by simpa using (by omega : j < vs.length)) ?_ ?_ (by rw [List.size_toArray, sizeLine_eq]; omega)) ⟨ho, ?_⟩
  · intro y hy
    have hy' : y ∈ vs := by simpa using hy
    obtain ⟨i, hi', rfl⟩ := List.getElem_of_mem hy'
    obtain ⟨n, t, e, _⟩ := at_ i hi'
    rw [e]; exact EqGives.int n x t u
  · obtain ⟨n, t, e, hn⟩ := at_ j (by omega)
    rw [hj'.2.1] at hn; cases hn
    simp [e]
  · intro i hi' hij
    obtain ⟨n, t, e, hn⟩ := at_ i (by simpa using hi')
    have : n ≠ x := fun z => hj'.2.2 i hij (z ▸ hn)
    simp [e, this]
  · have hs : Heap.SameBut l s.heap (s.heap.update l (Obj.mapSeq fun xs => xs.eraseIdxIfInBounds j)) := Heap.SameBut.update ..
    have hjv : j < vs.length := by omega
    have hnew : (s.heap.update l (Obj.mapSeq fun xs => xs.eraseIdxIfInBounds j)).get? l = some (listOf (vs.eraseIdx j).toArray (k + 1)) := by
      have : Obj.mapSeq (fun xs => xs.eraseIdxIfInBounds j) (listOf vs.toArray k) = listOf (vs.eraseIdx j).toArray (k + 1) := by
        have e1 : vs.toArray.eraseIdxIfInBounds j = (vs.eraseIdx j).toArray := by
          rw [Array.eraseIdxIfInBounds_eq]; simp [hjv]
        simp only [Obj.mapSeq, e1, List.size_toArray, List.length_eraseIdx, if_pos hjv]
        rw [if_neg (by simp; omega)]
      rw [Heap.get?_update_self _ ho (by rw [this]; rfl), this]
    obtain ⟨F', N'⟩ := updF_run F N U hs hnew
    refine h _ (vs.eraseIdx j) (k + 1) F' N' ?_
    rw [List.erase_eq_eraseIdx, hj]
    exact IntsAre.eraseIdx hi j
end
end Mine
end

section
open PySem PySem.W PySem.Calls PyProof.Rows
set_option maxRecDepth 100000
namespace Mine
section
variable {prog : Program} {w : World} {A : Around} {E : Value → Shared → Prop} {s : Shared} {h₀ : Heap} {L : Addr} {m : Str → Option Value} {news : List (Addr × Obj)} {K : Type} [DecidableEq K] {knd : KeyKind prog w K} {d : Addr} {o : Obj} {kvs : List (K × Value)} {k : K} {key : Value}

theorem dictAt_N (N : News h₀ L s.heap news) (hm : (d, o) ∈ news) (hd : o.IsDictOf knd kvs) : s.heap.DictOf knd d kvs := Heap.dictOf_iff.mpr ⟨o, (N _ hm).1, hd⟩

theorem in_D {Q : Value → Shared → Prop} (hkey : knd.is k key = true) (N : News h₀ L s.heap news) (hm : (d, o) ∈ news) (hd : o.IsDictOf knd kvs) (lo : (d == sysModules) = false)
    (h : Q (.bool (valueAt kvs k).isSome) { s with toks := s.toks + 1 }) : wpAny (model prog w) A (compareOp .In key (.ref d)) Q E s :=
  wpAny_in_of hkey lo (dictAt_N N hm hd).mapOf h

theorem getItem_D {v : Value} {Q : Value → Shared → Prop} (hkey : knd.is k key = true) (N : News h₀ L s.heap news) (hm : (d, o) ∈ news) (hd : o.IsDictOf knd kvs) (hv : valueAt kvs k = some v)
    (h : Q v { s with toks := s.toks + 1 }) : wpAny (model prog w) A (getItem (.ref d) key) Q E s :=
  wpAny_getItem_of hkey (dictAt_N N hm hd).mapOf hv h

theorem item_D {v : Value} {value slice : Expr} {Q : Value → Shared → Prop} (hkey : knd.is k key = true) (N : News h₀ L s.heap news) (hm : (d, o) ∈ news) (hd : o.IsDictOf knd kvs) (hv : valueAt kvs k = some v)
    (h : Q v { s with toks := s.toks + 1 }) (hs : subscripted slice false (.ref d) key = operate [.ref d, key] (getItem (.ref d) key) := by with_unfolding_all rfl) :
    wpAny (model prog w) A (subscriptTail value slice (.ref d) key) Q E s :=
  tail_any (dictAt_N N hm hd).typeIs slot_dict_getitem.lookup (getItem_D hkey N hm hd hv h) hs

theorem setItem_D {v : Value} {g : Obj → List (Addr × Obj)} {Q : Unit → Shared → Prop} (hkey : knd.is k key = true) (F : Fr h₀ L s.heap m) (N : News h₀ L s.heap news) (U : UpdF d o news g) (hd : o.IsDictOf knd kvs)
    (hsz : kvs.length ≤ 1000)
    (h : ∀ h' o', Fr h₀ L h' m → News h₀ L h' (g o') → o'.IsDictOf knd (stored kvs k v) → Q () { s with heap := h', toks := s.toks + 1 }) : wpAny (model prog w) A (setItem (.ref d) key v) Q E s := by
  have hm : (d, o) ∈ news := by
    obtain ⟨own, rest, rfl, _, _, _⟩ := U.split
    exact List.mem_append_right _ (.head _)
  refine wpAny_setItem_pairs (hsz := by rw [sizeLine_eq]; omega) hkey (dictAt_N N hm hd) fun h' hd' hs => ?_
  obtain ⟨o', ho', hd''⟩ := Heap.dictOf_iff.mp hd'
  obtain ⟨F', N'⟩ := updF_run F N U hs ho'
  exact h h' o' F' N' hd''

theorem list_D {Q : Value → Shared → Prop} (hh : A.handled = none) (F : Fr h₀ L s.heap m) (N : News h₀ L s.heap news) (hm : (d, o) ∈ news) (hd : o.IsDictOf knd kvs) (lo : (d == sysModules) = false) (hsz : kvs.length ≤ 1000)
    (h : ∀ (B : Addr) (c : Nat) (h' : Heap) (tk : Nat) (vs : List Value), Fr h₀ L h' m → News h₀ L h' ((B, listOf vs.toArray c) :: news) → (∀ q ∈ news, q.1 < B) → vs.length = kvs.length → (∀ (j : Nat) (u : Value), vs[j]? = some u → ∃ (k : K) (x : Value), kvs[j]? = some (k, x) ∧ knd.is k u = true) → Q (.ref B) { s with heap := h', toks := tk }) :
    wpAny (model prog w) A (call (.type "list") [.ref d]) Q E s := by
  obtain ⟨ep, hat⟩ := (dictAt_N N hm hd).dictAt
  exact kdl_N (kdl_dict (knd := knd) (kvs := kvs) (ep := ep) lo) hh F N hat (kdl_size (by omega)) fun B c h' tk vs F' N' l1 hl hv => h B c h' tk vs F' N' l1 hl hv
end

section
variable {prog : Program} {w : World}
theorem isI (k : Int) (t : Tok) : (PySem.intKind prog w).is k (.int k t) = true := by simp [PySem.intKind, Value.isInt]
theorem isS (x : Str) (t : Tok) : (PySem.strKind prog w).is x (.str x t) = true := strKind_is prog w x t
theorem isI_inv {k : Int} {v : Value} (h : (PySem.intKind prog w).is k v = true) : ∃ t, v = .int k t := Value.isInt_shape h
theorem isS_inv {x : Str} {v : Value} (h : (PySem.strKind prog w).is x v = true) : ∃ t, v = .str x t := Value.isStrOf_shape h
end
end Mine
end

section
open PySem PySem.W PySem.Calls PyProof.Rows
set_option maxRecDepth 100000
namespace Mine
section
variable {prog : Program} {w : World} {A : Around} {E : Value → Shared → Prop} {s : Shared} {env : Env} {h₀ : Heap} {m : Str → Option Value} {news : List (Addr × Obj)}

theorem all_lt_of {d : Nat} {l : List (Addr × Obj)} (h : AllLt d l) : ∀ p ∈ l, p.1 < d := by
  induction l with
  | nil => intro p hp; cases hp
  | cons q r ih =>
    obtain ⟨h1, h2⟩ := h
    intro p hp
    rcases List.mem_cons.mp hp with rfl | hp
    · exact h1
    · exact ih h2 p hp
theorem all_of_lt {d : Nat} {l : List (Addr × Obj)} (h : AllLt d l) : ∀ p ∈ l, p.1 ≠ d := fun p hp => Nat.ne_of_lt (all_lt_of h p hp)

theorem all_ge {d e : Nat} {l : List (Addr × Obj)} (h : AllLt d l) (hd : d ≤ e) : ∀ p ∈ l, p.1 ≠ e := fun p hp => Nat.ne_of_lt (Nat.lt_of_lt_of_le (all_lt_of h p hp) hd)
/-- names that a loop stores -/
noncomputable def Stored (st : List Str) (m₀ m : Str → Option Value) : Prop := ∀ y, st.contains y = false → m y = m₀ y
theorem Stored.refl {st : List Str} {m : Str → Option Value} : Stored st m m := fun _ _ => rfl
theorem Stored.set {st : List Str} {m₀ m : Str → Option Value} {x : Str} {v : Option Value} (h : Stored st m₀ m) (hx : st.contains x = true) : Stored st m₀ (fun y => if y = x then v else m y) := fun y hy => by
  have : y ≠ x := fun e => by rw [e, hx] at hy; cases hy
  simp only [if_neg this]; exact h y hy
theorem Stored.eq {st : List Str} {m₀ m : Str → Option Value} (h : Stored st m₀ m) : m = fun y => if st.contains y = true then m y else m₀ y := funext fun y => by
  cases e : st.contains y with
  | true => simp
  | false => simp only [Bool.false_eq_true, if_false]; exact h y e

theorem range_size (n : Nat) : Builtin.Range.rangeSize 0 (n : Int) 1 = (n : Int) := by
  unfold Builtin.Range.rangeSize
  by_cases h : n = 0
  · subst h; simp
  · have : (0 : Int) < n := by omega
    simp
    omega
theorem range_small {n : Nat} (hn : n ≤ 1000) : Builtin.Range.small 0 (n : Int) 1 = true := by
  exact small_one (by omega) (by omega) (by omega) (by omega)

theorem range_for {r : Addr} {n : Nat} {b : Int} {t u v : Tok} {target : Expr} {body : List Stmt} {Q : Flow → Shared → Prop} (hh : A.handled = none) (hr : IsRange s.heap r 0 b 1 t u v) (hb : b = (n : Int)) (hn : n ≤ 1000)
    (F : Fr h₀ env.locals s.heap m) (N : News h₀ env.locals s.heap news) (Rel : Nat → (Str → Option Value) → List (Addr × Obj) → Prop) (h0 : Rel 0 m news)
    (turn : ∀ i t m₁ led s₁ I oI, i < n → (∀ p ∈ news, p.1 < I) → Rel i m₁ led → Sm s s₁ → Fr h₀ env.locals s₁.heap m₁ → News h₀ env.locals s₁.heap ((I, oI) :: led) → (∀ p ∈ led, p.1 ≠ I) →
      wpAny (model prog w) A (assign target env (.int i t)) (fun _ s₂ => wpAny (model prog w) A (execs body env) (fun f s₃ => match f with
        | .next => KEnd h₀ env.locals I oI s (Rel (i + 1)) s₃ | .cont => KEnd h₀ env.locals I oI s (Rel (i + 1)) s₃ | .brk => Q .next s₃ | .ret v => Q (.ret v) s₃) NoE s₂) NoE s₁)
    (done : ∀ m₁ led s₁, Rel n m₁ led → Sm s s₁ → Fr h₀ env.locals s₁.heap m₁ → News h₀ env.locals s₁.heap led → Q .next s₁) :
    wpAny (model prog w) A (pyIter (.ref r)) (ForAt prog w A env target body Q) E s := by
  subst hb
  have hs : Builtin.Range.rangeSize 0 (n : Int) 1 = (n : Int) := by
    exact range_size n
  refine wpAny_pyIter_range hr (range_small hn) ?_
  have W := Walks.range (prog := prog) (w := w) hh s.heap.objs.size 0 1 n
  have hlt : ∀ p ∈ news, p.1 < s.heap.objs.size := fun p hp => Heap.lt_size (N p hp).1
  refine iter_K (src := []) W Rel (fun b hb => .inl (List.mem_singleton.mp hb)) (fun _ _ _ _ _ h => (nomatch h)) (fun i h st => ⟨_, st⟩) (by show IsRangeIter _ _ _ _ _; rw [hs]; simpa using Heap.get?_push_size _ rfl) (F.push _) (N.push F _) (fun p hp => Nat.ne_of_lt (hlt p hp)) h0 ?_ fun m₁ led s₁ R sm F₁ N₁ => done m₁ led s₁ R sm F₁ N₁
  intro i v m₁ led s₁ oI hi hP R sm F₁ N₁ h1
  obtain ⟨t, rfl⟩ := hP
  have e : (0 : Int) + (i : Int) * 1 = (i : Int) := by omega
  rw [e]
  exact turn i t m₁ led s₁ _ oI hi hlt R sm F₁ N₁ h1
end
end Mine
end

section
open PySem PySem.W PySem.Calls PyProof.Rows
set_option maxRecDepth 100000
namespace Mine
section
variable {prog : Program} {w : World} {A : Around} {E : Value → Shared → Prop} {s : Shared} {env : Env} {h₀ : Heap} {m : Str → Option Value} {news : List (Addr × Obj)}

theorem CEnd.same {h₀ : Heap} {L I C D : Addr} {oI oC oD : Obj} {s s₃ : Shared} {m : Str → Option Value} {led l : List (Addr × Obj)} {R : List (Addr × Obj) → Prop} (sm : Sm s s₃) (F : Fr h₀ L s₃.heap m) (N : News h₀ L s₃.heap l)
    (h : ∀ p ∈ led, p.1 ≠ I ∧ p.1 ≠ C ∧ p.1 ≠ D) (hs : ∀ p ∈ ((I, oI) :: (C, oC) :: (D, oD) :: led), p ∈ l) (r : R led) : CEnd h₀ L m I C D oI oC oD s R s₃ := ⟨led, sm, F, news_sub N hs, h, r⟩

noncomputable abbrev CTests (M : Model) (A : Around) (cenv : Env) (ifs : List Expr) (Q : Bool → Shared → Prop) (s : Shared) : Prop :=
  wpAny M A (forIn ifs true fun c r => if r = true then do let ok ← isTrue c cenv (eval c cenv); pure (ForInStep.yield ok) else pure (ForInStep.yield r)) Q NoE s

theorem tests_nil {M : Model} {cenv : Env} {Q : Bool → Shared → Prop} (h : Q true s) : CTests M A cenv [] Q s := by
  show wpAny M A (forIn ([] : List Expr) true _) Q NoE s
  rw [List.forIn_nil]; exact wpAny_pure h
theorem tests_one {M : Model} {cenv : Env} {c : Expr} {Q : Bool → Shared → Prop} (h : wpAny M A (isTrue c cenv (eval c cenv)) Q NoE s) : CTests M A cenv [c] Q s := by
  show wpAny M A (forIn [c] true _) Q NoE s
  rw [List.forIn_cons]
  simp only [if_true, List.forIn_nil]
  exact wpAny_bind (wpAny_bind (wpAny_mono h (fun ok s' hq => wpAny_pure (wpAny_pure hq)) fun _ _ e => e))

theorem list_compG {l : Addr} {vs : List Value} {k : Nat} {scope : Scope} {cl : List (Str × Addr)} {x : Str} {ifs : List Expr} {elt : Expr} {U : Addr → Addr → Shared → Prop} (hh : A.handled = none)
    (F : Fr h₀ env.locals s.heap m) (N : News h₀ env.locals s.heap news) (hm : (l, listOf vs.toArray k) ∈ news) (Rel : Nat → List Value → List (Addr × Obj) → Prop) (hsrc : ∀ i ys led, Rel i ys led → (l, listOf vs.toArray k) ∈ led) (h0 : Rel 0 [] news)
    (hx : scope.names.lookup x = some .local) (hkind : scope.kind = .function) (hn : vs.length ≤ 1000)
    (turn : ∀ I D C i v ys led s₁ oI oC oD mc, (∀ p ∈ news, p.1 < I) → I < D → D < C → vs[i]? = some v → Rel i ys led → ys.length ≤ i → Sm s s₁ → Fr h₀ env.locals s₁.heap m → News h₀ env.locals s₁.heap ((I, oI) :: (C, oC) :: (D, oD) :: led) →
      (∀ p ∈ led, p.1 ≠ I ∧ p.1 ≠ C ∧ p.1 ≠ D) → NsObj oC mc → mc x = some v →
      CTests (model prog w) A (compEnvC scope cl C env) ifs
        (fun ok s₃ => if ok = true then wpAny (model prog w) A (eval elt (compEnvC scope cl C env)) (fun y s₄ => CEnd h₀ env.locals m I C D oI oC oD s (Rel (i + 1) (ys ++ [y])) s₄) NoE s₃ else CEnd h₀ env.locals m I C D oI oC oD s (Rel (i + 1) ys) s₃) s₁)
    (fin : ∀ D C ys led s₁ c oC mc, (∀ p ∈ news, p.1 < D) → D < C → Rel vs.length ys led → Sm s s₁ → Fr h₀ env.locals s₁.heap m → News h₀ env.locals s₁.heap ((C, oC) :: (D, listOf ys.toArray c) :: led) → (∀ p ∈ led, p.1 ≠ C ∧ p.1 ≠ D) → NsObj oC mc → U C D s₁) :
    wpAny (model prog w) A (pyIter (.ref l)) (CompAt prog w A env scope cl x ifs elt U) E s := by
  have hl := News.isList N hm
  refine wpAny_pyIter_list hl ?_
  have hlt : ∀ p ∈ news, p.1 < s.heap.objs.size := fun p hp => Heap.lt_size (N p hp).1
  have hne : l ≠ s.heap.objs.size := Nat.ne_of_lt (hlt _ hm)
  have W := Walks.list (prog := prog) (w := w) hh s.heap.objs.size l hne vs.toArray
  have hsz : vs.toArray.size = vs.length := by simp
  rw [hsz] at W
  refine comp_KG (src := [(l, listOf vs.toArray k)]) W Rel ?_ (fun i ys led R p hp => (List.mem_singleton.mp hp) ▸ hsrc i ys led R) (fun i h st => let ⟨o, ho, _⟩ := st.1; ⟨o, ho⟩) ⟨⟨_, Heap.get?_push_size _ rfl, rfl, rfl⟩, hl.at fun o e => Heap.get?_push_of_some _ e⟩ (F.push _) (N.push F _)
    (fun p hp => Nat.ne_of_lt (hlt p hp)) h0 hx hkind (by rw [sizeLine_eq]; omega) ?_ fin
  · intro b hb
    rcases List.mem_cons.mp hb with rfl | hb
    · exact .inl rfl
    · obtain rfl := List.mem_singleton.mp hb
      exact .inr (.inl ⟨_, List.mem_singleton.mpr rfl⟩)
  · intro D C i v ys led s₁ oI oC oD mc hD hDC hi hP R hys sm F₁ N₁ h1 hC hv
    exact turn _ D C i v ys led s₁ oI oC oD mc hlt (hD _ (List.mem_cons_self ..)) hDC (by simpa using hP) R hys sm F₁ N₁ h1 hC hv

theorem list_comp {l : Addr} {vs : List Value} {k : Nat} {scope : Scope} {cl : List (Str × Addr)} {x : Str} {ifs : List Expr} {elt : Expr} {Q : Value → Shared → Prop} (hh : A.handled = none)
    (F : Fr h₀ env.locals s.heap m) (N : News h₀ env.locals s.heap news) (hm : (l, listOf vs.toArray k) ∈ news) (Rel : Nat → List Value → List (Addr × Obj) → Prop) (hsrc : ∀ i ys led, Rel i ys led → (l, listOf vs.toArray k) ∈ led) (h0 : Rel 0 [] news)
    (hx : scope.names.lookup x = some .local) (hkind : scope.kind = .function) (hn : vs.length ≤ 1000)
    (turn : ∀ I D C i v ys led s₁ oI oC oD mc, (∀ p ∈ news, p.1 < I) → I < D → D < C → vs[i]? = some v → Rel i ys led → ys.length ≤ i → Sm s s₁ → Fr h₀ env.locals s₁.heap m → News h₀ env.locals s₁.heap ((I, oI) :: (C, oC) :: (D, oD) :: led) →
      (∀ p ∈ led, p.1 ≠ I ∧ p.1 ≠ C ∧ p.1 ≠ D) → NsObj oC mc → mc x = some v →
      CTests (model prog w) A (compEnvC scope cl C env) ifs
        (fun ok s₃ => if ok = true then wpAny (model prog w) A (eval elt (compEnvC scope cl C env)) (fun y s₄ => CEnd h₀ env.locals m I C D oI oC oD s (Rel (i + 1) (ys ++ [y])) s₄) NoE s₃ else CEnd h₀ env.locals m I C D oI oC oD s (Rel (i + 1) ys) s₃) s₁)
    (done : ∀ D ys led s₁ c, (∀ p ∈ news, p.1 < D) → Rel vs.length ys led → Sm s s₁ → Fr h₀ env.locals s₁.heap m → News h₀ env.locals s₁.heap ((D, listOf ys.toArray c) :: led) → (∀ p ∈ led, p.1 ≠ D) → Q (.ref D) s₁) :
    wpAny (model prog w) A (pyIter (.ref l)) (CompAt prog w A env scope cl x ifs elt (UEnd Q)) E s :=
  list_compG hh F N hm Rel hsrc h0 hx hkind hn turn (fin_done done)

theorem range_compG {r : Addr} {n : Nat} {b : Int} {t u v : Tok} {scope : Scope} {cl : List (Str × Addr)} {x : Str} {ifs : List Expr} {elt : Expr} {U : Addr → Addr → Shared → Prop} (hh : A.handled = none) (hr : IsRange s.heap r 0 b 1 t u v) (hb : b = (n : Int)) (hn : n ≤ 1000)
    (F : Fr h₀ env.locals s.heap m) (N : News h₀ env.locals s.heap news) (Rel : Nat → List Value → List (Addr × Obj) → Prop) (h0 : Rel 0 [] news)
    (hx : scope.names.lookup x = some .local) (hkind : scope.kind = .function)
    (turn : ∀ I D C i t ys led s₁ oI oC oD mc, (∀ p ∈ news, p.1 < I) → I < D → D < C → i < n → Rel i ys led → ys.length ≤ i → Sm s s₁ → Fr h₀ env.locals s₁.heap m → News h₀ env.locals s₁.heap ((I, oI) :: (C, oC) :: (D, oD) :: led) →
      (∀ p ∈ led, p.1 ≠ I ∧ p.1 ≠ C ∧ p.1 ≠ D) → NsObj oC mc → mc x = some (.int (i : Int) t) →
      CTests (model prog w) A (compEnvC scope cl C env) ifs
        (fun ok s₃ => if ok = true then wpAny (model prog w) A (eval elt (compEnvC scope cl C env)) (fun y s₄ => CEnd h₀ env.locals m I C D oI oC oD s (Rel (i + 1) (ys ++ [y])) s₄) NoE s₃ else CEnd h₀ env.locals m I C D oI oC oD s (Rel (i + 1) ys) s₃) s₁)
    (fin : ∀ D C ys led s₁ c oC mc, (∀ p ∈ news, p.1 < D) → D < C → Rel n ys led → Sm s s₁ → Fr h₀ env.locals s₁.heap m → News h₀ env.locals s₁.heap ((C, oC) :: (D, listOf ys.toArray c) :: led) → (∀ p ∈ led, p.1 ≠ C ∧ p.1 ≠ D) → NsObj oC mc → U C D s₁) :
    wpAny (model prog w) A (pyIter (.ref r)) (CompAt prog w A env scope cl x ifs elt U) E s := by
  subst hb
  have hs : Builtin.Range.rangeSize 0 (n : Int) 1 = (n : Int) := range_size n
  refine wpAny_pyIter_range hr (range_small hn) ?_
  have W := Walks.range (prog := prog) (w := w) hh s.heap.objs.size 0 1 n
  have hlt : ∀ p ∈ news, p.1 < s.heap.objs.size := fun p hp => Heap.lt_size (N p hp).1
  refine comp_KG (src := []) W Rel (fun b hb => .inl (List.mem_singleton.mp hb)) (fun _ _ _ _ _ h => (nomatch h)) (fun i h st => ⟨_, st⟩) (by show IsRangeIter _ _ _ _ _; rw [hs]; simpa using Heap.get?_push_size _ rfl) (F.push _) (N.push F _)
    (fun p hp => Nat.ne_of_lt (hlt p hp)) h0 hx hkind (by rw [sizeLine_eq]; omega) ?_ fin
  intro D C i v ys led s₁ oI oC oD mc hD hDC hi hP R hys sm F₁ N₁ h1 hC hv
  obtain ⟨t, rfl⟩ := hP
  have e : (0 : Int) + (i : Int) * 1 = (i : Int) := by omega
  rw [e] at hv
  exact turn _ D C i t ys led s₁ oI oC oD mc hlt (hD _ (List.mem_cons_self ..)) hDC hi R hys sm F₁ N₁ h1 hC hv

theorem range_comp {r : Addr} {n : Nat} {b : Int} {t u v : Tok} {scope : Scope} {cl : List (Str × Addr)} {x : Str} {ifs : List Expr} {elt : Expr} {Q : Value → Shared → Prop} (hh : A.handled = none) (hr : IsRange s.heap r 0 b 1 t u v) (hb : b = (n : Int)) (hn : n ≤ 1000)
    (F : Fr h₀ env.locals s.heap m) (N : News h₀ env.locals s.heap news) (Rel : Nat → List Value → List (Addr × Obj) → Prop) (h0 : Rel 0 [] news)
    (hx : scope.names.lookup x = some .local) (hkind : scope.kind = .function)
    (turn : ∀ I D C i t ys led s₁ oI oC oD mc, (∀ p ∈ news, p.1 < I) → I < D → D < C → i < n → Rel i ys led → ys.length ≤ i → Sm s s₁ → Fr h₀ env.locals s₁.heap m → News h₀ env.locals s₁.heap ((I, oI) :: (C, oC) :: (D, oD) :: led) →
      (∀ p ∈ led, p.1 ≠ I ∧ p.1 ≠ C ∧ p.1 ≠ D) → NsObj oC mc → mc x = some (.int (i : Int) t) →
      CTests (model prog w) A (compEnvC scope cl C env) ifs
        (fun ok s₃ => if ok = true then wpAny (model prog w) A (eval elt (compEnvC scope cl C env)) (fun y s₄ => CEnd h₀ env.locals m I C D oI oC oD s (Rel (i + 1) (ys ++ [y])) s₄) NoE s₃ else CEnd h₀ env.locals m I C D oI oC oD s (Rel (i + 1) ys) s₃) s₁)
    (done : ∀ D ys led s₁ c, (∀ p ∈ news, p.1 < D) → Rel n ys led → Sm s s₁ → Fr h₀ env.locals s₁.heap m → News h₀ env.locals s₁.heap ((D, listOf ys.toArray c) :: led) → (∀ p ∈ led, p.1 ≠ D) → Q (.ref D) s₁) :
    wpAny (model prog w) A (pyIter (.ref r)) (CompAt prog w A env scope cl x ifs elt (UEnd Q)) E s :=
  range_compG hh hr hb hn F N Rel h0 hx hkind turn (fin_done done)

end
-- names within a comprehension
noncomputable def kindC (scope es : Scope) (x : Str) : Option NameKind :=
  (scope.names.map fun (n, k) => if (k == .free && es.kind == .function && es.names.lookup n == some .cell) then (n, .cell) else (n, k)).lookup x
theorem kindC_eq {scope es : Scope} {cl : List (Str × Addr)} {C L a : Addr} {cd : Value} {q x : Str} : (compEnvC scope cl C (envOfC q es L a cd)).kindOf x = kindC scope es x := rfl
section
variable {prog : Program} {w : World} {A : Around} {E : Value → Shared → Prop} {s : Shared} {news : List (Addr × Obj)} {h₀ : Heap} {L C c L' a : Addr} {o oC : Obj} {mc : Str → Option Value} {scope es : Scope} {q : Str} {cd : Value} {cl : List (Str × Addr)} {x : Str} {pos : Pos} {v : Value} {Q : Value → Shared → Prop} {M : Model}
theorem ce_L (N : News h₀ L s.heap news) (hC : NsObj oC mc) (hm : (C, oC) ∈ news) (hv : mc x = some v) (h : Q v s)
    (hx : (scope.kind == .function && kindC scope es x == some .local && !(x == ("__debug__" : Str))) = true) :
    wpAny M A (eval (.Name x pos) (compEnvC scope cl C (envOfC q es L' a cd))) Q E s := by
  simp only [Bool.and_eq_true, beq_iff_eq, Bool.not_eq_true'] at hx
  exact wpAny_Name (wpAny_loadName_local (env := compEnvC scope cl C (envOfC q es L' a cd)) hx.1.1 (kindC_eq.trans hx.1.2) (hC.ns (N _ hm).1) hv h) hx.2
theorem ce_C (N : News h₀ L s.heap news) (hx : (scope.kind == .function && kindC scope es x == some .cell && !(x == ("__debug__" : Str))) = true) (hc : cl.lookup x = some c) (hm : (c, o) ∈ news) (hd' : o.data = .cell (some v)) (h : Q v s) :
    wpAny M A (eval (.Name x pos) (compEnvC scope cl C (envOfC q es L' a cd))) Q E s := by
  simp only [Bool.and_eq_true, beq_iff_eq, Bool.not_eq_true'] at hx
  exact wpAny_Name (wpAny_loadName_cell (env := compEnvC scope cl C (envOfC q es L' a cd)) hx.1.1 (kindC_eq.trans hx.1.2) hc ⟨o, (N _ hm).1, hd'⟩ h) hx.2
end
end Mine
end

section
open PySem PySem.W PySem.Calls PyProof.Rows
set_option maxRecDepth 100000
namespace Mine
theorem pick_from (vs : List Value) {x : Int} (h : 0 ≤ x) : slicePick vs.toArray (some x) none none = (vs.drop x.toNat).toArray := by
  have e : sliceBounds (some x) none none vs.toArray.size = (((min x.toNat vs.toArray.size : Nat) : Int), ((vs.toArray.size : Nat) : Int), 1) := by
    simp only [sliceBounds, Option.getD_none, show (1 : Int) > 0 by decide, if_true, if_neg (show ¬ (x < 0) by omega)]
    congr 1
    omega
  rw [kmk_pick_nat _ e]
  congr 1
  show (vs.drop (min x.toNat vs.toArray.size)).take (vs.toArray.size - min x.toNat vs.toArray.size) = _
  rw [List.size_toArray, kmk_drop_min, List.take_of_length_le (by rw [List.length_drop]; omega)]
theorem pick_upto (vs : List Value) {y : Int} (h : 0 ≤ y) : slicePick vs.toArray none (some y) none = (vs.take y.toNat).toArray := by
  have e : sliceBounds none (some y) none vs.toArray.size = (((0 : Nat) : Int), ((min y.toNat vs.toArray.size : Nat) : Int), 1) := by
    simp only [sliceBounds, Option.getD_none, show (1 : Int) > 0 by decide, if_true, if_neg (show ¬ (y < 0) by omega)]
    congr 1
    congr 1
    omega
  rw [kmk_pick_nat _ e]
  congr 1
  show (vs.drop 0).take (min y.toNat vs.toArray.size - 0) = _
  rw [List.drop_zero, Nat.sub_zero, List.size_toArray, kmk_take_min]
theorem pick_neg (vs : List Value) {x : Int} (h : x < 0) : slicePick vs.toArray (some x) none none = (vs.drop (vs.length - (-x).toNat)).toArray := by
  have e : sliceBounds (some x) none none vs.toArray.size = (((vs.length - (-x).toNat : Nat) : Int), ((vs.toArray.size : Nat) : Int), 1) := by
    simp only [sliceBounds, Option.getD_none, show (1 : Int) > 0 by decide, if_true, if_pos h, List.size_toArray]
    congr 1
    omega
  rw [kmk_pick_nat _ e]
  congr 1
  show (vs.drop _).take _ = _
  rw [List.size_toArray, List.take_of_length_le (by rw [List.length_drop]; omega)]

section
variable {prog : Program} {w : World} {A : Around} {E : Value → Shared → Prop} {s : Shared} {h₀ : Heap} {L l : Addr} {m : Str → Option Value} {news : List (Addr × Obj)} {value slice : PySem.Expr} {vs zs : List Value} {k : Nat} {vl vu : Value} {lo hi : Option Int} {Q : Value → Shared → Prop}
theorem slice_K (F : Fr h₀ L s.heap m) (N : News h₀ L s.heap news) (hm : (l, listOf vs.toArray k) ∈ news) (pl : IsPart vl lo) (pu : IsPart vu hi) (e : slicePick vs.toArray lo hi none = zs.toArray)
    (h : ∀ D h', Fr h₀ L h' m → News h₀ L h' ((D, listOf zs.toArray 0) :: news) → (∀ p ∈ news, p.1 < D) → Q (.ref D) { s with heap := h' })
    (hs : subscripted slice false (.ref l) (.ref s.heap.objs.size) = operate [.ref s.heap.objs.size, .ref l] (getItem (.ref l) (.ref s.heap.objs.size))) (ht : ∀ r, letTemporaryGo value (.ref l) r = pure ()) (hz : vs.length ≤ 1000) :
    wpAny (model prog w) A (subscriptTail value slice (.ref l) (.ref s.heap.objs.size)) Q E { s with heap := s.heap.push { cls := .type "slice", data := .fields #[vl, vu, .none] } } :=
  kmk_slice F N (News.isList N hm) pl pu (fun D h' F' N' l1 => h D h' F' (by rw [e] at N'; exact N') l1) hs ht (by rw [List.size_toArray, sizeLine_eq]; omega)
end
theorem ints_drop {vs : List Value} {ns : List Int} (h : IntsAre vs ns) (k : Nat) : IntsAre (vs.drop k) (ns.drop k) := h.drop k
end Mine
end

section
open PySem PySem.W PySem.Calls PyProof.Rows
namespace Mine
/-- a dict's values are these ints -/
noncomputable def IntVals (kvs : List (Int × Value)) (ups : List (Int × Int)) : Prop := Paired (fun a b => a.1 = b.1 ∧ ∃ t, a.2 = Value.int b.2 t) kvs ups
theorem IntVals.keys {kvs : List (Int × Value)} {ups : List (Int × Int)} (h : IntVals kvs ups) : kvs.map (·.1) = ups.map (·.1) := by
  unfold IntVals at h
  induction h with
  | nil => rfl
  | cons h _ ih => simp [h.1, ih]
theorem IntVals.length {kvs : List (Int × Value)} {ups : List (Int × Int)} (h : IntVals kvs ups) : kvs.length = ups.length := by
  have := congrArg List.length h.keys; simpa using this
theorem stored_new {K : Type} [DecidableEq K] {kvs : List (K × Value)} {k : K} {v : Value} (h : k ∉ kvs.map (·.1)) : stored kvs k v = kvs ++ [(k, v)] := by
  unfold stored
  rw [if_neg]
  simp only [List.any_eq_true, decide_eq_true_eq, not_exists, not_and]
  intro p hp e
  exact h (List.mem_map.mpr ⟨p, hp, e⟩)
theorem IntVals.snoc {kvs : List (Int × Value)} {ups : List (Int × Int)} {k v : Int} {t : Tok} (h : IntVals kvs ups) (hk : k ∉ ups.map (·.1)) : IntVals (stored kvs k (.int v t)) (ups ++ [(k, v)]) := by
  rw [stored_new (by rw [h.keys]; exact hk)]
  exact Paired.snoc h ⟨rfl, t, rfl⟩
theorem IntVals.at {kvs : List (Int × Value)} {ups : List (Int × Int)} {k : Int} (h : IntVals kvs ups) : (∀ v, (ups.find? fun p => p.1 = k).map (·.2) = some v → ∃ t, valueAt kvs k = some (.int v t)) ∧ ((valueAt kvs k).isSome = decide (k ∈ ups.map (·.1))) := by
  unfold IntVals at h
  unfold valueAt
  induction h with
  | nil => exact ⟨fun v h => by simp at h, by simp⟩
  | @cons a b l₁ l₂ h r ih =>
    obtain ⟨h1, t, h2⟩ := h
    rw [List.find?_cons, List.find?_cons, h1]
    by_cases e : b.1 = k
    · simp only [e, decide_true]
      exact ⟨fun v hv => by simp at hv; subst hv; exact ⟨t, by simp [h2]⟩, by simp [e]⟩
    · have e' : ¬ k = b.1 := fun z => e z.symm
      simp only [e, decide_false, Bool.false_eq_true]
      refine ⟨ih.1, ?_⟩
      rw [ih.2]
      simp [e']

/-- _law_tree: what is left and the tree so far, after k turns -/
noncomputable def leafs (cs : List Int) (k : Nat) (left : List Int) : List Int := left.filter fun p => decide (p ∉ cs.drop k)
noncomputable def treeSt (cs os : List Int) : Nat → List Int × List (Int × Int)
  | 0 => (os, [])
  | k + 1 => ((treeSt cs os k).1.erase ((leafs cs k (treeSt cs os k).1).headD 0), (treeSt cs os k).2 ++ [((leafs cs k (treeSt cs os k).1).headD 0, cs.getD k 0)])
end Mine
end

section
open PySem PySem.W PyProof.Rows
namespace Mine
noncomputable def upOf (ups : List (Int × Int)) (x : Int) : Option Int := (ups.find? fun p => p.1 = x).map (·.2)
noncomputable def IsWay (ups : List (Int × Int)) : Int → List Int → Prop
  | _, [] => False
  | x, y :: r => x = y ∧ match r with
    | [] => upOf ups x = none
    | z :: _ => upOf ups x = some z ∧ IsWay ups z r
end Mine
end

section
open PySem PySem.W PySem.Calls PyProof.Rows PySem.SeqAt PySem.MeetsSeq
set_option maxRecDepth 100000
namespace Mine
section
variable {prog : Program} {w : World} {A : Around} {E : Value → Shared → Prop} {s : Shared} {h₀ : Heap} {L : Addr} {m : Str → Option Value} {news : List (Addr × Obj)}
/-- the last item of a list -/
theorem last_L {value slice : Expr} {l : Addr} {vs : List Value} {k : Nat} {u : Tok} {v : Value} {Q : Value → Shared → Prop} (N : News h₀ L s.heap news) (hm : (l, listOf vs.toArray k) ∈ news)
    (hx : vs.getLast? = some v) (h : Q v s)
    (hs : subscripted slice false (.ref l) (.int (-1) u) = operate [.ref l, .int (-1) u] (getItem (.ref l) (.int (-1) u)) := by with_unfolding_all rfl) :
    wpAny (model prog w) A (subscriptTail value slice (.ref l) (.int (-1) u)) Q E s := by
  have hL := News.isList N hm
  have hne : vs ≠ [] := fun e => by rw [e] at hx; simp at hx
  have hl := List.length_pos_iff.mpr hne
  refine tail_any hL.typeIs slot_list_getitem.lookup (wpAny_getItem_list_neg hL (by omega) ?_ (by omega) ?_ h) hs
  · rw [List.size_toArray]; omega
  · rw [List.size_toArray]
    have e : ((-1 : Int) + (vs.length : Int)).toNat = vs.length - 1 := by omega
    rw [e]
    rw [List.getLast?_eq_getElem?] at hx
    simpa using hx

theorem append_L {l : Addr} {vs : List Value} {k : Nat} {x : Value} {g : Obj → List (Addr × Obj)} {Q : Value → Shared → Prop} (F : Fr h₀ L s.heap m) (N : News h₀ L s.heap news) (U : UpdF l (listOf vs.toArray k) news g)
    (hsz : vs.length ≤ 1000) (h : ∀ h', Fr h₀ L h' m → News h₀ L h' (g (listOf (vs ++ [x]).toArray (k + 1))) → Q .none { s with heap := h' }) :
    wpAny (model prog w) A (call (.builtin "list.append") [.ref l, x]) Q E s := by
  have hm : (l, listOf vs.toArray k) ∈ news := by
    obtain ⟨own, rest, rfl, _, _, _⟩ := U.split
    exact List.mem_append_right _ (.head _)
  refine append_at (hsz := by rw [List.size_toArray, sizeLine_eq]; omega) (N _ hm).1 fun h' hs ho' => ?_
  have e : listOf (vs.toArray.push x) (k + 1) = listOf (vs ++ [x]).toArray (k + 1) := by simp
  replace ho' : h'.get? l = some (listOf (vs ++ [x]).toArray (k + 1)) := ho'.trans (congrArg some e)
  obtain ⟨F', N'⟩ := updF_run F N U hs ho'
  exact h h' F' N'

variable {d : Addr} {o : Obj} {kvs : List (Int × Value)} {ups : List (Int × Int)} {x z : Int} {u : Tok}
theorem upOf_none (hv : IntVals kvs ups) (h : upOf ups x = none) : (valueAt kvs x).isSome = false := by
  rw [hv.at.2]
  unfold upOf at h
  simp only [Option.map_eq_none_iff, List.find?_eq_none, decide_eq_true_eq] at h
  simp only [decide_eq_false_iff_not, List.mem_map, not_exists, not_and]
  exact fun p hp e => h p hp e
theorem upOf_some (hv : IntVals kvs ups) (h : upOf ups x = some z) : ∃ t, valueAt kvs x = some (.int z t) := hv.at.1 z h
theorem in_DI0 {Q : Value → Shared → Prop} (N : News h₀ L s.heap news) (hd : o.IsDictOf (PySem.intKind prog w) kvs) (hm : (d, o) ∈ news) (hv : IntVals kvs ups) (lo : (d == sysModules) = false) (hz : upOf ups x = none)
    (h : Q (.bool false) { s with toks := s.toks + 1 }) : wpAny (model prog w) A (compareOp .In (.int x u) (.ref d)) Q E s :=
  in_D (isI x u) N hm hd lo (by rw [upOf_none hv hz]; exact h)
theorem in_DI1 {Q : Value → Shared → Prop} (N : News h₀ L s.heap news) (hd : o.IsDictOf (PySem.intKind prog w) kvs) (hm : (d, o) ∈ news) (hv : IntVals kvs ups) (lo : (d == sysModules) = false) (hz : upOf ups x = some z)
    (h : Q (.bool true) { s with toks := s.toks + 1 }) : wpAny (model prog w) A (compareOp .In (.int x u) (.ref d)) Q E s := by
  obtain ⟨t, e⟩ := upOf_some hv hz
  exact in_D (isI x u) N hm hd lo (by rw [e]; exact h)
theorem item_DI {value slice : Expr} {Q : Value → Shared → Prop} (N : News h₀ L s.heap news) (hd : o.IsDictOf (PySem.intKind prog w) kvs) (hm : (d, o) ∈ news) (hv : IntVals kvs ups) (hz : upOf ups x = some z)
    (h : ∀ t, Q (.int z t) { s with toks := s.toks + 1 }) (hs : subscripted slice false (.ref d) (.int x u) = operate [.ref d, .int x u] (getItem (.ref d) (.int x u)) := by with_unfolding_all rfl) :
    wpAny (model prog w) A (subscriptTail value slice (.ref d) (.int x u)) Q E s := by
  obtain ⟨t, e⟩ := upOf_some hv hz
  exact item_D (isI x u) N hm hd e (h t) hs
end
theorem ints_last {vs : List Value} {ns : List Int} {x : Int} (h : IntsAre vs (ns ++ [x])) : ∃ t, vs.getLast? = some (.int x t) := by
  have hl := h.length
  rw [List.length_append, List.length_singleton] at hl
  obtain ⟨t, ht⟩ := h.get ns.length x (by simp)
  exact ⟨t, by rw [List.getLast?_eq_getElem?]; rw [← ht]; congr 1; omega⟩
end Mine
end

section
open PySem PySem.W PySem.Calls PyProof.Rows PySem.SeqAt PySem.MeetsSeq
set_option maxRecDepth 100000
namespace Mine
section
variable {prog : Program} {w : World} {A : Around} {E : Value → Shared → Prop} {s : Shared} {h₀ : Heap} {L : Addr} {m : Str → Option Value} {news : List (Addr × Obj)}
theorem list_for {env : Env} {l : Addr} {vs : List Value} {k : Nat} {target : Expr} {body : List Stmt} {Q : Flow → Shared → Prop} (hh : A.handled = none)
    (F : Fr h₀ env.locals s.heap m) (N : News h₀ env.locals s.heap news) (hm : (l, listOf vs.toArray k) ∈ news) (Rel : Nat → (Str → Option Value) → List (Addr × Obj) → Prop) (hsrc : ∀ i m led, Rel i m led → (l, listOf vs.toArray k) ∈ led) (h0 : Rel 0 m news)
    (turn : ∀ i v m₁ led s₁ I oI, vs[i]? = some v → (∀ p ∈ news, p.1 < I) → Rel i m₁ led → Sm s s₁ → Fr h₀ env.locals s₁.heap m₁ → News h₀ env.locals s₁.heap ((I, oI) :: led) → (∀ p ∈ led, p.1 ≠ I) →
      wpAny (model prog w) A (assign target env v) (fun _ s₂ => wpAny (model prog w) A (execs body env) (fun f s₃ => match f with
        | .next => KEnd h₀ env.locals I oI s (Rel (i + 1)) s₃ | .cont => KEnd h₀ env.locals I oI s (Rel (i + 1)) s₃ | .brk => Q .next s₃ | .ret v => Q (.ret v) s₃) NoE s₂) NoE s₁)
    (done : ∀ m₁ led s₁, Rel vs.length m₁ led → Sm s s₁ → Fr h₀ env.locals s₁.heap m₁ → News h₀ env.locals s₁.heap led → Q .next s₁) :
    wpAny (model prog w) A (pyIter (.ref l)) (ForAt prog w A env target body Q) E s := by
  have hl := News.isList N hm
  refine wpAny_pyIter_list hl ?_
  have hlt : ∀ p ∈ news, p.1 < s.heap.objs.size := fun p hp => Heap.lt_size (N p hp).1
  have hne : l ≠ s.heap.objs.size := Nat.ne_of_lt (hlt _ hm)
  have W := Walks.list (prog := prog) (w := w) hh s.heap.objs.size l hne vs.toArray
  have hsz : vs.toArray.size = vs.length := by simp
  rw [hsz] at W
  refine iter_K (src := [(l, listOf vs.toArray k)]) W Rel ?_ (fun i m led R p hp => (List.mem_singleton.mp hp) ▸ hsrc i m led R) (fun i h st => let ⟨o, ho, _⟩ := st.1; ⟨o, ho⟩) ⟨⟨_, Heap.get?_push_size _ rfl, rfl, rfl⟩, hl.at fun o e => Heap.get?_push_of_some _ e⟩ (F.push _) (N.push F _)
    (fun p hp => Nat.ne_of_lt (hlt p hp)) h0 ?_ fun m₁ led s₁ R sm F₁ N₁ => done m₁ led s₁ R sm F₁ N₁
  · intro b hb
    rcases List.mem_cons.mp hb with rfl | hb
    · exact .inl rfl
    · obtain rfl := List.mem_singleton.mp hb
      exact .inr (.inl ⟨_, List.mem_singleton.mpr rfl⟩)
  · intro i v m₁ led s₁ oI hi hP R sm F₁ N₁ h1
    exact turn i v m₁ led s₁ _ oI (by simpa using hP) hlt R sm F₁ N₁ h1

variable {d : Addr} {o : Obj} {kvs : List (Int × Value)} {ups : List (Int × Int)}
theorem list_DI {Q : Value → Shared → Prop} (hh : A.handled = none) (F : Fr h₀ L s.heap m) (N : News h₀ L s.heap news) (hd : o.IsDictOf (PySem.intKind prog w) kvs) (hm : (d, o) ∈ news) (hv : IntVals kvs ups) (lo : (d == sysModules) = false) (hsz : ups.length ≤ 1000)
    (h : ∀ (B : Addr) (c : Nat) (h' : Heap) (tk : Nat) (vs : List Value), Fr h₀ L h' m → News h₀ L h' ((B, listOf vs.toArray c) :: news) → (∀ q ∈ news, q.1 < B) → IntsAre vs (ups.map (·.1)) → Q (.ref B) { s with heap := h', toks := tk }) :
    wpAny (model prog w) A (call (.type "list") [.ref d]) Q E s := by
  refine list_D hh F N hm hd lo (by rw [hv.length]; exact hsz) fun B c h' tk vs F' N' l1 hl hv' => h B c h' tk vs F' N' l1 ?_
  have e : ∀ (vs : List Value) (kvs : List (Int × Value)) (ups : List (Int × Int)), IntVals kvs ups → vs.length = kvs.length → (∀ (j : Nat) (u : Value), vs[j]? = some u → ∃ (k : Int) (x : Value), kvs[j]? = some (k, x) ∧ (PySem.intKind prog w).is k u = true) → IntsAre vs (ups.map (·.1)) := by
    intro vs kvs ups hv hl h
    induction hv generalizing vs with
    | nil => cases vs with | nil => exact .nil | cons _ _ => simp at hl
    | @cons a b l₁ l₂ hab _ ih =>
      cases vs with
      | nil => simp at hl
      | cons v vs =>
        obtain ⟨k, x, e1, e2⟩ := h 0 v rfl
        simp only [List.getElem?_cons_zero, Option.some.injEq] at e1
        obtain ⟨t, rfl⟩ := isI_inv e2
        subst e1
        rw [List.map_cons, ← hab.1]
        exact .cons k t (ih vs (by simpa using hl) fun j u hu => h (j + 1) u hu)
  exact e vs kvs ups hv hl hv'

/-- a dict from whole numbers to texts -/
noncomputable def StrVals (kvs : List (Int × Value)) (ps : List (Int × Str)) : Prop := Paired (fun a b => a.1 = b.1 ∧ ∃ t, a.2 = Value.str b.2 t) kvs ps
noncomputable def strOf (ps : List (Int × Str)) (x : Int) : Option Str := (ps.find? fun p => p.1 = x).map (·.2)
theorem StrVals.keys {kvs : List (Int × Value)} {ps : List (Int × Str)} (h : StrVals kvs ps) : kvs.map (·.1) = ps.map (·.1) := by
  unfold StrVals at h
  induction h with
  | nil => rfl
  | cons h _ ih => rw [List.map_cons, List.map_cons, ih, h.1]
theorem StrVals.length {kvs : List (Int × Value)} {ps : List (Int × Str)} (h : StrVals kvs ps) : kvs.length = ps.length := by
  have := congrArg List.length h.keys
  simpa using this
theorem StrVals.snoc {kvs : List (Int × Value)} {ps : List (Int × Str)} {k : Int} {v : Str} {t : Tok} (h : StrVals kvs ps) (hk : k ∉ ps.map (·.1)) : StrVals (stored kvs k (.str v t)) (ps ++ [(k, v)]) := by
  rw [stored_new (by rw [h.keys]; exact hk)]
  exact Paired.snoc h ⟨rfl, t, rfl⟩
theorem StrVals.at {kvs : List (Int × Value)} {ps : List (Int × Str)} {k : Int} {v : Str} (h : StrVals kvs ps) (hv : strOf ps k = some v) : ∃ t, valueAt kvs k = some (.str v t) := by
  unfold StrVals at h
  unfold strOf at hv
  unfold valueAt
  induction h with
  | nil => simp at hv
  | @cons a b l₁ l₂ h r ih =>
    obtain ⟨h1, t, h2⟩ := h
    rw [List.find?_cons] at hv ⊢
    rw [h1]
    by_cases e : b.1 = k
    · simp only [e, decide_true] at hv ⊢
      simp at hv; subst hv; exact ⟨t, by simp [h2]⟩
    · simp only [e, decide_false] at hv ⊢
      exact ih hv
theorem item_DS {ps : List (Int × Str)} {x : Int} {z : Str} {u : Tok} {value slice : Expr} {Q : Value → Shared → Prop} (N : News h₀ L s.heap news) (hd : o.IsDictOf (PySem.intKind prog w) kvs) (hm : (d, o) ∈ news) (hv : StrVals kvs ps) (hz : strOf ps x = some z)
    (h : ∀ t, Q (.str z t) { s with toks := s.toks + 1 }) (hs : subscripted slice false (.ref d) (.int x u) = operate [.ref d, .int x u] (getItem (.ref d) (.int x u)) := by with_unfolding_all rfl) :
    wpAny (model prog w) A (subscriptTail value slice (.ref d) (.int x u)) Q E s := by
  obtain ⟨t, e⟩ := hv.at hz
  exact item_D (isI x u) N hm hd e (h t) hs

theorem rev_L {l : Addr} {vs : List Value} {k : Nat} {ns : List Int} {value slice : Expr} {vk : Value} {ops : List Value} {Q : Value → Shared → Prop} (F : Fr h₀ L s.heap m) (N : News h₀ L s.heap news) (hm : (l, listOf vs.toArray k) ∈ news) (pk : IsPart vk (some (-1))) (hi : IntsAre vs ns) (hz : vs.length ≤ 1000)
    (h : ∀ D ws h', Fr h₀ L h' m → News h₀ L h' ((D, listOf (List.toArray ws) 0) :: news) → (∀ p ∈ news, p.1 < D) → IntsAre ws ns.reverse → Q (.ref D) { s with heap := h' })
    (hs : subscripted slice false (.ref l) (.ref s.heap.objs.size) = operate ops (getItem (.ref l) (.ref s.heap.objs.size))) (ht : ∀ r, letTemporaryGo value (.ref l) r = pure ()) :
    wpAny (model prog w) A (subscriptTail value slice (.ref l) (.ref s.heap.objs.size)) Q E { s with heap := s.heap.push { cls := .type "slice", data := .fields #[.none, .none, vk] } } :=
  krv_ints F N (News.isList N hm) pk hi (fun D ws h' F' N' l1 hw _ => h D ws h' F' N' l1 hw) hs ht (by rw [List.size_toArray, sizeLine_eq]; omega)
end
end Mine
end

section
open PySem PySem.W PySem.Calls PyProof.Rows PySem.SeqAt PySem.MeetsSeq
namespace Mine
noncomputable def nms : List Str := ["a", "b", ".", "..", "ab", "a b", "a.b", "b-", "_"]
noncomputable def nmOf (x : Int) : Str := nms.getD x.toNat Str.empty
noncomputable def slashes (x : Int) : Str := Txt.mul (Str.ofString "/") (1 + x.fmod 2)
noncomputable def under (base : Str) (x : Int) : Str := base ++ slashes x ++ nmOf x
theorem nm_at {x : Int} (h0 : 0 ≤ x) (h9 : x < 9) : nms[x.toNat]? = some (nmOf x) ∧ (nmOf x).length ≤ 3 := by
  have e : x.toNat < 9 := by omega
  unfold nmOf
  generalize x.toNat = k at e
  revert k
  decide +kernel
section
variable {prog : Program} {w : World} {A : Around} {E : Value → Shared → Prop} {s : Shared} {h₀ : Heap} {L : Addr} {m : Str → Option Value} {news : List (Addr × Obj)}
theorem item_LS {value slice : Expr} {l : Addr} {vs : List Value} {ss : List Str} {k : Nat} {i : Int} {u : Tok} {z : Str} {Q : Value → Shared → Prop} (N : News h₀ L s.heap news) (hm : (l, listOf vs.toArray k) ∈ news) (hS : StrsAre vs ss)
    (h0 : 0 ≤ i) (hi : i < 2 ^ 63) (hx : ss[i.toNat]? = some z) (h : ∀ t, Q (.str z t) s)
    (hs : subscripted slice false (.ref l) (.int i u) = operate [.ref l, .int i u] (getItem (.ref l) (.int i u)) := by with_unfolding_all rfl) :
    wpAny (model prog w) A (subscriptTail value slice (.ref l) (.int i u)) Q E s := by
  obtain ⟨t, ht⟩ := hS.get _ _ hx
  exact item_L N hm h0 hi ht (h t) hs
end
end Mine
end

section
open PySem PySem.W PySem.Calls PyProof.Rows PySem.SeqAt PySem.MeetsSeq
set_option maxRecDepth 100000
namespace Mine
section
variable {prog : Program} {w : World} {A : Around} {E : Value → Shared → Prop} {s : Shared} {env : Env}
noncomputable def ForTurn2 (M : Model) (A : Around) (env : Env) (it : Value) (target : Expr) (body : List Stmt) (Q : Flow → Shared → Prop) (I : Nat → Shared → Prop) (n : Nat) (r : Option Value) (s₁ : Shared) : Prop := match r with
  | none => Q .next s₁
  | some v => wpAny M A (letOwnedTupleGo target it v) (fun _ s₁' => wpAny M A (assign target env v) (fun _ s₂ => wpAny M A (execs body env) (fun f s₃ => match f with | .next => ∃ m, m < n ∧ I m s₃ | .cont => ∃ m, m < n ∧ I m s₃ | .brk => Q .next s₃ | .ret v => Q (.ret v) s₃) NoE s₂) NoE s₁') NoE s₁
noncomputable def ForAt2 (prog : Program) (w : World) (A : Around) (env : Env) (target : Expr) (body : List Stmt) (Q : Flow → Shared → Prop) (it : Value) (s₂ : Shared) : Prop :=
  ∃ (I : Nat → Shared → Prop) (n : Nat), I n s₂ ∧ ∀ n s, I n s → wpAny (model prog w) A (pyNext it) (ForTurn2 (model prog w) A env it target body Q I n) NoE s
theorem for_rule2 {target iter : Expr} {body : List Stmt} {pos : Pos} {Q : Flow → Shared → Prop}
    (h : wpAny (model prog w) A (eval iter env) (fun xv s₁ => wpAny (model prog w) A (pyIter xv) (ForAt2 prog w A env target body Q) E s₁) E s)
    (hs : ∀ x, foldedSetIterable iter env x = pure x := by intro _; rfl) :
    wpAny (model prog w) A (exec (.For target iter body [] pos) env) Q E s := by
  refine wpAny_For (wpAny_mono h (fun xv s₁ h₁ => wpAny_mono h₁ (fun it s₂ h₂ => ?_) fun _ _ x => x) fun _ _ x => x) hs
  obtain ⟨I, n, h0, turn⟩ := h₂
  refine codeAny_forLoop_any I (fun n s' hI => wpAny_mono (turn n s' hI) (fun r s₁ hr => ?_) fun _ _ x => x.elim) n h0
  cases r with
  | none => exact wpAny_execs_nil hr
  | some v =>
    refine wpAny_mono hr (fun _ s₁' hr => wpAny_mono hr (fun _ s₂ h₂ => wpAny_mono h₂ (fun f s₃ hf => ?_) fun _ _ x => x.elim) fun _ _ x => x.elim) fun _ _ x => x.elim
    cases f <;> exact hf
theorem iter_K2 {h₀ : Heap} {I : Addr} {oI : Obj} {fp : List Addr} {n : Nat} {P : Nat → Value → Prop} {St : Nat → Heap → Prop} {m : Str → Option Value} {news src : List (Addr × Obj)} {target : Expr} {body : List Stmt} {Q : Flow → Shared → Prop}
    (W : Walks prog w A I fp [I] n P St) (Rel : Nat → (Str → Option Value) → List (Addr × Obj) → Prop)
    (hfp : ∀ b ∈ fp, b = I ∨ (∃ o, (b, o) ∈ src) ∨ ∃ o, h₀.get? b = some o) (hsrc : ∀ i m led, Rel i m led → ∀ p ∈ src, p ∈ led)
    (hob : ∀ i h, St i h → ∃ o, h.get? I = some o) (hst : St 0 s.heap) (F : Fr h₀ env.locals s.heap m) (N : News h₀ env.locals s.heap ((I, oI) :: news)) (hI : ∀ p ∈ news, p.1 ≠ I) (h0 : Rel 0 m news)
    (hlet : ∀ i v s₁ (R : Unit → Shared → Prop), St i s₁.heap → R () s₁ → wpAny (model prog w) A (letOwnedTupleGo target (.ref I) v) R NoE s₁)
    (turn : ∀ i v m₁ led s₁ oI, i < n → P i v → Rel i m₁ led → Sm s s₁ → Fr h₀ env.locals s₁.heap m₁ → News h₀ env.locals s₁.heap ((I, oI) :: led) → (∀ p ∈ led, p.1 ≠ I) →
      wpAny (model prog w) A (assign target env v) (fun _ s₂ => wpAny (model prog w) A (execs body env) (fun f s₃ => match f with
        | .next => KEnd h₀ env.locals I oI s (Rel (i + 1)) s₃ | .cont => KEnd h₀ env.locals I oI s (Rel (i + 1)) s₃ | .brk => Q .next s₃ | .ret v => Q (.ret v) s₃) NoE s₂) NoE s₁)
    (done : ∀ m₁ led s₁, Rel n m₁ led → Sm s s₁ → Fr h₀ env.locals s₁.heap m₁ → News h₀ env.locals s₁.heap led → Q .next s₁) :
    ForAt2 prog w A env target body Q (.ref I) s := by
  refine ⟨fun k s' => ∃ i m₁ led oI, k = n + 1 - i ∧ i ≤ n ∧ St i s'.heap ∧ Sm s s' ∧ Fr h₀ env.locals s'.heap m₁ ∧ News h₀ env.locals s'.heap ((I, oI) :: led) ∧ (∀ p ∈ led, p.1 ≠ I) ∧ Rel i m₁ led, n + 1, ⟨0, m, news, oI, by omega, by omega, hst, Sm.rfl s, F, N, hI, h0⟩, ?_⟩
  rintro k s'
  walk_at "flat"
  rename_i i m₁ led oI' hz91 hi st sm F₁ N₁ h1 R₁
  subst hz91
  by_cases hlt : i < n
  · refine W.item i s' _ _ hlt st fun v h' tk hP st' hk => ?_
    obtain ⟨F₂, N₂⟩ := itMoved F₁ N₁ h1 hk
    have nIh : h₀.get? I = none := (N₁ _ (List.mem_cons_self ..)).2.2
    have nIL : I ≠ env.locals := (N₁ _ (List.mem_cons_self ..)).2.1
    obtain ⟨oJ, hoJ⟩ : ∃ oJ, h'.get? I = some oJ := hob _ _ st'
    have N₃ : News h₀ env.locals h' ((I, oJ) :: led) := fun p hp => by
      rcases List.mem_cons.mp hp with rfl | hp
      · exact ⟨hoJ, nIL, nIh⟩
      · exact N₂ p hp
    refine hlet _ _ _ _ st' ?_
    refine wpAny_mono (turn i v m₁ led _ oJ hlt hP R₁ (Sm.of sm) F₂ N₃ h1) (fun _ s₂ h₂ => wpAny_mono h₂ (fun f s₃ hf => ?_) fun _ _ x => x) fun _ _ x => x
    have fin : KEnd h₀ env.locals I oJ s (Rel (i + 1)) s₃ → ∃ m, m < n + 1 - i ∧ ∃ i' m₁ led oI, m = n + 1 - i' ∧ i' ≤ n ∧ St i' s₃.heap ∧ Sm s s₃ ∧ Fr h₀ env.locals s₃.heap m₁ ∧ News h₀ env.locals s₃.heap ((I, oI) :: led) ∧ (∀ p ∈ led, p.1 ≠ I) ∧ Rel i' m₁ led := by
      rintro ⟨m', led', sm', F', N', h1', R'⟩
      exact ⟨n + 1 - (i + 1), by omega, i + 1, m', led', oJ, rfl, by omega, itStay (W.frame _ _ _ st') hfp (hsrc _ _ _ R₁) (hsrc _ _ _ R') F₂ N₃ F' N', sm', F', N', h1', R'⟩
    cases f with
    | next => exact fin hf
    | cont => exact fin hf
    | brk => exact hf
    | ret v => exact hf
  · have hin : i = n := by omega
    subst hin
    refine W.done s' _ _ st fun h' tk hk => ?_
    obtain ⟨F₂, N₂⟩ := itMoved F₁ N₁ h1 hk
    exact done m₁ led _ R₁ (Sm.of sm) F₂ N₂

variable {h₀ : Heap} {L : Addr} {m : Str → Option Value} {news : List (Addr × Obj)}
theorem tuple_for {l : Addr} {its : Array Value} {target : Expr} {body : List Stmt} {Q : Flow → Shared → Prop} (hh : A.handled = none)
    (F : Fr h₀ env.locals s.heap m) (N : News h₀ env.locals s.heap news) (hm : (l, { cls := .type "tuple", data := .seq its }) ∈ news) (Rel : Nat → (Str → Option Value) → List (Addr × Obj) → Prop) (hsrc : ∀ i m led, Rel i m led → (l, { cls := .type "tuple", data := .seq its }) ∈ led) (h0 : Rel 0 m news)
    (turn : ∀ i v m₁ led s₁ I oI, its[i]? = some v → (∀ p ∈ news, p.1 < I) → Rel i m₁ led → Sm s s₁ → Fr h₀ env.locals s₁.heap m₁ → News h₀ env.locals s₁.heap ((I, oI) :: led) → (∀ p ∈ led, p.1 ≠ I) →
      wpAny (model prog w) A (assign target env v) (fun _ s₂ => wpAny (model prog w) A (execs body env) (fun f s₃ => match f with
        | .next => KEnd h₀ env.locals I oI s (Rel (i + 1)) s₃ | .cont => KEnd h₀ env.locals I oI s (Rel (i + 1)) s₃ | .brk => Q .next s₃ | .ret v => Q (.ret v) s₃) NoE s₂) NoE s₁)
    (done : ∀ m₁ led s₁, Rel its.size m₁ led → Sm s s₁ → Fr h₀ env.locals s₁.heap m₁ → News h₀ env.locals s₁.heap led → Q .next s₁) :
    wpAny (model prog w) A (pyIter (.ref l)) (ForAt2 prog w A env target body Q) E s := by
  have hl := News.isTup N hm
  refine wpAny_pyIter_tuple hl ?_
  have hlt : ∀ p ∈ news, p.1 < s.heap.objs.size := fun p hp => Heap.lt_size (N p hp).1
  have hne : l ≠ s.heap.objs.size := Nat.ne_of_lt (hlt _ hm)
  have W := Walks.tuple (prog := prog) (w := w) hh s.heap.objs.size l hne its
  refine iter_K2 (src := [(l, { cls := .type "tuple", data := .seq its })]) W Rel ?_ (fun i m led R p hp => (List.mem_singleton.mp hp) ▸ hsrc i m led R) (fun i h st => let ⟨o, ho, _⟩ := st.1; ⟨o, ho⟩) ⟨⟨_, Heap.get?_push_size _ rfl, rfl, rfl⟩, Heap.IsTuple.push hl _⟩ (F.push _) (N.push F _)
    (fun p hp => Nat.ne_of_lt (hlt p hp)) h0 ?_ ?_ fun m₁ led s₁ R sm F₁ N₁ => done m₁ led s₁ R sm F₁ N₁
  · intro b hb
    rcases List.mem_cons.mp hb with rfl | hb
    · exact .inl rfl
    · obtain rfl := List.mem_singleton.mp hb
      exact .inr (.inl ⟨_, List.mem_singleton.mpr rfl⟩)
  · rintro i v s₁ R ⟨⟨o, ho, hc, hd⟩, _⟩ hR
    unfold letOwnedTupleGo
    split
    · cases v <;> first | exact wpAny_pure hR | skip
      refine wpAny_bind (wpAny_load ho ?_)
      rw [hc, hd]
      exact wpAny_pure hR
    · cases v <;> first | exact wpAny_pure hR | skip
      refine wpAny_bind (wpAny_load ho ?_)
      rw [hc, hd]
      exact wpAny_pure hR
    · exact wpAny_pure hR
  · intro i v m₁ led s₁ oI hi hP R sm F₁ N₁ h1
    exact turn i v m₁ led s₁ _ oI hP hlt R sm F₁ N₁ h1
end
noncomputable def cmp2 (first second fa pa fb pb : Int) : Int := if fa < fb then -first else if fb < fa then first else if pa < pb then -second else if pb < pa then second else 0
end Mine
end

section
open PySem PySem.W PySem.Calls PyProof.Rows PySem.SeqAt PySem.MeetsSeq
set_option maxRecDepth 100000
namespace Mine
section
variable {prog : Program} {w : World} {A : Around} {E : Value → Shared → Prop} {s : Shared} {env : Env}
theorem iter_K3 {h₀ : Heap} {I : Addr} {oI : Obj} {fp : List Addr} {n : Nat} {P Md : Nat → Value → Heap → Prop} {St : Nat → Heap → Prop} {m : Str → Option Value} {news src : List (Addr × Obj)} {target : Expr} {body : List Stmt} {Q : Flow → Shared → Prop}
    (W : KTurns prog w A target I fp [I] n P Md St) (Rel : Nat → (Str → Option Value) → List (Addr × Obj) → Prop)
    (hfp : ∀ b ∈ fp, b = I ∨ (∃ o, (b, o) ∈ src) ∨ ∃ o, h₀.get? b = some o) (hsrc : ∀ i m led, Rel i m led → ∀ p ∈ src, p ∈ led)
    (hob : ∀ i h, St i h → ∃ o, h.get? I = some o) (hst : St 0 s.heap) (F : Fr h₀ env.locals s.heap m) (N : News h₀ env.locals s.heap ((I, oI) :: news)) (hI : ∀ p ∈ news, p.1 ≠ I) (h0 : Rel 0 m news)
    (turn : ∀ i v m₁ led s₁ oI, i < n → P i v s₁.heap → Rel i m₁ led → Sm s s₁ → Fr h₀ env.locals s₁.heap m₁ → News h₀ env.locals s₁.heap ((I, oI) :: led) → (∀ p ∈ led, p.1 ≠ I) →
      wpAny (model prog w) A (assign target env v) (fun _ s₂ => wpAny (model prog w) A (execs body env) (fun f s₃ => match f with
        | .next => KEnd h₀ env.locals I oI s (Rel (i + 1)) s₃ | .cont => KEnd h₀ env.locals I oI s (Rel (i + 1)) s₃ | .brk => Q .next s₃ | .ret v => Q (.ret v) s₃) NoE s₂) NoE s₁)
    (done : ∀ m₁ led s₁, Rel n m₁ led → Sm s s₁ → Fr h₀ env.locals s₁.heap m₁ → News h₀ env.locals s₁.heap led → Q .next s₁) :
    ForAt2 prog w A env target body Q (.ref I) s := by
  refine ⟨fun k s' => ∃ i m₁ led oI, k = n + 1 - i ∧ i ≤ n ∧ St i s'.heap ∧ Sm s s' ∧ Fr h₀ env.locals s'.heap m₁ ∧ News h₀ env.locals s'.heap ((I, oI) :: led) ∧ (∀ p ∈ led, p.1 ≠ I) ∧ Rel i m₁ led, n + 1, ⟨0, m, news, oI, by omega, by omega, hst, Sm.rfl s, F, N, hI, h0⟩, ?_⟩
  rintro k s'
  walk_at "flat"
  rename_i i m₁ led oI' hz91 hi st sm F₁ N₁ h1 R₁
  subst hz91
  by_cases hlt : i < n
  · refine W.item i s' _ _ hlt st fun v h1' tk hMd hk1 => ?_
    refine W.go i v _ _ _ hMd fun h' hP st' hk2 => ?_
    have hk : ∀ b o, b ∉ [I] → s'.heap.get? b = some o → h'.get? b = some o := fun b o hb e => hk2 b o hb (hk1 b o hb e)
    obtain ⟨F₂, N₂⟩ := itMoved F₁ N₁ h1 hk
    have nIh : h₀.get? I = none := (N₁ _ (List.mem_cons_self ..)).2.2
    have nIL : I ≠ env.locals := (N₁ _ (List.mem_cons_self ..)).2.1
    obtain ⟨oJ, hoJ⟩ : ∃ oJ, h'.get? I = some oJ := hob _ _ st'
    have N₃ : News h₀ env.locals h' ((I, oJ) :: led) := fun p hp => by
      rcases List.mem_cons.mp hp with rfl | hp
      · exact ⟨hoJ, nIL, nIh⟩
      · exact N₂ p hp
    refine wpAny_mono (turn i v m₁ led _ oJ hlt hP R₁ (Sm.of sm) F₂ N₃ h1) (fun _ s₂ h₂ => wpAny_mono h₂ (fun f s₃ hf => ?_) fun _ _ x => x) fun _ _ x => x
    have fin : KEnd h₀ env.locals I oJ s (Rel (i + 1)) s₃ → ∃ m, m < n + 1 - i ∧ ∃ i' m₁ led oI, m = n + 1 - i' ∧ i' ≤ n ∧ St i' s₃.heap ∧ Sm s s₃ ∧ Fr h₀ env.locals s₃.heap m₁ ∧ News h₀ env.locals s₃.heap ((I, oI) :: led) ∧ (∀ p ∈ led, p.1 ≠ I) ∧ Rel i' m₁ led := by
      rintro ⟨m', led', sm', F', N', h1', R'⟩
      exact ⟨n + 1 - (i + 1), by omega, i + 1, m', led', oJ, rfl, by omega, itStay (W.frame _ _ _ st') hfp (hsrc _ _ _ R₁) (hsrc _ _ _ R') F₂ N₃ F' N', sm', F', N', h1', R'⟩
    cases f with
    | next => exact fin hf
    | cont => exact fin hf
    | brk => exact hf
    | ret v => exact hf
  · have hin : i = n := by omega
    subst hin
    refine W.done s' _ _ st fun h' tk hk => ?_
    obtain ⟨F₂, N₂⟩ := itMoved F₁ N₁ h1 hk
    exact done m₁ led _ R₁ (Sm.of sm) F₂ N₂


variable {h₀ : Heap} {L : Addr} {m : Str → Option Value} {news : List (Addr × Obj)}
theorem ext_all {h h' : Heap} (F : Fr h₀ L h m) (N : News h₀ L h news) (hk : ∀ b o, h.get? b = some o → h'.get? b = some o) : Fr h₀ L h' m ∧ News h₀ L h' news :=
  ⟨⟨F.ns.at' fun o e => hk _ o e, fun b o e => hk b o (F.keep b o e), F.above⟩, fun p hp => ⟨hk _ _ (N p hp).1, (N p hp).2⟩⟩
theorem items_for {K : Type} [DecidableEq K] {knd : KeyKind prog w K} {d vw : Addr} {o : Obj} {kvs : List (K × Value)} {elts : List Expr} {kk : Nat} {tp : Pos} {body : List Stmt} {Q : Flow → Shared → Prop} (hh : A.handled = none)
    (F : Fr h₀ env.locals s.heap m) (N : News h₀ env.locals s.heap news) (hvw : s.heap.IsItemsView vw d) (hm : (d, o) ∈ news) (hd : o.IsDictOf knd kvs) (Rel : Nat → (Str → Option Value) → List (Addr × Obj) → Prop) (hsrc : ∀ i m led, Rel i m led → (d, o) ∈ led) (h0 : Rel 0 m news)
    (hn : (assignEach elts env).length = 2) (hstar : (assignEach elts env).findIdx? (·.1) = none)
    (turn : ∀ i k x key m₁ led s₁ I oI, kvs[i]? = some (k, x) → knd.is k key = true → (∀ p ∈ news, p.1 < I) → Rel i m₁ led → Sm s s₁ → Fr h₀ env.locals s₁.heap m₁ → News h₀ env.locals s₁.heap ((I, oI) :: led) → (∀ p ∈ led, p.1 ≠ I) →
      wpAny (model prog w) A (assignInOrder ((assignEach elts env).map (·.2)) [key, x]) (fun _ s₂ => wpAny (model prog w) A (execs body env) (fun f s₃ => match f with
        | .next => KEnd h₀ env.locals I oI s (Rel (i + 1)) s₃ | .cont => KEnd h₀ env.locals I oI s (Rel (i + 1)) s₃ | .brk => Q .next s₃ | .ret v => Q (.ret v) s₃) NoE s₂) NoE s₁)
    (done : ∀ m₁ led s₁, Rel kvs.length m₁ led → Sm s s₁ → Fr h₀ env.locals s₁.heap m₁ → News h₀ env.locals s₁.heap led → Q .next s₁) :
    wpAny (model prog w) A (pyIter (.ref vw)) (ForAt2 prog w A env (.Tuple elts kk tp) body Q) E s := by
  obtain ⟨ep, hat⟩ := (dictAt_N N hm hd).dictAt
  refine wpAny_pyIter_items hvw hat ?_
  have hlt : ∀ p ∈ news, p.1 < s.heap.objs.size := fun p hp => Heap.lt_size (N p hp).1
  have hne : d ≠ s.heap.objs.size := Nat.ne_of_lt (hlt _ hm)
  have W := kti_itemsTurns (knd := knd) (elts := elts) (kk := kk) (pos := tp) (prog := prog) (w := w) hh s.heap.objs.size d hne kvs ep
  refine iter_K3 (src := [(d, o)]) W Rel ?_ (fun i m led R p hp => (List.mem_singleton.mp hp) ▸ hsrc i m led R) ?_ ⟨⟨_, _, Heap.get?_push_size _ rfl⟩, hat.at' fun o e => Heap.get?_push_of_some _ e⟩ (F.push _) (N.push F _)
    (fun p hp => Nat.ne_of_lt (hlt p hp)) h0 ?_ fun m₁ led s₁ R sm F₁ N₁ => done m₁ led s₁ R sm F₁ N₁
  · intro b hb
    rcases List.mem_cons.mp hb with rfl | hb
    · exact .inl rfl
    · obtain rfl := List.mem_singleton.mp hb
      exact .inr (.inl ⟨_, List.mem_singleton.mpr rfl⟩)
  · rintro i h ⟨⟨ok, ov, he⟩, _⟩
    exact ⟨_, he⟩
  · rintro i v m₁ led s₁ oI hi
    walk_at "flat"
    rename_i T key k x hz92 hx hkey hT
    subst hz92
    rintro R sm F₁ N₁ h1
    refine wpAny_assign_Tuple hh hT hn hstar fun h' hx' => ?_
    obtain ⟨F₂, N₂⟩ := ext_all F₁ N₁ (h' := h') fun b o e => hx' b o (Nat.ne_of_lt (Heap.lt_size e)) e
    exact turn i k x key m₁ led _ _ oI hx hkey hlt R (Sm.of sm) F₂ N₂ h1
end
end Mine
end

section
open PySem PySem.W PySem.Calls PyProof.Rows PySem.SeqAt PySem.MeetsSeq
set_option maxRecDepth 100000
namespace Mine
/-- a dict from texts to whole numbers -/
noncomputable def SI (kvs : List (Str × Value)) (ps : List (Str × Int)) : Prop := Paired (fun a b => a.1 = b.1 ∧ ∃ t, a.2 = Value.int b.2 t) kvs ps
noncomputable def intOf (ps : List (Str × Int)) (x : Str) : Option Int := (ps.find? fun p => p.1 = x).map (·.2)
noncomputable def put (ps : List (Str × Int)) (k : Str) (v : Int) : List (Str × Int) := if ps.any (fun p => p.1 = k) then ps.map (fun p => if p.1 = k then (p.1, v) else p) else ps ++ [(k, v)]
noncomputable def addC (ts ss : List (Str × Int)) : List (Str × Int) := ss.foldl (fun acc p => match intOf acc p.1 with | some x => put acc p.1 (x + p.2) | none => put acc p.1 p.2) ts
theorem put_find {β : Type} (kvs : List (Str × β)) (k k' : Str) (v : β) : ((if kvs.any (fun kv => kv.1 = k) then kvs.map (fun kv => if kv.1 = k then (kv.1, v) else kv) else kvs ++ [(k, v)]).find? (fun kv => kv.1 = k')).map (·.2) = if k' = k then some v else (kvs.find? (fun kv => kv.1 = k')).map (·.2) := by
  by_cases ha : kvs.any (fun kv => kv.1 = k) = true
  · rw [if_pos ha]
    induction kvs with
    | nil => simp at ha
    | cons p r ih =>
      rw [List.map_cons, List.find?_cons, List.find?_cons]
      by_cases hp : p.1 = k
      · subst hp
        simp only [if_true]
        by_cases hk : k' = p.1
        · subst hk; simp
        · have hk2 : ¬ p.1 = k' := fun e => hk e.symm
          simp only [hk2, decide_false, if_neg hk]
          by_cases hr : r.any (fun kv => kv.1 = p.1) = true
          · have := ih hr
            rw [if_neg hk] at this
            exact this
          · have hm : r.map (fun kv => if kv.1 = p.1 then (kv.1, v) else kv) = r := by
              have h2 : ∀ q ∈ r, ¬ q.1 = p.1 := fun q hq e => hr (List.any_eq_true.mpr ⟨q, hq, by simpa using e⟩)
              exact (List.map_congr_left fun q hq => if_neg (h2 q hq)).trans (List.map_id' r)
            rw [hm]
      · simp only [if_neg hp]
        by_cases hk : p.1 = k'
        · have : ¬ k' = k := fun e => hp (hk.trans e)
          simp [hk, this]
        · simp only [hk, decide_false]
          rw [List.any_cons] at ha
          simp only [hp, decide_false, Bool.false_or] at ha
          exact ih ha
  · rw [if_neg ha]
    rw [List.find?_append]
    have hn : ∀ q ∈ kvs, ¬ q.1 = k := fun q hq e => ha (List.any_eq_true.mpr ⟨q, hq, by simpa using e⟩)
    by_cases hk : k' = k
    · subst hk
      have : kvs.find? (fun kv => kv.1 = k') = none := List.find?_eq_none.mpr fun q hq => by simpa using hn q hq
      rw [this]; simp
    · rw [if_neg hk]
      have : ¬ k = k' := fun e => hk e.symm
      simp [this]
theorem SI.keys {kvs : List (Str × Value)} {ps : List (Str × Int)} (h : SI kvs ps) : kvs.map (·.1) = ps.map (·.1) := by
  unfold SI at h
  induction h with
  | nil => rfl
  | cons h _ ih => rw [List.map_cons, List.map_cons, ih, h.1]
theorem SI.length {kvs : List (Str × Value)} {ps : List (Str × Int)} (h : SI kvs ps) : kvs.length = ps.length := by
  have := congrArg List.length h.keys
  simpa using this
theorem SI.at {kvs : List (Str × Value)} {ps : List (Str × Int)} (h : SI kvs ps) {i : Nat} {k : Str} {x : Value} (hx : kvs[i]? = some (k, x)) : ∃ n t, x = .int n t ∧ ps[i]? = some (k, n) := by
  unfold SI at h
  induction h generalizing i with
  | nil => simp at hx
  | @cons a b l₁ l₂ h r ih =>
    cases i with
    | zero =>
      simp at hx
      obtain ⟨h1, t, h2⟩ := h
      subst hx
      exact ⟨b.2, t, h2, by simp at h1; simp [h1]⟩
    | succ i => exact ih (by simpa using hx)
theorem SI.value {kvs : List (Str × Value)} {ps : List (Str × Int)} (h : SI kvs ps) (k : Str) : (intOf ps k = none ∧ valueAt kvs k = none) ∨ ∃ n t, intOf ps k = some n ∧ valueAt kvs k = some (.int n t) := by
  unfold SI at h
  unfold intOf valueAt
  induction h with
  | nil => exact .inl ⟨rfl, rfl⟩
  | @cons a b l₁ l₂ h r ih =>
    obtain ⟨h1, t, h2⟩ := h
    rw [List.find?_cons, List.find?_cons, h1]
    by_cases e : b.1 = k
    · simp only [e, decide_true]
      exact .inr ⟨b.2, t, rfl, by simp [h2]⟩
    · simp only [e, decide_false]
      exact ih
theorem SI.stored {kvs : List (Str × Value)} {ps : List (Str × Int)} (h : SI kvs ps) (k : Str) (n : Int) (t : Tok) : SI (stored kvs k (.int n t)) (put ps k n) := by
  have ha : kvs.any (fun kv => kv.1 = k) = ps.any (fun p => p.1 = k) := by
    unfold SI at h
    induction h with
    | nil => rfl
    | cons h _ ih => rw [List.any_cons, List.any_cons, ih, h.1]
  unfold PySem.stored put
  rw [ha]
  have hmap : SI (kvs.map (fun kv => if kv.1 = k then (kv.1, Value.int n t) else kv)) (ps.map (fun p => if p.1 = k then (p.1, n) else p)) := by
    clear ha
    unfold SI at h ⊢
    induction h with
    | nil => exact .nil
    | @cons a b l₁ l₂ h r ih =>
      refine .cons ?_ ih
      show (if a.1 = k then (a.1, Value.int n t) else a).1 = (if b.1 = k then (b.1, n) else b).1 ∧ ∃ t', (if a.1 = k then (a.1, Value.int n t) else a).2 = Value.int (if b.1 = k then (b.1, n) else b).2 t'
      rw [h.1]
      by_cases e : b.1 = k
      · rw [if_pos e, if_pos e]; exact ⟨rfl, t, rfl⟩
      · rw [if_neg e, if_neg e]; exact h
  split
  · exact hmap
  · exact Paired.snoc h ⟨rfl, t, rfl⟩
theorem take_put {ps : List (Str × Int)} (hnd : (ps.map (·.1)).Nodup) {i : Nat} {k : Str} {n : Int} (h : ps[i]? = some (k, n)) : put (ps.take i) k n = ps.take (i + 1) := by
  have hk : ¬ (ps.take i).any (fun p => p.1 = k) = true := by
    intro hq
    obtain ⟨q, hq, e⟩ := List.any_eq_true.mp hq
    have e' : q.1 = k := by simpa using e
    obtain ⟨j, hj, rfl⟩ := List.getElem_of_mem hq
    rw [List.length_take] at hj
    obtain ⟨hi, e2⟩ := List.getElem?_eq_some_iff.mp h
    have hij : j < i := by omega
    have q1 : (ps.map (·.1))[j]'(by simp; omega) = (ps.map (·.1))[i]'(by simpa using hi) := by
      simp only [List.getElem_map]
      rw [List.getElem_take] at e'
      rw [e', e2]
    have := List.getElem_inj hnd |>.mp q1
    omega
  unfold put
  rw [if_neg hk, List.take_add_one, h]
  rfl
theorem addC_step {ts ss : List (Str × Int)} {i : Nat} {k : Str} {n : Int} (h : ss[i]? = some (k, n)) : addC ts (ss.take (i + 1)) = match intOf (addC ts (ss.take i)) k with | some x => put (addC ts (ss.take i)) k (x + n) | none => put (addC ts (ss.take i)) k n := by
  unfold addC
  rw [List.take_add_one, h]
  simp only [Option.toList_some, List.foldl_append, List.foldl_cons, List.foldl_nil]
theorem put_len (ps : List (Str × Int)) (k : Str) (v : Int) : (put ps k v).length ≤ ps.length + 1 := by
  unfold put
  split <;> simp
theorem addC_len (ss : List (Str × Int)) : ∀ ts : List (Str × Int), (addC ts ss).length ≤ ts.length + ss.length := by
  induction ss with
  | nil => intro ts; simp [addC]
  | cons p r ih =>
    intro ts
    have e : addC ts (p :: r) = addC (match intOf ts p.1 with | some x => put ts p.1 (x + p.2) | none => put ts p.1 p.2) r := rfl
    rw [e]
    have h := ih (match intOf ts p.1 with | some x => put ts p.1 (x + p.2) | none => put ts p.1 p.2)
    have h2 : (match intOf ts p.1 with | some x => put ts p.1 (x + p.2) | none => put ts p.1 p.2).length ≤ ts.length + 1 := by
      split <;> exact put_len _ _ _
    rw [List.length_cons]
    omega
section
variable {prog : Program} {w : World} {A : Around} {E : Value → Shared → Prop} {s : Shared} {h₀ : Heap} {L : Addr} {m : Str → Option Value} {news : List (Addr × Obj)} {d : Addr} {o : Obj} {kvs : List (Str × Value)} {ps : List (Str × Int)} {x : Str} {u : Tok}
theorem in_SI {Q : Value → Shared → Prop} (N : News h₀ L s.heap news) (hm : (d, o) ∈ news) (hd : o.IsDictOf (PySem.strKind prog w) kvs) (hv : SI kvs ps) (lo : (d == sysModules) = false)
    (h : Q (.bool (intOf ps x).isSome) { s with toks := s.toks + 1 }) : wpAny (model prog w) A (compareOp .In (.str x u) (.ref d)) Q E s := by
  refine in_D (isS x u) N hm hd lo ?_
  rcases hv.value x with ⟨e1, e2⟩ | ⟨n, t, e1, e2⟩ <;> rw [e1] at h <;> rw [e2] <;> exact h
theorem in_SI0 {Q : Value → Shared → Prop} (N : News h₀ L s.heap news) (hm : (d, o) ∈ news) (hd : o.IsDictOf (PySem.strKind prog w) kvs) (hv : SI kvs ps) (lo : (d == sysModules) = false) (hz : intOf ps x = none)
    (h : Q (.bool false) { s with toks := s.toks + 1 }) : wpAny (model prog w) A (compareOp .In (.str x u) (.ref d)) Q E s := in_SI N hm hd hv lo (by rw [hz]; exact h)
theorem in_SI1 {n : Int} {Q : Value → Shared → Prop} (N : News h₀ L s.heap news) (hm : (d, o) ∈ news) (hd : o.IsDictOf (PySem.strKind prog w) kvs) (hv : SI kvs ps) (lo : (d == sysModules) = false) (hz : intOf ps x = some n)
    (h : Q (.bool true) { s with toks := s.toks + 1 }) : wpAny (model prog w) A (compareOp .In (.str x u) (.ref d)) Q E s := in_SI N hm hd hv lo (by rw [hz]; exact h)
theorem get_SI {n : Int} {Q : Value → Shared → Prop} (N : News h₀ L s.heap news) (hm : (d, o) ∈ news) (hd : o.IsDictOf (PySem.strKind prog w) kvs) (hv : SI kvs ps) (hn : intOf ps x = some n)
    (h : ∀ t, Q (.int n t) { s with toks := s.toks + 1 }) : wpAny (model prog w) A (getItem (.ref d) (.str x u)) Q E s := by
  rcases hv.value x with ⟨e1, e2⟩ | ⟨n', t, e1, e2⟩
  · rw [hn] at e1; cases e1
  · rw [hn] at e1; cases e1
    exact getItem_D (isS x u) N hm hd e2 (h t)
theorem item_SI {n : Int} {value slice : Expr} {Q : Value → Shared → Prop} (N : News h₀ L s.heap news) (hm : (d, o) ∈ news) (hd : o.IsDictOf (PySem.strKind prog w) kvs) (hv : SI kvs ps) (hn : intOf ps x = some n)
    (h : ∀ t, Q (.int n t) { s with toks := s.toks + 1 }) (hs : subscripted slice false (.ref d) (.str x u) = operate [.ref d, .str x u] (getItem (.ref d) (.str x u)) := by with_unfolding_all rfl) :
    wpAny (model prog w) A (subscriptTail value slice (.ref d) (.str x u)) Q E s :=
  tail_any (dictAt_N N hm hd).typeIs slot_dict_getitem.lookup (get_SI N hm hd hv hn h) hs
theorem items_method {kvs : List (Str × Value)} {pl : Sem Bool} {Q : Value × List Value → Shared → Prop} (N : News h₀ L s.heap news) (hm : (d, o) ∈ news) (hd : o.IsDictOf (PySem.strKind prog w) kvs) (h : Q (.builtin "dict.items", [.ref d]) s) :
    wpAny (model prog w) A (getMethod (.ref d) (Str.ofString "items") pl) Q E s :=
  have hD := dictAt_N N hm hd
  getMethod_builtin hD.typeIs PySem.F.plainAttrs_dict PySem.F.slot_dict_items PySem.F.type_dict_items hD.mapOf.noDict h
theorem items_call {kvs : List (Str × Value)} {R : Value → Shared → Prop} (F : Fr h₀ L s.heap m) (N : News h₀ L s.heap news) (hm : (d, o) ∈ news) (hd : o.IsDictOf (PySem.strKind prog w) kvs) (lo : (d == sysModules) = false)
    (h : ∀ vw h', h'.IsItemsView vw d → Fr h₀ L h' m → News h₀ L h' news → R (.ref vw) { s with heap := h' }) : wpAny (model prog w) A (call (.builtin "dict.items") [.ref d]) R E s :=
  kta_callItems F N hm hd lo fun h' hv F' N' => h _ h' hv F' N'
end
end Mine
end

section
open PySem PySem.W PySem.Calls PyProof.Rows PySem.SeqAt PySem.MeetsSeq
set_option maxRecDepth 100000
namespace Mine
noncomputable def cntOf (fns bns : List Int) (n : Int) : List Int := (bns.filter fun p => decide (fns.getD p.toNat 0 = n)).map (1 + ·)
noncomputable def uvwOf (n : Int) : Str := Txt.item (Str.ofString "uvw") n
noncomputable def dueC (fns bns : List Int) : Nat → List (Str × Int)
  | 0 => []
  | i + 1 => if cntOf fns bns i = [] then dueC fns bns i else put (dueC fns bns i) (uvwOf i) (cntOf fns bns i).sum
theorem dueC_len (fns bns : List Int) : ∀ i, (dueC fns bns i).length ≤ i
  | 0 => Nat.le_refl _
  | i + 1 => by
    have h := dueC_len fns bns i
    unfold dueC
    split
    · omega
    · have := put_len (dueC fns bns i) (uvwOf i) (cntOf fns bns i).sum
      omega
theorem ints_getD {vs : List Value} {ns : List Int} (h : IntsAre vs ns) {x : Int} (h0 : 0 ≤ x) (hx : x < ns.length) : ∃ t, vs[x.toNat]? = some (.int (ns.getD x.toNat 0) t) := by
  have hl : x.toNat < ns.length := by omega
  obtain ⟨t, ht⟩ := h.get x.toNat (ns.getD x.toNat 0) (by rw [List.getD_eq_getElem?_getD, List.getElem?_eq_getElem hl]; rfl)
  exact ⟨t, ht⟩
section
variable {prog : Program} {w : World} {A : Around} {E : Value → Shared → Prop} {s : Shared} {h₀ : Heap} {L : Addr} {m : Str → Option Value} {news : List (Addr × Obj)}
theorem sum_L {l : Addr} {vs : List Value} {k : Nat} {ns : List Int} {Q : Value → Shared → Prop} (hh : A.handled = none) (F : Fr h₀ L s.heap m) (N : News h₀ L s.heap news) (hm : (l, listOf vs.toArray k) ∈ news) (hi : IntsAre vs ns)
    (h : ∀ h' tk t', Fr h₀ L h' m → News h₀ L h' news → Q (.int ns.sum t') { s with heap := h', toks := tk }) :
    wpAny (model prog w) A (call (.builtin "sum") [.ref l]) Q E s := by
  have hl := News.isList N hm
  obtain ⟨xs, hx⟩ := hi.allInts.items
  have hn : numsOf vs.toArray.toList = ns := by rw [show vs.toArray.toList = vs from rfl, hi.numsOf]
  rw [hx] at hl hn
  rw [nums_intItems] at hn
  have hne : l ≠ s.heap.objs.size := Nat.ne_of_lt (Heap.lt_size (N _ hm).1)
  have hsz : (intItems xs).size = xs.size := by simp [intItems]
  have W := Walks.list (prog := prog) (w := w) (A := A.in1) hh s.heap.objs.size l hne (intItems xs)
  rw [hsz] at W
  refine call_sum_walkG (wpAny_pyIter_list hl ?_)
  refine ⟨s.heap.objs.size, _, _, _, _, _, numAt xs, rfl, W, ⟨⟨_, Heap.get?_push_size _ rfl, rfl, rfl⟩, hl.at fun o e => Heap.get?_push_of_some _ e⟩, fun b hb => ?_, fun i v hP => intItems_at hP, fun h' tk t' hk => ?_⟩
  · rcases List.mem_cons.mp hb with rfl | hb
    · exact Heap.lt_size (Heap.get?_push_size _ rfl)
    · obtain rfl := List.mem_singleton.mp hb
      exact Heap.lt_size (Heap.get?_push_of_some _ (N _ hm).1)
  · have hk' : ∀ b o, s.heap.get? b = some o → h'.get? b = some o := fun b o e => hk b o (fun hb => absurd (Heap.lt_size e) ((List.mem_singleton.mp hb) ▸ Nat.lt_irrefl _)) (Heap.get?_push_of_some _ e)
    have := h h' tk t' (F.keeps hk') (N.grown hk')
    rw [preSum_eq, List.take_of_length_le (by simp), hn]
    exact this
end
theorem keep1_4 {x d1 d2 u k1 k2 : Addr × Obj} {l : List (Addr × Obj)} : ∀ p ∈ x :: u :: l, p ∈ x :: d1 :: d2 :: u :: k1 :: k2 :: l := by
  intro p9 hp9
  rcases List.mem_cons.mp hp9 with rfl | hp9
  · exact .head _
  rcases List.mem_cons.mp hp9 with rfl | hp9
  · exact .tail _ (.tail _ (.tail _ (.head _)))
  exact .tail _ (.tail _ (.tail _ (.tail _ (.tail _ (.tail _ hp9)))))
end Mine
end

section
open PySem PySem.W PyProof.Rows
set_option maxRecDepth 100000
namespace Mine
/-- an Around that knows no frames -/
@[reducible] def aN (d u : Nat) : Around := { handled := none, depth := d, frames := none, guards := none, units := u }
theorem wpAny_ofN {α : Type} {M : Model} {A : Around} {t : Sem α} {Q : α → Shared → Prop} {E : Value → Shared → Prop} {s : Shared} {d u : Nat} (h : wpAny M (aN d u) t Q E s)
    (hh : A.handled = none) (hd : A.depth ≤ d) (hu : A.units ≤ u) : wpAny M A t Q E s := fun Γ p hΓ =>
  h Γ p ⟨hΓ.1.trans hh, Nat.le_trans hΓ.2.1 hd, (by intro l e; cases e), (by intro l e; cases e), Nat.le_trans hΓ.2.2.2.2 hu⟩

section
variable {prog : Program} {w : World} {A : Around} {s : Shared} {h₀ : Heap} {L : Addr} {m : Str → Option Value} {news : List (Addr × Obj)} {K : Frag}
  {R : Result → Shared → Prop} {name qual : Str} {params : Arguments} {body : List Stmt} {scope : Scope} {dV kV doc pm cdv ct oc : Value} {an od : Option Addr} {osl : Array (Option Value)} {f : Addr} {args : Args} {binds : List (Str × Value)}
  {p : Program} {loose : List Str} {mean : ExcName → Option Value} {mg mb : Str → Option Value}

theorem groundN (F : Fr h₀ L s.heap m) (N : News h₀ L s.heap news) :
    Fr h₀ L (hideAll s.heap (news.map (·.1))) m ∧ h₀.StaysIn (hideAll s.heap (news.map (·.1))) ∧
      ∀ v s', LeaveK h₀ L m (hideAll s.heap (news.map (·.1))) R v s' → R (.ok (.ret v)) s' := by
  have nm : ∀ b o, h₀.get? b = some o → b ∉ news.map (·.1) := fun b o e q => by
    obtain ⟨p, hp, rfl⟩ := List.mem_map.mp q
    rw [(N p hp).2.2] at e; cases e
  have st : h₀.StaysIn (hideAll s.heap (news.map (·.1))) := fun b o e => hideAll_get _ (F.keep b o e) (nm b o e)
  obtain ⟨oL, es, ep, hL, hLd, hLk, hLf⟩ := F.ns
  have nL : L ∉ news.map (·.1) := fun q => by
    obtain ⟨p, hp, e⟩ := List.mem_map.mp q
    exact (N p hp).2.1 e
  have hLg := hideAll_get (news.map (·.1)) hL nL
  refine ⟨⟨⟨oL, es, ep, hLg, hLd, hLk, hLf⟩, st, F.above⟩, st, fun v s' hl => ?_⟩
  obtain ⟨L', m', news', F', N', k⟩ := hl
  refine k ⟨⟨oL, es, ep, F'.keep L oL hLg, hLd, hLk, hLf⟩, fun b o e => F'.keep b o (st b o e), F.above⟩ fun p hp => ⟨(N' p hp).1, fun q => ?_, ?_⟩
  · have := (N' p hp).2.2; rw [q, hLg] at this; cases this
  · cases q : h₀.get? p.1 with
    | none => rfl
    | some o => have := (N' p hp).2.2; rw [st _ _ q] at this; cases this

theorem code_defN (F : Fr h₀ L s.heap m) (X₀ : K.In h₀) (N : News h₀ L s.heap news) (T : Top p loose mean mg mb h₀)
    (ho : K.lookup f = some ⟨oc, od, .func (fnOf name qual params body scope dV kV doc pm an cdv ct), osl⟩) (hcd : codeIn K cdv qual = true) (hroom : A.depth < recursionLimit)
    (hbind : BindsTo s (fnOf name qual params body scope dV kV doc pm an cdv ct) args binds) (hloc : ∀ y ∈ binds, scope.names.lookup y.1 = some .local)
    (h : ∀ g L' h₁, Fr h₀ L g m → Fr g L' h₁ (fun y => binds.reverse.lookup y) → News g L' h₁ news → K.In g → Top p loose mean mg mb g → (∀ p ∈ news, p.1 < L') →
      wpAny (model prog w) (A.deeper (envOf qual scope L' f cdv)) (execs body (envOf qual scope L' f cdv))
        (fun fl s' => LeaveK h₀ L m g R (match fl with | .ret v => v | _ => .none) s')
        (fun e s' => wpAny (model prog w) (A.deeper (envOf qual scope L' f cdv)) (leaving (envOf qual scope L' f cdv) e) (fun _ s'' => R (.error e) s'') (fun e' s'' => R (.error e') s'') s')
        { s with heap := h₁, toks := s.toks + binds.length })
    (hco : scope.isCoroutine = false) (hgen : scope.isGenerator = false) (hk : scope.kind = .function)
    (hcell : ∀ x ∈ scope.names, x.2 ≠ .cell) : codeAny (model prog w) A (.call (.ref f) args) R s := by
  obtain ⟨FG, st, lv⟩ := groundN (R := R) F N
  refine codeAny_call_def (fd := fnOf name qual params body scope dV kV doc pm an cdv ct) (body := body) (binds := binds) hroom ((X₀.keeps F.keep) _ _ ho) rfl (T.nolimit.keeps F.keep) (codeRec_of (X₀.keeps F.keep) hcd) rfl hbind hcell hloc (fun h₁ hns hk₁ => ?_) hco hgen hk
  exact wpAny_mono (h _ s.heap.objs.size h₁ FG ⟨hns, fun b o e => hk₁ b o (of_hideAll _ e), Nat.le_of_eq (hideAll_size _ _)⟩
    (fun p hp => ⟨hk₁ _ _ (N p hp).1, Nat.ne_of_lt (Heap.lt_size (N p hp).1), hideAll_none _ (List.mem_map_of_mem hp)⟩) (X₀.keeps st) (T.keeps st) (fun p hp => Heap.lt_size (N p hp).1)) (fun fl s' hl => lv _ _ hl) fun _ _ y => y
end
end Mine
end

section
open PySem PySem.W PyProof.Rows
set_option maxRecDepth 100000
namespace Mine
/-- only the object at `G` changes -/
noncomputable def OnlyG (G : Addr) (s s' : Shared) : Prop := ∃ h tk, s' = { s with heap := h, toks := tk } ∧ ∀ b o, b ≠ G → s.heap.get? b = some o → h.get? b = some o
theorem OnlyG.rfl {G : Addr} (s : Shared) : OnlyG G s s := ⟨s.heap, s.toks, Eq.refl _, fun _ _ _ e => e⟩
theorem OnlyG.trans {G : Addr} {a b c : Shared} (x : OnlyG G a b) (y : OnlyG G b c) : OnlyG G a c := by
  obtain ⟨h, tk, rfl, k⟩ := x
  obtain ⟨h', tk', rfl, k'⟩ := y
  exact ⟨h', tk', Eq.refl _, fun b o n e => k' b o n (k b o n e)⟩

noncomputable def allBut (h hb : Heap) (G : Addr) : List (Addr × Obj) := (List.range h.objs.size).filterMap fun b => if b = G then none else if (hb.get? b).isSome then none else (h.get? b).map (b, ·)
theorem allBut_news (h hb : Heap) (G : Addr) : News hb G h (allBut h hb G) := by
  intro p hp
  obtain ⟨b, _, hq⟩ := List.mem_filterMap.mp hp
  by_cases e : b = G
  · rw [if_pos e] at hq; cases hq
  rw [if_neg e] at hq
  by_cases e2 : (hb.get? b).isSome = true
  · rw [if_pos e2] at hq; cases hq
  rw [if_neg e2] at hq
  cases ho : h.get? b with
  | none => rw [ho] at hq; cases hq
  | some o =>
    rw [ho] at hq
    obtain rfl : (b, o) = p := by simpa using hq
    exact ⟨ho, e, by simpa using e2⟩
theorem allBut_mem {h hb : Heap} {G b : Addr} {o : Obj} (e : h.get? b = some o) (n : b ≠ G) (e2 : hb.get? b = none) : (b, o) ∈ allBut h hb G :=
  List.mem_filterMap.mpr ⟨b, List.mem_range.mpr (Heap.lt_size e), by rw [if_neg n, if_neg (by simp [e2]), e]; rfl⟩
theorem only_of {h hb h' : Heap} {G : Addr} {m m' : Str → Option Value} (F : Fr hb G h m) (F' : Fr hb G h' m') (N' : News hb G h' (allBut h hb G)) (b : Addr) (o : Obj) (n : b ≠ G) (e : h.get? b = some o) : h'.get? b = some o := by
  cases q : hb.get? b with
  | none => exact (N' _ (allBut_mem e n q)).1
  | some o' =>
    have := F.keep _ _ q
    rw [e] at this
    cases this
    exact F'.keep _ _ q

/-- what the generator yields, of the whole list `all` -/
noncomputable def YG (hb : Heap) (G : Addr) (all : List Str) : Protocol := fun n s₀ v s' kap => (∃ t, v = .str (all.getD (all.length - (n + 1)) ⟨#[]⟩) t) ∧ OnlyG G s₀ s' ∧ ∃ m, Fr hb G s'.heap m ∧ ∀ s'', Fr hb G s''.heap m → kap (.send .none) s''
noncomputable def RG (G : Addr) : GenEnd := fun n s₀ r s₁ => r = .ok (.ret .none) ∧ (n = 0 ∧ OnlyG G s₀ s₁)

/-- a walk of a piece, in the generator's frame -/
noncomputable def Piece (prog : Program) (w : World) (d u : Nat) (hb : Heap) (G : Addr) {α : Type} (t : Sem α) (m : Str → Option Value) (P : α → (Str → Option Value) → Prop) : Prop :=
  ∀ s, Fr hb G s.heap m → wpAny (model prog w) (aN d u) t (fun a s' => ∃ m', P a m' ∧ Fr hb G s'.heap m' ∧ OnlyG G s s') NoE s
theorem piece_of {prog : Program} {w : World} {d u : Nat} {hb : Heap} {G : Addr} {α : Type} {t : Sem α} {m : Str → Option Value} {P : α → (Str → Option Value) → Prop}
    (h : ∀ s news, Fr hb G s.heap m → News hb G s.heap news → ∀ Q : α → Shared → Prop, (∀ a m' h' tk led, P a m' → Fr hb G h' m' → News hb G h' (led ++ news) → Q a { s with heap := h', toks := tk }) → wpAny (model prog w) (aN d u) t Q NoE s) : Piece prog w d u hb G t m P :=
  fun s F => h s _ F (allBut_news s.heap hb G) _ fun a m' h' tk led p F' N' => ⟨m', p, F', h', tk, rfl, only_of F F' fun q hq => N' q (List.mem_append_right _ hq)⟩

/-- the ancestors of a path, the nearest first -/
noncomputable def Anc (next : Str → Str) (bare : Str → Bool) : Str → List Str → Prop
  | q, [] => bare q = true
  | q, y :: r => y = q ∧ bare q = false ∧ Anc next bare (next q) r

section
variable {prog : Program} {w : World} {A : Around} {hb : Heap} {G : Addr} {all : List Str} {env : Env} {test e : Expr} {a0 a1 : Stmt} {yp ep wp : Pos} {next : Str → Str} {bare : Str → Bool} {d u : Nat}

noncomputable def retK (K : Flow → Sem Fin) (H : Value → Sem Fin) (gd : Bool → Bool) (lv : List Value → List Value) (env : Env) : Result → Sem Fin :=
  fun r => ((match r with | .ok f => (.pure f : Sem Flow) | .error e => .raise e).onRaise fun (x : Value) => do
        if (← field x 1) == Value.none then unsupported "frame.own-activation:exception-without-traceback"
        setFlight x env.frame).wrap K H gd lv

theorem gen_loop (hA : A.handled = none) (hd : A.depth + 10 ≤ d) (hu : A.units + 30 ≤ u) (hco : env.scope.isCoroutine = false) (hi : interactive env = false)
    (K : Flow → Sem Fin) (H : Value → Sem Fin) (gd : Bool → Bool) (lv lv' : List Value → List Value) (body : List Stmt) (p : Pos)
    (hgd : gd false = false)
    (ok : (Str → Option Value) → Str → Prop) (lim : Str → Prop) (hlim : ∀ q, lim q → lim (next q))
    (htest : ∀ m q, ok m q → lim q → Piece prog w d u hb G (isTrue test env (eval test env)) m (fun b m' => b = !bare q ∧ m' = m))
    (hval : ∀ m q, ok m q → lim q → Piece prog w d u hb G (eval e env) m (fun v m' => (∃ t, v = .str q t) ∧ m' = m))
    (hstep : ∀ m q, ok m q → lim q → Piece prog w d u hb G (exec a1 env) m (fun f m' => f = .next ∧ ok m' (next q)))
    (hend : ∀ s₀ s, OnlyG G s₀ s → Seg (model prog w) A (RG G) (YG hb G all) 0 s₀ (.func body env) (retK K H gd lv env (.ok .next)) [] s) :
    ∀ (rest : List Str) (q : Str) (pre : List Str) (m : Str → Option Value) (s₀ s : Shared), all = pre ++ rest → Anc next bare q rest → lim q → ok m q → Fr hb G s.heap m → OnlyG G s₀ s →
      Seg (model prog w) A (RG G) (YG hb G all) rest.length s₀ (.whileLoop test [.Expr (.Yield (some e) yp) ep, a1] [] env) ((model prog w).den (.whileLoop test [.Expr (.Yield (some e) yp) ep, a1] [] env))
        [.ret (retK K H gd lv env) none (gd false) (lv' []) (.func body env) p []] s := by
  have hov : ∀ {α : Type} {t : Sem α} {Q : α → Shared → Prop} {E : Value → Shared → Prop} {s : Shared}, wpAny (model prog w) (aN d u) t Q NoE s →
      wpAny (model prog w) (A.over (.whileLoop test [.Expr (.Yield (some e) yp) ep, a1] [] env) [.ret (retK K H gd lv env) none (gd false) (lv' []) (.func body env) p []]) t Q E s := by
    intro α t Q E s h
    refine wp_noE (wpAny_ofN h ?_ ?_ ?_)
    · show (marksOver _ _).1 = none
      rw [hA]; rfl
    · show A.depth + frameCount _ + _ ≤ d
      have e1 : frameCount ([Frame.ret (retK K H gd lv env) none (gd false) (lv' []) (Code.func body env) p []].map Frame.where_) = 1 := rfl
      have e2 : (Code.whileLoop test [.Expr (.Yield (some e) yp) ep, a1] [] env).weight = 0 := rfl
      omega
    · show A.units + unitsOf _ + _ ≤ u
      have e1 : unitsOf ([Frame.ret (retK K H gd lv env) none (gd false) (lv' []) (Code.func body env) p []].map Frame.where_) = 3 := rfl
      have e2 : (Code.whileLoop test [.Expr (.Yield (some e) yp) ep, a1] [] env).cUnits = 0 := rfl
      omega
  intro rest
  induction rest with
  | nil =>
    intro q pre m s₀ s hall hanc hl hok F O
    have hb0 : bare q = true := hanc
    refine seg_whileLoop (hov (wpAny_mono (htest m q hok hl s F) (fun b s' ⟨m', ⟨hbq, _⟩, F', O'⟩ => ?_) fun _ _ x => x))
    have hbf : b = false := by rw [hbq, hb0]; rfl
    subst hbf
    rw [if_neg Bool.false_ne_true]
    refine seg_execs_nil ?_
    exact seg_leaf (r := .ok .next) (hend s₀ s' (O.trans O'))
  | cons y rest ih =>
    intro q pre m s₀ s hall hanc hl hok F O
    obtain ⟨rfl, hb0, hanc'⟩ := hanc
    refine seg_whileLoop (hov (wpAny_mono (htest m y hok hl s F) (fun b s' ⟨m', ⟨hbq, hm'⟩, F', O'⟩ => ?_) fun _ _ x => x))
    subst hm'
    have hbt : b = true := by rw [hbq, hb0]; rfl
    subst hbt
    rw [if_pos rfl]
    refine seg_execs_cons ?_
    refine seg_Expr_Yield rfl rfl (by simp [Frame.guarded, hgd]) (hov (wpAny_mono (hval m' y hok hl s' F') (fun v s2 ⟨m2, ⟨⟨t, hv⟩, hm2⟩, F2, O2⟩ => ?_) fun _ _ x => x)) hco hi
    subst hm2 hv
    intro kap hk
    refine ⟨⟨t, ?_⟩, (O.trans O').trans O2, m2, F2, fun s'' F3 => hk .none s'' ?_⟩
    · rw [hall]
      have : (pre ++ y :: rest).length - (rest.length + 1) = pre.length := by simp
      rw [this]
      congr 1
      simp
    · show Seg _ _ _ _ _ _ _ _ _ _
      refine seg_execs_cons (seg_wrap (hov (wpAny_mono (hstep m2 y hok hl s'' F3) (fun f s3 ⟨m3, ⟨hf, hok3⟩, F4, O4⟩ => ?_) fun _ _ x => x)))
      subst hf
      refine seg_execs_nil ?_
      refine seg_again rfl ?_
      exact ih (next y) (pre ++ [y]) m3 s'' s3 (by simp [hall]) hanc' (hlim _ hl) hok3 F4 O4

theorem gen_goes (hA : A.handled = none) (hd : A.depth + 10 ≤ d) (hu : A.units + 30 ≤ u) (hco : env.scope.isCoroutine = false) (hi : interactive env = false)
    (ok : (Str → Option Value) → Str → Prop) (lim : Str → Prop) (hlim : ∀ q, lim q → lim (next q)) (q0 : Str) (m0 : Str → Option Value)
    (hstart : Piece prog w d u hb G (exec a0 env) m0 (fun f m' => f = .next ∧ ok m' q0))
    (htest : ∀ m q, ok m q → lim q → Piece prog w d u hb G (isTrue test env (eval test env)) m (fun b m' => b = !bare q ∧ m' = m))
    (hval : ∀ m q, ok m q → lim q → Piece prog w d u hb G (eval e env) m (fun v m' => (∃ t, v = .str q t) ∧ m' = m))
    (hstep : ∀ m q, ok m q → lim q → Piece prog w d u hb G (exec a1 env) m (fun f m' => f = .next ∧ ok m' (next q)))
    (hanc : Anc next bare q0 all) (hl : lim q0) (s : Shared) (F : Fr hb G s.heap m0) :
    (GenState.fresh (.func [a0, .While test [.Expr (.Yield (some e) yp) ep, a1] [] wp] env)).Goes (model prog w) A (RG G) (YG hb G all) all.length (.send .none) s := by
  have hov : ∀ {α : Type} {t : Sem α} {Q : α → Shared → Prop} {E : Value → Shared → Prop} {s : Shared}, wpAny (model prog w) (aN d u) t Q NoE s →
      wpAny (model prog w) (A.over (.func [a0, .While test [.Expr (.Yield (some e) yp) ep, a1] [] wp] env) []) t Q E s := by
    intro α t Q E s h
    refine wp_noE (wpAny_ofN h ?_ ?_ ?_)
    · show (marksOver _ _).1 = none
      rw [hA]; rfl
    · show A.depth + frameCount _ + _ ≤ d
      have e1 : frameCount (([] : List Frame).map Frame.where_) = 0 := rfl
      have e2 : (Code.func [a0, .While test [.Expr (.Yield (some e) yp) ep, a1] [] wp] env).weight = 1 := rfl
      omega
    · show A.units + unitsOf _ + _ ≤ u
      have e1 : unitsOf (([] : List Frame).map Frame.where_) = 0 := rfl
      have e2 : (Code.func [a0, .While test [.Expr (.Yield (some e) yp) ep, a1] [] wp] env).cUnits = 3 := rfl
      omega
  refine ⟨rfl, seg_func (seg_execs_cons (seg_wrap (hov (wpAny_mono (hstart s F) (fun f s1 ⟨m1, ⟨hf, hok⟩, F1, O1⟩ => ?_) fun _ _ x => x))))⟩
  subst hf
  refine seg_execs_cons (seg_While fun p => ?_)
  refine gen_loop hA hd hu hco hi _ _ _ _ _ _ p rfl ok lim hlim htest hval hstep (fun s₀ s' O => ?_) all q0 [] m1 s s1 rfl hanc hl hok F1 O1
  exact seg_end (r := .ok (.ret .none)) ⟨rfl, rfl, O⟩
end
end Mine
end

section
open PySem PySem.W PyProof.Rows PySem.Calls PyProof.V
set_option maxRecDepth 100000
namespace Mine
section
variable {prog : Program} {w : World} {A : Around} {E : Value → Shared → Prop} {s : Shared} {hb : Heap} {G : Addr} {all : List Str}
/-- next(it) of a generator -/
theorem next_gen {a : Addr} {g n d u : Nat} {gs : GenState} {Q : Value → Shared → Prop} (hh : A.handled = none) (hd : A.depth ≤ d) (hu : A.units + 2 ≤ u)
    (hl : s.heap.NoLimit) (hroom : A.depth < recursionLimit) (hg : s.heap.IsGen a g) (hgs : s.gens[g]? = some gs)
    (hgo : gs.Goes (model prog w) (aN d u) (RG G) (YG hb G all) n (.send .none) (s.setGen g .running))
    (hY : ∀ v s₁ gs', gs'.bare = true → YG hb G all (n - 1) (s.setGen g .running) v s₁ (fun r' s'' => match n with
        | 0 => False
        | m + 1 => gs'.Goes (model prog w) (aN d u) (RG G) (YG hb G all) m r' s'') → Q v (s₁.setGen g gs'))
    (hP : ∀ s₁, n = 0 → OnlyG G (s.setGen g .running) s₁ → ∀ h' e, Heap.MadeExcOf s₁.heap h' e (.type "StopIteration") [] → E (.ref e) { s₁.setGen g .finished with heap := h' }) :
    wpAny (model prog w) A (call (.builtin "next") [.ref a]) Q E s := by
  refine call_function_entry (by decide +kernel) (by decide +kernel) kdk_entry_next (kdk_args_next _) ?_
  unfold Builtin.«next»
  refine wpAny_bind (m := someArgs "next" 1 2 _) (wpAny_of_eq (a := [Value.ref a]) (by first | rfl | kernel_rfl!) ?_)
  dsimp only
  refine wpAny_bind (wpAny_specialOf (name := Str.ofString "__next__") hg.typeIs slot_gen_next.lookup ?_)
  refine wpAny_ite_split (fun hab => absurd hab (by decide)) (fun _ => ?_)
  refine wpAny_bind (wpAny_callSpecial?_slot (name := Str.ofString "__next__") hg.typeIs slot_gen_next (wpAny_call_entry slot_gen_next hg.typeIs entry_gen_next ?_ (args_gen_next _)))
  show wpAny _ _ (Builtin.Generator.genWake (.ref a) (.send .none)) _ _ s
  unfold Builtin.Generator.genWake
  refine wpAny_bind (wpAny_holding (wpAny_genNumber hg (wpAny_bind (wpAny_genState hgs ?_))))
  cases gs with
  | running => exact hgo.elim
  | finished => exact hgo.elim
  | _ =>
    refine wpAny_bind (wpAny_roomToWake hl hroom ?_)
    show wpAny _ _ (.resume g (.send .none) [] _) _ _ s
    refine wpAny_ofN (d := d) (u := u) ?_ hh (by exact hd) (by first | exact hu | (show A.units + 1 + 1 ≤ u; omega))
    refine wpAny_resumeQ hgs hgo (fun x s₁ hx => ?_) (fun v s₁ gs' hbare hv => ?_)
    · obtain ⟨rfl, hn, ho⟩ := hx
      show wpAny _ _ (newExc (.type "StopIteration") [] >>= _) _ _ _
      refine wpAny_bind ?_
      simp only [newExc, newTuple]
      refine wpAny_bind (wpAny_newObj_type ?_ (by size_fits))
      refine wpAny_bind (m := firstArgMember _ _) (wpAny_of_eq (a := Value.none) (by first | rfl | (simp only [firstArgMember]; rfl)) ?_)
      refine wpAny_newObj_type ?_ (by size_fits)
      simp only [raiseNew]
      refine wpAny_bind (wpAny_bind (wpAny_handled ?_))
      refine wpAny_throw ?_
      exact hP s₁ hn ho _ _ ⟨fun b o e => Heap.get?_push_of_some _ (Heap.get?_push_of_some _ e), Heap.get?_none_of_le (by rw [Heap.size_push]; exact Nat.le_succ _), _, Heap.get?_push_size _ rfl, Heap.get?_none_of_le (Nat.le_refl _), Heap.get?_push_of_some _ (Heap.get?_push_size _ rfl)⟩
    · exact wpAny_pure ⟨v, rfl, wpAny_pure ⟨_, rfl, hY v s₁ gs' hbare hv⟩⟩
end
end Mine
end

section
open PySem PySem.W PyProof.Rows
namespace Mine
noncomputable abbrev slash : Str := Str.ofString "/"
noncomputable def hd0 (x : Str) : Str := Txt.slice x none (some (Txt.rfind x slash + 1))
noncomputable def tailOf (x : Str) : Str := Txt.slice x (some (Txt.rfind x slash + 1)) none
noncomputable def headOf (x : Str) : Str := if (hd0 x).length ≠ 0 ∧ (hd0 x != Txt.mul slash (hd0 x).length) = true then Txt.rstripChars (hd0 x) slash else hd0 x
theorem headOf_len (x : Str) (h : (hd0 x).length ≤ x.length) : (headOf x).length ≤ x.length := by
  unfold headOf
  split
  · exact Nat.le_trans (len_rstripChars _ _) h
  · exact h
noncomputable def bareOf (x : Str) : Bool := (Txt.rstripChars x slash).length == 0
theorem keep1_1 {x d1 : Addr × Obj} {l : List (Addr × Obj)} : ∀ p ∈ x :: l, p ∈ x :: d1 :: l := fun p hp => by
  rcases List.mem_cons.mp hp with rfl | hp
  · exact .head _
  · exact .tail _ (.tail _ hp)
theorem head_a {x : Str} (h : ((hd0 x).length : Int) ≠ 0) (h2 : (hd0 x != Txt.mul slash (hd0 x).length) = true) : headOf x = Txt.rstripChars (hd0 x) slash := if_pos ⟨fun q => h (congrArg Int.ofNat q), h2⟩
theorem head_b {x : Str} (h2 : (hd0 x != Txt.mul slash (hd0 x).length) = false) : headOf x = hd0 x := if_neg fun q => by rw [h2] at q; exact absurd q.2 Bool.false_ne_true
theorem head_c {x : Str} (h : ((hd0 x).length : Int) = 0) : headOf x = hd0 x := if_neg fun q => q.1 (Int.ofNat.inj h)
theorem bare_ne (q : Str) : (((Txt.rstripChars q slash).length : Int) != 0) = !bareOf q := by
  unfold bareOf
  cases h : (Txt.rstripChars q slash).length with
  | zero => rfl
  | succ n => simp; omega
theorem hd0_len (x : Str) : (hd0 x).length ≤ x.length := by
  obtain ⟨f1, f2⟩ := fact_slice_ns x (Txt.rfind x slash + 1)
  have h0 : 0 ≤ Txt.rfind x slash + 1 := by rcases rfind_whole x slash with ⟨h, _⟩ | ⟨i, h, _⟩ <;> rw [h] <;> omega
  unfold hd0
  by_cases h : Txt.rfind x slash + 1 ≤ (x.length : Int)
  · have := f1 h0 h
    omega
  · have := f2 (by omega)
    omega
end Mine
end

section
open PySem PySem.W PyProof.Rows PySem.Calls PyProof.V
set_option maxRecDepth 100000
namespace Mine
noncomputable abbrev genObj (g : Nat) (nm qn : Str) (t1 t2 : Tok) : Obj := { cls := .type "generator", data := .fields #[.int g 0, .str nm t1, .str qn t2] }
theorem genObj_isGen {h : Heap} {a : Addr} {g : Nat} {nm qn : Str} {t1 t2 : Tok} (e : h.get? a = some (genObj g nm qn t1 t2)) : h.IsGen a g := ⟨_, _, _, e, rfl, rfl, rfl⟩
noncomputable abbrev islObj (d : Addr) (it : Value) (cnt nxt stop step : Int) (t1 t2 t3 t4 : Tok) : Obj := { cls := .ref 68, dict := some d, data := .plain, slots := #[some (.int cnt t1), some it, some (.int nxt t2), some (.int step t3), some (.int stop t4)] }
theorem GR.push {a : Array GenState} {g : GenState} (h : g.bare = true) : GR a (a.push g) := ⟨fun x y hy => by
  rcases Array.mem_push.mp hy with hy | rfl
  · exact x y hy
  · exact h, fun i g' e => by rw [Array.getElem?_push, if_neg (Nat.ne_of_lt (Array.getElem?_eq_some_iff.mp e).1)]; exact e⟩
/-- the frame object of a generator that stands still -/
noncomputable def FrObj (G : Addr) (o : Obj) (m : Str → Option Value) : Prop := ∀ h : Heap, h.get? G = some o → h.Ns G m
theorem frObj_of {h : Heap} {G : Addr} {m : Str → Option Value} (x : h.Ns G m) : ∃ o, h.get? G = some o ∧ FrObj G o m := by
  obtain ⟨o, es, ep, ho, hd, hk, hf⟩ := x
  exact ⟨o, ho, fun h' e => ⟨o, es, ep, e, hd, hk, hf⟩⟩

section
variable {prog : Program} {w : World} {A : Around} {s : Shared} {h₀ : Heap} {L : Addr} {m : Str → Option Value} {news : List (Addr × Obj)} {K : Frag} {Q E : Value → Shared → Prop}
  {name qual : Str} {params : Arguments} {body : List Stmt} {scope : Scope} {dV kV doc pm cdv ct oc : Value} {an od : Option Addr} {osl : Array (Option Value)} {f : Addr} {args : List Value} {binds : List (Str × Value)}
  {p : Program} {loose : List Str} {mean : ExcName → Option Value} {mg mb : Str → Option Value}

theorem gen_call (F : Fr h₀ L s.heap m) (X₀ : K.In h₀) (N : News h₀ L s.heap news) (T : Top p loose mean mg mb h₀)
    (ho : K.lookup f = some ⟨oc, od, .func (fnOf name qual params body scope dV kV doc pm an cdv ct), osl⟩) (hcd : codeIn K cdv qual = true) (hroom : A.depth < recursionLimit)
    (hbind : BindsTo s (fnOf name qual params body scope dV kV doc pm an cdv ct) ⟨args, []⟩ binds) (hloc : ∀ y ∈ binds, scope.names.lookup y.1 = some .local)
    (h : ∀ GL G h' tk oGL t1 t2, Fr h₀ L h' m → News h₀ L h' ((G, genObj s.gens.size name qual t1 t2) :: (GL, oGL) :: news) → (∀ p ∈ news, p.1 < GL) → GL < G → h₀.objs.size ≤ GL → FrObj GL oGL (fun y => binds.reverse.lookup y) →
      Q (.ref G) { s with gens := s.gens.push (.fresh (.func body (envOf qual scope GL f cdv))), heap := h', toks := tk })
    (hco : scope.isCoroutine = false) (hgen : scope.isGenerator = true) (hk : scope.kind = .function)
    (hcell : ∀ x ∈ scope.names, x.2 ≠ .cell) : wpAny (model prog w) A (call (.ref f) args) Q E s := by
  refine wpAny_call ?_
  refine codeAny_call_generator (fd := fnOf name qual params body scope dV kV doc pm an cdv ct) hroom ((X₀.keeps F.keep) _ _ ho) rfl hco hgen rfl (codeRec_of (X₀.keeps F.keep) hcd) (hbind _ _ _ _ ?_)
  refine wpAny_newFunctionEnv hcell hloc (fun h₁ hns hsb => ⟨(T.nolimit.keeps F.keep).fresh _ hsb, ?_⟩) hk
  have k1 : ∀ b o, s.heap.get? b = some o → h₁.get? b = some o := fun b o e => hsb.extBut b o (Nat.ne_of_lt (Heap.lt_size e)) (Heap.get?_push_of_some _ e)
  have hsz : h₁.objs.size = s.heap.objs.size + 1 := by rw [hsb.1, Heap.size_push]
  obtain ⟨oGL, hGL, hfo⟩ := frObj_of hns
  have F₁ : Fr h₀ L h₁ m := F.keeps k1
  have N₁ : News h₀ L h₁ ((s.heap.objs.size, oGL) :: news) := news_pushed F N k1 hGL rfl
  have N₂ := News.push F₁ N₁ (genObj s.gens.size name qual (s.toks + binds.length) (s.toks + binds.length + 1)) rfl
  exact h s.heap.objs.size h₁.objs.size _ _ oGL _ _ (F₁.push _) N₂ (fun p hp => Heap.lt_size (N p hp).1) (by rw [hsz]; exact Nat.lt_succ_self _) (Nat.le_of_lt (Nat.lt_of_le_of_lt F.above F.ns.lt)) hfo

theorem iter_call {v : Value} (h : wpAny (model prog w) A.in1 (pyIter v) Q E s) : wpAny (model prog w) A (call (.builtin "iter") [v]) Q E s := by
  refine call_function_entry (by decide +kernel) (by decide +kernel) kdk_entry_iter (kdk_args_iter _) ?_
  unfold Builtin.«iter»
  refine wpAny_bind (m := someArgs "iter" 1 2 _) (wpAny_of_eq (a := [v]) (by first | rfl | kernel_rfl!) ?_)
  show wpAny _ _ (pyIter v >>= _) _ _ _
  exact wpAny_bind (wpAny_mono h (fun r s' hq => wpAny_pure ⟨_, rfl, hq⟩) fun _ _ x => x)
theorem iter_gen {a : Addr} {g : Nat} {nm qn : Str} {t1 t2 : Tok} (N : News h₀ L s.heap news) (hm : (a, genObj g nm qn t1 t2) ∈ news) (h : Q (.ref a) s) : wpAny (model prog w) A (call (.builtin "iter") [.ref a]) Q E s :=
  iter_call (wpAny_pyIter_gen (genObj_isGen (N _ hm).1) h)
end
end Mine
end

section
open PySem PySem.W PyProof.Rows
set_option maxRecDepth 100000
namespace Mine
noncomputable abbrev PROG : Program := PySem.Challenge.rw_ij0017_01.row.prog
noncomputable def GoesAt (w : World) (hb : Heap) (GL : Addr) (all : List Str) (gs : GenState) (k : Nat) (mG : Str → Option Value) : Prop :=
  ∀ s', Fr hb GL s'.heap mG → gs.Goes (model PROG w) (aN 900 9700) (RG GL) (YG hb GL all) k (.send .none) s'
/-- one generator's state is another, the others' are the same -/
noncomputable def GSet (g : Nat) (gs : GenState) (a b : Array GenState) : Prop := b[g]? = some gs ∧ ∀ i, i ≠ g → b[i]? = a[i]?
theorem gset_of (s s₁ : Shared) {g : Nat} {gs x : GenState} (hg : s.gens[g]? = some x) (y : GenState) (e : s₁.gens = (s.setGen g y).gens) : GSet g gs s.gens (s₁.setGen g gs).gens := by
  obtain ⟨hh, ge, d, tk, os⟩ := s
  obtain ⟨hh', ge', d', tk', os'⟩ := s₁
  dsimp only at e hg
  subst e
  refine ⟨?_, fun i hi => ?_⟩
  · exact setGen_self (gs := y) (setGen_self hg)
  · simp [Shared.setGen, Array.getElem?_setIfInBounds, Array.getElem?_modify, Ne.symm hi]
section
variable {w : World} {A : Around} {E : Value → Shared → Prop} {s : Shared} {hb g0 : Heap} {NL GL G : Addr} {all : List Str} {m mG : Str → Option Value} {news : List (Addr × Obj)} {gf : Obj → List (Addr × Obj)} {oGL : Obj} {g k : Nat} {nm qn : Str} {t1 t2 : Tok} {gs : GenState} {Q : Value → Shared → Prop}

theorem pull_item (hh : A.handled = none) (hd : A.depth ≤ 900) (hu : A.units + 2 ≤ 9700) (F : Fr g0 NL s.heap m) (N : News g0 NL s.heap news) (hl : g0.NoLimit)
    (U : UpdF GL oGL news gf) (hG : (G, genObj g nm qn t1 t2) ∈ news) (hgs : s.gens[g]? = some gs) (hfo : FrObj GL oGL mG) (hkeep : ∀ b o, hb.get? b = some o → g0.get? b = some o) (hsz : hb.objs.size ≤ GL)
    (hgo : GoesAt w hb GL all gs (k + 1) mG)
    (h : ∀ h' tk oGL' mG' gs' gens' t, gs'.bare = true → FrObj GL oGL' mG' → GoesAt w hb GL all gs' k mG' → GSet g gs' s.gens gens' → Fr g0 NL h' m → News g0 NL h' (gf oGL') →
      Q (.str (all.getD (all.length - (k + 1)) ⟨#[]⟩) t) { s with gens := gens', heap := h', toks := tk }) :
    wpAny (model PROG w) A (call (.builtin "next") [.ref G]) Q E s := by
  obtain ⟨pre, post, hlist, hg, a, b⟩ := U.split
  have hmem := N (GL, oGL) (by rw [hlist]; exact List.mem_append_right _ (.head _))
  have F0 : Fr hb GL s.heap mG := ⟨hfo _ hmem.1, fun b o e => F.keep b o (hkeep b o e), hsz⟩
  refine next_gen (hb := hb) (G := GL) (all := all) (n := k + 1) hh hd hu (hl.keeps F.keep) (Nat.lt_of_le_of_lt hd (by decide)) (genObj_isGen (N _ hG).1) hgs (hgo _ F0) (fun v s₁ gs' hbare hY => ?_) (fun s₁ h0 => absurd h0 (Nat.succ_ne_zero k))
  obtain ⟨⟨t, rfl⟩, ⟨h', tk, rfl, hk⟩, mG', F', hkap⟩ := hY
  obtain ⟨oGL', hoGL', hfo'⟩ := frObj_of F'.ns
  have hsb : ∀ b o, b ≠ GL → s.heap.get? b = some o → h'.get? b = some o := hk
  refine h h' tk oGL' mG' gs' _ t hbare hfo' (fun s'' F'' => hkap s'' F'') (gset_of s _ hgs _ rfl) ⟨F.ns.at' fun o e => hsb _ _ (Ne.symm hmem.2.1) e, fun b o e => hsb b o (fun q => ?_) (F.keep b o e), F.above⟩ ?_
  · rw [q, hmem.2.2] at e; cases e
  · rw [hg]
    intro p hp
    rcases List.mem_append.mp hp with hp | hp
    · have hq := N p (by rw [hlist]; exact List.mem_append_left _ hp)
      exact ⟨hsb _ _ (a p hp) hq.1, hq.2⟩
    rcases List.mem_cons.mp hp with rfl | hp
    · exact ⟨hoGL', hmem.2⟩
    · have hq := N p (by rw [hlist]; exact List.mem_append_right _ (.tail _ hp))
      exact ⟨hsb _ _ (b p hp) hq.1, hq.2⟩

theorem pull_stop (hh : A.handled = none) (hd : A.depth ≤ 900) (hu : A.units + 2 ≤ 9700) (F : Fr g0 NL s.heap m) (N : News g0 NL s.heap news) (hl : g0.NoLimit)
    (hGL : (GL, oGL) ∈ news) (hG : (G, genObj g nm qn t1 t2) ∈ news) (hgs : s.gens[g]? = some gs) (hfo : FrObj GL oGL mG) (hkeep : ∀ b o, hb.get? b = some o → g0.get? b = some o) (hsz : hb.objs.size ≤ GL)
    (hgo : GoesAt w hb GL all gs 0 mG)
    (h : ∀ h1 tk h' e gens', GSet g .finished s.gens gens' → (∀ b o, b ≠ GL → s.heap.get? b = some o → h1.get? b = some o) → Heap.MadeExcOf h1 h' e (.type "StopIteration") [] → E (.ref e) { s with gens := gens', heap := h', toks := tk }) :
    wpAny (model PROG w) A (call (.builtin "next") [.ref G]) Q E s := by
  have hmem := N (GL, oGL) hGL
  have F0 : Fr hb GL s.heap mG := ⟨hfo _ hmem.1, fun b o e => F.keep b o (hkeep b o e), hsz⟩
  refine next_gen (hb := hb) (G := GL) (all := all) (n := 0) hh hd hu (hl.keeps F.keep) (Nat.lt_of_le_of_lt hd (by decide)) (genObj_isGen (N _ hG).1) hgs (hgo _ F0) (fun v s₁ gs' hbare hY => ?_) (fun s₁ _ ho h' e hx => ?_)
  · obtain ⟨_, _, mG', F', hkap⟩ := hY
    exact (hkap s₁ F').elim
  · obtain ⟨h1, tk, rfl, hk⟩ := ho
    exact h h1 tk h' e _ (gset_of s _ hgs _ rfl) hk hx
end
end Mine
end

section
open PySem PySem.W PyProof.Rows
set_option maxRecDepth 100000
namespace Mine
/-- an exception with its first trace entry -/
noncomputable def ExAt (h : Heap) (e T : Addr) (fl : Value) : Prop :=
  ∃ oe vs oT ts, h.get? e = some oe ∧ oe.cls = .type "StopIteration" ∧ oe.data = .fields vs ∧ vs[1]? = some (.ref T) ∧ T ≠ e ∧ h.get? T = some oT ∧ oT.data = .fields ts ∧ ts[3]? = some fl
/-- the frames `fs` up to their slots, all else as it was -/
noncomputable def Grown (fs : List Addr) (h h' : Heap) : Prop :=
  (∀ b o, h.get? b = some o → b ∉ fs → h'.get? b = some o) ∧ ∀ b o, h.get? b = some o → b ∈ fs → ∃ sl, h'.get? b = some { o with slots := sl }
theorem Grown.of_keeps {fs : List Addr} {h h' : Heap} (k : ∀ b o, h.get? b = some o → h'.get? b = some o) : Grown fs h h' := ⟨fun b o e _ => k b o e, fun b o e _ => ⟨o.slots, k b o e⟩⟩
theorem Grown.trans {fs : List Addr} {a b c : Heap} (x : Grown fs a b) (y : Grown fs b c) : Grown fs a c :=
  ⟨fun i o e n => y.1 i o (x.1 i o e n) n, fun i o e m => by
    obtain ⟨s1, h1⟩ := x.2 i o e m
    obtain ⟨s2, h2⟩ := y.2 i _ h1 m
    exact ⟨s2, h2⟩⟩
theorem Grown.but {fs : List Addr} {T : Addr} {a b c : Heap} (x : Grown fs a b) (hT : a.get? T = none) (y : ∀ i o, i ≠ T → b.get? i = some o → c.get? i = some o) : Grown fs a c :=
  ⟨fun i o e n => y i o (fun q => by rw [q, hT] at e; cases e) (x.1 i o e n), fun i o e m => by
    obtain ⟨s1, h1⟩ := x.2 i o e m
    exact ⟨s1, y i _ (fun q => by rw [q, hT] at e; cases e) h1⟩⟩
theorem Grown.up {fs : List Addr} {h h' : Heap} (x : Grown fs h h') : h.UpToSlots h' := fun b o e _ => by
  by_cases m : b ∈ fs
  · exact x.2 b o e m
  · exact ⟨o.slots, x.1 b o e m⟩

section
variable {M : Model} {A : Around} {E : Value → Shared → Prop} {s : Shared} {e T L : Addr} {fl : Value}
theorem flight_at {fr : Option Addr} {Q : Unit → Shared → Prop} (hx : ExAt s.heap e T fl) (h : ∀ h', ExAt h' e T (fr.elim .none fun f => rawInt f) → (∀ b o, b ≠ T → s.heap.get? b = some o → h'.get? b = some o) → Q () { s with heap := h' }) :
    wpAny M A (setFlight (.ref e) fr) Q E s := by
  obtain ⟨oe, vs, oT, ts, he, hc, hd, h1, hTe, hT, hdT, h3⟩ := hx
  have hsz3 : 3 < ts.size := (Array.getElem?_eq_some_iff.mp h3).1
  have other : ∀ b, b ≠ T → (s.heap.update T (Obj.mapFields (·.setIfInBounds 3 (fr.elim Value.none fun f => rawInt f)))).get? b = s.heap.get? b :=
    fun b hb => Heap.get?_update_other _ _ (Ne.symm hb)
  unfold setFlight
  refine wpAny_bind (wpAny_field he hd h1 ?_)
  rw [if_pos (show (Value.ref T != Value.none) = true from by simp)]
  refine wpAny_setField hT hdT hsz3 (h _ ?_ fun b o hb e => (other b hb).trans e)
  exact ⟨oe, vs, _, _, (other e (Ne.symm hTe)).trans he, hc, hd, h1, hTe, Heap.get?_update_self _ hT (Obj.isFreed_of_fields (Obj.data_mapFields hdT _)), Obj.data_mapFields hdT _, by simp [hsz3]⟩
theorem note_again {env : Env} {Q : Unit → Shared → Prop} (hf : env.frame = some L) (hx : ExAt s.heap e T (rawInt L)) (h : Q () s) : wpAny M A (noteFrame (.ref e) env) Q E s := by
  obtain ⟨oe, vs, oT, ts, he, hc, hd, h1, hTe, hT, hdT, h3⟩ := hx
  unfold noteFrame
  simp only [hf]
  refine wpAny_bind (wpAny_field he hd h1 ?_)
  rw [if_pos (show (Value.ref T != Value.none) = true from by simp)]
  refine wpAny_bind (wpAny_field hT hdT h3 ?_)
  rw [if_pos (show (rawInt L == rawInt L) = true from by simp)]
  exact wpAny_pure h
theorem back_at {env : Env} {E' : Value → Shared → Prop} (hf : env.frame = some L) (hx : ExAt s.heap e T fl)
    (h : ∀ h', ExAt h' e T (rawInt L) → (∀ b o, b ≠ T → s.heap.get? b = some o → h'.get? b = some o) → E' (.ref e) { s with heap := h' }) : cameBackBy M A env E' (.ref e) s := by
  obtain ⟨oe, vs, oT, ts, he, hc, hd, h1, hTe, hT, hdT, h3⟩ := id hx
  unfold cameBackBy
  refine wpAny_bind (wpAny_field he hd h1 ?_)
  rw [if_neg (show ¬ ((Value.ref T == Value.none) = true) from by simp)]
  rw [hf]
  first
    | exact wpAny_bind (wpAny_pure (flight_at hx h))
    | exact flight_at hx h
theorem raise_bare {env : Env} {pos : Pos} {Q : Flow → Shared → Prop} (hh : A.handled = some (.ref e)) (hf : env.frame = some L) (hx : ExAt s.heap e T fl)
    (h : ∀ h', ExAt h' e T (rawInt L) → (∀ b o, b ≠ T → s.heap.get? b = some o → h'.get? b = some o) → E (.ref e) { s with heap := h' }) :
    wpAny M A (exec (.Raise none none pos) env) Q E s := by
  obtain ⟨oe, vs, oT, ts, he, hc, hd, h1, hTe, hT, hdT, h3⟩ := id hx
  show wpAny M A (do standAt pos; raiseStmt env none none) Q E s
  refine wpAny_bind (wpAny_standAt ?_)
  unfold raiseStmt
  dsimp only
  refine wpAny_bind (wpAny_handled ?_)
  rw [hh]
  dsimp only
  refine wpAny_bind (wpAny_rule ?_)
  refine wpAny_bind (wpAny_field he hd h1 ?_)
  rw [if_neg (show ¬ ((Value.ref T == Value.none) = true) from by simp), hf]
  first
    | exact wpAny_bind (wpAny_pure (wpAny_bind (flight_at hx fun h' a b => wpAny_throw (h h' a b))))
    | exact wpAny_bind (flight_at hx fun h' a b => wpAny_throw (h h' a b))
theorem leave_at {env : Env} {Q : Unit → Shared → Prop} (hf : env.frame = some L) (hx : ExAt s.heap e T (rawInt L)) (h : ∀ h', ExAt h' e T .none → (∀ b o, b ≠ T → s.heap.get? b = some o → h'.get? b = some o) → Q () { s with heap := h' }) :
    wpAny M A (leaving env (.ref e)) Q E s := by
  unfold leaving
  exact wpAny_bind (note_again hf hx (flight_at (fr := none) hx h))

theorem note_new {h : Heap} {env : Env} {outer : List Env} {b0 : Heap} {Q : Unit → Shared → Prop} (hfr : A.frames = some (env :: outer)) (hf : env.frame = some L) (hl : h.FunFrames b0 (env :: outer))
    (hx : Heap.MadeExcOf h s.heap e (.type "StopIteration") [])
    (k : ∀ h' T, ExAt h' e T (rawInt L) → h.get? T = none → Grown ((env :: outer).filterMap (·.frame)) h h' → Q () { s with heap := h' }) :
    wpAny M A (noteFrame (.ref e) env) Q E s := by
  have hin : ∀ env' ∈ (env :: outer), ∀ b, env'.frame = some b → b ∈ (env :: outer).filterMap (·.frame) := fun env' he b hb => List.mem_filterMap.mpr ⟨env', he, hb⟩
  obtain ⟨t, he, htn, ht⟩ := hx.there
  have hlB := funFrames_hide hl hin
  have st : (hideAll h ((env :: outer).filterMap (·.frame))).StaysIn s.heap := fun b o q => hx.keeps b o (of_hideAll _ q)
  have fresh : ∀ b, h.get? b = none → (hideAll h ((env :: outer).filterMap (·.frame))).get? b = none := fun b hb => by
    cases hq : (hideAll h ((env :: outer).filterMap (·.frame))).get? b with
    | none => rfl
    | some o' => have := of_hideAll _ hq; rw [hb] at this; cases this
  unfold noteFrame
  simp only [hf]
  have h1 : (#[Value.ref t, .none, .none, .none, .bool false, .none] : Array Value)[1]? = some Value.none := rfl
  refine wpAny_bind (wpAny_field he rfl h1 ?_)
  rw [if_neg (show ¬ ((Value.none != Value.none) = true) from by simp)]
  refine wpAny_entryW (a0 := .ref t) hfr (hlB.of_keeps fun b o hb _ => ⟨o, hx.keeps b o hb, rfl⟩) hf he st (fresh e hx.new) rfl (show 1 < 6 from by omega) rfl fun h' hN => ?_
  obtain ⟨k1, k2, ⟨oe, vs, T, oT, ts, a1, ⟨a2, _⟩, a3, a4, a5, a6, a7, a8, a9⟩, k4⟩ := hN
  have hTn : h.get? T = none := by
    cases hq : h.get? T with
    | none => rfl
    | some o =>
      by_cases hm : T ∈ (env :: outer).filterMap (·.frame)
      · obtain ⟨_, o', ho', hnf⟩ := k2.mem hm
        rw [a7] at ho'; cases ho'
        exact absurd a8 (hnf _)
      · have := hideAll_get _ hq hm
        rw [a5] at this; cases this
  refine k h' T ⟨oe, vs, oT, ts, a1, a2, a3, a4, a6, a7, a8, a9⟩ hTn ⟨fun b o eb n => k1 b o (hideAll_get _ eb n), fun b o eb hm => ?_⟩
  obtain ⟨_, o', ho', hnf⟩ := hl.mem hm
  rw [eb] at ho'; cases ho'
  exact k4 b o (hx.keeps b o eb) hnf
end

/-- the ground under a frame, behind a growth of the frames below it -/
theorem grown_ground {A₀ : Around} {base g G h' : Heap} {outer : List Env} {env : Env} {L : Addr} {m : Str → Option Value} (K : Below A₀ base outer g) (F : Fr g L G m) (hf : env.frame = some L) (Gr : Grown ((env :: outer).filterMap (·.frame)) G h') :
    ∃ g', KtsTurn (outer.filterMap (·.frame)) g g' ∧ Fr g' L h' m ∧ Below A₀ base outer g' := by
  have e1 : (env :: outer).filterMap (·.frame) = (envOf ⟨#[]⟩ ⟨.function, [], false, false, []⟩ L 0 .none :: outer).filterMap (·.frame) := by
    rw [List.filterMap_cons, List.filterMap_cons, hf]; rfl
  rw [e1] at Gr
  exact kts_ground (name := ⟨#[]⟩) (scope := ⟨.function, [], false, false, []⟩) (a := 0) (cd := .none) (B := hideAll G _) K F (fun b o e n => hideAll_get _ e n) (fun b o e => Gr.1 b o (of_hideAll _ e) fun m => by
    rw [hideAll_none _ m] at e; cases e) Gr.up

theorem news_grown {A₀ : Around} {base g g' h1 h' : Heap} {outer : List Env} {env : Env} {L : Addr} {m : Str → Option Value} {led : List (Addr × Obj)} (K : Below A₀ base outer g) (F : Fr g L h1 m) (N : News g L h1 led) (hf : env.frame = some L)
    (Gr : Grown ((env :: outer).filterMap (·.frame)) h1 h') (T : KtsTurn (outer.filterMap (·.frame)) g g') : News g' L h' led := fun p hp => by
  have q := N p hp
  refine ⟨Gr.1 _ _ q.1 fun m => ?_, q.2.1, T.none_ _ q.2.2⟩
  rw [List.filterMap_cons, hf] at m
  rcases List.mem_cons.mp m with e | m
  · exact q.2.1 e
  · obtain ⟨_, o, ho, _⟩ := K.frames.mem m
    rw [q.2.2] at ho; cases ho
theorem ex_entries {g g' h1 h' : Heap} {fs : List Addr} {L e T : Addr} {fl : Value} {m m' : Str → Option Value} (F : Fr g L h1 m) (F' : Fr g' L h' m') (TT : KtsTurn fs g g') (hx : ExAt h' e T fl) (he : h1.get? e = none) (hT : h1.get? T = none) :
    ∃ oe oT, News g' L h' [(e, oe), (T, oT)] ∧ ∀ h'' : Heap, h''.get? e = some oe → h''.get? T = some oT → ExAt h'' e T fl := by
  obtain ⟨oe, vs, oT, ts, a1, a2, a3, a4, a5, a6, a7, a8⟩ := hx
  have up : ∀ b, h1.get? b = none → g'.get? b = none := fun b q => TT.none_ _ (by
    cases r : g.get? b with
    | none => rfl
    | some o => have := F.keep _ _ r; rw [q] at this; cases this)
  have nf : ∀ b o ws, h'.get? b = some o → o.data = .fields ws → b ≠ L := fun b o ws q r e => by
    obtain ⟨oL, es, ep, ho, hd, _⟩ := F'.ns
    rw [← e, q] at ho; cases ho
    rw [r] at hd; cases hd
  refine ⟨oe, oT, fun p hp => ?_, fun h'' q1 q2 => ⟨oe, vs, oT, ts, q1, a2, a3, a4, a5, q2, a7, a8⟩⟩
  rcases List.mem_cons.mp hp with rfl | hp
  · exact ⟨a1, nf _ _ _ a1 a3, up _ he⟩
  · rw [List.mem_singleton.mp hp]
    exact ⟨a6, nf _ _ _ a6 a7, up _ hT⟩
theorem News.app {h₀ h : Heap} {L : Addr} {a b : List (Addr × Obj)} (x : News h₀ L h a) (y : News h₀ L h b) : News h₀ L h (a ++ b) := fun p hp => (List.mem_append.mp hp).elim (x p) (y p)
/-- back in the caller's frame -/
theorem back_ground {A₀ : Around} {base h₀ g g' h' : Heap} {outer : List Env} {env : Env} {L : Addr} {m : Str → Option Value} {led : List (Addr × Obj)} (B : Below A₀ base outer h₀) (FG : Fr h₀ L g m) (hf : env.frame = some L)
    (T : KtsTurn ((env :: outer).filterMap (·.frame)) g g') (hs : g'.StaysIn h') (hl : ∀ p ∈ led, h'.get? p.1 = some p.2 ∧ g.get? p.1 = none) :
    ∃ h₀', KtsTurn (outer.filterMap (·.frame)) h₀ h₀' ∧ Below A₀ base outer h₀' ∧ Fr h₀' L h' m ∧ News h₀' L h' led := by
  have Gr : Grown ((env :: outer).filterMap (·.frame)) g h' := ⟨fun b o e n => hs _ _ (T.other b o e n), fun b o e n => by
    obtain ⟨sl, h1⟩ := T.frame b o e n
    exact ⟨sl, hs _ _ h1⟩⟩
  obtain ⟨h₀', T', F', B'⟩ := grown_ground B FG hf Gr
  refine ⟨h₀', T', B', F', fun p hp => ⟨(hl p hp).1, fun q => ?_, T'.none_ _ ?_⟩⟩
  · obtain ⟨oL, _, _, ho, _⟩ := FG.ns
    have := (hl p hp).2
    rw [q, ho] at this; cases this
  · cases r : h₀.get? p.1 with
    | none => rfl
    | some o => have := FG.keep _ _ r; rw [(hl p hp).2] at this; cases this
end Mine
end

section
open PySem PySem.W PyProof.Rows
set_option maxRecDepth 100000
namespace Mine
section
variable {prog : Program} {w : World} {A : Around} {E : Value → Shared → Prop} {s : Shared} {h₀ : Heap} {L : Addr} {m : Str → Option Value} {news : List (Addr × Obj)} {K : Frag} {x C dx fi S : Addr} {od : Obj} {sl : Array (Option Value)} {Q : Value → Shared → Prop} {R : Result → Shared → Prop}

/-- the list that is filled, ahead of the ledger -/
noncomputable def LSt (h₀ : Heap) (L : Addr) (m : Str → Option Value) (news : List (Addr × Obj)) (S : Addr) (acc : Array Value) (s s' : Shared) : Prop :=
  ∃ h tk c, s' = { s with heap := h, toks := tk } ∧ Fr h₀ L h m ∧ News h₀ L h ((S, listOf acc c) :: news)

theorem seq_news {h : Heap} {acc : Array Value} {c : Nat} (f : Array Value → Array Value) (hne : ∀ p ∈ news, p.1 ≠ S) (F : Fr h₀ L h m) (N : News h₀ L h ((S, listOf acc c) :: news)) :
    ∃ c', Fr h₀ L (h.update S (Obj.mapSeq f)) m ∧ News h₀ L (h.update S (Obj.mapSeq f)) ((S, listOf (f acc) c') :: news) := by
  have hS := (N _ (List.mem_cons_self ..))
  have hget := Heap.get?_update_self (Obj.mapSeq f) hS.1 rfl
  have oth : ∀ b o, b ≠ S → h.get? b = some o → (h.update S (Obj.mapSeq f)).get? b = some o := fun b o hb e => (Heap.get?_update_other _ _ (Ne.symm hb)).trans e
  have e : ∃ c', Obj.mapSeq f (listOf acc c) = listOf (f acc) c' := ⟨_, rfl⟩
  obtain ⟨c', e⟩ := e
  refine ⟨c', ⟨F.ns.at' fun o e => oth _ o (Ne.symm hS.2.1) e, fun b o e => oth b o (fun q => by have := hS.2.2; rw [← q, e] at this; cases this) (F.keep b o e), F.above⟩, fun p hp => ?_⟩
  rcases List.mem_cons.mp hp with rfl | hp
  · exact ⟨hget.trans (congrArg some e), hS.2⟩
  · have q := N p (.tail _ hp)
    exact ⟨oth _ _ (hne p hp) q.1, q.2⟩
theorem seq_upd0 {f : Array Value → Array Value} {acc : Array Value} {c : Nat} {Q : Unit → Shared → Prop} (hne : ∀ p ∈ news, p.1 ≠ S) (F : Fr h₀ L s.heap m) (N : News h₀ L s.heap ((S, listOf acc c) :: news))
    (h1 : acc.size ≤ sizeLine) (h2 : (f acc).size ≤ sizeLine + 1)
    (h : ∀ h' c', Fr h₀ L h' m → News h₀ L h' ((S, listOf (f acc) c') :: news) → Q () { s with heap := h' }) : wpAny (model prog w) A (updateSeq S f) Q E s := by
  obtain ⟨c', F', N'⟩ := seq_news f hne F N
  exact wpAny_updateSeq (N _ (List.mem_cons_self ..)).1 rfl (h _ c' F' N') h1 h2
theorem seq_upd {f : Array Value → Array Value} {acc : Array Value} {c : Nat} {α : Type} {k : Sem α} {Q : α → Shared → Prop} (hne : ∀ p ∈ news, p.1 ≠ S) (F : Fr h₀ L s.heap m) (N : News h₀ L s.heap ((S, listOf acc c) :: news))
    (h1 : acc.size ≤ sizeLine) (h2 : (f acc).size ≤ sizeLine + 1)
    (h : ∀ h' c', Fr h₀ L h' m → News h₀ L h' ((S, listOf (f acc) c') :: news) → wpAny (model prog w) A k Q E { s with heap := h' }) : wpAny (model prog w) A (updateSeq S f >>= fun _ => k) Q E s :=
  wpAny_bind (seq_upd0 hne F N h1 h2 h)

theorem ext_own_loop {res : Value} {n : Nat} (hn : n ≤ 1000) (St : Nat → Array Value → Shared → Prop)
    (item : ∀ i acc s, i < n → acc.size = i → St i acc s → wpAny (model prog w) A.in1 (pyNext (.ref x)) (fun r s' => ∃ v, r = some v ∧ wpAny (model prog w) A.in1 (updateSeq S (·.push v)) (fun _ s'' => St (i + 1) (acc.push v) s'') (fun e s' => R (.error e) s') s') (fun e s' => R (.error e) s') s)
    (done : ∀ acc s, acc.size = n → St n acc s → wpAny (model prog w) A.in1 (pyNext (.ref x)) (fun r s' => r = none ∧ R (.ok (.ret res)) s') (fun e s' => R (.error e) s') s) :
    ∀ (k i : Nat) (acc : Array Value) (s : Shared), n - i = k → i ≤ n → acc.size = i → St i acc s → codeAny (model prog w) A (.builtin "list.extend.loop" ⟨[.ref S, .ref x, res], []⟩) R s := by
  intro k
  induction k with
  | zero =>
    intro i acc s hk hi hsz hst
    have hin : i = n := by omega
    subst hin
    refine codeAny_builtin PySem.F.entry_extend_loop ?_
    rw [Around.under_plainId PySem.F.plain_extend_loop _]
    show wpAny _ A.in1 (pyNext (.ref x) >>= _) _ _ s
    refine wpAny_bind (wpAny_mono (done acc s hsz hst) (fun r s' hr => ?_) fun _ _ q => q)
    obtain ⟨rfl, hr⟩ := hr
    exact wpAny_pure hr
  | succ k ih =>
    intro i acc s hk hi hsz hst
    have hlt : i < n := by omega
    refine codeAny_builtin PySem.F.entry_extend_loop ?_
    rw [Around.under_plainId PySem.F.plain_extend_loop _]
    show wpAny _ A.in1 (pyNext (.ref x) >>= _) _ _ s
    refine wpAny_bind (wpAny_mono (item i acc s hlt hsz hst) (fun r s' hr => ?_) fun _ _ q => q)
    obtain ⟨v, rfl, hr⟩ := hr
    show wpAny _ A.in1 (updateSeq S (·.push v) >>= _) _ _ _
    refine wpAny_bind (wpAny_mono hr (fun _ s'' h'' => ?_) fun _ _ q => q)
    exact wpAny_pure ⟨plainId_quiet PySem.F.plain_extend_loop _, ih (i + 1) (acc.push v) s'' (by omega) hlt (by simp [hsz]) h''⟩

theorem list_own (F : Fr h₀ L s.heap m) (X₀ : K.In h₀) (N : News h₀ L s.heap news) (hmem : (x, (⟨.ref C, some dx, .plain, sl⟩ : Obj)) ∈ news) (hdx : (dx, od) ∈ news)
    (hi : findIn K (.ref C) "__iter__" = some (some (.ref fi))) (hfi : isFn K (.ref fi) = true) {gn : Value} (hn : findIn K (.ref C) "__next__" = some (some gn)) (hlen : findIn K (.ref C) "__len__" = some none) (hhint : findIn K (.ref C) "__length_hint__" = some none)
    (hit : ∀ S s', (∀ p ∈ news, p.1 < S) → LSt h₀ L m news S #[] s s' → wpAny (model prog w) A.in1.in1 (call (.ref fi) [.ref x]) (fun v s₁ => v = .ref x ∧ LSt h₀ L m news S #[] s s₁) NoE s')
    (hloop : ∀ S s', (∀ p ∈ news, p.1 < S) → LSt h₀ L m news S #[] s s' → codeAny (model prog w) A.in1 (.builtin "list.extend.loop" ⟨[.ref S, .ref x, .none], []⟩) (wants (fun r s₂ => r = .none ∧ Q (.ref S) s₂) E) s') :
    wpAny (model prog w) A (call (.type "list") [.ref x]) Q E s := by
  have hne : ∀ p ∈ news, p.1 ≠ s.heap.objs.size := fun p hp => Nat.ne_of_lt (Heap.lt_size (N p hp).1)
  refine callType_codes (Q₁ := fun obj s₁ => obj = .ref s.heap.objs.size ∧ s₁ = { s with heap := s.heap.push { cls := .type "list", data := .seq #[] } }) PySem.F.called_list (PySem.F.typeCall_list_1 _) PySem.F.entry_list_init
    (code_list_new _ ⟨rfl, rfl⟩) fun obj s₁ h₁ => ?_
  obtain ⟨rfl, rfl⟩ := h₁
  have N₁ : News h₀ L (s.heap.push (listOf #[] 0)) ((s.heap.objs.size, listOf #[] 0) :: news) := News.push F N (listOf #[] 0) rfl
  have F₁ : Fr h₀ L (s.heap.push (listOf #[] 0)) m := F.push _
  refine ⟨⟨_, (N₁ _ (List.mem_cons_self ..)).1, rfl⟩, PySem.F.args_list_init_2 _ _, ?_⟩
  show wpAny _ A.in1.in1 (do let old ← Builtin.List.listItems (.ref s.heap.objs.size); Builtin.List.listUpdate (.ref s.heap.objs.size) (fun _ => #[]); letGo old.toList.reverse; Builtin.List.listExtendWith (.ref s.heap.objs.size) (.ref x) .none) _ _ _
  refine wpAny_bind ?_
  unfold Builtin.List.listItems
  refine wpAny_bind (wpAny_seqItems (N₁ _ (List.mem_cons_self ..)).1 rfl (wpAny_pure ?_))
  show wpAny _ A.in1.in1 (updateSeq s.heap.objs.size (fun _ => #[]) >>= fun _ => letGo (#[] : Array Value).toList.reverse >>= fun _ => Builtin.List.listExtendWith (.ref s.heap.objs.size) (.ref x) .none) _ _ _
  refine seq_upd (h₀ := h₀) (L := L) (m := m) (news := news) (acc := #[]) (c := 0) hne F₁ N₁ (Nat.zero_le _) (Nat.zero_le _) fun h2 c2 F₂ N₂ => ?_
  refine wpAny_bind (wpAny_letGo ?_)
  have I : InstAt h2 x ⟨.ref C, some dx, .plain, sl⟩ C (some od) := InstAt.of_news N₂ (.tail _ hmem) (.tail _ hdx)
  unfold Builtin.List.listExtendWith
  refine wpAny_bind (I.type.here ?_)
  have h1 : Builtin.List.listSameRef (.ref s.heap.objs.size) (.ref x) = false := by
    have : s.heap.objs.size ≠ x := fun q => hne _ hmem q.symm
    simp [Builtin.List.listSameRef, this]
  have h2' : (Value.ref C == Value.type "list") = false := rfl
  have h3' : (Value.ref C == Value.type "tuple") = false := rfl
  simp only [h1, h2', h3', Bool.or_false, Bool.false_eq_true, if_false]
  refine wpAny_bind (owit_iter (s := { s with heap := h2 }) F₂ X₀ I hi hfi (wpAny_mono (hit s.heap.objs.size { s with heap := h2 } (fun p hp => Heap.lt_size (N p hp).1) ⟨h2, s.toks, c2, rfl, F₂, N₂⟩) (fun v s₃ hv => ?_) fun _ _ q => q.elim))
  obtain ⟨rfl, h3, tk3, c3, rfl, F₃, N₃⟩ := hv
  have I3 : InstAt h3 x ⟨.ref C, some dx, .plain, sl⟩ C (some od) := InstAt.of_news N₃ (.tail _ hmem) (.tail _ hdx)
  refine owit_it (s := { s with heap := h3, toks := tk3 }) F₃ X₀ I3 hn ?_
  refine wpAny_bind (wpAny_holding ?_)
  unfold Builtin.List.listLengthHint specialOf
  refine wpAny_bind (wpAny_bind (I3.type.here ((looks_findIn (X₀.keeps F₃.keep) hlen).here ?_)))
  show wpAny _ _ (specialOf (Value.ref x) (Str.ofString "__length_hint__") >>= _) _ _ _
  unfold specialOf
  refine wpAny_bind (wpAny_bind (I3.type.here ((looks_findIn (X₀.keeps F₃.keep) hhint).here ?_)))
  refine wpAny_pure ?_
  show wpAny _ _ (rule "list.extend.makes-room" >>= fun _ => Builtin.List.listTouch (.ref s.heap.objs.size) >>= fun _ =>
    again (.builtin "list.extend.loop" ⟨[.ref s.heap.objs.size, .ref x, .none], []⟩)) _ _ _
  refine wpAny_bind (wpAny_rule ?_)
  refine wpAny_bind ?_
  show wpAny _ _ (updateSeq s.heap.objs.size (·.push .none) >>= fun _ => updateSeq s.heap.objs.size (·.pop)) _ _ _
  refine seq_upd (h₀ := h₀) (L := L) (m := m) (news := news) (acc := #[]) (c := c3) (s := { s with heap := h3, toks := tk3 }) hne F₃ N₃ (Nat.zero_le _) (by decide) fun h4 c4 F₄ N₄ => ?_
  refine seq_upd0 (h₀ := h₀) (L := L) (m := m) (news := news) (f := (·.pop)) (acc := #[Value.none]) (c := c4) hne F₄ N₄ (by decide) (by decide) fun h5 c5 F₅ N₅ => ?_
  exact wpAny_pure ⟨plainId_quiet PySem.F.plain_extend_loop _, hloop s.heap.objs.size _ (fun p hp => Heap.lt_size (N p hp).1) ⟨h5, tk3, c5, rfl, F₅, N₅⟩⟩
end
end Mine
end

section
open PySem PySem.W PySem.Calls PyProof.Rows
set_option maxRecDepth 100000
namespace Mine
theorem GR.gset {a b c : Array GenState} {g : Nat} (h : GR a b) (hg : a.size ≤ g) (h2 : GSet g .finished b c) : GR a c := by
  obtain ⟨hb, hk⟩ := h
  obtain ⟨e1, e2⟩ := h2
  refine ⟨fun x y hy => ?_, fun i gs e => ?_⟩
  · obtain ⟨i, hi⟩ := Array.mem_iff_getElem?.mp hy
    by_cases hig : i = g
    · subst hig; rw [e1] at hi; cases hi; rfl
    · rw [e2 i hig] at hi
      exact hb x y (Array.mem_iff_getElem?.mpr ⟨i, hi⟩)
  · have hi : i < a.size := (Array.getElem?_eq_some_iff.mp e).1
    have : i ≠ g := by omega
    rw [e2 i this]; exact hk i gs e
section
variable {prog : Program} {w : World} {A : Around} {E : Value → Shared → Prop} {s : Shared} {env : Env}
/-- the end of a turn under a new ground -/
noncomputable def KEndV (A₀ : Around) (base : Heap) (outer : List Env) (g₀ : Heap) (L I : Addr) (oI : Obj) (s : Shared) (R : (Str → Option Value) → List (Addr × Obj) → Prop) (s₃ : Shared) : Prop :=
  ∃ g m' led', Sm s s₃ ∧ KtsTurn (outer.filterMap (·.frame)) g₀ g ∧ Below A₀ base outer g ∧ Fr g L s₃.heap m' ∧ News g L s₃.heap ((I, oI) :: led') ∧ (∀ p ∈ led', p.1 ≠ I) ∧ R m' led'

theorem iter_KV {A₀ : Around} {base h₀ : Heap} {outer : List Env} {I : Addr} {oI : Obj} {n : Nat} {P : Nat → Value → Prop} {St : Nat → Heap → Prop} {m : Str → Option Value} {news : List (Addr × Obj)} {target : Expr} {body : List Stmt} {Q : Flow → Shared → Prop}
    (W : Walks prog w A I [I] [I] n P St) (Rel : Nat → (Str → Option Value) → List (Addr × Obj) → Prop)
    (hob : ∀ i h, St i h → ∃ o, h.get? I = some o) (hst : St 0 s.heap) (B : Below A₀ base outer h₀) (F : Fr h₀ env.locals s.heap m) (N : News h₀ env.locals s.heap ((I, oI) :: news)) (hI : ∀ p ∈ news, p.1 ≠ I) (h0 : Rel 0 m news)
    (turn : ∀ i v m₁ led s₁ oI g, i < n → P i v → Rel i m₁ led → Sm s s₁ → KtsTurn (outer.filterMap (·.frame)) h₀ g → Below A₀ base outer g → Fr g env.locals s₁.heap m₁ → News g env.locals s₁.heap ((I, oI) :: led) → (∀ p ∈ led, p.1 ≠ I) →
      wpAny (model prog w) A (assign target env v) (fun _ s₂ => wpAny (model prog w) A (execs body env) (fun f s₃ => match f with
        | .next => KEndV A₀ base outer g env.locals I oI s (Rel (i + 1)) s₃ | .cont => KEndV A₀ base outer g env.locals I oI s (Rel (i + 1)) s₃ | .brk => Q .next s₃ | .ret v => Q (.ret v) s₃) NoE s₂) NoE s₁)
    (done : ∀ m₁ led s₁ g, Rel n m₁ led → Sm s s₁ → KtsTurn (outer.filterMap (·.frame)) h₀ g → Below A₀ base outer g → Fr g env.locals s₁.heap m₁ → News g env.locals s₁.heap led → Q .next s₁) :
    ForAt prog w A env target body Q (.ref I) s := by
  refine ⟨fun k s' => ∃ i m₁ led oI g, k = n + 1 - i ∧ i ≤ n ∧ St i s'.heap ∧ Sm s s' ∧ KtsTurn (outer.filterMap (·.frame)) h₀ g ∧ Below A₀ base outer g ∧ Fr g env.locals s'.heap m₁ ∧ News g env.locals s'.heap ((I, oI) :: led) ∧ (∀ p ∈ led, p.1 ≠ I) ∧ Rel i m₁ led, n + 1, ⟨0, m, news, oI, h₀, by omega, by omega, hst, Sm.rfl s, KtsTurn.refl, B, F, N, hI, h0⟩, ?_⟩
  rintro k s'
  walk_at "flat"
  rename_i i m₁ led oI' g hz91 hi st sm TT B₁ F₁ N₁ h1 R₁
  subst hz91
  by_cases hlt : i < n
  · refine W.item i s' _ _ hlt st fun v h' tk hP st' hk => ?_
    obtain ⟨F₂, N₂⟩ := itMoved F₁ N₁ h1 hk
    have nIh : g.get? I = none := (N₁ _ (List.mem_cons_self ..)).2.2
    have nIL : I ≠ env.locals := (N₁ _ (List.mem_cons_self ..)).2.1
    obtain ⟨oJ, hoJ⟩ : ∃ oJ, h'.get? I = some oJ := hob _ _ st'
    have N₃ : News g env.locals h' ((I, oJ) :: led) := fun p hp => by
      rcases List.mem_cons.mp hp with rfl | hp
      · exact ⟨hoJ, nIL, nIh⟩
      · exact N₂ p hp
    refine wpAny_mono (turn i v m₁ led _ oJ g hlt hP R₁ (Sm.of sm) TT B₁ F₂ N₃ h1) (fun _ s₂ h₂ => wpAny_mono h₂ (fun f s₃ hf => ?_) fun _ _ x => x) fun _ _ x => x
    have fin : KEndV A₀ base outer g env.locals I oJ s (Rel (i + 1)) s₃ → ∃ m, m < n + 1 - i ∧ ∃ i' m₁ led oI g, m = n + 1 - i' ∧ i' ≤ n ∧ St i' s₃.heap ∧ Sm s s₃ ∧ KtsTurn (outer.filterMap (·.frame)) h₀ g ∧ Below A₀ base outer g ∧ Fr g env.locals s₃.heap m₁ ∧ News g env.locals s₃.heap ((I, oI) :: led) ∧ (∀ p ∈ led, p.1 ≠ I) ∧ Rel i' m₁ led := by
      rintro ⟨g', m', led', sm', TT', B', F', N', h1', R'⟩
      exact ⟨n + 1 - (i + 1), by omega, i + 1, m', led', oJ, g', rfl, by omega, (W.frame _ _ _ st' fun b hb ob e => by
        obtain rfl := List.mem_singleton.mp hb
        have e1 := (N₃ _ (List.mem_cons_self ..)).1
        dsimp only at e1
        rw [e1] at e; cases e
        exact (N' _ (List.mem_cons_self ..)).1), sm', TT.trans TT', B', F', N', h1', R'⟩
    cases f with
    | next => exact fin hf
    | cont => exact fin hf
    | brk => exact hf
    | ret v => exact hf
  · have hin : i = n := by omega
    subst hin
    refine W.done s' _ _ st fun h' tk hk => ?_
    obtain ⟨F₂, N₂⟩ := itMoved F₁ N₁ h1 hk
    exact done m₁ led _ g R₁ (Sm.of sm) TT B₁ F₂ N₂

theorem range_forV {A₀ : Around} {base h₀ : Heap} {outer : List Env} {m : Str → Option Value} {news : List (Addr × Obj)} {r : Addr} {n : Nat} {b : Int} {t u v : Tok} {target : Expr} {body : List Stmt} {Q : Flow → Shared → Prop} (hh : A.handled = none) (hr : IsRange s.heap r 0 b 1 t u v) (hb : b = (n : Int)) (hn : n ≤ 1000)
    (B : Below A₀ base outer h₀) (F : Fr h₀ env.locals s.heap m) (N : News h₀ env.locals s.heap news) (Rel : Nat → (Str → Option Value) → List (Addr × Obj) → Prop) (h0 : Rel 0 m news)
    (turn : ∀ i t m₁ led s₁ I oI g, i < n → (∀ p ∈ news, p.1 < I) → Rel i m₁ led → Sm s s₁ → KtsTurn (outer.filterMap (·.frame)) h₀ g → Below A₀ base outer g → Fr g env.locals s₁.heap m₁ → News g env.locals s₁.heap ((I, oI) :: led) → (∀ p ∈ led, p.1 ≠ I) →
      wpAny (model prog w) A (assign target env (.int i t)) (fun _ s₂ => wpAny (model prog w) A (execs body env) (fun f s₃ => match f with
        | .next => KEndV A₀ base outer g env.locals I oI s (Rel (i + 1)) s₃ | .cont => KEndV A₀ base outer g env.locals I oI s (Rel (i + 1)) s₃ | .brk => Q .next s₃ | .ret v => Q (.ret v) s₃) NoE s₂) NoE s₁)
    (done : ∀ m₁ led s₁ g, Rel n m₁ led → Sm s s₁ → KtsTurn (outer.filterMap (·.frame)) h₀ g → Below A₀ base outer g → Fr g env.locals s₁.heap m₁ → News g env.locals s₁.heap led → Q .next s₁) :
    wpAny (model prog w) A (pyIter (.ref r)) (ForAt prog w A env target body Q) E s := by
  subst hb
  have hs : Builtin.Range.rangeSize 0 (n : Int) 1 = (n : Int) := range_size n
  refine wpAny_pyIter_range hr (range_small hn) ?_
  have W := Walks.range (prog := prog) (w := w) hh s.heap.objs.size 0 1 n
  have hlt : ∀ p ∈ news, p.1 < s.heap.objs.size := fun p hp => Heap.lt_size (N p hp).1
  refine iter_KV W Rel (fun i h st => ⟨_, st⟩) (by show IsRangeIter _ _ _ _ _; rw [hs]; simpa using Heap.get?_push_size _ rfl) B (F.push _) (N.push F _) (fun p hp => Nat.ne_of_lt (hlt p hp)) h0 ?_ fun m₁ led s₁ g R sm TT B₁ F₁ N₁ => done m₁ led s₁ g R sm TT B₁ F₁ N₁
  intro i v m₁ led s₁ oI g hi hP R sm TT B₁ F₁ N₁ h1
  obtain ⟨t, rfl⟩ := hP
  have e : (0 : Int) + (i : Int) * 1 = (i : Int) := by omega
  rw [e]
  exact turn i t m₁ led s₁ _ oI g hi hlt R sm TT B₁ F₁ N₁ h1
end
end Mine
end

section
open PySem PySem.W PyProof.Rows
set_option maxRecDepth 100000
namespace Mine
section
variable {prog : Program} {w : World} {A : Around} {R : Result → Shared → Prop} {I : Addr} {fp wr : List Addr} {G : Array GenState → Array GenState → Prop} {n : Nat} {P : Nat → Value → Prop} {St : Nat → Shared → Prop}

/-- a set that holds the first `i` of `val`, and no more than `i` in number -/
noncomputable def HasFirst (prog : Program) (w : World) (val : Nat → Str) (S : Addr) (i : Nat) (h : Heap) : Prop := ∃ c, c ≤ i ∧ h.SetOf (strKind prog w) S (fun k => decide (k ∈ (List.range i).map val)) c

theorem set_loop (W : WalksS prog w A.in1 I fp wr G n P St) (S : Addr) (hSf : S ∉ fp) (val : Nat → Str) (hval : ∀ i v, P i v → ∃ t, v = .str (val i) t) (hb : n + 1 < scanBound) :
    ∀ (k i : Nat) (s : Shared), n - i = k → i ≤ n → St i s → HasFirst prog w val S i s.heap → (∀ s', Moved (S :: wr) G s s' → HasFirst prog w val S n s'.heap → R (.ok (.ret .none)) s') →
      codeAny (model prog w) A (.builtin "set.update.loop" ⟨[.ref S, .ref I], []⟩) R s := by
  have hSw : S ∉ wr := fun h => hSf (W.sub _ h)
  intro k
  induction k with
  | zero =>
    intro i s hk hi hst hS hR
    obtain rfl : i = n := by omega
    refine codeAny_builtin F.entry_set_update_loop ?_
    rw [Around.under_plainId F.plain_set_update_loop _]
    show wpAny _ A.in1 (pyNext (.ref I) >>= _) _ _ s
    refine wpAny_bind (W.done s _ _ hst fun s' hm => ?_)
    show wpAny _ A.in1 (ret Value.none) _ _ s'
    obtain ⟨c, hc, o, es, ep, t, ho, rest⟩ := hS
    exact wpAny_pure (hR s' (hm.mono fun b hb => List.mem_cons_of_mem _ hb) ⟨c, hc, o, es, ep, t, hm.heap S _ hSw ho, rest⟩)
  | succ k ih =>
    intro i s hk hi hst hS hR
    have hlt : i < n := by omega
    refine codeAny_builtin F.entry_set_update_loop ?_
    rw [Around.under_plainId F.plain_set_update_loop _]
    show wpAny _ A.in1 (pyNext (.ref I) >>= _) _ _ s
    refine wpAny_bind (W.item i s _ _ hlt hst fun v s' hP hst' hm => ?_)
    obtain ⟨t, rfl⟩ := hval i v hP
    obtain ⟨c, hc, o, es, ep, tb, ho, rest⟩ := hS
    have hS' : s'.heap.SetOf (strKind prog w) S (fun k => decide (k ∈ (List.range i).map val)) c := ⟨o, es, ep, tb, hm.heap S _ hSw ho, rest⟩
    show wpAny _ A.in1 (holding [Value.str (val i) t] (setAdd S (.str (val i) t)) >>= _) _ _ s'
    refine wpAny_bind (wpAny_holding ?_)
    unfold setAdd
    refine wpAny_holding ?_
    refine wpAny_bind ((strKind prog w).pyHash (k := val i) (strKind_is _ _ _ _) ?_)
    refine wpAny_setAddHashed_of (knd := strKind prog w) (s := { s' with toks := s'.toks + 1 }) (strKind_is _ _ _ _) rfl hS' (by omega) fun h' hsb hS2 => ?_
    have hSi : HasFirst prog w val S (i + 1) h' := by
      refine ⟨_, ?_, SetOf_congr hS2 (fun k' => ?_) rfl⟩
      · split <;> omega
      · rw [List.range_succ, List.map_append]
        by_cases e : k' = val i <;> simp [e, List.mem_append]
    refine wpAny_pure ⟨plainId_quiet F.plain_set_update_loop _, ih (i + 1) _ (by omega) hlt (W.frame _ s' _ _ hst' (Nat.le_succ _) fun b hb o e => ?_) hSi fun s'' hm'' hS'' => ?_⟩
    · rw [hsb.2 b (fun h : b = S => hSf (by rw [← h]; exact hb))]; exact e
    · refine hR s'' (Moved.trans W.gtrans ((hm.mono fun b hb => List.mem_cons_of_mem _ hb).then_heap (Nat.le_succ _) fun b o hb e => ?_) hm'') hS''
      rw [hsb.2 b (fun h : b = S => hb (by rw [h]; exact List.mem_cons_self))]; exact e
end
section
variable {prog : Program} {w : World} {A : Around} {E : Value → Shared → Prop} {s : Shared} {h₀ : Heap} {L : Addr} {m : Str → Option Value} {news : List (Addr × Obj)}
set_option maxHeartbeats 3200000 in
theorem set_strs {l : Addr} {vs : List Value} {ss : List Str} {c : Nat} {Q : Value → Shared → Prop} (hh : A.handled = none) (F : Fr h₀ L s.heap m) (N : News h₀ L s.heap news) (hl : (l, listOf vs.toArray c) ∈ news) (hi : StrsAre vs ss) (hb : ss.length ≤ 1000)
    (h : ∀ h' tk D o n, Fr h₀ L h' m → News h₀ L h' ((D, o) :: news) → (∀ p ∈ news, p.1 < D) → o.SetObjOf (strKind prog w) (fun k => decide (k ∈ ss)) n → n ≤ 1000 → Q (.ref D) { s with heap := h', toks := tk }) :
    wpAny (model prog w) A (call (.type "set") [.ref l]) Q E s := by
  have hol := (N _ hl).1
  have hlen := hi.length
  have fin : ∀ h' tk, HasFirst prog w (fun i => ss.getD i ⟨#[]⟩) s.heap.objs.size vs.length h' → (∀ b o, b < s.heap.objs.size → s.heap.get? b = some o → h'.get? b = some o) → Q (.ref s.heap.objs.size) { s with heap := h', toks := tk } := by
    intro h' tk hS hk
    obtain ⟨n, hn, hS⟩ := hS
    obtain ⟨o, ho, hso⟩ := hS.objOf
    obtain ⟨oL, _, _, hL, _⟩ := F.ns
    have hLlt : L < s.heap.objs.size := Heap.lt_size hL
    have eS : (fun k : Str => decide (k ∈ (List.range vs.length).map (fun i => ss.getD i ⟨#[]⟩))) = fun k => decide (k ∈ ss) := by
      funext k
      have : (List.range vs.length).map (fun i => ss.getD i ⟨#[]⟩) = ss := by
        rw [hlen]
        apply List.ext_getElem
        · simp
        · intro i h1 h2
          simp [List.getD_eq_getElem?_getD, List.getElem?_eq_getElem h2]
      rw [this]
    rw [eS] at hso
    refine h h' tk _ o n ⟨F.ns.at' fun o' e => hk L o' hLlt e, fun b o' e => hk b o' (Heap.lt_size (F.keep b o' e)) (F.keep b o' e), F.above⟩ (fun p hp => ?_) (fun p hp => Heap.lt_size (N p hp).1) hso (by omega)
    rcases List.mem_cons.mp hp with rfl | hp
    · refine ⟨ho, Nat.ne_of_gt hLlt, ?_⟩
      cases hq : h₀.get? s.heap.objs.size with
      | none => rfl
      | some o' => exact absurd (Heap.lt_size (F.keep _ _ hq)) (Nat.lt_irrefl _)
    · exact ⟨hk _ _ (Heap.lt_size (N p hp).1) (N p hp).1, (N p hp).2.1, (N p hp).2.2⟩
  clear h N
  obtain ⟨c0, tl, hmro⟩ := PySem.F.called_set.mro
  have hmade := PySem.F.called_set.made
  have hsub := PySem.F.called_set.sub
  refine wpAny_call (codeAny_of_tree ?_)
  show wpAny _ _ (callAny (.type "set") _) _ _ _
  refine wpAny_pure ⟨Code.quiet_builtin _ (by decide +kernel), codeAny_builtin PySem.F.entry_type_call ?_⟩
  rw [Around.under_plain (weight_type_call_type "set" [.ref l] []) rfl]
  have h1 := PySem.F.called_set.notType
  have h2 := PySem.F.called_set.canCreate
  have hct := PySem.F.typeCall_set_1 (.ref l)
  repeat (any_goals (first | assumption | wp_step))
  refine codeAny_mono (code_set_new_1 (.ref l) (E := E) (Q₁ := fun obj s₁ => ∃ led : Bool, obj = .ref s.heap.objs.size ∧ s₁ = { s with heap := s.heap.push { cls := .type "set", dict := none, data := .set #[] 0 (.fresh 0 0 led) } }) fun led => ⟨led, rfl, rfl⟩) fun r s₁ hr => ?_
  cases r with
  | error e => exact hr
  | ok fl =>
    cases fl with
    | ret obj =>
      obtain ⟨led, rfl, rfl⟩ := hr
      have hS : (s.heap.push { cls := .type "set", dict := none, data := .set #[] 0 (.fresh 0 0 led) }).get? s.heap.objs.size = some { cls := .type "set", dict := none, data := .set #[] 0 (.fresh 0 0 led) } := Heap.get?_push_size _ rfl
      have hT : Shared.TypeIs { s with heap := s.heap.push { cls := .type "set", dict := none, data := .set #[] 0 (.fresh 0 0 led) } } (.ref s.heap.objs.size) "set" := ⟨_, hS, rfl⟩
      have hli := PySem.F.called_set.init.lookup
      have hbi := PySem.F.called_set.init.bind (.ref s.heap.objs.size)
      repeat (any_goals (first | assumption | wp_step))
      refine codeAny_mono (codeAny_call_builtin (R := wants (fun r s₂ => r = .none ∧ ∃ h' tk, s₂ = { s with heap := h', toks := tk } ∧ HasFirst prog w (fun i => ss.getD i ⟨#[]⟩) s.heap.objs.size vs.length h' ∧
          (∀ b o, b < s.heap.objs.size → s.heap.get? b = some o → h'.get? b = some o)) E) PySem.F.called_set.init.plain PySem.F.entry_set_init (check_set_init_1 hT ?_)) fun r₂ s₂ hr₂ => ?_
      · have hol' : (s.heap.push { cls := .type "set", dict := none, data := .set #[] 0 (.fresh 0 0 led) }).get? l = some (listOf vs.toArray c) := Heap.get?_push_of_some _ hol
        have hsls := PySem.F.sub_list_set
        have hslf := PySem.F.sub_list_frozenset
        have hne : (Value.type "list" == Value.type "dict") = false := by decide
        have hl1 : (s.heap.push { cls := .type "set", dict := none, data := .set #[] 0 (.fresh 0 0 led) }).IsList l vs.toArray := ⟨_, hol', rfl, c, rfl⟩
        unfold Builtin.«set.__init__» noKeywords Builtin.Frozenset.updateFrom
        generalize hPI : pyIter = PI
        wp_walk
        subst hPI
        refine wpAny_pyIter_list hl1 ?_
        refine wpAny_bind (wpAny_runValue ?_)
        have hlS : l < s.heap.objs.size := Heap.lt_size hol
        have hh3 : A.in1.in1.in1.handled = none := by simp [hh]
        have hneI : l ≠ (s.heap.push { cls := .type "set", dict := none, data := .set #[] 0 (.fresh 0 0 led) }).objs.size := by
          rw [Heap.size_push]; exact Nat.ne_of_lt (Nat.lt_succ_of_lt hlS)
        have hSf : s.heap.objs.size ∉ [(s.heap.push { cls := .type "set", dict := none, data := .set #[] 0 (.fresh 0 0 led) }).objs.size, l] := by
          rw [Heap.size_push]; simp only [List.mem_cons, List.not_mem_nil, or_false, not_or]
          exact ⟨Nat.ne_of_lt (Nat.lt_succ_self _), Nat.ne_of_gt hlS⟩
        have hsize : vs.toArray.size = vs.length := List.size_toArray
        have hval : ∀ (i : Nat) (v : Value), vs.toArray[i]? = some v → ∃ t, v = .str ((fun i => ss.getD i ⟨#[]⟩) i) t := fun i v hv => by
          obtain ⟨y, t, e, hy⟩ := hi.item i v (by simpa using hv)
          exact ⟨t, by rw [e]; show Value.str y t = Value.str (ss.getD i ⟨#[]⟩) t; rw [List.getD_eq_getElem?_getD, hy]; rfl⟩
        rw [← hsize]
        refine set_loop ((Walks.list hh3 _ l hneI vs.toArray).toS) s.heap.objs.size hSf (fun i => ss.getD i ⟨#[]⟩) hval (by rw [hsize]; unfold scanBound; omega) (vs.toArray.size - 0) 0 _ (by omega) (Nat.zero_le _)
          ⟨⟨_, Heap.get?_push_size _ rfl, rfl, rfl⟩, (hl1.push _)⟩ ?hS0 ?hR
        case hS0 =>
          have hget : ((s.heap.push { cls := .type "set", dict := none, data := .set #[] 0 (.fresh 0 0 led) }).push { cls := .type "list_iterator", data := .fields #[.ref l, .int 0 0] }).get? s.heap.objs.size
              = some { cls := .type "set", dict := none, data := .set #[] 0 (.fresh 0 0 led) } := Heap.get?_push_of_some _ hS
          exact ⟨0, Nat.le_refl _, SetOf_congr ((setObjOf_fresh (knd := strKind prog w) led).setOf hget (by unfold scanBound; omega)) (fun _ => by simp) rfl⟩
        case hR =>
          intro s' hm hS'
          obtain ⟨h', g', d', tk', os'⟩ := s'
          have eg : g' = s.gens := hm.gens
          have ed : d' = s.drawn := hm.drawn
          have eo : os' = s.os := hm.os
          subst eg; subst ed; subst eo
          show wpAny _ _ _ _ _ _
          refine wpAny_pure ?_
          show wpAny _ _ (ret Value.none) _ _ _
          refine wpAny_pure ⟨rfl, h', tk', rfl, hS', fun b o hb e => ?_⟩
          have hb1 : b ≠ s.heap.objs.size := Nat.ne_of_lt hb
          have hb2 : b ≠ (s.heap.push { cls := .type "set", dict := none, data := .set #[] 0 (.fresh 0 0 led) }).objs.size := by
            rw [Heap.size_push]; exact Nat.ne_of_lt (Nat.lt_succ_of_lt hb)
          exact hm.heap b o (by simp only [List.mem_cons, List.not_mem_nil, or_false, not_or]; exact ⟨hb1, hb2⟩) (Heap.get?_push_of_some _ (Heap.get?_push_of_some _ e))
      · cases r₂ with
        | error e => exact hr₂
        | ok fl₂ =>
          cases fl₂ with
          | ret r =>
            revert hr₂
            walk_at "flat"
            rename_i hz91 h' tk hz92 hS' hk'
            subst hz91
            subst hz92
            repeat (any_goals (first | assumption | wp_step))
            exact fin _ _ hS' hk'
          | _ => exact hr₂.elim
    | _ => exact hr.elim
end
end Mine
end

section
open PySem PySem.W PyProof.Rows
set_option maxRecDepth 100000
namespace Mine
section
variable {prog : Program} {w : World} {A : Around} {E : Value → Shared → Prop} {h : Heap} {g : Array GenState} {d : Drawn} {t : Nat} {os : OsState} {a : Addr} {o : Obj}
theorem typeOf_set_contains : typeOf (.builtin "set.__contains__") = pure (.type "method_descriptor") := by kernel_rfl
theorem slot_md_get : Slot "method_descriptor" "__get__" "method_descriptor.__get__" :=
  .of (owner := "method_descriptor") (n := "__get__") (by rw [typeLookup_type, builtinLookup_eq_fast]; kernel_rfl) (by decide +kernel) (by decide +kernel) (by decide +kernel)
    (by first | exact .inl (by decide +kernel) | exact .inr (by decide +kernel)) (by rw [isSubtype_type]; kernel_rfl)
theorem entry_md_get : entryFor table "method_descriptor.__get__" = some Builtin.«method_descriptor.__get__» := entryFor_of_tree (by kernel_rfl)
theorem args_md_get (a b c : Value) : argsOk "method_descriptor.__get__" ⟨[a, b, c], []⟩ := by unfold argsOk; kernel_rfl
theorem sub_set_owner : isSubtype (.type "set") (.type (".".intercalate ("set.__contains__".cutAt '.').dropLast)) = pure true := by
  rw [show ".".intercalate ("set.__contains__".cutAt '.').dropLast = "set" from by decide +kernel, isSubtype_type]; kernel_rfl
theorem slot_md_set : typeLookup (.type "method_descriptor") "__set__" = pure none := by rw [typeLookup_type, builtinLookup_eq_fast]; kernel_rfl
theorem slot_md_del : typeLookup (.type "method_descriptor") "__delete__" = pure none := by rw [typeLookup_type, builtinLookup_eq_fast]; kernel_rfl
set_option maxHeartbeats 800000 in
theorem contains_entry {tk : Tok} {Q : Fin → Shared → Prop} {es : Array (Int × Value)} {ep : Nat} {tt : SetTable} {sl : Array (Option Value)} (hx : h.get? a = some ⟨.type "set", none, .set es ep tt, sl⟩)
    (hq : Q (.done (.ret (.ref h.objs.size))) ⟨h.push { cls := .type "builtin_function_or_method", data := .fields #[.builtin "set.__contains__", .ref a] }, g, d, t, os⟩) :
    wpAny (model prog w) A (Builtin.«object.__getattribute__» ⟨[.ref a, .str "__contains__" tk], []⟩) Q E ⟨h, g, d, t, os⟩ := by
  have hT : (⟨h, g, d, t, os⟩ : Shared).TypeIs (.ref a) "set" := ⟨_, hx, rfl⟩
  have hT5 := typeOf_set_contains
  have f4 := F.slot_set_contains.lookup
  have f6 := slot_md_get.lookup
  have f9 := sub_set_owner
  have f7 := slot_md_set
  have f8 := slot_md_del
  repeat (any_goals (first | assumption | wp_step))
  refine codeAny_call_builtin slot_md_get.plain entry_md_get (slot_md_get.check _ _ _ _ _ _ _ _ (show (⟨h, g, d, t, os⟩ : Shared).TypeIs (.builtin "set.__contains__") "method_descriptor" from hT5) (args_md_get _ _ _) ?_)
  repeat (any_goals (first | assumption | wp_step))

theorem contains_call {tk : Tok} {R : Result → Shared → Prop} {es : Array (Int × Value)} {ep : Nat} {tt : SetTable} {sl : Array (Option Value)} (hx : h.get? a = some ⟨.type "set", none, .set es ep tt, sl⟩)
    (hq : R (.ok (.ret (.ref h.objs.size))) ⟨h.push { cls := .type "builtin_function_or_method", data := .fields #[.builtin "set.__contains__", .ref a] }, g, d, t, os⟩) :
    codeAny (model prog w) A (.call (.builtin "set.__getattribute__") ⟨[.ref a, .str "__contains__" tk], []⟩) R ⟨h, g, d, t, os⟩ :=
  codeAny_call_builtin F.slot_set_getattribute.plain F.entry_set_ga (F.slot_set_getattribute.check _ _ _ _ _ _ _ _ (show (⟨h, g, d, t, os⟩ : Shared).TypeIs (.ref a) "set" from ⟨_, hx, rfl⟩) (F.args_set_getattribute_2 _ _) (contains_entry hx hq))
set_option maxHeartbeats 800000 in
theorem contains_by {tk : Tok} {Q : Value → Shared → Prop} {es : Array (Int × Value)} {ep : Nat} {tt : SetTable} {sl : Array (Option Value)} (hx : h.get? a = some ⟨.type "set", none, .set es ep tt, sl⟩)
    (hq : Q (.ref h.objs.size) ⟨h.push { cls := .type "builtin_function_or_method", data := .fields #[.builtin "set.__contains__", .ref a] }, g, d, t, os⟩) : wpAny (model prog w) A (getAttrBy (.ref a) (.str "__contains__" tk) true true) Q E ⟨h, g, d, t, os⟩ := by
  have hT : (⟨h, g, d, t, os⟩ : Shared).TypeIs (.ref a) "set" := ⟨_, hx, rfl⟩
  have f2 := F.slot_set_getattribute.lookup
  have f3 := F.slot_set_getattribute.bind (.ref a)
  repeat (any_goals (first | assumption | wp_step))
  refine contains_call hx ?_
  repeat (any_goals (first | assumption | wp_step))
end

section
variable {prog : Program} {w : World} {A : Around} {E : Value → Shared → Prop} {s : Shared} {h₀ : Heap} {L : Addr} {m : Str → Option Value} {news : List (Addr × Obj)} {D q : Addr} {so : Obj} {S : Str → Bool} {n : Nat}
noncomputable abbrev bmObj (D : Addr) : Obj := { cls := .type "builtin_function_or_method", data := .fields #[.builtin "set.__contains__", .ref D] }
theorem getAttr_contains {Q : Value → Shared → Prop} (F : Fr h₀ L s.heap m) (N : News h₀ L s.heap news) (hm : (D, so) ∈ news) (hs : so.SetObjOf (strKind prog w) S n)
    (h : ∀ h' q, Fr h₀ L h' m → News h₀ L h' ((q, bmObj D) :: news) → (∀ p ∈ news, p.1 < q) → Q (.ref q) { s with heap := h', toks := s.toks + 1 }) :
    wpAny (model prog w) A (getAttr (.ref D) "__contains__" true) Q E s := by
  have hx := (N _ hm).1
  obtain ⟨hex, es, ep, tt, hd, _⟩ := hs
  obtain ⟨oc, od, oda, osl⟩ := so
  obtain ⟨e1, e2, e3⟩ := hex
  obtain rfl : oc = _ := e1
  obtain rfl : od = _ := e2
  obtain rfl : osl = _ := e3
  obtain rfl : oda = _ := hd
  unfold getAttr
  refine wpAny_bind (wpAny_mkText ?_)
  exact contains_by hx (h _ _ (F.push _) (News.push F N (bmObj D) rfl) fun p hp => Heap.lt_size (N p hp).1)
theorem sig_sc : Manifest.signature? "set.__contains__" = some ⟨.oneArg, "set.__contains__", "__contains__", .self, [⟨"object", .posOnly, true⟩]⟩ := by kernel_rfl
theorem kind_sc : builtinKind "set.__contains__" = some .method := by decide +kernel
theorem set_not_module : isSubtype (.type "set") (.type "module") = pure false := by rw [isSubtype_type]; kernel_rfl
theorem set_not_type : isSubtype (.type "set") (.type "type") = pure false := by rw [isSubtype_type]; kernel_rfl
theorem bound_ok {x : Value} {Q : Unit → Shared → Prop} {es : Array (Int × Value)} {ep : Nat} {tt : SetTable} {sl : Array (Option Value)} (hD : s.heap.get? D = some ⟨.type "set", none, .set es ep tt, sl⟩) (h : Q () s) : wpAny (model prog w) A (checkBoundCall "set.__contains__" ⟨[.ref D, x], []⟩) Q E s := by
  have hT : s.TypeIs (.ref D) "set" := ⟨_, hD, rfl⟩
  unfold checkBoundCall
  rw [sig_sc, kind_sc]
  dsimp only
  rw [if_neg (by decide)]
  refine wpAny_bind (wpAny_isInstance hT set_not_module ?_)
  rw [if_neg (by decide +kernel)]
  refine wpAny_bind ?_
  unfold isType
  refine wpAny_bind (wpAny_bind (wpAny_loadPart hD (wpAny_pure ?_)))
  dsimp only
  refine wpAny_pure ?_
  rw [if_neg Bool.false_ne_true]
  refine wpAny_bind (wpAny_typeOf hT ?_)
  dsimp only
  exact wpAny_of_eq (by kernel_rfl) h
theorem call_contains {Q : Value → Shared → Prop} (N : News h₀ L s.heap news) (hq : (q, bmObj D) ∈ news) (hm : (D, so) ∈ news) (hs : so.SetObjOf (strKind prog w) S n) (hn : n ≤ 1000) (x : Str) (t : Tok)
    (h : Q (.bool (S x)) { s with toks := s.toks + 1 }) : wpAny (model prog w) A (call (.ref q) [.str x t]) Q E s := by
  have hx := (N _ hq).1
  have hS := hs.setOf (N _ hm).1 (by unfold scanBound; omega)
  have hD := (N _ hm).1
  obtain ⟨hex, es, ep, tt, hd, _⟩ := hs
  obtain ⟨oc, od, oda, osl⟩ := so
  obtain ⟨e1, e2, e3⟩ := hex
  obtain rfl : oc = _ := e1
  obtain rfl : od = _ := e2
  obtain rfl : osl = _ := e3
  obtain rfl : oda = _ := hd
  refine wpAny_call (codeAny_of_tree ?_)
  show wpAny _ _ (callAny (.ref q) _) _ _ _
  unfold callAny
  refine wpAny_bind (wpAny_load hx ?_)
  show wpAny _ _ (if _ then _ else _) _ _ _
  rw [if_pos (show (Value.type "builtin_function_or_method" == Value.type "method" || Value.type "builtin_function_or_method" == Value.type "builtin_function_or_method" || Value.type "builtin_function_or_method" == Value.type "method-wrapper") = true from by decide)]
  show wpAny _ _ (if _ then _ else _) _ _ _
  rw [if_pos (show (Value.type "builtin_function_or_method" != Value.type "method") = true from by decide)]
  refine wpAny_bind (bound_ok hD ?_)
  refine wpAny_pure ⟨plainId_quiet (by decide +kernel) _, codeAny_builtin entry_set_contains ?_⟩
  unfold Builtin.«frozenset.__contains__» Builtin.Frozenset.oneOther
  simp only [List.isEmpty_nil, bind_assoc]
  unfold Builtin.Frozenset.addrOf Builtin.Frozenset.withSetAsKey setContains
  refine wpAny_bind (wpAny_pure ?_)
  try dsimp only
  refine wpAny_bind (wpAny_pure ?_)
  try dsimp only
  refine wpAny_bind (wpAny_tryCatch ?_)
  refine wpAny_holding ?_
  refine wpAny_bind ((strKind prog w).pyHash (k := x) (strKind_is _ _ _ _) ?_)
  refine wpAny_bind (wpAny_setFind_of (s := { s with toks := s.toks + 1 }) (strKind_is _ _ _ _) rfl hS fun r hr => ?_)
  refine wpAny_pure ?_
  show wpAny _ _ (ret (Value.bool r.isSome)) _ _ _
  rw [hr]
  exact wpAny_pure h
end
end Mine
end

section
open PySem PySem.W PyProof.Rows PySem.Calls PyProof.V
set_option maxRecDepth 100000
namespace Mine
/-- an object of the class filterfalse -/
noncomputable abbrev ffObj (d I q : Addr) : Obj := { cls := .ref 108, dict := some d, data := .plain, slots := #[some (.ref q), some (.ref I)] }
noncomputable abbrev liObj (l : Addr) (i : Nat) : Obj := { cls := .type "list_iterator", data := .fields #[.ref l, .int i 0] }
section
variable {prog : Program} {w : World} {A : Around} {E : Value → Shared → Prop} {s : Shared} {h₀ : Heap} {L : Addr} {m : Str → Option Value} {news : List (Addr × Obj)} {gf : Obj → List (Addr × Obj)} {l I : Addr} {its : Array Value} {c i : Nat} {Q : Value → Shared → Prop}
theorem iter_list (F : Fr h₀ L s.heap m) (N : News h₀ L s.heap news) (hm : (l, listOf its c) ∈ news)
    (h : ∀ h' I, Fr h₀ L h' m → News h₀ L h' ((I, liObj l 0) :: news) → (∀ p ∈ news, p.1 < I) → Q (.ref I) { s with heap := h' }) : wpAny (model prog w) A (call (.builtin "iter") [.ref l]) Q E s :=
  iter_call (wpAny_pyIter_list (News.isList N hm) (h _ _ (F.push _) (News.push F N (liObj l 0) rfl) fun p hp => Heap.lt_size (N p hp).1))

theorem next_list_item {x : Value} (F : Fr h₀ L s.heap m) (N : News h₀ L s.heap news) (U : UpdF I (liObj l i) news gf) (hm : (l, listOf its c) ∈ news) (hx : its[i]? = some x)
    (h : ∀ h', Fr h₀ L h' m → News h₀ L h' (gf (liObj l (i + 1))) → Q x { s with heap := h' }) : wpAny (model prog w) A (call (.builtin "next") [.ref I]) Q E s := by
  obtain ⟨pre, post, hlist, hg, a, b⟩ := U.split
  have hI := N (I, liObj l i) (by rw [hlist]; exact List.mem_append_right _ (.head _))
  have hl := (N _ hm).1
  refine call_function_entry (by decide +kernel) (by decide +kernel) kdk_entry_next (kdk_args_next _) ?_
  unfold Builtin.«next»
  refine wpAny_bind (m := someArgs "next" 1 2 _) (wpAny_of_eq (a := [Value.ref I]) (by first | rfl | kernel_rfl!) ?_)
  dsimp only
  have hT : s.TypeIs (.ref I) "list_iterator" := ⟨_, hI.1, rfl⟩
  refine wpAny_bind (wpAny_specialOf (name := Str.ofString "__next__") hT slot_listiter_next.lookup ?_)
  refine wpAny_ite_split (fun hab => absurd hab (by decide)) (fun _ => ?_)
  refine wpAny_bind (wpAny_callSpecial?_slot (name := Str.ofString "__next__") hT slot_listiter_next (wpAny_call_entry slot_listiter_next hT entry_listiter_next ?_ (args_listiter_next _)))
  show wpAny _ _ (field (.ref I) 0 >>= _) _ _ s
  refine wpAny_bind (wpAny_field hI.1 rfl (x := .ref l) rfl ?_)
  show wpAny _ _ (if (Value.ref l == Value.none) = true then _ else _) _ _ s
  rw [if_neg (show ¬ ((Value.ref l == Value.none) = true) from Bool.false_ne_true)]
  show wpAny _ _ (field (.ref I) 1 >>= _) _ _ s
  refine wpAny_bind (wpAny_field hI.1 rfl (x := .int i 0) rfl ?_)
  show wpAny _ _ (seqItems? (.ref l) >>= _) _ _ s
  refine wpAny_bind (wpAny_seqItems hl rfl ?_)
  simp only [Int.toNat_natCast, hx]
  refine wpAny_bind (wpAny_setField hI.1 rfl (by simp) (wpAny_pure ⟨x, rfl, wpAny_pure ⟨_, rfl, ?_⟩⟩))
  have hget := Heap.get?_update_self (Obj.mapFields (·.setIfInBounds 1 (rawInt ((i : Int) + 1)))) hI.1 rfl
  have e : Obj.mapFields (·.setIfInBounds 1 (rawInt ((i : Int) + 1))) (liObj l i) = liObj l (i + 1) := by simp [Obj.mapFields, rawInt]
  have hs : Heap.SameBut I s.heap (s.heap.update I (Obj.mapFields (·.setIfInBounds 1 (rawInt ((i : Int) + 1))))) := Heap.SameBut.update ..
  refine h _ (F.change hs hI.2.1 hI.2.2) (hg (liObj l (i + 1)) ▸ (show News h₀ L s.heap (pre ++ (I, liObj l i) :: post) from hlist ▸ N).setIn a b hs (hget.trans (congrArg some e)))

theorem next_list_end (hh : A.handled = none) (N : News h₀ L s.heap news) (hI : (I, liObj l i) ∈ news) (hm : (l, listOf its c) ∈ news) (hx : its[i]? = none)
    (h : ∀ h1 h' e, (∀ b o, b ≠ I → s.heap.get? b = some o → h1.get? b = some o) → Heap.MadeExcOf h1 h' e (.type "StopIteration") [] → E (.ref e) { s with heap := h' }) : wpAny (model prog w) A (call (.builtin "next") [.ref I]) Q E s := by
  replace hI := (N _ hI).1
  have hl := (N _ hm).1
  refine call_function_entry (by decide +kernel) (by decide +kernel) kdk_entry_next (kdk_args_next _) ?_
  unfold Builtin.«next»
  refine wpAny_bind (m := someArgs "next" 1 2 _) (wpAny_of_eq (a := [Value.ref I]) (by first | rfl | kernel_rfl!) ?_)
  dsimp only
  have hT : s.TypeIs (.ref I) "list_iterator" := ⟨_, hI, rfl⟩
  refine wpAny_bind (wpAny_specialOf (name := Str.ofString "__next__") hT slot_listiter_next.lookup ?_)
  refine wpAny_ite_split (fun hab => absurd hab (by decide)) (fun _ => ?_)
  refine wpAny_bind (wpAny_callSpecial?_slot (name := Str.ofString "__next__") hT slot_listiter_next (wpAny_call_entry slot_listiter_next hT entry_listiter_next ?_ (args_listiter_next _)))
  show wpAny _ _ (field (.ref I) 0 >>= _) _ _ s
  refine wpAny_bind (wpAny_field hI rfl (x := .ref l) rfl ?_)
  show wpAny _ _ (if (Value.ref l == Value.none) = true then _ else _) _ _ s
  rw [if_neg (show ¬ ((Value.ref l == Value.none) = true) from Bool.false_ne_true)]
  show wpAny _ _ (field (.ref I) 1 >>= _) _ _ s
  refine wpAny_bind (wpAny_field hI rfl (x := .int i 0) rfl ?_)
  show wpAny _ _ (seqItems? (.ref l) >>= _) _ _ s
  refine wpAny_bind (wpAny_seqItems hl rfl ?_)
  simp only [Int.toNat_natCast, hx]
  refine wpAny_bind (wpAny_rule (wpAny_bind (wpAny_setField hI rfl (by simp) ?_)))
  show wpAny _ _ (newExc (.type "StopIteration") [] >>= _) _ _ _
  refine wpAny_bind ?_
  simp only [newExc, newTuple]
  refine wpAny_bind (wpAny_newObj_type ?_ (by size_fits))
  refine wpAny_bind (m := firstArgMember _ _) (wpAny_of_eq (a := Value.none) (by first | rfl | (simp only [firstArgMember]; rfl)) ?_)
  refine wpAny_newObj_type ?_ (by size_fits)
  simp only [raiseNew]
  refine wpAny_bind (wpAny_handled ?_)
  rw [show A.in1.in1.handled = none from hh]
  refine wpAny_bind (wpAny_pure (wpAny_throw ?_))
  exact h (s.heap.update I _) _ _ (fun b o hb e => (Heap.get?_update_other _ _ (Ne.symm hb)).trans e) ⟨fun b o e => Heap.get?_push_of_some _ (Heap.get?_push_of_some _ e), Heap.get?_none_of_le (by rw [Heap.size_push]; exact Nat.le_succ _), _, Heap.get?_push_size _ rfl, Heap.get?_none_of_le (Nat.le_refl _), Heap.get?_push_of_some _ (Heap.get?_push_size _ rfl)⟩
theorem call_contains_b {D q : Addr} {so : Obj} {S : Str → Bool} {n : Nat} {b : Bool} (N : News h₀ L s.heap news) (hq : (q, bmObj D) ∈ news) (hm : (D, so) ∈ news) (hs : so.SetObjOf (PySem.strKind prog w) S n) (hn : n ≤ 1000) (x : Str) (t : Tok) (hb : S x = b)
    (h : Q (.bool b) { s with toks := s.toks + 1 }) : wpAny (model prog w) A (call (.ref q) [.str x t]) Q E s := call_contains N hq hm hs hn x t (by rw [hb]; exact h)
end
section
variable {prog : Program} {w : World} {A : Around} {E : Value → Shared → Prop} {s : Shared} {env : Env}
theorem while_ruleE {test : Expr} {body : List Stmt} {pos : Pos} {Q : Flow → Shared → Prop} (I : Nat → Shared → Prop)
    (n : Nat) (h0 : I n s)
    (turn : ∀ n s, I n s → wpAny (model prog w) A (isTrue test env (eval test env)) (fun b s₂ =>
        if b = true then wpAny (model prog w) A (execs body env) (fun f s₃ => match f with | .next => WEnd I n s₃ | .cont => WEnd I n s₃ | .brk => Q .next s₃ | .ret v => Q (.ret v) s₃) (notedBy (model prog w) A env (cameBackBy (model prog w) A env E)) s₂
        else Q .next s₂) (notedBy (model prog w) A env (cameBackBy (model prog w) A env E)) s) :
    wpAny (model prog w) A (exec (.While test body [] pos) env) Q E s := by
  refine wpAny_While (codeAny_whileLoop I (fun n s' hI => wpAny_mono (turn n s' hI) (fun b s₂ hb => ?_) fun _ _ x => x) n h0)
  cases b with
  | true =>
    simp only [if_true] at hb ⊢
    refine wpAny_mono hb (fun f s₃ hf => ?_) fun _ _ x => x
    cases f <;> exact hf
  | false =>
    simp only [Bool.false_eq_true, if_false] at hb ⊢
    exact wpAny_execs_nil hb
end
noncomputable def BmP (q D : Addr) (h : Heap) : Prop := h.get? q = some (bmObj D)
section
variable {M : Model} {A : Around} {E : Value → Shared → Prop} {s : Shared} {env : Env} {pos : Pos} {first : List Value} {Q : Value → Shared → Prop}
theorem keeps_B {q D : Addr} (h : Heap) (X : BmP q D h) : ∃ k, (k = Keeper.frame ∨ k = Keeper.machine ∨ k = Keeper.boundFrame) ∧ Looks M h (keeperOf (.ref q)) k :=
  ⟨.machine, .inr (.inl rfl), (Looks.ld (part := none) X).andThen .now⟩
theorem callWith_B {h₀ : Heap} {L : Addr} {news : List (Addr × Obj)} {q D : Addr} {e : Expr} {rest : List Expr} (_N : News h₀ L s.heap news) (_q : (q, bmObj D) ∈ news) (h : wpAny M A (spliced (backTo pos (starEach (e :: rest) env))) (fun vs s₁ => BmP q D s₁.heap ∧ wpAny M A (call (.ref q) (first ++ vs)) Q E s₁) E s)
    (he : starEach (e :: rest) env = (false, eval e env) :: starEach rest env := by rfl) (hplain : (backTo pos (starEach rest env)).any (·.1) = false := by rfl) :
    wpAny M A (callWith pos (.ref q) first (backTo pos (starEach (e :: rest) env)) []) Q E s := by
  rw [he] at h ⊢
  exact callWith_of (by show ((false || (backTo pos (starEach rest env)).any (·.1)) || false) = false; rw [hplain]; rfl) keeps_B (evalArgs_plain h)
theorem bmP {h₀ : Heap} {L : Addr} {h : Heap} {news : List (Addr × Obj)} {q D : Addr} (N : News h₀ L h news) (hq : (q, bmObj D) ∈ news) : BmP q D h := (N _ hq).1
end
end Mine
end

section
open PySem PySem.W PyProof.Rows
namespace Mine
theorem filt_next (p : Str → Bool) : ∀ (l : List Str) (y : Str) (rest : List Str), l.filter p = y :: rest →
    ∃ j, l[j]? = some y ∧ p y = true ∧ (∀ k z, k < j → l[k]? = some z → p z = false) ∧ (l.drop (j + 1)).filter p = rest
  | [], y, rest, h => by cases h
  | a :: l, y, rest, h => by
    by_cases ha : p a = true
    · rw [List.filter_cons_of_pos ha] at h
      obtain ⟨rfl, rfl⟩ := List.cons.inj h
      exact ⟨0, rfl, ha, fun k z hk _ => absurd hk (Nat.not_lt_zero k), rfl⟩
    · rw [List.filter_cons_of_neg ha] at h
      obtain ⟨j, h1, h2, h3, h4⟩ := filt_next p l y rest h
      refine ⟨j + 1, h1, h2, fun k z hk hz => ?_, h4⟩
      cases k with
      | zero =>
        obtain rfl : a = z := by simpa using hz
        simpa using ha
      | succ k => exact h3 k z (by omega) hz
end Mine
end

section
open PySem PySem.W PySem.Calls PyProof.Rows
set_option maxRecDepth 100000
namespace Mine
theorem compTurn_two0 (elt t1 i1 t2 i2 : Expr) (scope : Scope) (pos : Pos) (it acc : Value) (env : Env) :
    compTurn (.ListComp elt [⟨t1, i1, [], 0⟩, ⟨t2, i2, [], 0⟩] scope pos) 0 it acc env = (standAt i1.pos >>= fun _ => pyNext it >>= fun r => match r with
      | none => pure (.done .next)
      | some v => letOwnedTupleGo t1 it v >>= fun _ => assign t1 env v >>= fun _ => eval i2 env >>= fun x => standAt i2.pos >>= fun _ => foldedSetIterable i2 env x >>= fun x =>
        holding [x] (pyIter x) >>= fun it2 => runOwn (.compStart (.ListComp elt [⟨t1, i1, [], 0⟩, ⟨t2, i2, [], 0⟩] scope pos) 1 it2 acc env) env >>= fun _ =>
        again (.compLoop (.ListComp elt [⟨t1, i1, [], 0⟩, ⟨t2, i2, [], 0⟩] scope pos) 0 it acc env)) := by rfl
theorem compTurn_two1 (elt t1 i1 t2 i2 : Expr) (scope : Scope) (pos : Pos) (it acc : Value) (env : Env) :
    compTurn (.ListComp elt [⟨t1, i1, [], 0⟩, ⟨t2, i2, [], 0⟩] scope pos) 1 it acc env = (standAt i2.pos >>= fun _ => pyNext it >>= fun r => match r with
      | none => pure (.done .next)
      | some v => letOwnedTupleGo t2 it v >>= fun _ => assign t2 env v >>= fun _ => (eval elt env >>= fun y => call (.builtin "list.append") [acc, y] >>= fun _ => pure ()) >>= fun _ =>
        again (.compLoop (.ListComp elt [⟨t1, i1, [], 0⟩, ⟨t2, i2, [], 0⟩] scope pos) 1 it acc env)) := by rfl
/-- a list iterator's object -/
noncomputable def LiO (l : Addr) (i : Nat) (o : Obj) : Prop := o.cls = .type "list_iterator" ∧ o.data = .fields #[.ref l, .int i 0]
section
variable {prog : Program} {w : World} {A : Around} {E : Value → Shared → Prop} {s : Shared} {env : Env} {R : Result → Shared → Prop} {h₀ : Heap} {L : Addr} {m : Str → Option Value} {news : List (Addr × Obj)} {gf : Obj → List (Addr × Obj)} {l I : Addr} {its : Array Value} {c i : Nat}

theorem pyNext_item {Q : Option Value → Shared → Prop} {oI : Obj} {x : Value} (F : Fr h₀ L s.heap m) (N : News h₀ L s.heap news) (U : UpdF I oI news gf) (hI : LiO l i oI) (hm : (l, listOf its c) ∈ news) (hx : its[i]? = some x)
    (h : ∀ h' oJ, LiO l (i + 1) oJ → Fr h₀ L h' m → News h₀ L h' (gf oJ) → Q (some x) { s with heap := h' }) : wpAny (model prog w) A (pyNext (.ref I)) Q E s := by
  obtain ⟨pre, post, hlist, hg, a, b⟩ := U.split
  have hIm := N (I, oI) (by rw [hlist]; exact List.mem_append_right _ (.head _))
  refine wpAny_pyNext_list_item ⟨oI, hIm.1, hI.1, hI.2⟩ (News.isList N hm) hx fun h' hit hs => ?_
  obtain ⟨oJ, hoJ, c1, c2⟩ := hit
  obtain ⟨F', N'⟩ := updF_run F N U hs hoJ
  exact h h' oJ ⟨c1, c2⟩ F' N'
theorem pyNext_end {Q : Option Value → Shared → Prop} {oI : Obj} (hh : A.handled = none) (F : Fr h₀ L s.heap m) (N : News h₀ L s.heap ((I, oI) :: news)) (hd : ∀ p ∈ news, p.1 ≠ I) (hI : LiO l i oI) (hm : (l, listOf its c) ∈ news) (hx : its[i]? = none)
    (h : ∀ h', Fr h₀ L h' m → News h₀ L h' news → Q none { s with heap := h' }) : wpAny (model prog w) A (pyNext (.ref I)) Q E s := by
  have hIm := N (I, oI) (.head _)
  refine wpAny_pyNext_list_end hh ⟨oI, hIm.1, hI.1, hI.2⟩ (News.isList N (.tail _ hm)) hx fun h' he => ?_
  refine h h' ⟨F.ns.at' fun o e => he _ o (Ne.symm hIm.2.1) e, fun b o e => he b o (fun q => by rw [q, hIm.2.2] at e; cases e) (F.keep b o e), F.above⟩ fun p hp => ?_
  exact ⟨he _ _ (hd p hp) (N p (.tail _ hp)).1, (N p (.tail _ hp)).2⟩

theorem codeAny_compStart1 {elt t1 i1 t2 i2 scope pos it acc env}
    (h0 : codeAny (model prog w) A (.compLoop (.ListComp elt [⟨t1, i1, [], 0⟩, ⟨t2, i2, [], 0⟩] scope pos) 1 it acc env) R s)
    (h : wpAny (model prog w) A (pyIter it) (fun it' s' => codeAny (model prog w) A (.compLoop (.ListComp elt [⟨t1, i1, [], 0⟩, ⟨t2, i2, [], 0⟩] scope pos) 1 it' acc env) R s')
      NoE s) :
    codeAny (model prog w) A (.compStart (.ListComp elt [⟨t1, i1, [], 0⟩, ⟨t2, i2, [], 0⟩] scope pos) 1 it acc env) R s := by
  refine codeAny_of_tree ?_
  show wpAny _ _ ((compStart (.ListComp elt [⟨t1, i1, [], 0⟩, ⟨t2, i2, [], 0⟩] scope pos) 1 it acc env).onRaise (fun x => do noteFrame x env; standAt theWindowsPlace)) _ _ s
  refine wpAny_notedAt ?_
  unfold compStart
  show wpAny _ _ (ask >>= _) _ _ s
  refine wpAny_bind (wpAny_askSetting (wpAny_ite ?_))
  split
  · first
      | exact wpAny_bind (wpAny_pure (wpAny_pure (And.intro rfl h0)))
      | exact wpAny_pure (And.intro rfl h0)
  · refine wpAny_bind (wpAny_rule ?_)
    show wpAny _ _ (standAt i2.pos >>= _) _ _ s
    exact wpAny_bind (wpAny_standAt (wpAny_bind (wpAny_mono h (fun it' s' h' => wpAny_pure (And.intro rfl h')) fun _ _ x => x.elim)))

theorem compLoop_in {elt t1 i1 t2 i2 : Expr} {scope : Scope} {pos : Pos} {it acc : Value} {env : Env} (I : Nat → Shared → Prop)
    (turn : ∀ n s, I n s → wpAny (model prog w) A (pyNext it) (fun r s₁ => match r with
      | none => R (.ok .next) s₁
      | some v => wpAny (model prog w) A (assign t2 env v) (fun _ s₂ => wpAny (model prog w) A (eval elt env) (fun x s₃ =>
          wpAny (model prog w) A (call (.builtin "list.append") [acc, x]) (fun _ s₄ => ∃ m, m < n ∧ I m s₄) NoE s₃) NoE s₂) NoE s₁) NoE s)
    (n : Nat) (h : I n s) (ht : ∀ v, letOwnedTupleGo t2 it v = pure () := by intro _; rfl) :
    codeAny (model prog w) A (.compLoop (.ListComp elt [⟨t1, i1, [], 0⟩, ⟨t2, i2, [], 0⟩] scope pos) 1 it acc env) R s := by
  refine codeAny_loop rfl I (fun n s hI => ?_) n h
  show wpAny _ _ ((compTurn (.ListComp elt [⟨t1, i1, [], 0⟩, ⟨t2, i2, [], 0⟩] scope pos) 1 it acc env).onRaise (fun x => do noteFrame x env; theTreesLotGoes x)) _ _ s
  refine wpAny_noted ?_
  rw [compTurn_two1]
  refine wpAny_bind (wpAny_standAt (wpAny_bind (wpAny_mono (turn n s hI) (fun r s₁ h₁ => ?_) fun _ _ h' => h'.elim)))
  cases r with
  | none => exact wpAny_pure h₁
  | some v =>
    refine wpAny_bind (wpAny_of_eq (ht v) ?_)
    exact wpAny_bind (wpAny_mono h₁ (fun _ s₂ h₂ => wpAny_bind (wpAny_bind (wpAny_mono h₂ (fun x s₃ h₃ => wpAny_bind (wpAny_mono h₃
      (fun _ s₄ h₄ => wpAny_pure (wpAny_pure ⟨rfl, h₄⟩)) fun _ _ h' => h'.elim)) fun _ _ h' => h'.elim))) fun _ _ h' => h'.elim)

theorem compLoop_out {elt t1 i1 t2 i2 : Expr} {scope : Scope} {pos : Pos} {it acc : Value} {env : Env} (I : Nat → Shared → Prop)
    (turn : ∀ n s, I n s → wpAny (model prog w) A (pyNext it) (fun r s₁ => match r with
      | none => R (.ok .next) s₁
      | some v => wpAny (model prog w) A (assign t1 env v) (fun _ s₂ => wpAny (model prog w) A (eval i2 env) (fun x s₃ => wpAny (model prog w) A (pyIter x) (fun it2 s₄ =>
          codeAny (model prog w) A (.compStart (.ListComp elt [⟨t1, i1, [], 0⟩, ⟨t2, i2, [], 0⟩] scope pos) 1 it2 acc env) (fun r s₅ => match r with | .ok _ => ∃ m, m < n ∧ I m s₅ | .error _ => False) s₄) NoE s₃) NoE s₂) NoE s₁) NoE s)
    (n : Nat) (h : I n s) (ht : ∀ v, letOwnedTupleGo t1 it v = pure () := by intro _; rfl) (hs : ∀ x, foldedSetIterable i2 env x = pure x := by intro _; rfl) :
    codeAny (model prog w) A (.compLoop (.ListComp elt [⟨t1, i1, [], 0⟩, ⟨t2, i2, [], 0⟩] scope pos) 0 it acc env) R s := by
  refine codeAny_loop rfl I (fun n s hI => ?_) n h
  show wpAny _ _ ((compTurn (.ListComp elt [⟨t1, i1, [], 0⟩, ⟨t2, i2, [], 0⟩] scope pos) 0 it acc env).onRaise (fun x => do noteFrame x env; theTreesLotGoes x)) _ _ s
  refine wpAny_noted ?_
  rw [compTurn_two0]
  refine wpAny_bind (wpAny_standAt (wpAny_bind (wpAny_mono (turn n s hI) (fun r s₁ h₁ => ?_) fun _ _ h' => h'.elim)))
  cases r with
  | none => exact wpAny_pure h₁
  | some v =>
    refine wpAny_bind (wpAny_of_eq (ht v) ?_)
    refine wpAny_bind (wpAny_mono h₁ (fun _ s₂ h₂ => wpAny_bind (wpAny_mono h₂ (fun x s₃ h₃ => wpAny_bind (wpAny_standAt (wpAny_bind (wpAny_of_eq (hs x) ?_)))) fun _ _ h' => h'.elim)) fun _ _ h' => h'.elim)
    refine wpAny_bind (wpAny_holding (wpAny_mono h₃ (fun it2 s₄ h₄ => wpAny_bind ?_) fun _ _ h' => h'.elim))
    refine wpAny_runOwn ?_
    rw [Around.mark_none]
    refine codeAny_mono h₄ fun r s₅ hr => ?_
    cases r with
    | ok f => exact wpAny_pure ⟨rfl, hr⟩
    | error e => exact hr.elim
end
end Mine
end

section
open PySem PySem.W PySem.Calls PyProof.Rows
set_option maxRecDepth 100000
namespace Mine
section
variable {prog : Program} {w : World} {A : Around} {E : Value → Shared → Prop} {s : Shared} {env : Env} {h₀ : Heap} {m : Str → Option Value} {news : List (Addr × Obj)}
noncomputable def Comp2At (prog : Program) (w : World) (A : Around) (E : Value → Shared → Prop) (env : Env) (scope : Scope) (e : Expr) (Q : Value → Shared → Prop) (cl : List (Str × Addr)) (it : Value) (s₂ : Shared) : Prop :=
  wpAny (model prog w) A (newList []) (fun acc s₃ => wpAny (model prog w) A (newFunctionEnv scope env.globals cl [] env.qual none .none (some env)) (fun cenv s₄ =>
    codeAny (model prog w) A (.compStart e 0 it acc { cenv with scope := relabel scope env }) (compPost (model prog w) A E none Q acc cenv.locals) s₄) E s₃) E s₂

theorem comp2_rule {elt iter1 iter2 t1 t2 : Expr} {scope : Scope} {cl : List (Str × Addr)} {pos : Pos} {Q : Value → Shared → Prop}
    (hclos : closureFor scope env = pure cl) (hkind : scope.kind = .function)
    (hnames : ∀ y ∈ scope.names, y.2 = .local → scope.names.lookup y.1 = some .local)
    (h : wpAny (model prog w) A (eval iter1 env) (fun xv s₁ => wpAny (model prog w) A (pyIter xv) (Comp2At prog w A E env scope (.ListComp elt [⟨t1, iter1, [], 0⟩, ⟨t2, iter2, [], 0⟩] scope pos) Q cl) E s₁) E s)
    (hs : ∀ x, foldedSetIterable iter1 env x = pure x := by intro _; rfl) :
    wpAny (model prog w) A (eval (.ListComp elt [⟨t1, iter1, [], 0⟩, ⟨t2, iter2, [], 0⟩] scope pos) env) Q E s := by
  rw [eval_ListComp]
  exact wpAny_comprehension_free (use := none) rfl hs hclos hkind hnames h

/-- a name of the comprehension is written -/
theorem store_comp {scope : Scope} {cl : List (Str × Addr)} {x : Str} {C : Addr} {oC : Obj} {mc : Str → Option Value} {px : Pos} {v : Value} {gf : Obj → List (Addr × Obj)} {Q : Unit → Shared → Prop}
    (F : Fr h₀ env.locals s.heap m) (N : News h₀ env.locals s.heap news) (U : UpdF C oC news gf) (hC : NsObj oC mc)
    (hx : scope.names.lookup x = some .local) (hkind : scope.kind = .function)
    (h : ∀ h' oC', NsObj oC' (fun y => if y = x then some v else mc y) → Fr h₀ env.locals h' m → News h₀ env.locals h' (gf oC') → Q () { s with heap := h', toks := s.toks + 1 }) :
    wpAny (model prog w) A (assign (.Name x px) (compEnvC scope cl C env) v) Q E s := by
  have hq99 := U.split
  revert hq99
  walk_at "flat"
  rename_i pre post hlist hg a b
  have hCm := N (C, oC) (by rw [hlist]; exact List.mem_append_right _ (.head _))
  have cx : (compEnvC scope cl C env).kindOf x = some .local := lookup_relabel_local hx
  refine wpAny_assign_Name (wpAny_storeName_local cx (hC.ns hCm.1) (fun h₅ hn₅ hs₅ => ?_) (by simp [compEnvC, relabel, hkind]))
  obtain ⟨oC₅, hoC₅, hnC₅⟩ := NsObj.of hn₅
  obtain ⟨F', N'⟩ := updF_run F N U hs₅ hoC₅
  exact h h₅ oC₅ hnC₅ F' N'

theorem list_comp2 {x y : Str} {px py : Pos} {elt iter1 iter2 : Expr} {scope : Scope} {cl : List (Str × Addr)} {pos : Pos} {Q : Value → Shared → Prop} {l : Addr} {vs : List Value} {k : Nat} {hs : List (List Str)}
    (hh : A.handled = none) (F : Fr h₀ env.locals s.heap m) (N : News h₀ env.locals s.heap news) (hm : (l, listOf vs.toArray k) ∈ news) (hn : vs.length ≤ 1000)
    (hx : scope.names.lookup x = some .local) (hy : scope.names.lookup y = some .local) (hcell : ∀ y ∈ scope.names, y.2 ≠ .cell) (hkind : scope.kind = .function)
    (hlen : hs.length = vs.length) (htot : hs.flatten.length ≤ 1000)
    (hit : ∀ (i : Nat) v hd s₁ C oC mc led, vs[i]? = some v → hs[i]? = some hd → Fr h₀ env.locals s₁.heap m → News h₀ env.locals s₁.heap ((C, oC) :: led) → (∀ p ∈ news, p ∈ led) → NsObj oC mc → mc x = some v →
      wpAny (model prog w) A (eval iter2 (compEnvC scope cl C env)) (fun xv s₂ => ∃ a hvs kh tk, xv = .ref a ∧ (a, listOf hvs.toArray kh) ∈ news ∧ StrsAre hvs hd ∧ s₂ = { s₁ with toks := tk }) NoE s₁)
    (helt : ∀ v s₁ C oC mc led, Fr h₀ env.locals s₁.heap m → News h₀ env.locals s₁.heap ((C, oC) :: led) → NsObj oC mc → mc y = some v →
      wpAny (model prog w) A (eval elt (compEnvC scope cl C env)) (fun xv s₂ => xv = v ∧ ∃ tk, s₂ = { s₁ with toks := tk }) NoE s₁)
    (done : ∀ h' tk D ys c, Fr h₀ env.locals h' m → News h₀ env.locals h' ((D, listOf ys.toArray c) :: news) → (∀ p ∈ news, p.1 < D) → StrsAre ys hs.flatten → Q (.ref D) { s with heap := h', toks := tk })
    (hs2 : ∀ C x, foldedSetIterable iter2 (compEnvC scope cl C env) x = pure x := by intro _ _; rfl) :
    wpAny (model prog w) A (pyIter (.ref l)) (Comp2At prog w A E env scope (.ListComp elt [⟨.Name x px, iter1, [], 0⟩, ⟨.Name y py, iter2, [], 0⟩] scope pos) Q cl) E s := by
  have hl := News.isList N hm
  refine wpAny_pyIter_list hl ?_
  have hlt : ∀ p ∈ news, p.1 < s.heap.objs.size := fun p hp => Heap.lt_size (N p hp).1
  generalize hI : s.heap.objs.size = I at hlt ⊢
  have hIsz : (s.heap.push (liObj l 0)).objs.size = I + 1 := by rw [Heap.size_push, hI]
  have F1 : Fr h₀ env.locals (s.heap.push (liObj l 0)) m := F.push _
  have N1 : News h₀ env.locals (s.heap.push (liObj l 0)) ((I, liObj l 0) :: news) := hI ▸ News.push F N (liObj l 0) rfl
  show Comp2At prog w A E env scope _ Q cl (.ref I) { s with heap := s.heap.push (liObj l 0) }
  generalize s.heap.push (liObj l 0) = H1 at F1 N1 hIsz ⊢
  have hLI : env.locals < I := hI ▸ F.ns.lt
  unfold Comp2At
  refine wpAny_newObj_type (wpAny_newFunctionEnv hcell (by intro y hy; simp at hy) (fun h₁ hns₁ hsb₁ => ?_) hkind)
  dsimp only at hns₁ hsb₁ ⊢
  have F2 : Fr h₀ env.locals (H1.push { cls := .type "list", dict := none, data := .seq ([] : List Value).toArray }) m := F1.push _
  have N2 : News h₀ env.locals (H1.push { cls := .type "list", dict := none, data := .seq ([] : List Value).toArray }) ((I + 1, listOf #[] 0) :: (I, liObj l 0) :: news) := hIsz ▸ News.push F1 N1 _ rfl
  have hC0 : (H1.push { cls := .type "list", dict := none, data := .seq ([] : List Value).toArray }).objs.size = I + 2 := by rw [Heap.size_push, hIsz]
  rw [hIsz]
  generalize H1.push { cls := .type "list", dict := none, data := .seq ([] : List Value).toArray } = H2 at F2 N2 hns₁ hsb₁ hC0 ⊢
  rw [hC0] at hns₁ hsb₁ ⊢
  have k1 : ∀ b o, H2.get? b = some o → h₁.get? b = some o := fun b o e => hsb₁.extBut b o (Nat.ne_of_lt (by have := Heap.lt_size e; rw [hC0] at this; exact this)) (Heap.get?_push_of_some _ e)
  obtain ⟨oC, hoC, hnC⟩ := NsObj.of hns₁
  have F3 : Fr h₀ env.locals h₁ m := F2.keeps k1
  have N3 : News h₀ env.locals h₁ ((I + 2, oC) :: (I + 1, listOf #[] 0) :: (I, liObj l 0) :: news) := by
    have z := news_pushed (s := { s with heap := H2 }) F2 N2 k1 (show h₁.get? H2.objs.size = some oC by rw [hC0]; exact hoC) rfl
    rw [hC0] at z; exact z
  have apI : ∀ p ∈ news, p.1 ≠ I ∧ p.1 ≠ I + 1 ∧ p.1 ≠ I + 2 := fun p hp => ⟨Nat.ne_of_lt (hlt p hp), Nat.ne_of_lt (Nat.lt_succ_of_lt (hlt p hp)), Nat.ne_of_lt (Nat.lt_succ_of_lt (Nat.lt_succ_of_lt (hlt p hp)))⟩
  have ft : ∀ (i : Nat) (hd : List Str), hs[i]? = some hd → (hs.take (i + 1)).flatten = (hs.take i).flatten ++ hd := fun i hd e => by rw [List.take_add_one, e]; simp
  have fl : ∀ (i : Nat), (hs.take i).flatten.length ≤ hs.flatten.length := fun i => by
    have e : hs.flatten = (hs.take i).flatten ++ (hs.drop i).flatten := by rw [← List.flatten_append, List.take_append_drop]
    rw [e, List.length_append]; omega
  let e0 : Expr := .ListComp elt [⟨.Name x px, iter1, [], 0⟩, ⟨.Name y py, iter2, [], 0⟩] scope pos
  let inv : Nat → Shared → Prop := fun k' s' => ∃ i ys h tk c mc oC oI, k' = vs.length + 1 - i ∧ i ≤ vs.length ∧ s' = { s with heap := h, toks := tk } ∧ Fr h₀ env.locals h m ∧ News h₀ env.locals h ((I, oI) :: (I + 2, oC) :: (I + 1, listOf (ys : List Value).toArray c) :: news) ∧ LiO l i oI ∧ NsObj oC mc ∧ StrsAre ys (hs.take i).flatten
  have outer : ∀ s₃, inv (vs.length + 1) s₃ → codeAny (model prog w) A (.compLoop e0 0 (.ref I) (.ref (I + 1)) (compEnvC scope cl (I + 2) env)) (compPost (model prog w) A E none Q (.ref (I + 1)) (I + 2)) s₃ := by
    intro s₃ h0
    refine compLoop_out inv (fun n' s' hinv => ?_) (vs.length + 1) h0 (hs := hs2 _)
    revert hinv
    walk_at "flat"
    rename_i i ys h tk c mc oC oI hz91 hi hz92 F N hLi hnC hys
    subst hz91
    subst hz92
    by_cases hlt' : i < vs.length
    · have hv : vs[i]? = some vs[i] := List.getElem?_eq_getElem hlt'
      have hd0 : hs[i]? = some (hs[i]'(hlen ▸ hlt')) := List.getElem?_eq_getElem (hlen ▸ hlt')
      generalize vs[i] = v at hv
      generalize hs[i]'(hlen ▸ hlt') = hd at hd0
      refine pyNext_item (s := { s with heap := h, toks := tk }) F N (.head (fun p hp => ?_)) hLi (.tail _ (.tail _ (.tail _ hm))) (x := v) (by simpa using hv) fun h' oI' hLi' F' N' => ?_
      · rcases List.mem_cons.mp hp with rfl | hp
        · show I + 2 ≠ I; omega
        rcases List.mem_cons.mp hp with rfl | hp
        · show I + 1 ≠ I; omega
        · exact (apI p hp).1
      dsimp only
      refine store_comp (s := { s with heap := h', toks := tk }) F' N' (.tail (show I ≠ I + 2 by omega) (.head (fun p hp => ?_))) hnC hx hkind fun h3 oC3 hnC3 F3 N3 => ?_
      · rcases List.mem_cons.mp hp with rfl | hp
        · show I + 1 ≠ I + 2; omega
        · exact (apI p hp).2.2
      refine wpAny_mono (hit i v hd { s with heap := h3, toks := tk + 1 } (I + 2) oC3 _ ((I, oI') :: (I + 1, listOf ys.toArray c) :: news) hv hd0 F3 (news_sub N3 fun p hp => ?_) (fun p hp => .tail _ (.tail _ hp)) hnC3 (by simp)) ?_ fun _ _ e => e
      · simp only [List.mem_cons] at hp ⊢
        rcases hp with h | h | h | h
        · exact .inr (.inl h)
        · exact .inl h
        · exact .inr (.inr (.inl h))
        · exact .inr (.inr (.inr h))
      rintro xv s₂
      walk_at "flat"
      rename_i a hvs kh tk4 hz93 ha hSh hz94
      subst hz93
      subst hz94
      dsimp only at ha ⊢
      have hal : News h₀ env.locals h3 _ := N3
      have hmem : (a, listOf hvs.toArray kh) ∈ (I, oI') :: (I + 2, oC3) :: (I + 1, listOf ys.toArray c) :: news := .tail _ (.tail _ (.tail _ ha))
      refine wpAny_pyIter_list (s := { s with heap := h3, toks := tk4 }) (News.isList N3 hmem) ?_
      have N4 : News h₀ env.locals (h3.push (liObj a 0)) ((h3.objs.size, liObj a 0) :: (I, oI') :: (I + 2, oC3) :: (I + 1, listOf ys.toArray c) :: news) := News.push F3 N3 (liObj a 0) rfl
      have F4 : Fr h₀ env.locals (h3.push (liObj a 0)) m := F3.push _
      have hJ : I + 2 < h3.objs.size := Heap.lt_size (N3 (I + 2, oC3) (by simp)).1
      show codeAny _ _ (.compStart e0 1 (.ref h3.objs.size) _ _) _ { s with heap := h3.push (liObj a 0), toks := tk4 }
      generalize h3.objs.size = J at N4 hJ ⊢
      generalize h3.push (liObj a 0) = h4 at N4 F4 ⊢
      have htl : (hs.take i).flatten.length + hd.length ≤ 1000 := by
        have := fl (i + 1)
        rw [ft i hd hd0, List.length_append] at this
        omega
      have hhl : hvs.length = hd.length := hSh.length
      let inv2 : Nat → Shared → Prop := fun k' s' => ∃ j ys h tk c mc oC oJ, k' = hvs.length + 1 - j ∧ j ≤ hvs.length ∧ s' = { s with heap := h, toks := tk } ∧ Fr h₀ env.locals h m ∧ News h₀ env.locals h ((J, oJ) :: (I, oI') :: (I + 2, oC) :: (I + 1, listOf (ys : List Value).toArray c) :: news) ∧ LiO a j oJ ∧ NsObj oC mc ∧ StrsAre ys ((hs.take i).flatten ++ hd.take j)
      have loop2 : codeAny (model prog w) A (.compLoop e0 1 (.ref J) (.ref (I + 1)) (compEnvC scope cl (I + 2) env)) (fun r s₅ => match r with | .ok _ => ∃ m, m < vs.length + 1 - i ∧ inv m s₅ | .error _ => False) { s with heap := h4, toks := tk4 } := by
        refine compLoop_in inv2 (fun n2 s' hinv => ?_) (hvs.length + 1) ⟨0, ys, h4, tk4, c, _, oC3, liObj a 0, rfl, Nat.zero_le _, rfl, F4, N4, ⟨rfl, rfl⟩, hnC3, by simpa using hys⟩
        clear N4 F4 N3 F3 N' F' N F hnC3 hys hal hmem
        revert hinv
        walk_at "flat"
        rename_i j ys h tk c mc oC oJ hz95 hj hz96 F N hLj hnC hys
        subst hz95
        subst hz96
        have hneJ : ∀ p ∈ (I, oI') :: (I + 2, oC) :: (I + 1, listOf ys.toArray c) :: news, p.1 ≠ J := fun p hp => by
          rcases List.mem_cons.mp hp with rfl | hp
          · show I ≠ J; omega
          rcases List.mem_cons.mp hp with rfl | hp
          · show I + 2 ≠ J; omega
          rcases List.mem_cons.mp hp with rfl | hp
          · show I + 1 ≠ J; omega
          · exact Nat.ne_of_lt (Nat.lt_trans (hlt p hp) (Nat.lt_trans (Nat.lt_succ_of_lt (Nat.lt_succ_self _)) hJ))
        by_cases hjl : j < hvs.length
        · have hz : hd[j]? = some (hd[j]'(hhl ▸ hjl)) := List.getElem?_eq_getElem (hhl ▸ hjl)
          generalize hd[j]'(hhl ▸ hjl) = z at hz
          obtain ⟨t, hzv⟩ := hSh.get j z hz
          refine pyNext_item (s := { s with heap := h, toks := tk }) F N (.head hneJ) hLj (.tail _ (.tail _ (.tail _ (.tail _ ha)))) (x := .str z t) (by simpa using hzv) fun h5 oJ' hLj' F5 N5 => ?_
          dsimp only
          refine store_comp (s := { s with heap := h5, toks := tk }) F5 N5 (.tail (show J ≠ I + 2 by omega) (.tail (show I ≠ I + 2 by omega) (.head (fun p hp => ?_)))) hnC hy hkind fun h6 oC6 hnC6 F6 N6 => ?_
          · rcases List.mem_cons.mp hp with rfl | hp
            · show I + 1 ≠ I + 2; omega
            · exact (apI p hp).2.2
          refine wpAny_mono (helt (.str z t) { s with heap := h6, toks := tk + 1 } (I + 2) oC6 _ ((J, oJ') :: (I, oI') :: (I + 1, listOf ys.toArray c) :: news) F6 (news_sub N6 fun p hp => ?_) hnC6 (by simp)) ?_ fun _ _ e => e
          · simp only [List.mem_cons] at hp ⊢
            rcases hp with h | h | h | h | h
            · exact .inr (.inr (.inl h))
            · exact .inl h
            · exact .inr (.inl h)
            · exact .inr (.inr (.inr (.inl h)))
            · exact .inr (.inr (.inr (.inr h)))
          rintro xv s₂ ⟨rfl, tk7, rfl⟩
          have hyl : ys.length ≤ 1000 := by
            rw [hys.length, List.length_append]
            have : (hd.take j).length ≤ hd.length := by rw [List.length_take]; omega
            omega
          refine append_L (s := { s with heap := h6, toks := tk7 }) F6 N6 (.tail (show J ≠ I + 1 by omega) (.tail (show I ≠ I + 1 by omega) (.tail (show I + 2 ≠ I + 1 by omega) (.head fun p hp => (apI p hp).2.1)))) hyl fun h7 F7 N7 => ?_
          refine ⟨hvs.length + 1 - (j + 1), by omega, j + 1, ys ++ [.str z t], h7, tk7, c + 1, _, oC6, oJ', rfl, by omega, rfl, F7, N7, hLj', hnC6, ?_⟩
          rw [List.take_add_one, hz, ← List.append_assoc]
          exact StrsAre.append' hys (.cons _ _ .nil)
        · have hjn : j = hvs.length := by omega
          subst hjn
          refine pyNext_end (s := { s with heap := h, toks := tk }) hh F N hneJ hLj (.tail _ (.tail _ (.tail _ ha))) (by simp) fun h5 F5 N5 => ?_
          refine ⟨vs.length + 1 - (i + 1), by omega, i + 1, ys, h5, tk, c, mc, oC, oI', rfl, by omega, rfl, F5, N5, hLi', hnC, ?_⟩
          rw [ft i hd hd0]
          rwa [hhl, List.take_length] at hys
      exact codeAny_compStart1 loop2 (wpAny_pyIter_listiter ⟨_, (N4 _ (.head _)).1, rfl, rfl⟩ loop2)
    · have hin : i = vs.length := by omega
      subst hin
      refine pyNext_end (s := { s with heap := h, toks := tk }) hh F N (fun p hp => ?_) hLi (.tail _ (.tail _ hm)) (by simp) fun h5 F5 N5 => ?_
      · rcases List.mem_cons.mp hp with rfl | hp
        · show I + 2 ≠ I; omega
        rcases List.mem_cons.mp hp with rfl | hp
        · show I + 1 ≠ I; omega
        · exact (apI p hp).1
      refine ⟨mc, hnC.ns (N5 _ (.head _)).1, fun h6 hs6 => ?_⟩
      have hL2 : env.locals ≠ I + 2 := Nat.ne_of_lt (Nat.lt_succ_of_lt (Nat.lt_succ_of_lt hLI))
      have hC2 := (N5 _ (.head _)).2.2
      refine done h6 tk (I + 1) ys c ⟨F5.ns.sameBut hs6 hL2, fun b ob e => (hs6.2 b (fun q => by rw [q, hC2] at e; cases e)).trans (F5.keep b ob e), F5.above⟩ (fun p hp => ?_) (fun p hp => Nat.lt_succ_of_lt (hlt p hp)) ?_
      · have z := N5 p (.tail _ hp)
        refine ⟨(hs6.2 _ ?_).trans z.1, z.2⟩
        rcases List.mem_cons.mp hp with rfl | hp
        · show I + 1 ≠ I + 2; omega
        · exact (apI p hp).2.2
      · rwa [← hlen, List.take_length] at hys
  have h0 : inv (vs.length + 1) { s with heap := h₁, toks := s.toks + ([] : List (Str × Value)).length } := ⟨0, [], h₁, _, 0, _, oC, liObj l 0, rfl, Nat.zero_le _, rfl, F3, news_sub N3 (fun p hp => by
      simp only [List.mem_cons] at hp ⊢
      rcases hp with h | h | h | h
      · exact .inr (.inr (.inl h))
      · exact .inl h
      · exact .inr (.inl h)
      · exact .inr (.inr (.inr h))), ⟨rfl, rfl⟩, hnC, .nil⟩
  exact codeAny_compStart_list (outer _ h0) (wpAny_pyIter_listiter ⟨_, (N3 _ (.tail _ (.tail _ (.head _)))).1, rfl, rfl⟩ (outer _ h0))
end
end Mine
end

section
open PySem PySem.W PySem.Calls PyProof.Rows
set_option maxRecDepth 100000
namespace Mine
/-- a dict whose keys are the texts of the places -/
noncomputable def Tab (kvs : List (Str × Value)) (P : Nat → Str) (n : Nat) (Φ : Nat → Value → Prop) : Prop := kvs.map (·.1) = (List.range n).map P ∧ ∀ j, j < n → ∃ v, valueAt kvs (P j) = some v ∧ Φ j v
theorem valueAt_stored (kvs : List (Str × Value)) (k k' : Str) (v : Value) : valueAt (stored kvs k v) k' = if k' = k then some v else valueAt kvs k' := put_find kvs k k' v
theorem keys_stored_old {kvs : List (Str × Value)} {k : Str} {v : Value} (h : k ∈ kvs.map (·.1)) : (stored kvs k v).map (·.1) = kvs.map (·.1) := by
  unfold stored
  obtain ⟨q, hq, e⟩ := List.mem_map.mp h
  rw [if_pos (List.any_eq_true.mpr ⟨q, hq, by simpa using e⟩), List.map_map]
  refine List.map_congr_left fun p _ => ?_
  simp only [Function.comp]
  split <;> rfl
theorem Tab.snoc {kvs : List (Str × Value)} {P : Nat → Str} {i : Nat} {Φ : Nat → Value → Prop} {v : Value} (h : Tab kvs P i Φ) (inj : ∀ j, j < i → P j ≠ P i) (hv : Φ i v) : Tab (stored kvs (P i) v) P (i + 1) Φ := by
  refine ⟨?_, fun j hj => ?_⟩
  · have hn : P i ∉ kvs.map (·.1) := by
      rw [h.1]; intro hm
      obtain ⟨j, hj, e⟩ := List.mem_map.mp hm
      exact inj j (List.mem_range.mp hj) e
    rw [stored_new hn, List.map_append, h.1, List.range_succ, List.map_append]; rfl
  · rw [valueAt_stored]
    by_cases e : j = i
    · subst e; exact ⟨v, by simp, hv⟩
    · obtain ⟨u, h1, h2⟩ := h.2 j (by omega)
      exact ⟨u, by rw [if_neg (inj j (by omega))]; exact h1, h2⟩
theorem Tab.upd {kvs : List (Str × Value)} {P : Nat → Str} {n i : Nat} {Φ Φ' : Nat → Value → Prop} {v : Value} (h : Tab kvs P n Φ) (hi : i < n) (inj : ∀ j, j < n → j ≠ i → P j ≠ P i) (hv : Φ' i v) (hm : ∀ j u, j < n → j ≠ i → Φ j u → Φ' j u) : Tab (stored kvs (P i) v) P n Φ' := by
  refine ⟨?_, fun j hj => ?_⟩
  · rw [keys_stored_old (by rw [h.1]; exact List.mem_map.mpr ⟨i, List.mem_range.mpr hi, rfl⟩), h.1]
  · rw [valueAt_stored]
    by_cases e : j = i
    · subst e; exact ⟨v, by simp, hv⟩
    · obtain ⟨u, h1, h2⟩ := h.2 j hj
      exact ⟨u, by rw [if_neg (inj j hj e)]; exact h1, hm j u hj e h2⟩
theorem Tab.mono {kvs : List (Str × Value)} {P : Nat → Str} {n : Nat} {Φ Φ' : Nat → Value → Prop} (h : Tab kvs P n Φ) (hm : ∀ j u, j < n → Φ j u → Φ' j u) : Tab kvs P n Φ' :=
  ⟨h.1, fun j hj => let ⟨u, h1, h2⟩ := h.2 j hj; ⟨u, h1, hm j u hj h2⟩⟩
theorem Tab.len {kvs : List (Str × Value)} {P : Nat → Str} {n : Nat} {Φ : Nat → Value → Prop} (h : Tab kvs P n Φ) : kvs.length = n := by
  have := congrArg List.length h.1
  simpa using this

noncomputable abbrev tupO (vs : Array Value) : Obj := { cls := .type "tuple", data := .seq vs }
/-- what is summed up of a place -/
structure Sv where
  a : Int
  b : Int
  c : Int
  d : Int
  e : List (Str × Int)
noncomputable def RowOf (ob : List (Addr × Obj)) (f : Nat → Int) (j : Nat) (v : Value) : Prop := ∃ a t1 t2, v = .ref a ∧ (a, tupO #[.int (f j) t1, .int j t2]) ∈ ob
noncomputable def HeadOf (ob : List (Addr × Obj)) (P : Nat → Str) (hp : Nat → Option Nat) (j : Nat) (v : Value) : Prop := ∃ a vs c, v = .ref a ∧ (a, listOf (List.toArray vs) c) ∈ ob ∧ StrsAre vs ((hp j).toList.map P)
noncomputable def SumOf (prog : Program) (w : World) (ob : List (Addr × Obj)) (sv : Nat → Sv) (j : Nat) (v : Value) : Prop :=
  ∃ a d o kvs t0 t1 t2 t3, v = .ref a ∧ (a, tupO #[.int (sv j).a t0, .int (sv j).b t1, .int (sv j).c t2, .int (sv j).d t3, .ref d]) ∈ ob ∧ (d, o) ∈ ob ∧ (d == sysModules) = false ∧ o.IsDictOf (PySem.strKind prog w) kvs ∧ SI kvs (sv j).e
noncomputable def sv0 (f : Nat → Int) (j : Nat) : Sv := ⟨1, j, f j, f j * j, [(uvwOf (f j), 1 + j)]⟩
end Mine
namespace Mine
theorem RowOf.mono {ob ob' : List (Addr × Obj)} {f : Nat → Int} {j : Nat} {v : Value} (x : RowOf ob f j v) (h : ∀ p ∈ ob, p ∈ ob') : RowOf ob' f j v := let ⟨a, t1, t2, e, m⟩ := x; ⟨a, t1, t2, e, h _ m⟩
theorem HeadOf.mono {ob ob' : List (Addr × Obj)} {P : Nat → Str} {hp : Nat → Option Nat} {j : Nat} {v : Value} (x : HeadOf ob P hp j v) (h : ∀ p ∈ ob, p ∈ ob') : HeadOf ob' P hp j v := let ⟨a, vs, c, e, m, q⟩ := x; ⟨a, vs, c, e, h _ m, q⟩
theorem SumOf.mono {prog : Program} {w : World} {ob ob' : List (Addr × Obj)} {sv : Nat → Sv} {j : Nat} {v : Value} (x : SumOf prog w ob sv j v) (h : ∀ p ∈ ob, p ∈ ob') : SumOf prog w ob' sv j v :=
  ex8 (fun a d o kvs t0 t1 t2 t3 => an5 fun e m q lo r => ⟨a, d, o, kvs, t0, t1, t2, t3, e, h _ m, h _ q, lo, r⟩) x
end Mine
namespace Mine
theorem led10 {g h : Heap} {L : Addr} {x1 x2 x3 x4 x5 x6 i s t r : Addr × Obj} {ob : List (Addr × Obj)} (N : News g L h (x1 :: x2 :: x3 :: x4 :: x5 :: x6 :: i :: s :: t :: r :: ob)) :
    ∃ ob', News g L h (i :: s :: t :: r :: ob') ∧ x1 ∈ ob' ∧ x2 ∈ ob' ∧ x3 ∈ ob' ∧ x4 ∈ ob' ∧ x5 ∈ ob' ∧ x6 ∈ ob' ∧ (∀ p ∈ ob, p ∈ ob') ∧
      ∀ a : Addr, x1.1 ≠ a → x2.1 ≠ a → x3.1 ≠ a → x4.1 ≠ a → x5.1 ≠ a → x6.1 ≠ a → (∀ p ∈ ob, p.1 ≠ a) → ∀ p ∈ ob', p.1 ≠ a := by
  refine ⟨x1 :: x2 :: x3 :: x4 :: x5 :: x6 :: ob, fun p hp => N p ?_, by simp, by simp, by simp, by simp, by simp, by simp, fun p hp => by simp [hp], fun a e1 e2 e3 e4 e5 e6 e7 p hp => ?_⟩
  · simp only [List.mem_cons] at hp ⊢
    rcases hp with h | h | h | h | h | h | h | h | h | h | h <;> repeat (first | exact h | exact Or.inl h | apply Or.inr)
  · simp only [List.mem_cons] at hp
    rcases hp with rfl | rfl | rfl | rfl | rfl | rfl | h <;> first | assumption | exact e7 p h
end Mine
end

section
open PySem PySem.W PySem.Calls PyProof.Rows
set_option maxRecDepth 100000
namespace Mine
section
variable {prog : Program} {w : World} {A : Around} {E : Value → Shared → Prop} {s : Shared} {h₀ : Heap} {L : Addr} {m : Str → Option Value} {news : List (Addr × Obj)}
theorem fill_list_iadd : fillsInplaceSlot (.type "list") "add" (Operator.Add == .Add) = pure false := by
  unfold fillsInplaceSlot
  show (typeLookup (.type "list") (dunderI "add") >>= fun fi => pure (fi.isSome && !isSeqSlot fi)) = pure false
  rw [PySem.F.slot_list_iadd.lookup, pure_bind]
  rw [show isSeqSlot (some (Value.builtin "list.__iadd__")) = true by decide +kernel]
  rfl
theorem seq_list_iadd : seqSlot? (.type "list") (dunderI "add") = pure (some (.builtin "list.__iadd__")) := PySem.seqSlot_of PySem.F.slot_list_iadd.lookup (by decide +kernel)
/-- `a += b` with lists -/
theorem iadd_L {l b : Addr} {vs ws : List Value} {c k : Nat} {g : Obj → List (Addr × Obj)} {Q : Value → Shared → Prop} (F : Fr h₀ L s.heap m) (N : News h₀ L s.heap news) (U : UpdF l (listOf vs.toArray c) news g) (hb : (b, listOf ws.toArray k) ∈ news)
    (hz : vs.length + ws.length ≤ 1000) (h : ∀ h' c', Fr h₀ L h' m → News h₀ L h' (g (listOf (vs ++ ws).toArray c')) → Q (.ref l) { s with heap := h' }) :
    wpAny (model prog w) A (inplaceOp .Add (.ref l) (.ref b)) Q E s := by
  have hq99 := U.split
  revert hq99
  walk_at "flat"
  rename_i pre post hlist hg a1 a2
  have hl := N (l, listOf vs.toArray c) (by rw [hlist]; exact List.mem_append_right _ (.head _))
  have hbb := N _ hb
  have ha : s.TypeIs (.ref l) "list" := ⟨_, hl.1, rfl⟩
  have hbt : s.TypeIs (.ref b) "list" := ⟨_, hbb.1, rfl⟩
  unfold inplaceOp
  refine wpAny_holding (wpAny_bind (wpAny_typeOf ha (wpAny_bind (wpAny_of_eq fill_list_iadd ?_))))
  show wpAny _ A (if false = true then _ else _) Q E s
  rw [if_neg Bool.false_ne_true]
  refine wpAny_bind (wpAny_binaryOp1_none (nm := "add") ha hbt noFill_list_add ?_)
  refine wpAny_bind (wpAny_of_eq seq_list_iadd ?_)
  refine wpAny_bind (wpAny_rule ?_)
  have hd : ¬(!vs.toArray.isEmpty && Builtin.List.listTooLong (vs.toArray.size + ws.toArray.size)) = true := by
    simp [Builtin.List.listTooLong]
    intro _
    have := sizeLine_eq
    omega
  refine call_meets PySem.F.slot_list_iadd ha PySem.F.entry_list_iadd (PySem.F.args_list_iadd_2 _ _) (AutoSeq1.list___iadd___list_list_0 l vs.toArray c b ws.toArray k hd (by rw [List.size_toArray, sizeLine_eq]; omega) (by rw [List.size_toArray, List.size_toArray, sizeLine_eq]; omega)) ⟨hl.1, hbb.1, ?_⟩
  have hs : Heap.SameBut l s.heap (s.heap.update l (Obj.mapSeq fun x => x ++ ws.toArray)) := Heap.SameBut.update ..
  have hget := Heap.get?_update_self (Obj.mapSeq fun x => x ++ ws.toArray) hl.1 rfl
  have e : ∃ c', Obj.mapSeq (fun x => x ++ ws.toArray) (listOf vs.toArray c) = listOf (vs.toArray ++ ws.toArray) c' := ⟨_, rfl⟩
  obtain ⟨c', e⟩ := e
  have e2 : vs.toArray ++ ws.toArray = (vs ++ ws).toArray := by simp
  rw [e2] at e
  obtain ⟨F', N'⟩ := updF_run F N U hs (hget.trans (congrArg some e))
  exact h _ c' F' N'

/-- list(d) of a dict whose keys are texts -/
theorem list_DStr {d : Addr} {o : Obj} {kvs : List (Str × Value)} {Q : Value → Shared → Prop} (hh : A.handled = none) (F : Fr h₀ L s.heap m) (N : News h₀ L s.heap news) (hd : o.IsDictOf (PySem.strKind prog w) kvs) (hm : (d, o) ∈ news) (lo : (d == sysModules) = false) (hsz : kvs.length ≤ 1000)
    (h : ∀ (B : Addr) (c : Nat) (h' : Heap) (tk : Nat) (vs : List Value), Fr h₀ L h' m → News h₀ L h' ((B, listOf vs.toArray c) :: news) → (∀ q ∈ news, q.1 < B) → StrsAre vs (kvs.map (·.1)) → Q (.ref B) { s with heap := h', toks := tk }) :
    wpAny (model prog w) A (call (.type "list") [.ref d]) Q E s := by
  refine list_D hh F N hm hd lo hsz fun B c h' tk vs F' N' l1 hl hv' => h B c h' tk vs F' N' l1 ?_
  have e : ∀ (vs : List Value) (kvs : List (Str × Value)), vs.length = kvs.length → (∀ (j : Nat) (u : Value), vs[j]? = some u → ∃ (k : Str) (x : Value), kvs[j]? = some (k, x) ∧ (PySem.strKind prog w).is k u = true) → StrsAre vs (kvs.map (·.1)) := by
    intro vs
    induction vs with
    | nil => intro kvs hl _; cases kvs with | nil => exact .nil | cons _ _ => simp at hl
    | cons v vs ih =>
      intro kvs hl h
      cases kvs with
      | nil => simp at hl
      | cons p r =>
        obtain ⟨k, x, e1, e2⟩ := h 0 v rfl
        simp only [List.getElem?_cons_zero, Option.some.injEq] at e1
        obtain ⟨t, rfl⟩ := isS_inv e2
        subst e1
        exact .cons k t (ih r (by simpa using hl) fun j u hu => h (j + 1) u hu)
  exact e vs kvs hl hv'
theorem len_D {d : Addr} {o : Obj} {kvs : List (Str × Value)} {Q : Value → Shared → Prop} (N : News h₀ L s.heap news) (hm : (d, o) ∈ news) (hd : o.IsDictOf (PySem.strKind prog w) kvs) (lo : (d == sysModules) = false) (hsz : kvs.length ≤ 1000)
    (h : ∀ t k, Q (.int kvs.length t) { s with toks := k }) : wpAny (model prog w) A (call (.builtin "len") [.ref d]) Q E s :=
  call_len_dict (knd := PySem.strKind prog w) lo (dictAt_N N hm hd) (by omega) (h _ _)
theorem last_LS {value slice : Expr} {l : Addr} {vs : List Value} {ss : List Str} {k : Nat} {u : Tok} {z : Str} {Q : Value → Shared → Prop} (N : News h₀ L s.heap news) (hm : (l, listOf vs.toArray k) ∈ news) (hS : StrsAre vs (ss ++ [z]))
    (h : ∀ t, Q (.str z t) s)
    (hs : subscripted slice false (.ref l) (.int (-1) u) = operate [.ref l, .int (-1) u] (getItem (.ref l) (.int (-1) u)) := by with_unfolding_all rfl) :
    wpAny (model prog w) A (subscriptTail value slice (.ref l) (.int (-1) u)) Q E s := by
  have hl : vs.length = ss.length + 1 := by rw [hS.length]; simp
  obtain ⟨t, ht⟩ := hS.get ss.length z (by simp)
  exact last_L N hm (by rw [List.getLast?_eq_getElem?, hl]; exact ht) (h t) hs
end

-- what the second loop does, in plain terms
structure TSt where
  left : List Nat
  told : List Nat
  sums : Nat → Sv
noncomputable def addSv (x y : Sv) : Sv := ⟨y.a + x.a, y.b + x.b, y.c + x.c, y.d + x.d, addC x.e y.e⟩
noncomputable def bareT (hp : Nat → Option Nat) (left : List Nat) : List Nat := left.filter fun i => decide (i ∉ left.filterMap hp)
noncomputable def better (first second : Int) (f : Nat → Int) (l p : Nat) : Nat := if cmp2 first second (f p) p (f l) l < 0 then p else l
noncomputable def leastT (first second : Int) (f : Nat → Int) (bare : List Nat) : Nat := (bare.drop 1).foldl (better first second f) (bare.headD 0)
noncomputable def stepT (first second : Int) (f : Nat → Int) (hp : Nat → Option Nat) (s : TSt) : TSt :=
  let least := leastT first second f (bareT hp s.left)
  let up := (hp least).getD 0
  ⟨s.left.filter fun i => decide (i ≠ least), s.told ++ [up], fun j => if j = up then addSv (s.sums up) (s.sums least) else s.sums j⟩
noncomputable def runT (first second : Int) (f : Nat → Int) (hp : Nat → Option Nat) (n : Nat) : Nat → TSt
  | 0 => ⟨List.range n, [], sv0 f⟩
  | t + 1 => stepT first second f hp (runT first second f hp n t)
theorem runT_left {first second : Int} {f : Nat → Int} {hp : Nat → Option Nat} {n : Nat} : ∀ t, ∀ i ∈ (runT first second f hp n t).left, i < n
  | 0, i, h => List.mem_range.mp h
  | t + 1, i, h => runT_left t i (List.mem_filter.mp h).1
theorem runT_len {first second : Int} {f : Nat → Int} {hp : Nat → Option Nat} {n : Nat} : ∀ t, (runT first second f hp n t).left.length ≤ n
  | 0 => by simp [runT]
  | t + 1 => Nat.le_trans (List.length_filter_le _ _) (runT_len t)
theorem runT_told {first second : Int} {f : Nat → Int} {hp : Nat → Option Nat} {n : Nat} : ∀ t, (runT first second f hp n t).told.length = t
  | 0 => rfl
  | t + 1 => by show (_ ++ [_]).length = _; rw [List.length_append, runT_told t]; rfl
theorem better_mem {first second : Int} {f : Nat → Int} : ∀ (l : List Nat) (a : Nat), l.foldl (better first second f) a ∈ a :: l
  | [], a => .head _
  | b :: r, a => by
    have h := better_mem r (better first second f a b) (first := first) (second := second) (f := f)
    rw [List.foldl_cons]
    rcases List.mem_cons.mp h with h | h
    · rw [h]; unfold better; split <;> simp
    · simp [h]
theorem leastT_mem {first second : Int} {f : Nat → Int} {bare : List Nat} (h : bare ≠ []) : leastT first second f bare ∈ bare := by
  cases bare with
  | nil => exact absurd rfl h
  | cons b r => exact better_mem r b
theorem bareT_sub {hp : Nat → Option Nat} {left : List Nat} {i : Nat} (h : i ∈ bareT hp left) : i ∈ left := (List.mem_filter.mp h).1
theorem put_nodup {ps : List (Str × Int)} {k : Str} {v : Int} (h : (ps.map (·.1)).Nodup) : ((put ps k v).map (·.1)).Nodup := by
  unfold put
  split
  · rw [List.map_map]
    have e : ((fun x : Str × Int => x.1) ∘ fun p => if p.1 = k then (p.1, v) else p) = fun x => x.1 := by
      funext p; simp only [Function.comp]; split <;> rfl
    rw [e]; exact h
  · rename_i hk
    rw [List.map_append, List.map_cons, List.map_nil, List.nodup_append]
    refine ⟨h, by simp, fun a ha b hb => ?_⟩
    obtain rfl := List.mem_singleton.mp hb
    rintro rfl
    obtain ⟨q, hq, e⟩ := List.mem_map.mp ha
    exact hk (List.any_eq_true.mpr ⟨q, hq, by simpa using e⟩)
theorem addC_nodup (ss : List (Str × Int)) : ∀ ts : List (Str × Int), (ts.map (·.1)).Nodup → ((addC ts ss).map (·.1)).Nodup := by
  unfold addC
  induction ss with
  | nil => intro ts h; exact h
  | cons p r ih =>
    intro ts h
    rw [List.foldl_cons]
    refine ih _ ?_
    split <;> exact put_nodup h
theorem runT_ok {first second : Int} {f : Nat → Int} {hp : Nat → Option Nat} {n : Nat} : ∀ t j, ((runT first second f hp n t).sums j).e.length ≤ 2 ^ t ∧ (((runT first second f hp n t).sums j).e.map (·.1)).Nodup
  | 0, j => ⟨Nat.le_refl _, by simp [runT, sv0]⟩
  | t + 1, j => by
    have ih := runT_ok (first := first) (second := second) (f := f) (hp := hp) (n := n) t
    show ((if j = _ then addSv _ _ else _ : Sv).e).length ≤ _ ∧ ((if j = _ then addSv _ _ else _ : Sv).e.map _).Nodup
    split
    · refine ⟨?_, addC_nodup _ _ (ih _).2⟩
      refine Nat.le_trans (addC_len _ _) ?_
      rw [Nat.pow_succ]
      have h1 := (ih ((hp (leastT first second f (bareT hp (runT first second f hp n t).left))).getD 0)).1
      have h2 := (ih (leastT first second f (bareT hp (runT first second f hp n t).left))).1
      omega
    · refine ⟨?_, (ih j).2⟩
      have := (ih j).1
      rw [Nat.pow_succ]; omega
theorem filter_texts {P : Nat → Str} {n : Nat} (inj : ∀ i j, i < n → j < n → P i = P j → i = j) {l o : List Nat} (hl : ∀ i ∈ l, i < n) (ho : ∀ i ∈ o, i < n) :
    (l.map P).filter (fun z => decide (z ∉ o.map P)) = (l.filter fun i => decide (i ∉ o)).map P := by
  induction l with
  | nil => rfl
  | cons a r ih =>
    have e : (P a ∈ o.map P) ↔ a ∈ o := by
      constructor
      · intro h
        obtain ⟨b, hb, e⟩ := List.mem_map.mp h
        exact inj b a (ho b hb) (hl a (.head _)) e ▸ hb
      · intro h; exact List.mem_map.mpr ⟨a, h, rfl⟩
    have e2 : decide (P a ∉ o.map P) = decide (a ∉ o) := by simp only [e]
    rw [List.map_cons, List.filter_cons, List.filter_cons, e2, ih fun i hi => hl i (.tail _ hi)]
    split <;> rfl
theorem flat_heads {P : Nat → Str} {hp : Nat → Option Nat} (l : List Nat) : (l.map fun i => (hp i).toList.map P).flatten = (l.filterMap hp).map P := by
  induction l with
  | nil => rfl
  | cons a r ih =>
    rw [List.map_cons, List.flatten_cons, ih]
    cases e : hp a with
    | none => rw [List.filterMap_cons_none e]; rfl
    | some b => rw [List.filterMap_cons_some e]; rfl
end Mine
end

section
open PySem PySem.W PySem.Calls PyProof.Rows
set_option maxRecDepth 100000
namespace Mine
/-- the end of a call whose ground may have changed -/
noncomputable def LeaveR (R : Result → Shared → Prop) (v : Value) (s' : Shared) : Prop := R (.ok (.ret v)) s'
section
variable {prog : Program} {w : World} {A₀ A : Around} {s : Shared} {base h₀ : Heap} {outer : List Env} {L : Addr} {m : Str → Option Value} {news : List (Addr × Obj)} {K : Frag} {p : Program} {loose : List Str} {mean : ExcName → Option Value} {mg mb : Str → Option Value}
theorem code_defCV {env : Env} {R : Result → Shared → Prop} {name qual : Str} {params : Arguments} {body : List Stmt} {scope : Scope} {dV kV doc pm cdv ct oc : Value} {an od : Option Addr} {osl : Array (Option Value)} {f : Addr} {args : Args} {binds : List (Str × Value)}
    (B : Below A₀ base outer h₀) (F : Fr h₀ L s.heap m) (X₀ : K.In h₀) (N : News h₀ L s.heap news) (T : Top p loose mean mg mb h₀) (hA : A.frames = some (env :: outer)) (hf : env.frame = some L) (hke : env.scope.kind = .function)
    (ho : K.lookup f = some ⟨oc, od, .func (fnOf name qual params body scope dV kV doc pm an cdv ct), osl⟩) (hcd : codeIn K cdv qual = true) (hroom : A.depth < recursionLimit)
    (hbind : BindsTo s (fnOf name qual params body scope dV kV doc pm an cdv ct) args binds) (hkind : (binds.all fun y => scope.names.lookup y.1 == some .local || scope.names.lookup y.1 == some .cell) = true)
    (hnd : ((cellsFrom 0 scope.names []).map (·.1)).Nodup)
    (h : ∀ g L' h₁ tk cells, Fr h₀ L g m → Fr g L' h₁ (bindL (envOfC qual scope L' f cdv).kindOf binds fun _ => none) → News g L' h₁ (cells ++ news) →
      CellsAre (bindC (envOfC qual scope L' f cdv).kindOf binds fun _ => none) (cellsFrom (L' + 1) scope.names []) cells → Below A base (env :: outer) g → K.In g → Top p loose mean mg mb g → (∀ p ∈ news, p.1 < L') →
      wpAny (model prog w) (A.deeper (envOfC qual scope L' f cdv)) (execs body (envOfC qual scope L' f cdv))
        (fun fl s' => LeaveR R (match fl with | .ret v => v | _ => .none) s')
        (fun e s' => wpAny (model prog w) (A.deeper (envOfC qual scope L' f cdv)) (leaving (envOfC qual scope L' f cdv) e) (fun _ s'' => R (.error e) s'') (fun e' s'' => R (.error e') s'') s')
        { s with heap := h₁, toks := tk })
    (hco : scope.isCoroutine = false) (hgen : scope.isGenerator = false) (hk : scope.kind = .function) : codeAny (model prog w) A (.call (.ref f) args) R s := by
  obtain ⟨FG, BG, st, _⟩ := groundX (R := R) B F N hA hf hke
  refine codeAny_call_function hroom ((X₀.keeps F.keep) _ _ ho) rfl hco hgen rfl (codeRec_of (X₀.keeps F.keep) hcd) (hbind _ _ _ _ ?_)
  refine wpAny_newFunctionEnv_cells hk (kindsX hkind _) fun env' he s' x => ?_
  subst he
  refine ⟨((T.nolimit).keeps F.keep).keeps x.toInCall.keep, codeAny_func ?_⟩
  obtain ⟨h₁, tk, rfl, _⟩ := x.done
  have hk₁ := x.toInCall.keep
  obtain ⟨cells, NC, Y⟩ := Cl.news (h₀ := s.heap) (Nat.le_refl _) fun n c hm => ⟨x.cell n c (lookup_of_mem_nodup (cellsFrom_names scope.names 0 (s.heap.objs.size + 1) [] [] rfl ▸ hnd) hm), x.above n c hm⟩
  refine wpAny_mono (h _ s.heap.objs.size h₁ tk cells FG ⟨x.toInCall.ns, fun b o e => hk₁ b o (of_hideAll _ e), Nat.le_of_eq (hideAll_size _ _)⟩ (fun p hp => ?_) Y BG (X₀.keeps st) (T.keeps st) (fun p hp => Heap.lt_size (N p hp).1)) (fun fl s' hl => hl) fun _ _ y => y
  rcases List.mem_append.mp hp with hp | hp
  · refine ⟨(NC p hp).1, (NC p hp).2.1, ?_⟩
    cases q : (hideAll s.heap (news.map (·.1))).get? p.1 with
    | none => rfl
    | some o => have := of_hideAll _ q; rw [(NC p hp).2.2] at this; cases this
  · exact ⟨hk₁ _ _ (N p hp).1, Nat.ne_of_lt (Heap.lt_size (N p hp).1), hideAll_none _ (List.mem_map_of_mem hp)⟩
/-- back to the caller from a ground that changed -/
theorem leaveR_back {env : Env} {g g' h' : Heap} {led : List (Addr × Obj)} {L' : Addr} {m' : Str → Option Value} (B : Below A₀ base outer h₀) (FG : Fr h₀ L g m) (hf : env.frame = some L)
    (T : KtsTurn ((env :: outer).filterMap (·.frame)) g g') (F' : Fr g' L' h' m') (N' : News g' L' h' led) :
    ∃ h₀', KtsTurn (outer.filterMap (·.frame)) h₀ h₀' ∧ Below A₀ base outer h₀' ∧ Fr h₀' L h' m ∧ News h₀' L h' led := by
  refine back_ground B FG hf T F'.keep fun p hp => ⟨(N' p hp).1, ?_⟩
  cases q : g.get? p.1 with
  | none => rfl
  | some o =>
    have hn := (N' p hp).2.2
    by_cases e : p.1 ∈ (env :: outer).filterMap (·.frame)
    · obtain ⟨sl, h1⟩ := T.frame _ _ q e
      rw [hn] at h1; cases h1
    · have := T.other _ _ q e
      rw [hn] at this; cases this
end
theorem led10b {g h : Heap} {L : Addr} {x1 x2 x3 x4 x5 x6 i s t r : Addr × Obj} {ob : List (Addr × Obj)} (N : News g L h (x1 :: x2 :: x3 :: x4 :: x5 :: x6 :: i :: s :: t :: r :: ob)) :
    ∃ ob', News g L h (i :: s :: t :: r :: ob') ∧ x1 ∈ ob' ∧ x2 ∈ ob' ∧ x3 ∈ ob' ∧ x4 ∈ ob' ∧ x5 ∈ ob' ∧ x6 ∈ ob' ∧ (∀ p ∈ ob, p ∈ ob') ∧
      ∀ Z : Addr × Obj → Prop, Z x1 → Z x2 → Z x3 → Z x4 → Z x5 → Z x6 → (∀ p ∈ ob, Z p) → ∀ p ∈ ob', Z p := by
  refine ⟨x1 :: x2 :: x3 :: x4 :: x5 :: x6 :: ob, fun p hp => N p ?_, by simp, by simp, by simp, by simp, by simp, by simp, fun p hp => by simp [hp], fun Z e1 e2 e3 e4 e5 e6 e7 p hp => ?_⟩
  · simp only [List.mem_cons] at hp ⊢
    rcases hp with h | h | h | h | h | h | h | h | h | h | h <;> repeat (first | exact h | exact Or.inl h | apply Or.inr)
  · simp only [List.mem_cons] at hp
    rcases hp with rfl | rfl | rfl | rfl | rfl | rfl | h <;> first | assumption | exact e7 p h
theorem SumOf.congr {prog : Program} {w : World} {ob : List (Addr × Obj)} {sv sv' : Nat → Sv} {j : Nat} {v : Value} (x : SumOf prog w ob sv j v) (e : sv' j = sv j) : SumOf prog w ob sv' j v := by
  unfold SumOf at x ⊢; rw [e]; exact x
/-- what is new of a ledger -/
theorem led_new {g h : Heap} {L : Addr} {LF : Nat} {a b c : Addr × Obj} {ob news : List (Addr × Obj)} (N : News g L h (a :: b :: c :: ob)) (hs : ∀ p ∈ news, p ∈ ob) (hz : ∀ p ∈ ob, p ∈ news ∨ @LT.lt Nat _ LF p.1) (hl : ∀ p ∈ news, @LT.lt Nat _ p.1 LF) :
    ∃ ob', News g L h (a :: b :: c :: (news ++ ob')) ∧ (∀ p ∈ ob, p ∈ news ++ ob') ∧ ∀ p ∈ ob', ∀ q ∈ news, q.1 < p.1 := by
  refine ⟨ob.filter fun p => decide (@LT.lt Nat _ LF p.1), fun p hp => N p ?_, fun p hp => ?_, fun p hp q hq => ?_⟩
  · simp only [List.mem_cons, List.mem_append] at hp ⊢
    rcases hp with h | h | h | h | h
    · exact .inl h
    · exact .inr (.inl h)
    · exact .inr (.inr (.inl h))
    · exact .inr (.inr (.inr (hs p h)))
    · exact .inr (.inr (.inr (List.mem_filter.mp h).1))
  · rcases hz p hp with h | h
    · exact List.mem_append_left _ h
    · exact List.mem_append_right _ (List.mem_filter.mpr ⟨hp, by simpa using h⟩)
  · have h := (List.mem_filter.mp hp).2
    have h2 : @LT.lt Nat _ LF p.1 := by simpa using h
    exact Nat.lt_trans (hl q hq) h2
section
variable {α : Type}
theorem mem_swap23 {a b c : α} {l : List α} : ∀ p ∈ a :: b :: c :: l, p ∈ a :: c :: b :: l := by
  intro p hp
  simp only [List.mem_cons] at hp ⊢
  rcases hp with h | h | h | h
  · exact .inl h
  · exact .inr (.inr (.inl h))
  · exact .inr (.inl h)
  · exact .inr (.inr (.inr h))
theorem mem10 {d l r q x y z i t s : α} {o : List α} : ∀ p ∈ i :: t :: s :: d :: r :: q :: o, p ∈ d :: l :: r :: q :: x :: y :: z :: i :: t :: s :: o := by
  intro p hp
  rcases List.mem_cons.mp hp with rfl | hp
  · exact .tail _ (.tail _ (.tail _ (.tail _ (.tail _ (.tail _ (.tail _ (.head _)))))))
  rcases List.mem_cons.mp hp with rfl | hp
  · exact .tail _ (.tail _ (.tail _ (.tail _ (.tail _ (.tail _ (.tail _ (.tail _ (.head _))))))))
  rcases List.mem_cons.mp hp with rfl | hp
  · exact .tail _ (.tail _ (.tail _ (.tail _ (.tail _ (.tail _ (.tail _ (.tail _ (.tail _ (.head _)))))))))
  rcases List.mem_cons.mp hp with rfl | hp
  · exact .head _
  rcases List.mem_cons.mp hp with rfl | hp
  · exact .tail _ (.tail _ (.head _))
  rcases List.mem_cons.mp hp with rfl | hp
  · exact .tail _ (.tail _ (.tail _ (.head _)))
  · exact .tail _ (.tail _ (.tail _ (.tail _ (.tail _ (.tail _ (.tail _ (.tail _ (.tail _ (.tail _ hp)))))))))
theorem mem_rot {pre b w o : List α} : ∀ p, p ∈ (pre ++ (b ++ w)) ++ o ↔ p ∈ b ++ (pre ++ (w ++ o)) := by
  intro p
  simp only [List.mem_append]
  constructor
  · rintro ((h | h | h) | h)
    · exact .inr (.inl h)
    · exact .inl h
    · exact .inr (.inr (.inl h))
    · exact .inr (.inr (.inr h))
  · rintro (h | h | h | h)
    · exact .inl (.inr (.inl h))
    · exact .inl (.inl h)
    · exact .inl (.inr (.inr h))
    · exact .inr h
theorem mem_other {β : Type} {b₁ b₂ : List (α × β)} {c : α} {o o' : β} : ∀ p ∈ b₁ ++ (c, o) :: b₂, p.2 ≠ o → p ∈ b₁ ++ (c, o') :: b₂ := by
  intro p hp hn
  rcases List.mem_append.mp hp with h | h
  · exact List.mem_append_left _ h
  rcases List.mem_cons.mp h with h | h
  · exact absurd (congrArg Prod.snd h) hn
  · exact List.mem_append_right _ (.tail _ h)
end
end Mine
end

section
open PySem PySem.W PySem.Calls PyProof.Rows
set_option maxRecDepth 100000
namespace Mine
section
variable {prog : Program} {w : World} {A : Around} {E : Value → Shared → Prop} {s : Shared} {h₀ : Heap} {L : Addr} {m : Str → Option Value} {news : List (Addr × Obj)}
noncomputable def IsTup3 (h : Heap) (v : Value) (x y z : Int) : Prop := ∃ a t1 t2 t3, v = .ref a ∧ h.get? a = some (tupO #[.int x t1, .int y t2, .int z t3])
noncomputable def lex3 (k1 k2 : Int × Int × Int) : Bool := if k1.1 = k2.1 then (if k1.2.1 = k2.2.1 then decide (k1.2.2 < k2.2.2) else decide (k1.2.1 < k2.2.1)) else decide (k1.1 < k2.1)
theorem eqI {a b : Int} : (a == b) = decide (a = b) := rfl
theorem kat_lex3 {x y : Value} {k1 k2 : Int × Int × Int} {C : Bool → Shared → Prop} (hx : IsTup3 s.heap x k1.1 k1.2.1 k1.2.2) (hy : IsTup3 s.heap y k2.1 k2.2.1 k2.2.2) (h : C (lex3 k1 k2) s) :
    wpAny (model prog w) A (keyLt' (tuples' true) x y) C E s := by
  obtain ⟨a, t1, t2, t3, rfl, ha⟩ := hx
  obtain ⟨b, u1, u2, u3, rfl, hb⟩ := hy
  refine kat_lt ha rfl hb rfl ?_
  show KatLex prog w A true _ C [(_, _), (_, _), (_, _)] 0 s
  unfold lex3 at h
  refine kat_cons (wpAny_eqBool_int (kat_go (fun e => kat_yes ?_) fun e => kat_no ?_))
  · have e1 : k1.1 = k2.1 := by simpa using e
    rw [if_pos e1] at h
    refine kat_cons (wpAny_eqBool_int (kat_go (fun e => kat_yes ?_) fun e => kat_no ?_))
    · have e2 : k1.2.1 = k2.2.1 := by simpa using e
      rw [if_pos e2] at h
      refine kat_cons (wpAny_eqBool_int (kat_go (fun e => kat_yes ?_) fun e => kat_no ?_))
      · have e3 : k1.2.2 = k2.2.2 := by simpa using e
        refine kat_nil ?_
        have : decide (k1.2.2 < k2.2.2) = false := by rw [e3]; simp
        rw [this] at h
        exact h
      · exact kat_one _ _ (PyProof.Rows.lt_int h)
    · have e2 : ¬ k1.2.1 = k2.2.1 := by simpa using e
      rw [if_neg e2] at h
      exact kat_one _ _ (PyProof.Rows.lt_int h)
  · have e1 : ¬ k1.1 = k2.1 := by simpa using e
    rw [if_neg e1] at h
    exact oneLt_int h
theorem tups_of {h : Heap} : ∀ vs : List Value, (∀ v ∈ vs, ∃ x y z, IsTup3 h v x y z) → ∃ fs, KatTups h vs fs ∧ fs.length = vs.length ∧ ∀ f ∈ fs, ∃ i t, f = Value.int i t
  | [], _ => ⟨[], .nil, rfl, fun _ h => absurd h List.not_mem_nil⟩
  | v :: r, hv => by
    obtain ⟨fs, h1, h2, h3⟩ := tups_of r fun u hu => hv u (.tail _ hu)
    obtain ⟨x, y, z, a, t1, t2, t3, rfl, ha⟩ := hv v (.head _)
    refine ⟨.int x t1 :: fs, .cons ha rfl rfl rfl h1, by simp [h2], fun f hf => ?_⟩
    rcases List.mem_cons.mp hf with rfl | hf
    · exact ⟨x, t1, rfl⟩
    · exact h3 f hf
theorem IsTup3.at {h h' : Heap} {v : Value} {x y z : Int} (t : IsTup3 h v x y z) (k : ∀ b o, h.get? b = some o → h'.get? b = some o) : IsTup3 h' v x y z :=
  let ⟨a, t1, t2, t3, e, ha⟩ := t; ⟨a, t1, t2, t3, e, k _ _ ha⟩
theorem sorted_tups {l : Addr} {vs : List Value} {k n : Nat} (key : Nat → Int × Int × Int) {Q : Value → Shared → Prop} (F : Fr h₀ L s.heap m) (N : News h₀ L s.heap news) (hm : (l, listOf vs.toArray k) ∈ news) (hn : vs.length = n) (h2 : 2 ≤ n) (h64 : n < 64)
    (hv : ∀ i, i < n → ∃ a t1 t2 t3, vs[i]? = some (.ref a) ∧ (a, tupO #[.int (key i).1 t1, .int (key i).2.1 t2, .int (key i).2.2 t3]) ∈ news) (O : Ord (fun i j => lex3 (key i) (key j)) n)
    (h : ∀ h' D c p, Fr h₀ L h' m → News h₀ L h' ((D, listOf (List.toArray (p.toList.map fun i => vs.getD i Value.none)) c) :: news) → (∀ q ∈ news, q.1 < D) → Pm n p → Srt (fun i j => lex3 (key i) (key j)) p n → Q (.ref D) { s with heap := h' }) :
    wpAny (model prog w) A (call (.builtin "sorted") [.ref l]) Q E s := by
  subst hn
  refine kat_sorted F N (News.isList N hm) h2 h64 fun D e1 h' F' N' l1 => ?_
  have hv' : ∀ i, i < vs.length → IsTup3 h' (vs.getD i Value.none) (key i).1 (key i).2.1 (key i).2.2 := fun i hi => by
    obtain ⟨a, t1, t2, t3, e, ha⟩ := hv i hi
    exact ⟨a, t1, t2, t3, by rw [List.getD_eq_getElem?_getD, e]; rfl, (N' _ (.tail _ ha)).1⟩
  obtain ⟨fs, k1, k2, k3⟩ := tups_of (h := h') vs fun v hv => by
    obtain ⟨i, hi, rfl⟩ := List.mem_iff_getElem.mp hv
    have := hv' i hi
    rw [List.getD_eq_getElem?_getD, List.getElem?_eq_getElem hi] at this
    exact ⟨_, _, _, this⟩
  refine kat_kind (T := .type "int") k1 (by omega) (fun v hv => by obtain ⟨i, t, rfl⟩ := k3 v hv; exact Looks.now) rfl ?_
  refine pw_kas (s := { s with heap := h' }) (lt := fun i j => lex3 (key i) (key j)) (n := vs.length) (fun i j C hi hj hC => ?_) _ (pw_mono (fun p hp => ?_) _ (pw_sort O (by omega)))
  · exact kat_lex3 (hv' i hi) (hv' j hj) hC
  · exact KasFin.intro F' N' (UpdF.head fun q hq => Nat.ne_of_lt (l1 q hq)) fun h'' c F'' N'' => h h'' D c p F'' N'' l1 hp.1 hp.2
end
end Mine
end

section
open PySem PySem.W PyProof.Rows
set_option maxRecDepth 100000
namespace Mine
noncomputable def lawSt : Stmt := PySem.Challenge.pw_ij0017_01.main.body.getD 26 (.Pass ⟨0, 0, 0, 0⟩)
noncomputable def lawB : List Stmt := match lawSt with
  | .FunctionDef _ _ b _ _ _ _ _ _ _ => b
  | _ => []
noncomputable def lawSc : Scope := match lawSt with
  | .FunctionDef _ _ _ _ _ _ sc _ _ _ => sc
  | _ => { kind := .function, names := [], isGenerator := false, isCoroutine := false }
theorem execs_app {M : Model} {A : Around} {env : Env} {E : Value → Shared → Prop} {Q : Flow → Shared → Prop} (xs ys : List Stmt) (s : Shared)
    (h : wpAny M A (execs xs env) (fun f s' => match f with | .next => wpAny M A (execs ys env) Q E s' | f => Q f s') E s) : wpAny M A (execs (xs ++ ys) env) Q E s := fun Γ p hΓ => by
  have key : ∀ (xs : List Stmt) p s, Sem.wp M Γ (execs xs env) (fun f _ s' => match f with | .next => wpAny M A (execs ys env) Q E s' | f => Q f s') (fun e _ s' => E e s') p s → Sem.wp M Γ (execs (xs ++ ys) env) (fun f _ s' => Q f s') (fun e _ s' => E e s') p s := by
    intro xs
    induction xs with
    | nil => intro p s h; exact (show wpAny M A (execs ys env) Q E s from h) Γ p hΓ
    | cons x xs ih =>
      intro p s h
      rw [List.cons_append]
      rw [execs_cons, Sem.wp_bind'] at h ⊢
      refine Sem.wp_mono M Γ _ (fun f p' s' h' => ?_) (fun _ _ _ h' => h') _ _ h
      cases f <;> first | exact ih _ _ h' | exact h'
  exact key xs p s (h Γ p hΓ)
theorem cells3 {cm : Str → Option Value} {n₁ n₂ n₃ : Str} {c₁ c₂ c₃ : Addr} {cs : List (Str × Addr)} {cells : List (Addr × Obj)} (x : CellsAre cm ((n₁, c₁) :: (n₂, c₂) :: (n₃, c₃) :: cs) cells) :
    ∃ o₁ o₂ o₃ r, cells = (c₁, o₁) :: (c₂, o₂) :: (c₃, o₃) :: r ∧ CellsAre cm cs r ∧ o₁.data = .cell (cm n₁) ∧ o₂.data = .cell (cm n₂) ∧ o₃.data = .cell (cm n₃) := by
  cases x with | cons h1 x => cases x with | cons h2 x => cases x with | cons h3 x => exact ⟨_, _, _, _, rfl, x, h1, h2, h3⟩
theorem cells0 {cm : Str → Option Value} {cells : List (Addr × Obj)} (x : CellsAre cm [] cells) : cells = [] := by cases x; rfl
theorem cells9 {cm : Str → Option Value} {n₁ n₂ n₃ n₄ n₅ n₆ n₇ n₈ n₉ : Str} {c₁ c₂ c₃ c₄ c₅ c₆ c₇ c₈ c₉ : Addr} {cells : List (Addr × Obj)} (x : CellsAre cm [(n₁, c₁), (n₂, c₂), (n₃, c₃), (n₄, c₄), (n₅, c₅), (n₆, c₆), (n₇, c₇), (n₈, c₈), (n₉, c₉)] cells) :
    ∃ o₁ o₂ o₃ o₄ o₅ o₆ o₇ o₈ o₉, cells = [(c₁, o₁), (c₂, o₂), (c₃, o₃), (c₄, o₄), (c₅, o₅), (c₆, o₆), (c₇, o₇), (c₈, o₈), (c₉, o₉)] ∧ o₁.data = .cell (cm n₁) ∧ o₂.data = .cell (cm n₂) ∧ o₃.data = .cell (cm n₃) ∧ o₄.data = .cell (cm n₄) ∧ o₅.data = .cell (cm n₅) ∧ o₆.data = .cell (cm n₆) ∧ o₇.data = .cell (cm n₇) ∧ o₈.data = .cell (cm n₈) ∧ o₉.data = .cell (cm n₉) :=
  ex4 (fun o₁ o₂ o₃ _ => an5 fun e₁ x h1 h2 h3 => ex4 (fun o₄ o₅ o₆ _ => an5 fun e₂ x h4 h5 h6 => ex4 (fun o₇ o₈ o₉ _ => an5 fun e₃ x h7 h8 h9 =>
    ⟨o₁, o₂, o₃, o₄, o₅, o₆, o₇, o₈, o₉, by rw [e₁, e₂, e₃, cells0 x], h1, h2, h3, h4, h5, h6, h7, h8, h9⟩) (cells3 x)) (cells3 x)) (cells3 x)
noncomputable abbrev lawEnv (L fa : Addr) (ccd : Value) : Env := envOfC (Str.ofString "law") lawSc L fa ccd
noncomputable abbrev lawTop (dp un : Nat) (gd : Option (List Code)) (L fa : Addr) (ccd : Value) : Around := ktrTop dp un gd (Str.ofString "law") lawSc L fa ccd (cellsFrom (L + 1) lawSc.names []) []
end Mine
end

section
open PySem PySem.W PySem.Calls PyProof.Rows
set_option maxRecDepth 100000
namespace Mine
noncomputable def lawNums (ns : List Int) : List Int := [7, 20] ++ (ns.take 5).map fun x => x.fmod 5040
noncomputable def lawN (ns : List Int) : Nat := (lawNums ns).length + 2
noncomputable def lawCode (ns : List Int) : List Int := (lawNums ns).map fun x => x.fmod (lawN ns)
noncomputable def figAt (total : Int) (i : Nat) : Int := (total.fdiv (3 ^ i)).fmod 3
noncomputable def lawFig (ns : List Int) : List Int := (List.range (lawN ns)).map (figAt (lawNums ns).sum)
noncomputable def lawFst (ns : List Int) : Int := 1 - 2 * (lawNums ns).sum.fmod 2
noncomputable def lawSnd (ns : List Int) : Int := 1 - 2 * ((lawNums ns).sum.fdiv 2).fmod 2
theorem pow3 : ∀ k : Nat, k < 9 → 0 < (3 : Int) ^ k ∧ (3 : Int) ^ k ≤ 6561 := by decide
noncomputable def lawKey (ns : List Int) (i : Nat) : Int × Int × Int := (lawFst ns * figAt (lawNums ns).sum i, lawSnd ns * i, i)
theorem lex3_ord (key : Nat → Int × Int × Int) (n : Nat) (h : ∀ i j, i < n → j < n → i ≠ j → (key i).2.2 ≠ (key j).2.2) : Ord (fun i j => lex3 (key i) (key j)) n := by
  refine ⟨fun i j k hi hj hk h1 h2 => ?_, fun i j hi hj h1 => ?_, fun i j hi hj hne h1 => ?_⟩
  · unfold lex3 at h1 h2 ⊢
    split at h1 <;> split at h2 <;> (try split at h1) <;> (try split at h2) <;> simp only [decide_eq_true_eq] at h1 h2 <;> split <;> (try split) <;> simp only [decide_eq_true_eq] <;> omega
  · unfold lex3 at h1 ⊢
    split at h1 <;> (try split at h1) <;> simp only [decide_eq_true_eq] at h1 <;> split <;> (try split) <;> simp only [decide_eq_false_iff_not] <;> omega
  · have hz := h i j hi hj hne
    unfold lex3 at h1 ⊢
    split at h1 <;> (try split at h1) <;> simp only [decide_eq_false_iff_not] at h1 <;> split <;> (try split) <;> simp only [decide_eq_true_eq] <;> omega
theorem lawFst_b (ns : List Int) : lawFst ns = 1 ∨ lawFst ns = -1 := by
  unfold lawFst
  have h0 := Int.fmod_nonneg_of_pos (lawNums ns).sum (show (0 : Int) < 2 by decide)
  have h1 := Int.fmod_lt_of_pos (lawNums ns).sum (show (0 : Int) < 2 by decide)
  omega
theorem lawSnd_b (ns : List Int) : lawSnd ns = 1 ∨ lawSnd ns = -1 := by
  unfold lawSnd
  have h0 := Int.fmod_nonneg_of_pos ((lawNums ns).sum.fdiv 2) (show (0 : Int) < 2 by decide)
  have h1 := Int.fmod_lt_of_pos ((lawNums ns).sum.fdiv 2) (show (0 : Int) < 2 by decide)
  omega
theorem figAt_b (t : Int) (i : Nat) : 0 ≤ figAt t i ∧ figAt t i < 3 := ⟨Int.fmod_nonneg_of_pos _ (by decide), Int.fmod_lt_of_pos _ (by decide)⟩
theorem lawN_b (ns : List Int) : 4 ≤ lawN ns ∧ lawN ns ≤ 9 := by
  have h : 2 ≤ (lawNums ns).length ∧ (lawNums ns).length ≤ 7 := by
    unfold lawNums
    simp only [List.length_append, List.length_map, List.length_take, List.length_cons, List.length_nil]
    omega
  unfold lawN; omega
theorem lawNums_len (ns : List Int) : 2 ≤ (lawNums ns).length ∧ (lawNums ns).length ≤ 7 := by
  unfold lawNums
  simp only [List.length_append, List.length_map, List.length_take, List.length_cons, List.length_nil]
  omega
section
variable {prog : Program} {w : World} {A : Around} {E : Value → Shared → Prop} {s : Shared} {h₀ : Heap} {L l : Addr} {m : Str → Option Value} {news : List (Addr × Obj)} {value slice : PySem.Expr} {vs zs : List Value} {k : Nat} {vl vu : Value} {lo hi : Option Int} {Q : Value → Shared → Prop}
theorem slice_S (F : Fr h₀ L s.heap m) (N : News h₀ L s.heap news) (hl : h₀.IsList l vs.toArray) (pl : IsPart vl lo) (pu : IsPart vu hi) (e : slicePick vs.toArray lo hi none = zs.toArray)
    (h : ∀ D h', Fr h₀ L h' m → News h₀ L h' ((D, listOf zs.toArray 0) :: news) → (∀ p ∈ news, p.1 < D) → Q (.ref D) { s with heap := h' })
    (hs : subscripted slice false (.ref l) (.ref s.heap.objs.size) = operate [.ref s.heap.objs.size, .ref l] (getItem (.ref l) (.ref s.heap.objs.size))) (ht : ∀ r, letTemporaryGo value (.ref l) r = pure ()) (hz : vs.length ≤ 1000) :
    wpAny (model prog w) A (subscriptTail value slice (.ref l) (.ref s.heap.objs.size)) Q E { s with heap := s.heap.push { cls := .type "slice", data := .fields #[vl, vu, .none] } } :=
  kmk_slice F N (hl.at fun o e => F.keep _ _ e) pl pu (fun D h' F' N' l1 => h D h' F' (by rw [e] at N'; exact N') l1) hs ht (by rw [List.size_toArray, sizeLine_eq]; omega)
theorem add_LL {a b : Addr} {ws : List Value} {k j : Nat} (F : Fr h₀ L s.heap m) (N : News h₀ L s.heap news) (ha : (a, listOf vs.toArray k) ∈ news) (hb : (b, listOf ws.toArray j) ∈ news)
    (h : ∀ D h', Fr h₀ L h' m → News h₀ L h' ((D, listOf (List.toArray (vs ++ ws)) 0) :: news) → (∀ p ∈ news, p.1 < D) → Q (.ref D) { s with heap := h' })
    (hz : vs.length + ws.length ≤ 1000) : wpAny (model prog w) A (binaryOp .Add (.ref a) (.ref b)) Q E s :=
  kmk_add_lit F N (News.isList N ha) (News.isList N hb) rfl h (by rw [sizeLine_eq]; show vs.length + ws.length ≤ _; omega)
theorem len_I {ns : List Int} (N : News h₀ L s.heap news) (hm : (l, listOf vs.toArray k) ∈ news) (hi : IntsAre vs ns) (hz : ns.length ≤ 1000) (h : ∀ t, Q (.int ns.length t) { s with toks := t + 1 }) : wpAny (model prog w) A (call (.builtin "len") [.ref l]) Q E s := by
  refine len_L N hm (by rw [hi.length]; omega) ?_
  rw [hi.length]
  exact h _
end
end Mine
end

section
open PySem PySem.W PySem.Calls PyProof.Rows PySem.SeqAt PySem.MeetsSeq
set_option maxRecDepth 100000
namespace Mine
section
variable {prog : Program} {w : World} {A : Around} {E : Value → Shared → Prop} {s : Shared} {h₀ : Heap} {L : Addr} {m : Str → Option Value} {news : List (Addr × Obj)}
theorem strs_eqAt {A : Around} : ∀ {vs ws : List Value} {ss : List Str}, StrsAre vs ss → StrsAre ws ss → ∀ j (h1 : j < vs.length) (h2 : j < ws.length), EqAt A s vs[j] ws[j] true := by
  intro vs ws ss hv hw j h1 h2
  obtain ⟨z, hz⟩ : ∃ z, ss[j]? = some z := ⟨_, List.getElem?_eq_getElem (by rw [← hv.length]; exact h1)⟩
  obtain ⟨t, ht⟩ := hv.get j z hz
  obtain ⟨u, hu⟩ := hw.get j z hz
  rw [List.getElem?_eq_getElem h1] at ht
  rw [List.getElem?_eq_getElem h2] at hu
  rw [Option.some.inj ht, Option.some.inj hu]
  have := (eqGives_str z z t u).at A s
  rw [beq_self_eq_true] at this
  exact this
theorem ne_LS {a b : Addr} {vs ws : List Value} {ss : List Str} {k j : Nat} {Q : Value → Shared → Prop} (N : News h₀ L s.heap news) (ha : (a, listOf vs.toArray k) ∈ news) (hb : (b, listOf ws.toArray j) ∈ news) (hv : StrsAre vs ss) (hw : StrsAre ws ss) (hu : A.units < cLine)
    (h : Q (.bool false) s) : wpAny (model prog w) A (compareOp .NotEq (.ref a) (.ref b)) Q E s := by
  refine RcNeAt.lists (e := fun _ => true) (News.isList N ha) (News.isList N hb) (by rw [List.size_toArray, List.size_toArray, hv.length, hw.length]) hu (fun i h1 h2 => ?_) prog w E Q ?_
  · exact strs_eqAt hv hw i (by simpa using h1) (by simpa using h2)
  · have e : (!(List.range vs.toArray.size).all fun _ => true) = false := by simp
    rw [e]; exact h
theorem hits_of {kb : List (Str × Value)} {pb : List (Str × Int)} (hb : SI kb pb) : ∀ {ka : List (Str × Value)} {pa : List (Str × Int)}, SI ka pa → (∀ k n, (k, n) ∈ pa → intOf pb k = some n) → KeqHits A s kb ka true := by
  intro ka pa ha
  unfold SI at ha
  induction ha with
  | nil => intro _; exact .nil
  | @cons x y l₁ l₂ h _ ih =>
    intro hk
    obtain ⟨k, v⟩ := x
    obtain ⟨k', n⟩ := y
    obtain ⟨e1, t, e2⟩ := h
    dsimp only at e1 e2
    subst e1 e2
    have h1 := hk k n (.head _)
    rcases hb.value k with ⟨e, _⟩ | ⟨n', t', e1, e2⟩
    · rw [e] at h1; cases h1
    · rw [e1] at h1
      obtain rfl := Option.some.inj h1
      have h2 := ((EqGives.int n' n' t t').at A s)
      rw [beq_self_eq_true] at h2
      exact .hit (b := true) (e := true) e2 h2 (ih fun k n hm => hk k n (.tail _ hm))
theorem dict_same {a b : Addr} {oa ob : Obj} {ka kb : List (Str × Value)} {pa pb : List (Str × Int)} {Q : Bool → Shared → Prop} (N : News h₀ L s.heap news) (ma : (a, oa) ∈ news) (mb : (b, ob) ∈ news) (da : oa.IsDictOf (PySem.strKind prog w) ka) (db : ob.IsDictOf (PySem.strKind prog w) kb)
    (la : (a == sysModules) = false) (lb : (b == sysModules) = false) (hne : a ≠ b) (ha : SI ka pa) (hb : SI kb pb) (hk : ∀ k n, (k, n) ∈ pa → intOf pb k = some n) (hl : pa.length = pb.length) (hu : A.units < cLine) (h : Q true s) :
    wpAny (model prog w) A (eqBool (.ref a) (.ref b)) Q E s := by
  unfold eqBool
  refine wpAny_holding ?_
  refine wpAny_ite_split (fun hab => absurd (by have := eq_of_beq hab; injection this) hne) (fun _ => ?_)
  refine wpAny_bind ?_
  exact keq_pairs N ma mb da db la lb (by rw [ha.length, hb.length, hl]) hu (hits_of hb ha hk) (wpAny_truthy_bool h)
theorem eqb_int {x : Int} {t u : Tok} {Q : Bool → Shared → Prop} (h : Q true s) : wpAny (model prog w) A (eqBool (.int x t) (.int x u)) Q E s := by
  refine wpAny_eqBool_int ?_
  rw [beq_self_eq_true]; exact h
theorem tup5_same {l b d e : Addr} {i0 i1 i2 i3 : Int} {t0 t1 t2 t3 u0 u1 u2 u3 : Tok} {Q : Value → Shared → Prop} (hl : s.heap.get? l = some (tupO #[.int i0 t0, .int i1 t1, .int i2 t2, .int i3 t3, .ref d])) (hb : s.heap.get? b = some (tupO #[.int i0 u0, .int i1 u1, .int i2 u2, .int i3 u3, .ref e])) (hu : A.units + 20 < cLine)
    (hd : ∀ (A : Around) (E : Value → Shared → Prop) (Q : Bool → Shared → Prop), A.units < cLine → Q true s → wpAny (model prog w) A (eqBool (.ref d) (.ref e)) Q E s) (h : Q (.bool false) s) :
    wpAny (model prog w) A (compareOp .NotEq (.ref l) (.ref b)) Q E s := by
  have ht : s.TypeIs (.ref l) "tuple" := ⟨_, hl, rfl⟩
  have hbt : s.TypeIs (.ref b) "tuple" := ⟨_, hb, rfl⟩
  refine wpAny_richCompare_same_room (op := .NotEq) ht hbt PySem.F.slot_tuple_ne (wpAny_call_entry PySem.F.slot_tuple_ne ht PySem.F.entry_tuple_ne ?_ (PySem.F.args_tuple_ne_2 _ _)) (by omega)
  have f2 := AutoSeq1.sub_tuple_tuple
  obtain ⟨hp, g, dr, tk, os⟩ := s
  have ok : ∀ p ∈ ([(.int i0 t0, .int i0 u0), (.int i1 t1, .int i1 u1), (.int i2 t2, .int i2 u2), (.int i3 t3, .int i3 u3), (.ref d, .ref e)] : List (Value × Value)), ∀ (E : Value → Shared → Prop) (Q : Bool → Shared → Prop), Q true ⟨hp, g, dr, tk, os⟩ → wpAny (model prog w) A.in1 (eqBool p.1 p.2) Q E ⟨hp, g, dr, tk, os⟩ := by
    intro p hp' E Q hq
    simp only [List.mem_cons, List.not_mem_nil, or_false] at hp'
    rcases hp' with rfl | rfl | rfl | rfl | rfl
    · exact eqb_int hq
    · exact eqb_int hq
    · exact eqb_int hq
    · exact eqb_int hq
    · exact hd _ E Q (by show A.units + 1 < cLine; omega) hq
  wp_walk using wpAny_loadPart' hl, wpAny_loadPart' hb, wpAny_forIn_list _ (fun rest b s' => b.1 = none ∧ s' = ⟨hp, g, dr, tk, os⟩ ∧ ∀ p ∈ rest, ∀ (E : Value → Shared → Prop) (Q : Bool → Shared → Prop), Q true ⟨hp, g, dr, tk, os⟩ → wpAny (model prog w) A.in1 (eqBool p.1 p.2) Q E ⟨hp, g, dr, tk, os⟩) _
  case turn =>
    rintro ⟨y, x⟩ rest b s' ⟨hb', rfl, hz⟩
    refine wpAny_bind (hz (y, x) (.head _) _ _ ?_)
    wp_walk
    exact ⟨rfl, rfl, fun p hp => hz p (.tail _ hp)⟩
  case fin =>
    rintro ⟨b1, b2⟩ s' ⟨hb', rfl, hz⟩
    simp only at hb'
    subst hb'
    wp_walk
    refine ⟨_, rfl, ?_⟩
    show Value.bool false ≠ Value.notImplemented ∧ Q (.bool false) _
    exact ⟨fun x => (nomatch x), h⟩
  case h => exact ⟨rfl, rfl, ok⟩
end
theorem ne_map {l l' : List (Addr × Obj)} {I : Addr} (hne : ∀ p ∈ l, p.1 ≠ I) (h : l'.map (·.1) = l.map (·.1)) : ∀ p ∈ l', p.1 ≠ I := fun p hp => by
  have h1 : p.1 ∈ l.map (·.1) := h ▸ List.mem_map_of_mem hp
  obtain ⟨q, hq, e⟩ := List.mem_map.mp h1
  exact e ▸ hne q hq
end Mine
end

section
open PySem PySem.W
namespace Mine
/-- a rooted tree by the order in which its places go: R[i] stands in T[i], the last of R is the root -/
structure Rem (n : Nat) (R T : List Nat) : Prop where
  nd : R.Nodup
  mem : ∀ v, v ∈ R ↔ v < n
  len : R.length = n
  tl : T.length + 1 = n
  up : ∀ i u, T[i]? = some u → u ∈ R.drop (i + 1)
noncomputable def hpR (R T : List Nat) (v : Nat) : Option Nat := T[R.idxOf v]?
theorem idx_at {R : List Nat} (nd : R.Nodup) {i v : Nat} (h : R[i]? = some v) : R.idxOf v = i := by
  obtain ⟨hi, e⟩ := List.getElem?_eq_some_iff.mp h
  rw [← e]; exact nd.idxOf_getElem i hi
theorem idx_drop {R : List Nat} (nd : R.Nodup) {k v : Nat} (h : v ∈ R.drop k) : k ≤ R.idxOf v := by
  obtain ⟨i, hi⟩ := List.mem_iff_getElem?.mp h
  rw [List.getElem?_drop] at hi
  rw [idx_at nd hi]; omega
theorem drop_idx {R : List Nat} {k v : Nat} (hv : v ∈ R) (h : k ≤ R.idxOf v) : v ∈ R.drop k := by
  have hl := List.idxOf_lt_length_of_mem hv
  refine List.mem_iff_getElem?.mpr ⟨R.idxOf v - k, ?_⟩
  rw [List.getElem?_drop, show k + (R.idxOf v - k) = R.idxOf v by omega, List.getElem?_eq_getElem hl, List.getElem_idxOf]
theorem at_idx {R : List Nat} {v : Nat} (hv : v ∈ R) : R[R.idxOf v]? = some v := by
  have hl := List.idxOf_lt_length_of_mem hv
  rw [List.getElem?_eq_getElem hl, List.getElem_idxOf]
section
variable {n : Nat} {R T : List Nat}
theorem Rem.hp_lt (H : Rem n R T) {v u : Nat} (h : hpR R T v = some u) : R.idxOf v < R.idxOf u ∧ u < n :=
  ⟨idx_drop H.nd (H.up _ _ h), (H.mem u).mp (List.mem_of_mem_drop (H.up _ _ h))⟩
theorem Rem.idx_le (H : Rem n R T) {v : Nat} (h : v < n) : R.idxOf v + 1 ≤ n := by
  have := List.idxOf_lt_length_of_mem ((H.mem v).mpr h)
  rw [H.len] at this; exact this
theorem Rem.hp_none (H : Rem n R T) {v : Nat} (hv : v < n) (h : hpR R T v = none) : R.idxOf v + 1 = n := by
  have h1 := List.getElem?_eq_none_iff.mp h
  have := H.idx_le hv; have := H.tl; omega

/-- the way up, the place itself first -/
noncomputable def wayF (R T : List Nat) : Nat → Nat → List Nat
  | 0, v => [v]
  | k + 1, v => v :: match hpR R T v with
    | none => []
    | some u => wayF R T k u
theorem Rem.way_fuel (H : Rem n R T) : ∀ a b v, v < n → n ≤ a + 1 + R.idxOf v → n ≤ b + 1 + R.idxOf v → wayF R T a v = wayF R T b v := by
  intro a
  induction a with
  | zero =>
    intro b v hv ha _
    cases b with
    | zero => rfl
    | succ b =>
      have hn : hpR R T v = none := by
        cases e : hpR R T v with
        | none => rfl
        | some u => have := H.hp_lt e; have := H.idx_le this.2; omega
      unfold wayF; rw [hn]
  | succ a ih =>
    intro b v hv ha hb
    cases b with
    | zero =>
      have hn : hpR R T v = none := by
        cases e : hpR R T v with
        | none => rfl
        | some u => have := H.hp_lt e; have := H.idx_le this.2; omega
      unfold wayF; rw [hn]
    | succ b =>
      unfold wayF
      cases e : hpR R T v with
      | none => rfl
      | some u =>
        have := H.hp_lt e
        exact congrArg (v :: ·) (ih b u this.2 (by omega) (by omega))
noncomputable def wayR (n : Nat) (R T : List Nat) (v : Nat) : List Nat := wayF R T n v
theorem Rem.way_eq (H : Rem n R T) {v : Nat} (hv : v < n) : wayR n R T v = v :: match hpR R T v with | none => [] | some u => wayR n R T u := by
  unfold wayR
  rw [H.way_fuel n (n + 1) v hv (by omega) (by omega)]
  rfl
theorem Rem.way_ind (H : Rem n R T) {Z : Nat → List Nat → Prop} (h0 : ∀ v, v < n → hpR R T v = none → Z v [v]) (h1 : ∀ v u, v < n → u < n → hpR R T v = some u → Z u (wayR n R T u) → Z v (v :: wayR n R T u)) : ∀ v, v < n → Z v (wayR n R T v) := by
  intro v hv
  generalize hk : n - R.idxOf v = k
  induction k using Nat.strongRecOn generalizing v with
  | ind k ih =>
    rw [H.way_eq hv]
    cases e : hpR R T v with
    | none => exact h0 v hv e
    | some u =>
      have h := H.hp_lt e
      have := H.idx_le h.2
      exact h1 v u hv h.2 e (ih _ (by omega) u h.2 rfl)
theorem Rem.way_ne (H : Rem n R T) {v : Nat} (hv : v < n) : wayR n R T v ≠ [] := by rw [H.way_eq hv]; exact List.cons_ne_nil _ _
theorem Rem.way_lt (H : Rem n R T) : ∀ v, v < n → ∀ x ∈ wayR n R T v, x < n ∧ R.idxOf v ≤ R.idxOf x :=
  H.way_ind (Z := fun v l => ∀ x ∈ l, x < n ∧ R.idxOf v ≤ R.idxOf x) (fun v hv _ x hx => by obtain rfl := List.mem_singleton.mp hx; exact ⟨hv, Nat.le_refl _⟩)
    fun v u hv hu e ih x hx => by
      rcases List.mem_cons.mp hx with rfl | hx
      · exact ⟨hv, Nat.le_refl _⟩
      · have := ih x hx; have := H.hp_lt e; omega
theorem Rem.way_len (H : Rem n R T) : ∀ v, v < n → (wayR n R T v).length + R.idxOf v ≤ n :=
  H.way_ind (Z := fun v l => l.length + R.idxOf v ≤ n) (fun v hv _ => by have := H.idx_le hv; simp; omega)
    fun v u hv hu e ih => by have := H.hp_lt e; simp only [List.length_cons]; omega

-- what is gone
/-- at turn t, i counts for j: the way of i leads to j through places that are gone -/
noncomputable def Under (n : Nat) (R T : List Nat) (t i j : Nat) : Prop := ∃ pre post, wayR n R T i = pre ++ j :: post ∧ ∀ x ∈ pre, R.idxOf x < t
theorem Rem.under_zero (H : Rem n R T) {i j : Nat} (hi : i < n) : Under n R T 0 i j ↔ i = j := by
  constructor
  · rintro ⟨pre, post, e, h⟩
    cases pre with
    | nil => rw [H.way_eq hi] at e; simp at e; exact e.1
    | cons a r => exact absurd (h a (.head _)) (by omega)
  · rintro rfl
    exact ⟨[], _, H.way_eq hi, fun x h => absurd h List.not_mem_nil⟩
theorem Rem.under_cons (H : Rem n R T) {t i j : Nat} (hi : i < n) : Under n R T t i j ↔ i = j ∨ ∃ u, hpR R T i = some u ∧ R.idxOf i < t ∧ Under n R T t u j := by
  constructor
  · rintro ⟨pre, post, e, h⟩
    rw [H.way_eq hi] at e
    cases pre with
    | nil => simp at e; exact .inl e.1
    | cons a r =>
      simp only [List.cons_append, List.cons.injEq] at e
      obtain ⟨rfl, e⟩ := e
      cases q : hpR R T i with
      | none => rw [q] at e; simp at e
      | some u =>
        rw [q] at e
        exact .inr ⟨u, rfl, h i (.head _), r, post, e, fun x hx => h x (.tail _ hx)⟩
  · rintro (rfl | ⟨u, q, ht, pre, post, e, h⟩)
    · exact ⟨[], _, H.way_eq hi, fun x h => absurd h List.not_mem_nil⟩
    · refine ⟨i :: pre, post, ?_, fun x hx => ?_⟩
      · rw [H.way_eq hi, q]; simp [e]
      · rcases List.mem_cons.mp hx with rfl | hx
        · exact ht
        · exact h x hx
/-- j still stands at t+1, or is the one that goes at t -/
theorem Rem.under_succ (H : Rem n R T) {t j l π : Nat} (hl : R[t]? = some l) (hπ : T[t]? = some π) : ∀ i, i < n → (Under n R T (t + 1) i j ↔ Under n R T t i j ∨ (j = π ∧ Under n R T t i l)) := by
  have hln : l < n := (H.mem l).mp (List.mem_of_getElem? hl)
  have hil : R.idxOf l = t := idx_at H.nd hl
  have hpl : hpR R T l = some π := by unfold hpR; rw [hil]; exact hπ
  have key : ∀ k i, i < n → n - R.idxOf i = k → (Under n R T (t + 1) i j ↔ Under n R T t i j ∨ (j = π ∧ Under n R T t i l)) := by
    intro k
    induction k using Nat.strongRecOn with
    | ind k ih =>
      intro i hi hk
      have hile := H.idx_le hi
      rw [H.under_cons hi, H.under_cons hi (t := t) (j := j), H.under_cons hi (t := t) (j := l)]
      by_cases hit : R.idxOf i < t
      · constructor
        · rintro (rfl | ⟨u, q, _, h⟩)
          · exact .inl (.inl rfl)
          · have hu := H.hp_lt q
            have := H.idx_le hu.2
            rcases (ih _ (by omega) u hu.2 rfl).mp h with h | ⟨e, h⟩
            · exact .inl (.inr ⟨u, q, hit, h⟩)
            · exact .inr ⟨e, .inr ⟨u, q, hit, h⟩⟩
        · rintro ((rfl | ⟨u, q, _, h⟩) | ⟨e, (rfl | ⟨u, q, _, h⟩)⟩)
          · exact .inl rfl
          · have hu := H.hp_lt q
            have := H.idx_le hu.2
            exact .inr ⟨u, q, by omega, (ih _ (by omega) u hu.2 rfl).mpr (.inl h)⟩
          · omega
          · have hu := H.hp_lt q
            have := H.idx_le hu.2
            exact .inr ⟨u, q, by omega, (ih _ (by omega) u hu.2 rfl).mpr (.inr ⟨e, h⟩)⟩
      · by_cases hie : R.idxOf i = t
        · have hi2 : i = l := by
            have h1 := at_idx ((H.mem i).mpr hi)
            rw [hie, hl] at h1
            exact (Option.some.inj h1).symm
          subst hi2
          have hπ2 := H.hp_lt hpl
          constructor
          · rintro (rfl | ⟨u, q, _, h⟩)
            · exact .inl (.inl rfl)
            · rw [hpl] at q
              obtain rfl := Option.some.inj q
              rcases (H.under_cons hπ2.2).mp h with rfl | ⟨u, _, hlt, _⟩
              · exact .inr ⟨rfl, .inl rfl⟩
              · omega
          · rintro ((rfl | ⟨u, q, hlt, h⟩) | ⟨rfl, _⟩)
            · exact .inl rfl
            · omega
            · exact .inr ⟨j, hpl, by omega, (H.under_cons hπ2.2).mpr (.inl rfl)⟩
        · constructor
          · rintro (rfl | ⟨u, q, hlt, h⟩)
            · exact .inl (.inl rfl)
            · omega
          · rintro ((rfl | ⟨u, q, hlt, h⟩) | ⟨rfl, (rfl | ⟨u, q, hlt, h⟩)⟩)
            · exact .inl rfl
            · omega
            · omega
            · omega
  exact fun i hi => key _ i hi rfl
theorem Rem.under_disj (H : Rem n R T) {t l π : Nat} (hl : R[t]? = some l) (hπ : T[t]? = some π) : ∀ i, i < n → Under n R T t i l → ¬ Under n R T t i π := by
  have hln : l < n := (H.mem l).mp (List.mem_of_getElem? hl)
  have hil : R.idxOf l = t := idx_at H.nd hl
  have hpl : hpR R T l = some π := by unfold hpR; rw [hil]; exact hπ
  have hlt := H.hp_lt hpl
  have key : ∀ k i, i < n → n - R.idxOf i = k → Under n R T t i l → ¬ Under n R T t i π := by
    intro k
    induction k using Nat.strongRecOn with
    | ind k ih =>
      intro i hi hk h1 h2
      have hile := H.idx_le hi
      rcases (H.under_cons hi).mp h1 with rfl | ⟨u, q, ht, h1⟩
      · rcases (H.under_cons hi).mp h2 with rfl | ⟨u, q, ht, h2⟩
        · omega
        · omega
      · have hu := H.hp_lt q
        have := H.idx_le hu.2
        rcases (H.under_cons hi).mp h2 with rfl | ⟨u', q', _, h2⟩
        · omega
        · rw [q] at q'
          obtain rfl := Option.some.inj q'
          exact ih _ (by omega) u hu.2 rfl h1 h2
  exact fun i hi => key _ i hi rfl
theorem Rem.under_end (H : Rem n R T) {t j : Nat} (ht : n ≤ t + 1) : ∀ i, i < n → (Under n R T t i j ↔ j ∈ wayR n R T i) := by
  have key : ∀ k i, i < n → n - R.idxOf i = k → (Under n R T t i j ↔ j ∈ wayR n R T i) := by
    intro k
    induction k using Nat.strongRecOn with
    | ind k ih =>
      intro i hi hk
      have hile := H.idx_le hi
      rw [H.under_cons hi, H.way_eq hi, List.mem_cons]
      constructor
      · rintro (rfl | ⟨u, q, _, h⟩)
        · exact .inl rfl
        · have hu := H.hp_lt q
          have := H.idx_le hu.2
          rw [q]
          exact .inr ((ih _ (by omega) u hu.2 rfl).mp h)
      · rintro (rfl | h)
        · exact .inl rfl
        · cases q : hpR R T i with
          | none => rw [q] at h; exact absurd h List.not_mem_nil
          | some u =>
            rw [q] at h
            have hu := H.hp_lt q
            have := H.idx_le hu.2
            exact .inr ⟨u, rfl, by omega, (ih _ (by omega) u hu.2 rfl).mpr h⟩
  exact fun i hi => key _ i hi rfl
end
end Mine
end

section
open PySem PySem.W
namespace Mine
noncomputable def preN (c o : List Nat) : Nat → List Nat
  | 0 => o
  | k + 1 => (preN c o k).erase (((preN c o k).filter fun v => decide (v ∉ c.drop k)).headD 0)
noncomputable def lfN (c o : List Nat) (k : Nat) : List Nat := (preN c o k).filter fun v => decide (v ∉ c.drop k)
noncomputable def lN (c o : List Nat) (k : Nat) : Nat := (lfN c o k).headD 0
structure Pru (n m : Nat) (c o : List Nat) (root : Nat) : Prop where
  nd : (o ++ [root]).Nodup
  mem : ∀ v, v ∈ o ++ [root] ↔ v < n
  len : o.length + 1 = n
  cl : c.length = m
  mn : m + 2 = n
  cr : ∀ v ∈ c, v < n
section
variable {n m : Nat} {c o : List Nat} {root : Nat}
theorem preN_succ (k : Nat) : preN c o (k + 1) = (preN c o k).erase (lN c o k) := rfl
theorem pre_sub : ∀ k, (preN c o k).Sublist o
  | 0 => List.Sublist.refl _
  | k + 1 => List.Sublist.trans List.erase_sublist (pre_sub k)
theorem Pru.pnd (H : Pru n m c o root) (k : Nat) : (preN c o k).Nodup := List.Nodup.sublist (pre_sub k) (List.nodup_append.mp H.nd).1
theorem Pru.nroot (H : Pru n m c o root) (k : Nat) : root ∉ preN c o k := fun h => (List.nodup_append.mp H.nd).2.2 root ((pre_sub k).subset h) root (List.mem_singleton.mpr rfl) rfl
theorem head_mem {l : List Nat} (h : l ≠ []) : l.headD 0 ∈ l := by
  cases l with
  | nil => exact absurd rfl h
  | cons a r => exact .head _
theorem Pru.plen (H : Pru n m c o root) : ∀ k, k ≤ m → (preN c o k).length + k + 1 = n ∧ (k < m → lfN c o k ≠ [])
  | 0, _ => by
    have e : (preN c o 0).length = o.length := rfl
    refine ⟨by have := H.len; omega, fun hk h0 => ?_⟩
    have hs : preN c o 0 ⊆ c.drop 0 := fun v hv => by
      have := List.filter_eq_nil_iff.mp h0 v hv
      simpa using this
    have := List.Nodup.length_le_of_subset (H.pnd 0) hs
    have := H.len; have := H.cl; have := H.mn
    simp at *; omega
  | k + 1, hk => by
    obtain ⟨h1, h2⟩ := H.plen k (by omega)
    have hm : lN c o k ∈ preN c o k := (List.mem_filter.mp (head_mem (h2 (by omega)))).1
    have hl : (preN c o (k + 1)).length = (preN c o k).length - 1 := by rw [preN_succ, List.length_erase_of_mem hm]
    have hp := List.length_pos_of_mem hm
    refine ⟨by omega, fun hk1 h0 => ?_⟩
    have hs : preN c o (k + 1) ⊆ c.drop (k + 1) := fun v hv => by
      have := List.filter_eq_nil_iff.mp h0 v hv
      simpa using this
    have := List.Nodup.length_le_of_subset (H.pnd (k + 1)) hs
    rw [List.length_drop] at this
    have := H.cl; have := H.mn
    omega
theorem Pru.lmem (H : Pru n m c o root) {k : Nat} (hk : k < m) : lN c o k ∈ preN c o k ∧ lN c o k ∉ c.drop k := by
  have := List.mem_filter.mp (head_mem ((H.plen k (by omega)).2 hk))
  exact ⟨this.1, of_decide_eq_true this.2⟩
noncomputable def Rf (c o : List Nat) (root : Nat) : Nat → Nat → List Nat
  | 0, k => preN c o k ++ [root]
  | f + 1, k => lN c o k :: Rf c o root f (k + 1)
theorem Pru.rf (H : Pru n m c o root) : ∀ f k, k + f = m → (∀ v, v ∈ Rf c o root f k ↔ v ∈ preN c o k ++ [root]) ∧ (Rf c o root f k).Nodup ∧ (Rf c o root f k).length = f + 2
  | 0, k, hk => by
    have hl := (H.plen k (by omega)).1
    have := H.mn
    refine ⟨fun v => Iff.rfl, ?_, by show (preN c o k ++ [root]).length = _; simp; omega⟩
    refine List.nodup_append.mpr ⟨H.pnd k, by simp, fun a ha b hb => ?_⟩
    rw [List.mem_singleton.mp hb]
    rintro rfl
    exact H.nroot k ha
  | f + 1, k, hk => by
    obtain ⟨h1, h2, h3⟩ := H.rf f (k + 1) (by omega)
    obtain ⟨l1, l2⟩ := H.lmem (k := k) (by omega)
    have hmem : ∀ v, v ∈ preN c o (k + 1) ↔ v ≠ lN c o k ∧ v ∈ preN c o k := fun v => by rw [preN_succ]; exact (H.pnd k).mem_erase_iff
    refine ⟨fun v => ?_, ?_, by show (lN c o k :: Rf c o root f (k + 1)).length = _; rw [List.length_cons, h3]⟩
    · show v ∈ lN c o k :: Rf c o root f (k + 1) ↔ _
      rw [List.mem_cons, h1, List.mem_append, List.mem_append, hmem]
      constructor
      · rintro (rfl | ⟨_, h⟩ | h)
        · exact .inl l1
        · exact .inl h
        · exact .inr h
      · rintro (h | h)
        · by_cases e : v = lN c o k
          · exact .inl e
          · exact .inr (.inl ⟨e, h⟩)
        · exact .inr (.inr h)
    · show (lN c o k :: Rf c o root f (k + 1)).Nodup
      refine List.nodup_cons.mpr ⟨fun h => ?_, h2⟩
      rw [h1, List.mem_append, hmem] at h
      rcases h with h | h
      · exact h.1 rfl
      · rw [List.mem_singleton.mp h] at l1
        exact H.nroot k l1
theorem rf_drop : ∀ j f k, (Rf c o root (f + j) k).drop j = Rf c o root f (k + j)
  | 0, f, k => rfl
  | j + 1, f, k => by
    show (lN c o k :: Rf c o root (f + j) (k + 1)).drop (j + 1) = _
    rw [List.drop_succ_cons, rf_drop j f (k + 1)]
    congr 1; omega
noncomputable abbrev RN (m : Nat) (c o : List Nat) (root : Nat) : List Nat := Rf c o root m 0
noncomputable abbrev TN (c : List Nat) (root : Nat) : List Nat := c ++ [root]
theorem RN_drop {k : Nat} (hk : k ≤ m) : (RN m c o root).drop k = Rf c o root (m - k) k := by
  have := rf_drop (c := c) (o := o) (root := root) k (m - k) 0
  rw [show m - k + k = m by omega, Nat.zero_add] at this
  exact this
theorem RN_at {k : Nat} (hk : k < m) : (RN m c o root)[k]? = some (lN c o k) := by
  have h := congrArg (fun l : List Nat => l[0]?) (RN_drop (c := c) (o := o) (root := root) (k := k) (m := m) (by omega))
  simp only [List.getElem?_drop] at h
  rw [show m - k = (m - k - 1) + 1 by omega] at h
  exact h
theorem Pru.last (H : Pru n m c o root) : ∃ x, preN c o m = [x] := by
  have hl := (H.plen m (Nat.le_refl _)).1
  have := H.mn
  match e : preN c o m with
  | [] => rw [e] at hl; simp at hl; omega
  | [x] => exact ⟨x, rfl⟩
  | _ :: _ :: _ => rw [e] at hl; simp at hl; omega
theorem Pru.keep (H : Pru n m c o root) {v : Nat} : ∀ k, k ≤ m → v ∈ o ++ [root] → (∀ j, j < k → v ≠ lN c o j) → v ∈ preN c o k ++ [root]
  | 0, _, hv, _ => hv
  | k + 1, hk, hv, hj => by
    rcases List.mem_append.mp (H.keep k (by omega) hv fun j h => hj j (by omega)) with h | h
    · refine List.mem_append_left _ ?_
      rw [preN_succ]
      exact (H.pnd k).mem_erase_iff.mpr ⟨hj k (by omega), h⟩
    · exact List.mem_append_right _ h
theorem Pru.rem (H : Pru n m c o root) : Rem n (RN m c o root) (TN c root) := by
  obtain ⟨h1, h2, h3⟩ := H.rf m 0 (by omega)
  have hmn := H.mn
  have hcl := H.cl
  refine ⟨h2, fun v => (h1 v).trans (H.mem v), by rw [h3]; omega, by simp [TN]; omega, fun i u hu => ?_⟩
  by_cases hi : i < m
  · have hu' : c[i]? = some u := by
      rw [← hu]; exact (List.getElem?_append_left (by omega)).symm
    rw [RN_drop (by omega)]
    refine ((H.rf (m - (i + 1)) (i + 1) (by omega)).1 u).mpr (H.keep (i + 1) (by omega) ((H.mem u).mpr (H.cr u (List.mem_of_getElem? hu'))) fun j hj e => ?_)
    have := (H.lmem (k := j) (by omega)).2
    rw [← e] at this
    exact this (List.mem_iff_getElem?.mpr ⟨i - j, by rw [List.getElem?_drop, show j + (i - j) = i by omega]; exact hu'⟩)
  · have hil := (List.getElem?_eq_some_iff.mp hu).1
    have hi2 : i = m := by simp [TN] at hil; omega
    subst hi2
    have hur : u = root := by
      rw [List.getElem?_append_right (by omega), hcl] at hu
      simpa using hu.symm
    obtain ⟨x, hx⟩ := H.last
    have : (RN i c o root).drop (i + 1) = ((RN i c o root).drop i).drop 1 := by rw [List.drop_drop]
    rw [this, RN_drop (Nat.le_refl _), Nat.sub_self]
    show u ∈ (preN c o i ++ [root]).drop 1
    rw [hx, hur]
    exact .head _

-- the walk's form of it
theorem erase_cast (a : Nat) : ∀ l : List Nat, (l.map fun v : Nat => (v : Int)).erase (a : Int) = (l.erase a).map fun v : Nat => (v : Int)
  | [] => rfl
  | b :: r => by
    rw [List.map_cons, List.erase_cons, List.erase_cons]
    by_cases e : b = a
    · subst e; simp
    · have e2 : ¬ (b : Int) = (a : Int) := fun h => e (Int.ofNat.inj h)
      simp only [beq_iff_eq, e, e2, if_false]
      rw [erase_cast a r, List.map_cons]
theorem mem_cast {a : Nat} {l : List Nat} : ((a : Int) ∈ l.map fun v : Nat => (v : Int)) ↔ a ∈ l := by
  constructor
  · intro h
    obtain ⟨b, hb, e⟩ := List.mem_map.mp h
    exact Int.ofNat.inj e ▸ hb
  · exact fun h => List.mem_map.mpr ⟨a, h, rfl⟩
theorem leafs_cast (k : Nat) (l : List Nat) : leafs (c.map fun v : Nat => (v : Int)) k (l.map fun v : Nat => (v : Int)) = (l.filter fun v => decide (v ∉ c.drop k)).map fun v : Nat => (v : Int) := by
  unfold leafs
  rw [List.filter_map]
  congr 1
  refine List.filter_congr fun v _ => ?_
  show decide (¬ (v : Int) ∈ (c.map fun v : Nat => (v : Int)).drop k) = _
  rw [← List.map_drop]
  simp only [mem_cast]
theorem Pru.tree (H : Pru n m c o root) : ∀ k, k ≤ m → treeSt (c.map fun v : Nat => (v : Int)) ((o ++ [root]).map fun v : Nat => (v : Int)) k = ((preN c o k ++ [root]).map (fun v : Nat => (v : Int)), (List.range k).map fun i => (((lN c o i : Nat) : Int), ((c.getD i 0 : Nat) : Int)))
  | 0, _ => rfl
  | k + 1, hk => by
    have ih := H.tree k (by omega)
    obtain ⟨l1, l2⟩ := H.lmem (k := k) (by omega)
    have hne := (H.plen k (by omega)).2 (by omega)
    have hh : (leafs (c.map fun v : Nat => (v : Int)) k ((preN c o k ++ [root]).map fun v : Nat => (v : Int))).headD 0 = ((lN c o k : Nat) : Int) := by
      rw [leafs_cast, List.filter_append]
      show ((lfN c o k ++ _).map _).headD 0 = _
      unfold lN
      cases e : lfN c o k with
      | nil => exact absurd e hne
      | cons a r => rfl
    show (List.erase (treeSt _ _ k).1 ((leafs _ k (treeSt _ _ k).1).headD 0), (treeSt _ _ k).2 ++ [((leafs _ k (treeSt _ _ k).1).headD 0, _)]) = _
    rw [ih]
    dsimp only
    rw [hh, erase_cast, List.erase_append_left _ l1, preN_succ, List.range_succ]
    have hg : (c.map fun v : Nat => (v : Int)).getD k 0 = ((c.getD k 0 : Nat) : Int) := by
      rw [List.getD_eq_getElem?_getD, List.getD_eq_getElem?_getD, List.getElem?_map]
      cases c[k]? <;> rfl
    rw [hg]
    simp only [List.map_append, List.map_cons, List.map_nil]
end
end Mine
end

section
open PySem PySem.W
namespace Mine
noncomputable def keyOf (first second : Int) (f : Nat → Int) (i : Nat) : Int × Int × Int := (first * f i, second * i, i)
noncomputable def Lt2 (first second : Int) (f : Nat → Int) (i j : Nat) : Prop := cmp2 first second (f i) i (f j) j < 0 ∧ ¬ cmp2 first second (f j) j (f i) i < 0
theorem sgn {e x y : Int} (he : e = 1 ∨ e = -1) (h : e * x < e * y) : (x < y ∧ e = 1) ∨ (y < x ∧ e = -1) := by
  rcases he with rfl | rfl
  · exact .inl ⟨by omega, rfl⟩
  · exact .inr ⟨by omega, rfl⟩
theorem sgn_eq {e x y : Int} (he : e = 1 ∨ e = -1) (h : e * x = e * y) : x = y := by rcases he with rfl | rfl <;> omega
theorem cmp2_lt {e d a b p q : Int} (h : (a < b ∧ e = 1) ∨ (b < a ∧ e = -1)) : cmp2 e d a p b q < 0 ∧ ¬ cmp2 e d b q a p < 0 := by
  unfold cmp2
  rcases h with ⟨h, rfl⟩ | ⟨h, rfl⟩
  · rw [if_pos h, if_neg (Int.lt_asymm h), if_pos h]; decide
  · rw [if_neg (Int.lt_asymm h), if_pos h, if_pos h]; decide
theorem cmp2_eq {e d a p q : Int} (h : (p < q ∧ d = 1) ∨ (q < p ∧ d = -1)) : cmp2 e d a p a q < 0 ∧ ¬ cmp2 e d a q a p < 0 := by
  unfold cmp2
  rw [if_neg (Int.lt_irrefl a), if_neg (Int.lt_irrefl a), if_neg (Int.lt_irrefl a), if_neg (Int.lt_irrefl a)]
  rcases h with ⟨h, rfl⟩ | ⟨h, rfl⟩
  · rw [if_pos h, if_neg (Int.lt_asymm h), if_pos h]; decide
  · rw [if_neg (Int.lt_asymm h), if_pos h, if_pos h]; decide
theorem lt2_of {first second : Int} {f : Nat → Int} {i j : Nat} (h1 : first = 1 ∨ first = -1) (h2 : second = 1 ∨ second = -1) (h : lex3 (keyOf first second f i) (keyOf first second f j) = true) : Lt2 first second f i j := by
  unfold lex3 keyOf at h
  unfold Lt2
  dsimp only at h
  generalize f i = a at h ⊢
  generalize f j = b at h ⊢
  by_cases e : first * a = first * b
  · rw [if_pos e] at h
    obtain rfl := sgn_eq h1 e
    by_cases e2 : second * (i : Int) = second * (j : Int)
    · rw [if_pos e2] at h
      have e3 := sgn_eq h2 e2
      have h3 := of_decide_eq_true h
      omega
    · rw [if_neg e2] at h
      exact cmp2_eq (sgn h2 (of_decide_eq_true h))
  · rw [if_neg e] at h
    exact cmp2_lt (sgn h1 (of_decide_eq_true h))
section
variable {first second : Int} {f : Nat → Int} {r : Nat}
theorem better_stay : ∀ l : List Nat, (∀ v ∈ l, v ≠ r → Lt2 first second f r v) → l.foldl (better first second f) r = r
  | [], _ => rfl
  | v :: l, h => by
    rw [List.foldl_cons]
    have e : better first second f r v = r := by
      by_cases hv : v = r
      · subst hv; unfold better; split <;> rfl
      · unfold better; rw [if_neg (h v (.head _) hv).2]
    rw [e]
    exact better_stay l fun u hu => h u (.tail _ hu)
theorem better_best : ∀ (l : List Nat) (a : Nat), r ∈ a :: l → (∀ v ∈ a :: l, v ≠ r → Lt2 first second f r v) → l.foldl (better first second f) a = r
  | [], a, hr, _ => (List.mem_singleton.mp hr).symm
  | b :: l, a, hr, h => by
    by_cases ha : a = r
    · subst ha
      exact better_stay _ fun v hv => h v (.tail _ hv)
    rw [List.foldl_cons]
    by_cases hb : b = r
    · subst hb
      have e : better first second f a b = b := by unfold better; rw [if_pos (h a (.head _) ha).1]
      rw [e]
      exact better_stay _ fun v hv => h v (.tail _ (.tail _ hv))
    have hrl : r ∈ l := by
      rcases List.mem_cons.mp hr with e | hr
      · exact absurd e.symm ha
      rcases List.mem_cons.mp hr with e | hr
      · exact absurd e.symm hb
      exact hr
    have hc : better first second f a b = a ∨ better first second f a b = b := by unfold better; split <;> simp
    refine better_best l _ (.tail _ hrl) fun v hv hvr => ?_
    rcases List.mem_cons.mp hv with e | hv
    · rcases hc with hc | hc
      · exact h v (by rw [e, hc]; exact .head _) hvr
      · exact h v (by rw [e, hc]; exact .tail _ (.head _)) hvr
    · exact h v (.tail _ (.tail _ hv)) hvr
theorem leastT_best {bare : List Nat} (hr : r ∈ bare) (h : ∀ v ∈ bare, v ≠ r → Lt2 first second f r v) : leastT first second f bare = r := by
  cases bare with
  | nil => exact absurd hr List.not_mem_nil
  | cons a l => exact better_best l a hr h
end
section
variable {n m : Nat} {c o : List Nat} {root : Nat} {first second : Int} {f : Nat → Int}
theorem Pru.atm (H : Pru n m c o root) : ∃ x, preN c o m = [x] ∧ (RN m c o root)[m]? = some x := by
  obtain ⟨x, hx⟩ := H.last
  refine ⟨x, hx, ?_⟩
  have h := congrArg (fun l : List Nat => l[0]?) (RN_drop (c := c) (o := o) (root := root) (k := m) (m := m) (Nat.le_refl _))
  simp only [List.getElem?_drop, Nat.sub_self] at h
  rw [Nat.add_zero] at h
  rw [h]
  show (preN c o m ++ [root])[0]? = _
  rw [hx]; rfl
theorem Pru.Tat (H : Pru n m c o root) {t : Nat} (ht : t ≤ m) : ∃ π, (TN c root)[t]? = some π ∧ (t < m → π = c.getD t 0 ∧ c[t]? = some π) ∧ (t = m → π = root) := by
  have hcl := H.cl
  by_cases h : t < m
  · refine ⟨c[t], by rw [List.getElem?_append_left (by omega)]; exact List.getElem?_eq_getElem _, fun _ => ⟨?_, List.getElem?_eq_getElem _⟩, fun e => by omega⟩
    rw [List.getD_eq_getElem?_getD, List.getElem?_eq_getElem (by omega)]; rfl
  · refine ⟨root, by rw [List.getElem?_append_right (by omega), show t - c.length = 0 by omega]; rfl, fun e => absurd e h, fun _ => rfl⟩
theorem Pru.Rat (H : Pru n m c o root) {t : Nat} (ht : t ≤ m) : ∃ l, (RN m c o root)[t]? = some l ∧ l < n := by
  have := H.rem.len
  have := H.mn
  have e : (RN m c o root)[t]? = some (RN m c o root)[t] := List.getElem?_eq_getElem (by omega)
  exact ⟨_, e, (H.rem.mem _).mp (List.mem_of_getElem? e)⟩
noncomputable def leftAt (n : Nat) (R : List Nat) (t : Nat) : List Nat := (List.range n).filter fun v => decide (t ≤ R.idxOf v)
theorem mem_leftAt {R : List Nat} {t v : Nat} : v ∈ leftAt n R t ↔ v < n ∧ t ≤ R.idxOf v := by
  unfold leftAt
  rw [List.mem_filter, List.mem_range, decide_eq_true_eq]
theorem mem_bareT {hp : Nat → Option Nat} {left : List Nat} {v : Nat} : v ∈ bareT hp left ↔ v ∈ left ∧ ∀ j ∈ left, hp j ≠ some v := by
  unfold bareT
  rw [List.mem_filter, decide_eq_true_eq]
  constructor
  · rintro ⟨h1, h2⟩
    exact ⟨h1, fun j hj e => h2 (List.mem_filterMap.mpr ⟨j, hj, e⟩)⟩
  · rintro ⟨h1, h2⟩
    exact ⟨h1, fun h => by obtain ⟨j, hj, e⟩ := List.mem_filterMap.mp h; exact h2 j hj e⟩
theorem Pru.bare (H : Pru n m c o root) (hs : (o ++ [root]).Pairwise (Lt2 first second f)) {t l π : Nat} (ht : t ≤ m) (hl : (RN m c o root)[t]? = some l) (hπ : (TN c root)[t]? = some π) :
    l ∈ bareT (hpR (RN m c o root) (TN c root)) (leftAt n (RN m c o root) t) ∧ leastT first second f (bareT (hpR (RN m c o root) (TN c root)) (leftAt n (RN m c o root) t)) = l ∧ hpR (RN m c o root) (TN c root) l = some π := by
  have J := H.rem
  have hil := idx_at J.nd hl
  have hln : l < n := (J.mem l).mp (List.mem_of_getElem? hl)
  have hpl : hpR (RN m c o root) (TN c root) l = some π := by unfold hpR; rw [hil]; exact hπ
  have hb : l ∈ bareT (hpR (RN m c o root) (TN c root)) (leftAt n (RN m c o root) t) := by
    refine mem_bareT.mpr ⟨mem_leftAt.mpr ⟨hln, by omega⟩, fun j hj e => ?_⟩
    have := (J.hp_lt e).1
    have := (mem_leftAt.mp hj).2
    omega
  refine ⟨hb, leastT_best hb fun v hv hne => ?_, hpl⟩
  obtain ⟨hv1, hv2⟩ := mem_bareT.mp hv
  obtain ⟨hvn, hvt⟩ := mem_leftAt.mp hv1
  have hvd : v ∈ preN c o t ++ [root] := by
    have h := drop_idx ((J.mem v).mpr hvn) hvt
    rw [RN_drop ht] at h
    exact ((H.rf (m - t) t (by omega)).1 v).mp h
  have child : ∀ j, t ≤ j → ∀ w, (TN c root)[j]? = some w → j ≤ m → v ≠ w := by
    rintro j hj w hw hjm rfl
    obtain ⟨r, hr, hrn⟩ := H.Rat hjm
    have hir := idx_at J.nd hr
    refine hv2 r (mem_leftAt.mpr ⟨hrn, by omega⟩) ?_
    unfold hpR; rw [hir]; exact hw
  have hvr : v ≠ root := by
    obtain ⟨w, hw, _, e⟩ := H.Tat (Nat.le_refl m)
    rw [e rfl] at hw
    exact child m ht root hw (Nat.le_refl _)
  have hvp : v ∈ preN c o t := by
    rcases List.mem_append.mp hvd with h | h
    · exact h
    · exact absurd (List.mem_singleton.mp h) hvr
  by_cases htm : t < m
  · rw [RN_at htm] at hl
    have hll := Option.some.inj hl
    have hvf : v ∈ lfN c o t := by
      refine List.mem_filter.mpr ⟨hvp, decide_eq_true ?_⟩
      intro h
      obtain ⟨j, hj⟩ := List.mem_iff_getElem?.mp h
      rw [List.getElem?_drop] at hj
      have hjl := (List.getElem?_eq_some_iff.mp hj).1
      have hcl := H.cl
      exact child (t + j) (by omega) v (by rw [List.getElem?_append_left (by omega)]; exact hj) (by omega) rfl
    have hpw : (lfN c o t).Pairwise (Lt2 first second f) := List.Pairwise.sublist (List.Sublist.trans List.filter_sublist (pre_sub t)) (List.pairwise_append.mp hs).1
    unfold lN at hll
    cases e : lfN c o t with
    | nil => rw [e] at hvf; exact absurd hvf List.not_mem_nil
    | cons a q =>
      rw [e] at hll hvf hpw
      have hal : a = l := hll
      rw [← hal]
      rcases List.mem_cons.mp hvf with h | h
      · exact absurd (h.trans hal) hne
      · exact (List.pairwise_cons.mp hpw).1 v h
  · have htm2 : t = m := by omega
    subst htm2
    obtain ⟨x, hx, hx2⟩ := H.atm
    rw [hx2] at hl
    rw [hx] at hvp
    exact absurd ((List.mem_singleton.mp hvp).trans (Option.some.inj hl)) hne
theorem Pru.run (H : Pru n m c o root) (hs : (o ++ [root]).Pairwise (Lt2 first second f)) : ∀ t, t ≤ m + 1 → (runT first second f (hpR (RN m c o root) (TN c root)) n t).left = leftAt n (RN m c o root) t ∧ (runT first second f (hpR (RN m c o root) (TN c root)) n t).told = (TN c root).take t
  | 0, _ => by
    refine ⟨?_, rfl⟩
    show List.range n = _
    unfold leftAt
    rw [List.filter_eq_self.mpr fun v _ => by simp]
  | t + 1, ht => by
    obtain ⟨h1, h2⟩ := H.run hs t (by omega)
    obtain ⟨l, hl, hln⟩ := H.Rat (t := t) (by omega)
    obtain ⟨π, hπ, _⟩ := H.Tat (t := t) (by omega)
    obtain ⟨b1, b2, b3⟩ := H.bare hs (by omega) hl hπ
    have J := H.rem
    show (stepT _ _ _ _ _).left = _ ∧ (stepT _ _ _ _ _).told = _
    unfold stepT
    rw [h1, h2]
    dsimp only
    rw [b2, b3]
    constructor
    · unfold leftAt
      rw [List.filter_filter]
      refine List.filter_congr fun v hv => ?_
      have hvn := List.mem_range.mp hv
      have hiff : v = l ↔ (RN m c o root).idxOf v = t := by
        constructor
        · rintro rfl; exact idx_at J.nd hl
        · intro e
          have := at_idx ((J.mem v).mpr hvn)
          rw [e, hl] at this
          exact (Option.some.inj this).symm
      by_cases e : v = l
      · have := hiff.mp e
        simp [e]
        rw [← e]; omega
      · have : ¬ (RN m c o root).idxOf v = t := fun h => e (hiff.mpr h)
        have e2 : (t ≤ (RN m c o root).idxOf v) ↔ (t + 1 ≤ (RN m c o root).idxOf v) := by omega
        simp [e, e2]
    · rw [List.take_add_one, hπ]; rfl
end
end Mine
end

section
open PySem PySem.W
namespace Mine
noncomputable def oadd : Option Int → Option Int → Option Int
  | none, y => y
  | some x, none => some x
  | some x, some y => some (x + y)
theorem oadd_none (x : Option Int) : oadd x none = x := by cases x <;> rfl
theorem oadd_comm (x y : Option Int) : oadd x y = oadd y x := by
  cases x <;> cases y <;> simp [oadd, Int.add_comm]
theorem oadd_assoc (x y z : Option Int) : oadd (oadd x y) z = oadd x (oadd y z) := by
  cases x <;> cases y <;> cases z <;> simp [oadd, Int.add_assoc]
theorem intOf_put (ps : List (Str × Int)) (k : Str) (v : Int) (k' : Str) : intOf (put ps k v) k' = if k' = k then some v else intOf ps k' := put_find ps k k' v
theorem intOf_none {ps : List (Str × Int)} {k : Str} : intOf ps k = none ↔ k ∉ ps.map (·.1) := by
  unfold intOf
  rw [Option.map_eq_none_iff, List.find?_eq_none]
  simp only [decide_eq_true_eq, List.mem_map, not_exists, not_and]
theorem intOf_mem {ps : List (Str × Int)} (nd : (ps.map (·.1)).Nodup) {k : Str} {z : Int} (h : (k, z) ∈ ps) : intOf ps k = some z := by
  induction ps with
  | nil => exact absurd h List.not_mem_nil
  | cons p r ih =>
    rw [List.map_cons, List.nodup_cons] at nd
    unfold intOf at ih ⊢
    rw [List.find?_cons]
    rcases List.mem_cons.mp h with e | h
    · subst e; simp
    · have : ¬ p.1 = k := fun e => nd.1 (List.mem_map.mpr ⟨(k, z), h, e.symm⟩)
      simp only [this, decide_false]
      exact ih nd.2 h
theorem intOf_cons (p : Str × Int) (r : List (Str × Int)) (k : Str) : intOf (p :: r) k = if p.1 = k then some p.2 else intOf r k := by
  unfold intOf
  rw [List.find?_cons]
  by_cases e : p.1 = k <;> simp [e]
theorem intOf_addC : ∀ (ss ts : List (Str × Int)), (ss.map (·.1)).Nodup → ∀ k, intOf (addC ts ss) k = oadd (intOf ts k) (intOf ss k)
  | [], ts, _, k => (oadd_none _).symm
  | p :: r, ts, nd, k => by
    rw [List.map_cons, List.nodup_cons] at nd
    have e : addC ts (p :: r) = addC (match intOf ts p.1 with | some x => put ts p.1 (x + p.2) | none => put ts p.1 p.2) r := rfl
    rw [e, intOf_addC r _ nd.2, intOf_cons]
    by_cases hk : p.1 = k
    · subst hk
      rw [if_pos rfl]
      have hr : intOf r p.1 = none := intOf_none.mpr nd.1
      rw [hr, oadd_none]
      cases h : intOf ts p.1 with
      | none => dsimp only; rw [intOf_put, if_pos rfl]; rfl
      | some x => dsimp only; rw [intOf_put, if_pos rfl]; rfl
    · rw [if_neg hk]
      have hk2 : ¬ k = p.1 := fun e => hk e.symm
      congr 1
      cases h : intOf ts p.1 with
      | none => dsimp only; rw [intOf_put, if_neg hk2]
      | some x => dsimp only; rw [intOf_put, if_neg hk2]

noncomputable def oneS (f : Nat → Int) (k : Str) (x : Nat) : Option Int := if uvwOf (f x) = k then some (1 + x) else none
noncomputable def esum (f : Nat → Int) (k : Str) : List Nat → Option Int
  | [] => none
  | x :: r => oadd (oneS f k x) (esum f k r)
theorem esum_app (f : Nat → Int) (k : Str) : ∀ a b, esum f k (a ++ b) = oadd (esum f k a) (esum f k b)
  | [], b => rfl
  | x :: a, b => by
    rw [List.cons_append]
    show oadd _ (esum f k (a ++ b)) = oadd (oadd _ (esum f k a)) _
    rw [esum_app f k a b, oadd_assoc]
theorem esum_perm {f : Nat → Int} {k : Str} {a b : List Nat} (h : a.Perm b) : esum f k a = esum f k b := by
  induction h with
  | nil => rfl
  | cons x _ ih => show oadd _ _ = oadd _ _; rw [ih]
  | swap x y l =>
    show oadd _ (oadd _ _) = oadd _ (oadd _ _)
    rw [← oadd_assoc, ← oadd_assoc, oadd_comm (oneS f k y)]
  | trans _ _ ih1 ih2 => exact ih1.trans ih2
noncomputable def isum (g : Nat → Int) : List Nat → Int
  | [] => 0
  | x :: r => g x + isum g r
theorem isum_app (g : Nat → Int) : ∀ a b, isum g (a ++ b) = isum g a + isum g b
  | [], b => by show isum g b = 0 + _; omega
  | x :: a, b => by show g x + isum g (a ++ b) = (g x + isum g a) + _; rw [isum_app g a b]; omega
theorem isum_perm {g : Nat → Int} {a b : List Nat} (h : a.Perm b) : isum g a = isum g b := by
  induction h with
  | nil => rfl
  | cons x _ ih => show _ + _ = _ + _; rw [ih]
  | swap x y l => show g _ + (g _ + _) = g _ + (g _ + _); omega
  | trans _ _ ih1 ih2 => exact ih1.trans ih2
theorem isum_map (g : Nat → Int) : ∀ a : List Nat, isum g a = (a.map g).sum
  | [] => rfl
  | x :: a => by show g x + isum g a = _; rw [isum_map g a, List.map_cons, List.sum_cons]
structure Rep (f : Nat → Int) (s : Sv) (D : List Nat) : Prop where
  a : s.a = isum (fun _ => 1) D
  b : s.b = isum (fun x => x) D
  c : s.c = isum f D
  d : s.d = isum (fun x => f x * x) D
  e : ∀ k, intOf s.e k = esum f k D
  nd : (s.e.map (·.1)).Nodup
theorem Rep.one (f : Nat → Int) (j : Nat) : Rep f (sv0 f j) [j] := by
  refine ⟨rfl, by show (j : Int) = (j : Int) + 0; omega, by show f j = f j + 0; omega, by show f j * j = f j * j + 0; omega, fun k => ?_, by simp [sv0]⟩
  show intOf [(uvwOf (f j), 1 + (j : Int))] k = oadd (oneS f k j) none
  rw [intOf_cons, oadd_none]; rfl
theorem Rep.add {f : Nat → Int} {x y : Sv} {D G : List Nat} (hx : Rep f x D) (hy : Rep f y G) : Rep f (addSv x y) (D ++ G) := by
  refine ⟨?_, ?_, ?_, ?_, fun k => ?_, addC_nodup _ _ hx.nd⟩
  · show y.a + x.a = _; rw [isum_app, hx.a, hy.a]; omega
  · show y.b + x.b = _; rw [isum_app, hx.b, hy.b]; omega
  · show y.c + x.c = _; rw [isum_app, hx.c, hy.c]; omega
  · show y.d + x.d = _; rw [isum_app, hx.d, hy.d]; omega
  · show intOf (addC x.e y.e) k = _; rw [intOf_addC _ _ hy.nd, esum_app, hx.e, hy.e]
theorem Rep.perm {f : Nat → Int} {x : Sv} {D G : List Nat} (hx : Rep f x D) (h : D.Perm G) : Rep f x G :=
  ⟨hx.a.trans (isum_perm h), hx.b.trans (isum_perm h), hx.c.trans (isum_perm h), hx.d.trans (isum_perm h), fun k => (hx.e k).trans (esum_perm h), hx.nd⟩
section
variable {n m : Nat} {c o : List Nat} {root : Nat} {first second : Int} {f : Nat → Int}
theorem Pru.sums (H : Pru n m c o root) (hs : (o ++ [root]).Pairwise (Lt2 first second f)) : ∀ t, t ≤ m + 1 → ∀ j, j < n → ∃ D : List Nat, Rep f ((runT first second f (hpR (RN m c o root) (TN c root)) n t).sums j) D ∧ D.Nodup ∧ ∀ i, i ∈ D ↔ i < n ∧ Under n (RN m c o root) (TN c root) t i j
  | 0, _, j, hj => by
    refine ⟨[j], Rep.one f j, by simp, fun i => ?_⟩
    rw [List.mem_singleton]
    constructor
    · rintro rfl; exact ⟨hj, (H.rem.under_zero hj).mpr rfl⟩
    · rintro ⟨hi, h⟩; exact (H.rem.under_zero hi).mp h
  | t + 1, ht, j, hj => by
    obtain ⟨h1, _⟩ := H.run hs t (by omega)
    obtain ⟨l, hl, hln⟩ := H.Rat (t := t) (by omega)
    obtain ⟨π, hπ, _⟩ := H.Tat (t := t) (by omega)
    obtain ⟨b1, b2, b3⟩ := H.bare hs (by omega) hl hπ
    have J := H.rem
    have hπn := (J.hp_lt b3).2
    show ∃ D, Rep f ((stepT first second f _ _).sums j) D ∧ _
    unfold stepT
    rw [h1]
    dsimp only
    rw [b2, b3]
    dsimp only [Option.getD_some]
    by_cases hjp : j = π
    · subst hjp
      rw [if_pos rfl]
      obtain ⟨D, d1, d2, d3⟩ := H.sums hs t (by omega) j hj
      obtain ⟨G, g1, g2, g3⟩ := H.sums hs t (by omega) l hln
      refine ⟨D ++ G, d1.add g1, List.nodup_append.mpr ⟨d2, g2, fun a ha b hb => ?_⟩, fun i => ?_⟩
      · rintro rfl
        obtain ⟨ha1, ha2⟩ := (d3 a).mp ha
        exact J.under_disj hl hπ a ha1 ((g3 a).mp hb).2 ha2
      · rw [List.mem_append, d3, g3]
        constructor
        · rintro (⟨hi, h⟩ | ⟨hi, h⟩)
          · exact ⟨hi, (J.under_succ hl hπ i hi).mpr (.inl h)⟩
          · exact ⟨hi, (J.under_succ hl hπ i hi).mpr (.inr ⟨rfl, h⟩)⟩
        · rintro ⟨hi, h⟩
          rcases (J.under_succ hl hπ i hi).mp h with h | ⟨_, h⟩
          · exact .inl ⟨hi, h⟩
          · exact .inr ⟨hi, h⟩
    · rw [if_neg hjp]
      obtain ⟨D, d1, d2, d3⟩ := H.sums hs t (by omega) j hj
      refine ⟨D, d1, d2, fun i => ?_⟩
      rw [d3]
      constructor
      · rintro ⟨hi, h⟩; exact ⟨hi, (J.under_succ hl hπ i hi).mpr (.inl h)⟩
      · rintro ⟨hi, h⟩
        rcases (J.under_succ hl hπ i hi).mp h with h | ⟨e, _⟩
        · exact ⟨hi, h⟩
        · exact absurd e hjp
theorem Pru.sums_end (H : Pru n m c o root) (hs : (o ++ [root]).Pairwise (Lt2 first second f)) {j : Nat} (hj : j < n) : Rep f ((runT first second f (hpR (RN m c o root) (TN c root)) n (m + 1)).sums j) ((List.range n).filter fun i => decide (j ∈ wayR n (RN m c o root) (TN c root) i)) := by
  obtain ⟨D, d1, d2, d3⟩ := H.sums hs (m + 1) (Nat.le_refl _) j hj
  refine d1.perm ((List.perm_ext_iff_of_nodup d2 (List.nodup_range.sublist List.filter_sublist)).mpr fun i => ?_)
  have hmn := H.mn
  rw [d3, List.mem_filter, List.mem_range, decide_eq_true_eq]
  constructor
  · rintro ⟨hi, h⟩; exact ⟨hi, (H.rem.under_end (by omega) i hi).mp h⟩
  · rintro ⟨hi, h⟩; exact ⟨hi, (H.rem.under_end (by omega) i hi).mpr h⟩
end
end Mine
end

section
open PySem PySem.W
namespace Mine
noncomputable def osum : List Int → Option Int
  | [] => none
  | x :: r => some (x :: r).sum
theorem osum_cons (x : Int) (r : List Int) : osum (x :: r) = oadd (some x) (osum r) := by
  cases r with
  | nil => simp [osum, oadd]
  | cons y t => simp [osum, oadd]
theorem uvw_ne : uvwOf 0 ≠ uvwOf 1 ∧ uvwOf 0 ≠ uvwOf 2 ∧ uvwOf 1 ≠ uvwOf 2 := by decide +kernel
theorem uvw_inj {a b : Int} (ha : 0 ≤ a ∧ a < 3) (hb : 0 ≤ b ∧ b < 3) (h : uvwOf a = uvwOf b) : a = b := by
  obtain ⟨h1, h2, h3⟩ := uvw_ne
  have ca : a = 0 ∨ a = 1 ∨ a = 2 := by omega
  have cb : b = 0 ∨ b = 1 ∨ b = 2 := by omega
  rcases ca with rfl | rfl | rfl <;> rcases cb with rfl | rfl | rfl <;> first | rfl | exact absurd h h1 | exact absurd h h2 | exact absurd h h3 | exact absurd h.symm h1 | exact absurd h.symm h2 | exact absurd h.symm h3
section
variable {f : Nat → Int} {n : Nat}
theorem getD_fig {x : Nat} (hx : x < n) : ((List.range n).map f).getD ((x : Int)).toNat 0 = f x := by
  rw [Int.toNat_natCast, List.getD_eq_getElem?_getD, List.getElem?_map, List.getElem?_range hx]; rfl
theorem cnt_cast (i : Int) : ∀ D : List Nat, (∀ x ∈ D, x < n) → cntOf ((List.range n).map f) (D.map fun x : Nat => (x : Int)) i = (D.filter fun x => decide (f x = i)).map fun x : Nat => 1 + (x : Int)
  | [], _ => rfl
  | x :: D, h => by
    have ih := cnt_cast i D fun y hy => h y (.tail _ hy)
    unfold cntOf at ih ⊢
    rw [List.map_cons, List.filter_cons, List.filter_cons, getD_fig (h x (.head _))]
    by_cases e : f x = i
    · simp only [e, decide_true, if_true, List.map_cons, ih]
    · simp only [e, decide_false, Bool.false_eq_true, if_false, ih]
theorem esum_key {i : Int} (hi : 0 ≤ i ∧ i < 3) : ∀ D : List Nat, (∀ x ∈ D, 0 ≤ f x ∧ f x < 3) → esum f (uvwOf i) D = osum ((D.filter fun x => decide (f x = i)).map fun x : Nat => 1 + (x : Int))
  | [], _ => rfl
  | x :: D, h => by
    have ih := esum_key hi D fun y hy => h y (.tail _ hy)
    show oadd (oneS f (uvwOf i) x) (esum f (uvwOf i) D) = _
    rw [ih, List.filter_cons]
    unfold oneS
    by_cases e : f x = i
    · simp only [e, decide_true, if_true, List.map_cons]
      rw [osum_cons]
    · have e2 : ¬ uvwOf (f x) = uvwOf i := fun q => e (uvw_inj (h x (.head _)) hi q)
      simp only [e, e2, decide_false, Bool.false_eq_true, if_false]
      rfl
theorem esum_other {k : Str} (h0 : k ≠ uvwOf 0) (h1 : k ≠ uvwOf 1) (h2 : k ≠ uvwOf 2) : ∀ D : List Nat, (∀ x ∈ D, 0 ≤ f x ∧ f x < 3) → esum f k D = none
  | [], _ => rfl
  | x :: D, h => by
    show oadd (oneS f k x) (esum f k D) = none
    rw [esum_other h0 h1 h2 D fun y hy => h y (.tail _ hy)]
    have hx := h x (.head _)
    have c : f x = 0 ∨ f x = 1 ∨ f x = 2 := by omega
    unfold oneS
    rw [if_neg]
    · rfl
    · rcases c with c | c | c <;> rw [c] <;> intro q
      · exact h0 q.symm
      · exact h1 q.symm
      · exact h2 q.symm
theorem due_step (fns bns : List Int) (i : Nat) (k : Str) : intOf (dueC fns bns (i + 1)) k = if k = uvwOf i ∧ cntOf fns bns i ≠ [] then osum (cntOf fns bns i) else intOf (dueC fns bns i) k := by
  show intOf (if cntOf fns bns i = [] then dueC fns bns i else put (dueC fns bns i) (uvwOf i) (cntOf fns bns i).sum) k = _
  by_cases h : cntOf fns bns i = []
  · rw [if_pos h, if_neg (fun q => q.2 h)]
  · rw [if_neg h, intOf_put]
    by_cases e : k = uvwOf i
    · rw [if_pos e, if_pos ⟨e, h⟩]
      cases q : cntOf fns bns i with
      | nil => exact absurd q h
      | cons a r => rfl
    · rw [if_neg e, if_neg (fun q => e q.1)]
theorem due_nodup (fns bns : List Int) : ∀ i, ((dueC fns bns i).map (·.1)).Nodup
  | 0 => by simp [dueC]
  | i + 1 => by
    show ((if cntOf fns bns i = [] then dueC fns bns i else put (dueC fns bns i) (uvwOf i) (cntOf fns bns i).sum).map (·.1)).Nodup
    split
    · exact due_nodup fns bns i
    · exact put_nodup (due_nodup fns bns i)
theorem due_eq (D : List Nat) (hD : ∀ x ∈ D, x < n) (hf : ∀ x ∈ D, 0 ≤ f x ∧ f x < 3) (k : Str) : intOf (dueC ((List.range n).map f) (D.map fun x : Nat => (x : Int)) 3) k = esum f k D := by
  obtain ⟨u1, u2, u3⟩ := uvw_ne
  have z : intOf (dueC ((List.range n).map f) (D.map fun x : Nat => (x : Int)) 0) k = none := rfl
  have key : ∀ i : Int, 0 ≤ i ∧ i < 3 → esum f (uvwOf i) D = osum (cntOf ((List.range n).map f) (D.map fun x : Nat => (x : Int)) i) := fun i hi => by rw [esum_key hi D hf, cnt_cast i D hD]
  have nn : ∀ i : Int, cntOf ((List.range n).map f) (D.map fun x : Nat => (x : Int)) i = [] → osum (cntOf ((List.range n).map f) (D.map fun x : Nat => (x : Int)) i) = none := fun i e => by rw [e]; rfl
  rw [due_step, due_step, due_step, z]
  by_cases h0 : k = uvwOf 0
  · have a1 : ¬ k = uvwOf ((2 : Nat) : Int) := fun e => u2 (h0.symm.trans e)
    have a2 : ¬ k = uvwOf ((1 : Nat) : Int) := fun e => u1 (h0.symm.trans e)
    rw [if_neg (fun q => a1 q.1), if_neg (fun q => a2 q.1)]
    rw [h0, key 0 (by omega)]
    split
    · rfl
    · rename_i hh
      rw [nn]
      · exact Classical.byContradiction fun q => hh ⟨rfl, q⟩
  by_cases h1 : k = uvwOf 1
  · have a1 : ¬ k = uvwOf ((2 : Nat) : Int) := fun e => u3 (h1.symm.trans e)
    rw [if_neg (fun q => a1 q.1), if_neg (fun q : k = uvwOf ((0 : Nat) : Int) ∧ _ => h0 q.1)]
    rw [h1, key 1 (by omega)]
    split
    · rfl
    · rename_i hh
      rw [nn]
      · exact Classical.byContradiction fun q => hh ⟨rfl, q⟩
  by_cases h2 : k = uvwOf 2
  · rw [if_neg (fun q : k = uvwOf ((1 : Nat) : Int) ∧ _ => h1 q.1), if_neg (fun q : k = uvwOf ((0 : Nat) : Int) ∧ _ => h0 q.1)]
    rw [h2, key 2 (by omega)]
    split
    · rfl
    · rename_i hh
      rw [nn]
      · exact Classical.byContradiction fun q => hh ⟨rfl, q⟩
  · rw [if_neg (fun q : k = uvwOf ((2 : Nat) : Int) ∧ _ => h2 q.1), if_neg (fun q : k = uvwOf ((1 : Nat) : Int) ∧ _ => h1 q.1), if_neg (fun q : k = uvwOf ((0 : Nat) : Int) ∧ _ => h0 q.1)]
    exact (esum_other h0 h1 h2 D hf).symm
theorem isum_one : ∀ D : List Nat, isum (fun _ => 1) D = D.length
  | [] => rfl
  | x :: D => by show 1 + isum _ D = _; rw [isum_one D, List.length_cons]; omega
theorem Rep.due {s : Sv} {D : List Nat} (h : Rep f s D) (hD : ∀ x ∈ D, x < n) (hf : ∀ x ∈ D, 0 ≤ f x ∧ f x < 3) :
    s.a = (D.map fun x : Nat => (x : Int)).length ∧ s.b = (D.map fun x : Nat => (x : Int)).sum ∧ s.c = ((D.map fun x : Nat => (x : Int)).map fun x => ((List.range n).map f).getD x.toNat 0).sum ∧ s.d = ((D.map fun x : Nat => (x : Int)).map fun x => ((List.range n).map f).getD x.toNat 0 * x).sum ∧
      (∀ k z, (k, z) ∈ s.e → intOf (dueC ((List.range n).map f) (D.map fun x : Nat => (x : Int)) 3) k = some z) ∧ s.e.length = (dueC ((List.range n).map f) (D.map fun x : Nat => (x : Int)) 3).length := by
  refine ⟨?_, ?_, ?_, ?_, fun k z hm => ?_, ?_⟩
  · rw [h.a, isum_one, List.length_map]
  · rw [h.b, isum_map]
  · rw [h.c, isum_map, List.map_map]
    congr 1
    exact List.map_congr_left fun x hx => (getD_fig (hD x hx)).symm
  · rw [h.d, isum_map, List.map_map]
    congr 1
    exact List.map_congr_left fun x hx => by show f x * x = _ * _; rw [getD_fig (hD x hx)]
  · rw [due_eq D hD hf, ← h.e]; exact intOf_mem h.nd hm
  · have hp : (s.e.map (·.1)).Perm ((dueC ((List.range n).map f) (D.map fun x : Nat => (x : Int)) 3).map (·.1)) := by
      refine (List.perm_ext_iff_of_nodup h.nd (due_nodup _ _ 3)).mpr fun k => ?_
      have e : intOf s.e k = none ↔ intOf (dueC ((List.range n).map f) (D.map fun x : Nat => (x : Int)) 3) k = none := by rw [h.e, due_eq D hD hf]
      rw [intOf_none, intOf_none] at e
      exact ⟨fun h1 => Classical.byContradiction fun q => (e.mpr q) h1, fun h1 => Classical.byContradiction fun q => (e.mp q) h1⟩
    have := hp.length_eq
    simpa using this
end
end Mine
end

section
open PySem PySem.W PyProof.Rows PySem.Builtin.Str
namespace Mine
noncomputable abbrev sl (x : Str) : List Nat := x.cps.toList
theorem sl_inj {x y : Str} (h : sl x = sl y) : x = y := by
  cases x; cases y
  exact congrArg Str.mk (Array.toList_inj.mp h)
theorem sl_len (x : Str) : (sl x).length = x.length := Array.length_toList
theorem sl_app (x y : Str) : sl (x ++ y) = sl x ++ sl y := Array.toList_append
theorem sl_slash : sl slash = [47] := by decide +kernel
theorem slash_cps : (Str.ofString "/").cps = #[47] := by decide +kernel
theorem rep_fold : ∀ (k : Nat) (a : Array Nat), ((List.replicate k #[47]).foldl (· ++ ·) a).toList = a.toList ++ List.replicate k 47
  | 0, a => by simp
  | k + 1, a => by
    rw [List.replicate_succ, List.foldl_cons, rep_fold k, Array.toList_append, List.append_assoc]
    rfl
theorem sl_mul (k : Nat) : sl (Txt.mul (Str.ofString "/") (k : Int)) = List.replicate k 47 := by
  unfold Txt.mul
  match k with
  | 0 => rfl
  | 1 => exact sl_slash
  | k + 2 =>
    have h1 : ¬ ((k + 2 : Nat) : Int) < 1 := by omega
    have h2 : ¬ ((((k + 2 : Nat) : Int) == 1 || (Str.ofString "/").length == 0) = true) := by
      have : (Str.ofString "/").length = 1 := by decide +kernel
      rw [this]
      simp
      omega
    rw [if_neg h1, if_neg h2]
    show ((List.replicate ((k + 2 : Nat) : Int).toNat (Str.ofString "/").cps).foldl (· ++ ·) #[]).toList = _
    rw [slash_cps, Int.toNat_natCast, rep_fold]
    rfl
/-- ends in no slash -/
noncomputable def Ends (l : List Nat) : Prop := ∃ a z, l = a ++ [z] ∧ z ≠ 47
theorem contains_slash (z : Nat) : (Str.ofString "/").cps.contains z = decide (z = 47) := by
  rw [slash_cps]
  by_cases e : z = 47 <;> simp [e]
theorem take_rep (k : Nat) (r : List Nat) (p : Nat → Bool) (hp : ∀ z, p z = decide (z = 47)) (hr : r.takeWhile p = []) : ((List.replicate k 47 ++ r).takeWhile p).length = k := by
  induction k with
  | zero => simp [hr]
  | succ k ih => rw [List.replicate_succ, List.cons_append, List.takeWhile_cons, if_pos (by rw [hp]; rfl), List.length_cons, ih]
theorem sl_sub0 (x : Str) (j : Nat) : sl (strSub x 0 j) = (sl x).take j := by
  show (x.cps.extract 0 j).toList = _
  rw [Array.toList_extract]
  simp [List.extract]
theorem sl_rstrip {x : Str} {b : List Nat} {k : Nat} (hx : sl x = b ++ List.replicate k 47) (hb : Ends b) : sl (Txt.rstripChars x slash) = b := by
  unfold Txt.rstripChars
  rw [PyProof.Rows.stripBy_eq]
  obtain ⟨a, z, rfl, hz⟩ := hb
  have h0 : stripLo (slash.cps.contains) false x = 0 := rfl
  rw [h0]
  have h1 : stripHi (slash.cps.contains) true x 0 = (a ++ [z]).length := by
    show x.length - (((sl x).drop 0).reverse.takeWhile (slash.cps.contains)).length = _
    rw [List.drop_zero, hx, List.reverse_append, List.reverse_replicate, List.reverse_append]
    rw [take_rep k _ (slash.cps.contains) contains_slash]
    · rw [← sl_len, hx, List.length_append, List.length_replicate]; omega
    · show ([z] ++ a.reverse).takeWhile (slash.cps.contains) = []
      rw [List.singleton_append, List.takeWhile_cons, if_neg]
      rw [contains_slash]; simp [hz]
  rw [h1, sl_sub0, hx, List.take_left]
theorem sl_rstrip_nil {x : Str} (hx : sl x = []) : sl (Txt.rstripChars x slash) = [] := by
  have h := len_rstripChars x slash
  rw [← sl_len, ← sl_len, hx] at h
  exact List.eq_nil_of_length_eq_zero (Nat.le_zero.mp h)
theorem At_iff (x : Str) (i : Nat) : StrLaws.At x slash x.length i ↔ (sl x)[i]? = some 47 := by
  unfold StrLaws.At subAt
  have h1 : slash.length = 1 := by decide +kernel
  rw [h1]
  have e : ((x.cps.extract i (i + 1) == slash.cps) = true) ↔ (sl x)[i]? = some 47 := by
    rw [beq_iff_eq, slash_cps, ← Array.toList_inj, Array.toList_extract]
    show ((sl x).drop i).take (i + 1 - i) = [47] ↔ _
    rw [show i + 1 - i = 1 by omega]
    have : (sl x)[i]? = ((sl x).drop i)[0]? := by rw [List.getElem?_drop]; rfl
    rw [this]
    cases (sl x).drop i with
    | nil => simp
    | cons a r => simp
  rw [e]
  constructor
  · exact fun h => h.2
  · intro h
    refine ⟨?_, h⟩
    have := (List.getElem?_eq_some_iff.mp h).1
    rw [sl_len] at this; omega
theorem sl_slice (x : Str) (j : Nat) (hj : j ≤ x.length) : sl (Txt.slice x none (some (j : Int))) = (sl x).take j := by
  have hi : strSliceIndices none (some (j : Int)) 1 x.length = List.range j := by
    unfold strSliceIndices sliceRange
    simp only [show (1 : Int) > 0 by decide, if_true, if_neg (show ¬ ((j : Int) < 0) by omega)]
    have e : max 0 (min (j : Int) (x.length : Int)) = (j : Int) := by omega
    rw [e]
    have e2 : (if (0 : Int) < (j : Int) then ((j : Int) - 0 + 1 - 1) / 1 else 0).toNat = j := by
      split
      · rw [Int.ediv_one]; omega
      · omega
    rw [e2]
    conv => rhs; rw [← List.map_id (List.range j)]
    refine List.map_congr_left fun k _ => ?_
    show (0 + 1 * (k : Int)).toNat = k
    omega
  unfold Txt.slice
  rw [hi]
  split
  · rename_i h
    rw [Bool.and_eq_true, beq_iff_eq, List.length_range] at h
    rw [beq_iff_eq] at h
    rw [List.take_of_length_le]
    rw [sl_len]; omega
  · show (((List.range j).filterMap (x.cps[·]?)).toArray).toList = _
    rw [show (((List.range j).filterMap (x.cps[·]?)).toArray).toList = (List.range j).filterMap (x.cps[·]?) from rfl]
    rename_i hh
    clear hi hh
    induction j with
    | zero => simp
    | succ j ih =>
      rw [List.range_succ, List.filterMap_append, ih (by omega), List.take_add_one]
      congr 1
      have hl : j < (sl x).length := by rw [sl_len]; omega
      have : x.cps[j]? = (sl x)[j]? := Array.getElem?_toList.symm
      simp only [List.filterMap_cons, List.filterMap_nil, this]
      cases (sl x)[j]? <;> rfl
theorem hd0_of {x : Str} {b nm : List Nat} {k : Nat} (hk : 1 ≤ k) (hx : sl x = b ++ List.replicate k 47 ++ nm) (hn : 47 ∉ nm) : sl (hd0 x) = b ++ List.replicate k 47 := by
  have hA : ∀ i, StrLaws.At x slash x.length i ↔ (sl x)[i]? = some 47 := At_iff x
  have hlast : (sl x)[b.length + k - 1]? = some 47 := by
    rw [hx, List.append_assoc, List.getElem?_append_right (by omega), List.getElem?_append_left (by simp; omega)]
    rw [List.getElem?_replicate, if_pos (by omega)]
  have hr : Txt.rfind x slash = ((b.length + k - 1 : Nat) : Int) := by
    rcases rfind_whole x slash with ⟨_, h⟩ | ⟨i, h1, h2, h3⟩
    · exact absurd ((hA _).mpr hlast) (h _)
    · have hle : b.length + k - 1 ≤ i := Nat.le_of_not_lt fun hlt => h3 _ hlt ((hA _).mpr hlast)
      have hge : ¬ b.length + k - 1 < i := fun hlt => by
        have h4 := (hA i).mp h2
        rw [hx, List.getElem?_append_right (by simp; omega)] at h4
        exact hn (List.mem_of_getElem? h4)
      rw [h1]; congr 1; omega
  unfold hd0
  have hl : x.length = b.length + k + nm.length := by rw [← sl_len, hx]; simp [Nat.add_assoc]
  rw [hr, show ((b.length + k - 1 : Nat) : Int) + 1 = ((b.length + k : Nat) : Int) by omega, sl_slice x _ (by omega), hx, List.take_left' (by simp)]
theorem hd0_none {x : Str} (hn : 47 ∉ sl x) : sl (hd0 x) = [] := by
  have hr : Txt.rfind x slash = -1 := by
    rcases rfind_whole x slash with ⟨h, _⟩ | ⟨i, _, h2, _⟩
    · exact h
    · exact absurd (List.mem_of_getElem? ((At_iff x i).mp h2)) hn
  unfold hd0
  rw [hr]
  have := sl_slice x 0 (Nat.zero_le _)
  exact this
theorem headOf_under {x b : Str} {nm : List Nat} {k : Nat} (hk : 1 ≤ k) (hx : sl x = sl b ++ List.replicate k 47 ++ nm) (hn : 47 ∉ nm) (hb : Ends (sl b)) : headOf x = b := by
  have h := hd0_of hk hx hn
  have hne : (hd0 x).length ≠ 0 := by
    rw [← sl_len, h]; simp; omega
  have hm : (hd0 x != Txt.mul slash (hd0 x).length) = true := by
    rw [bne_iff_ne]
    intro e
    have e2 := congrArg sl e
    rw [sl_mul, h] at e2
    obtain ⟨a, z, hz, hz2⟩ := hb
    have hm : z ∈ List.replicate (hd0 x).length 47 := by rw [← e2, hz]; simp
    exact hz2 (List.eq_of_mem_replicate hm)
  unfold headOf
  rw [if_pos ⟨hne, hm⟩]
  exact sl_inj (sl_rstrip h hb)
theorem headOf_none {x : Str} (hn : 47 ∉ sl x) : sl (headOf x) = [] := by
  have h := hd0_none hn
  have h0 : (hd0 x).length = 0 := by rw [← sl_len, h]; rfl
  unfold headOf
  rw [if_neg (fun q => q.1 h0)]
  exact h
theorem bareOf_nil {x : Str} (hx : sl x = []) : bareOf x = true := by
  unfold bareOf
  rw [beq_iff_eq, ← sl_len, sl_rstrip_nil hx]; rfl
theorem bareOf_ends {x : Str} (hx : Ends (sl x)) : bareOf x = false := by
  unfold bareOf
  have h := sl_rstrip (x := x) (b := sl x) (k := 0) (by simp) hx
  rw [beq_eq_false_iff_ne, ← sl_len, h]
  obtain ⟨a, z, e, _⟩ := hx
  rw [e]; simp
theorem rstrip_ends {x : Str} (k : Nat) (hx : Ends (sl x)) : Txt.rstripChars (x ++ Txt.mul (Str.ofString "/") (k : Int)) slash = x :=
  sl_inj (sl_rstrip (k := k) (by rw [sl_app, sl_mul]) hx)
theorem rstrip_self {x : Str} (hx : Ends (sl x)) : Txt.rstripChars x slash = x := sl_inj (sl_rstrip (k := 0) (by simp) hx)
-- the names
theorem nm_ok : ∀ v : Nat, v < 9 → 47 ∉ sl (nmOf (v : Int)) ∧ sl (nmOf (v : Int)) ≠ [] := by decide +kernel
theorem nm_inj : ∀ v : Nat, v < 9 → ∀ u : Nat, u < 9 → sl (nmOf (v : Int)) = sl (nmOf (u : Int)) → v = u := by decide +kernel
theorem nm_ends {v : Nat} (hv : v < 9) (a : List Nat) : Ends (a ++ sl (nmOf (v : Int))) := by
  obtain ⟨h1, h2⟩ := nm_ok v hv
  refine ⟨a ++ (sl (nmOf (v : Int))).dropLast, (sl (nmOf (v : Int))).getLast h2, ?_, fun e => h1 (e ▸ List.getLast_mem h2)⟩
  rw [List.append_assoc, List.dropLast_concat_getLast]
theorem slashes_sl (v : Nat) : ∃ k, 1 ≤ k ∧ k ≤ 2 ∧ sl (slashes (v : Int)) = List.replicate k 47 := by
  have h0 := Int.fmod_nonneg_of_pos (v : Int) (show (0 : Int) < 2 by decide)
  have h1 := Int.fmod_lt_of_pos (v : Int) (show (0 : Int) < 2 by decide)
  refine ⟨(1 + (v : Int).fmod 2).toNat, by omega, by omega, ?_⟩
  unfold slashes
  have e : (1 + (v : Int).fmod 2) = (((1 + (v : Int).fmod 2).toNat : Nat) : Int) := by omega
  rw [e, sl_mul, Int.toNat_natCast]
theorem under_sl (b : Str) (v : Nat) : ∃ k, 1 ≤ k ∧ k ≤ 2 ∧ sl (under b (v : Int)) = sl b ++ List.replicate k 47 ++ sl (nmOf (v : Int)) := by
  obtain ⟨k, h1, h2, h3⟩ := slashes_sl v
  exact ⟨k, h1, h2, by unfold under; rw [sl_app, sl_app, h3]⟩
end Mine
end

section
open PySem PySem.W PyProof.Rows PySem.Builtin.Str
namespace Mine
noncomputable def pW : List Nat → Str
  | [] => Str.empty
  | [v] => nmOf (v : Int)
  | v :: u :: r => under (pW (u :: r)) (v : Int)
section
variable {n : Nat} {R T : List Nat}
noncomputable def pathR (n : Nat) (R T : List Nat) (v : Nat) : Str := pW (wayR n R T v)
theorem Rem.path_none (H : Rem n R T) {v : Nat} (hv : v < n) (e : hpR R T v = none) : pathR n R T v = nmOf (v : Int) := by
  unfold pathR; rw [H.way_eq hv, e]; rfl
theorem Rem.path_some (H : Rem n R T) {v u : Nat} (hv : v < n) (e : hpR R T v = some u) : pathR n R T v = under (pathR n R T u) (v : Int) := by
  have hu := (H.hp_lt e).2
  unfold pathR; rw [H.way_eq hv, e]
  dsimp only
  rw [H.way_eq hu]
  rfl
theorem Rem.hp_cases (v : Nat) : hpR R T v = none ∨ ∃ u, hpR R T v = some u := by
  cases e : hpR R T v with
  | none => exact .inl rfl
  | some u => exact .inr ⟨u, rfl⟩
theorem Rem.path_ends (H : Rem n R T) (h9 : n ≤ 9) {v : Nat} (hv : v < n) : Ends (sl (pathR n R T v)) := by
  rcases Rem.hp_cases (R := R) (T := T) v with e | ⟨u, e⟩
  · rw [H.path_none hv e]
    have := nm_ends (v := v) (by omega) []
    rwa [List.nil_append] at this
  · rw [H.path_some hv e]
    obtain ⟨k, _, _, h⟩ := under_sl (pathR n R T u) v
    rw [h]
    exact nm_ends (by omega) _
theorem nm_len : ∀ v : Nat, v < 9 → (sl (nmOf (v : Int))).length ≤ 3 := by decide +kernel
theorem Rem.path_len (H : Rem n R T) (h9 : n ≤ 9) : ∀ v, v < n → (sl (pathR n R T v)).length ≤ 5 * (wayR n R T v).length := by
  refine H.way_ind (Z := fun v l => (sl (pW l)).length ≤ 5 * l.length) (fun v hv _ => ?_) fun v u hv hu e ih => ?_
  · have := nm_len v (by omega)
    show (sl (nmOf (v : Int))).length ≤ 5 * 1
    omega
  · have := nm_len v (by omega)
    obtain ⟨r, hr⟩ : ∃ r, wayR n R T u = u :: r := ⟨_, H.way_eq hu⟩
    rw [hr] at ih ⊢
    obtain ⟨k, _, h2, h3⟩ := under_sl (pW (u :: r)) v
    show (sl (under (pW (u :: r)) (v : Int))).length ≤ _
    rw [h3]
    simp only [List.length_append, List.length_replicate, List.length_cons] at ih ⊢
    omega
theorem Rem.path_le (H : Rem n R T) (h9 : n ≤ 9) {v : Nat} (hv : v < n) : (pathR n R T v).length ≤ 45 := by
  have h1 := H.path_len h9 v hv
  have h2 := H.way_len v hv
  rw [sl_len] at h1
  omega
theorem Rem.path_anc (H : Rem n R T) (h9 : n ≤ 9) : ∀ v, v < n → Anc headOf bareOf (pathR n R T v) ((wayR n R T v).map (pathR n R T)) := by
  refine H.way_ind (Z := fun v l => Anc headOf bareOf (pathR n R T v) (l.map (pathR n R T))) (fun v hv e => ?_) fun v u hv hu e ih => ?_
  · refine ⟨rfl, bareOf_ends (H.path_ends h9 hv), bareOf_nil (headOf_none ?_)⟩
    rw [H.path_none hv e]
    exact (nm_ok v (by omega)).1
  · refine ⟨rfl, bareOf_ends (H.path_ends h9 hv), ?_⟩
    have hh : headOf (pathR n R T v) = pathR n R T u := by
      obtain ⟨k, h1, _, h3⟩ := under_sl (pathR n R T u) v
      exact headOf_under h1 (by rw [H.path_some hv e]; exact h3) (nm_ok v (by omega)).1 (H.path_ends h9 hu)
    rw [hh]; exact ih
/-- what stands behind the last slash -/
noncomputable def lastc (l : List Nat) : List Nat := l.reverse.takeWhile fun z => decide (z ≠ 47)
theorem lastc_app {a b : List Nat} (hb : 47 ∉ b) (ha : a = [] ∨ ∃ a', a = a' ++ [47]) : lastc (a ++ b) = b.reverse := by
  unfold lastc
  rw [List.reverse_append]
  have hall : ∀ z ∈ b.reverse, decide (z ≠ 47) = true := fun z hz => by
    have : z ∈ b := List.mem_reverse.mp hz
    simp only [ne_eq, decide_not, Bool.not_eq_true', decide_eq_false_iff_not]
    exact fun e => hb (e ▸ this)
  rw [List.takeWhile_append_of_pos hall]
  rcases ha with rfl | ⟨a', rfl⟩
  · simp
  · rw [List.reverse_append]
    simp
theorem Rem.path_last (H : Rem n R T) (h9 : n ≤ 9) {v : Nat} (hv : v < n) : lastc (sl (pathR n R T v)) = (sl (nmOf (v : Int))).reverse := by
  have hn := (nm_ok v (by omega)).1
  rcases Rem.hp_cases (R := R) (T := T) v with e | ⟨u, e⟩
  · rw [H.path_none hv e]
    have := lastc_app (a := []) hn (.inl rfl)
    rwa [List.nil_append] at this
  · rw [H.path_some hv e]
    obtain ⟨k, h1, _, h3⟩ := under_sl (pathR n R T u) v
    rw [h3]
    refine lastc_app hn (.inr ⟨sl (pathR n R T u) ++ List.replicate (k - 1) 47, ?_⟩)
    rw [List.append_assoc]
    congr 1
    have : k = (k - 1) + 1 := by omega
    conv => lhs; rw [this]
    rw [List.replicate_succ']
theorem Rem.path_inj (H : Rem n R T) (h9 : n ≤ 9) (v u : Nat) (hv : v < n) (hu : u < n) (e : pathR n R T v = pathR n R T u) : v = u := by
  have h : lastc (sl (pathR n R T v)) = lastc (sl (pathR n R T u)) := congrArg (fun x => lastc (sl x)) e
  rw [H.path_last h9 hv, H.path_last h9 hu] at h
  exact nm_inj v (by omega) u (by omega) (List.reverse_inj.mp h)
theorem Rem.anc_mul (H : Rem n R T) (h9 : n ≤ 9) {v : Nat} (hv : v < n) : Anc headOf bareOf (Txt.rstripChars (pathR n R T v ++ Txt.mul (Str.ofString "/") (v : Int)) slash) (pathR n R T v :: ((wayR n R T v).drop 1).map (pathR n R T)) := by
  rw [rstrip_ends v (H.path_ends h9 hv)]
  have := H.path_anc h9 v hv
  rw [H.way_eq hv] at this ⊢
  exact this
theorem Rem.anc_self (H : Rem n R T) (h9 : n ≤ 9) {v : Nat} (hv : v < n) : Anc headOf bareOf (Txt.rstripChars (pathR n R T v) slash) (pathR n R T v :: ((wayR n R T v).drop 1).map (pathR n R T)) := by
  rw [rstrip_self (H.path_ends h9 hv)]
  have := H.path_anc h9 v hv
  rw [H.way_eq hv] at this ⊢
  exact this
theorem Rem.anc_one (H : Rem n R T) {v : Nat} (hv : v < n) : (((wayR n R T v).drop 1).map (pathR n R T)).take 1 = (hpR R T v).toList.map (pathR n R T) := by
  rw [H.way_eq hv]
  cases e : hpR R T v with
  | none => rfl
  | some u =>
    dsimp only
    rw [H.way_eq (H.hp_lt e).2]
    rfl
theorem Rem.mul_len (H : Rem n R T) (h9 : n ≤ 9) {v : Nat} (hv : v < n) : (pathR n R T v ++ Txt.mul (Str.ofString "/") (v : Int)).length ≤ 100000 := by
  rw [← sl_len, sl_app, List.length_append, sl_mul, List.length_replicate, sl_len]
  have := H.path_le h9 hv
  omega
-- the walk's tables
noncomputable def upsOf (R T : List Nat) : List (Int × Int) := (R.zip T).map fun p => ((p.1 : Int), (p.2 : Int))
theorem upOf_zip (v : Nat) : ∀ (R T : List Nat), T.length ≤ R.length → upOf (upsOf R T) (v : Int) = (hpR R T v).map fun u : Nat => (u : Int)
  | [], T, h => by
    have : T = [] := List.eq_nil_of_length_eq_zero (Nat.le_zero.mp h)
    subst this; rfl
  | a :: R, [], _ => by unfold upsOf upOf hpR; simp
  | a :: R, b :: T, h => by
    have ih := upOf_zip v R T (by simpa using h)
    unfold upsOf upOf hpR at ih ⊢
    rw [List.zip_cons_cons, List.map_cons, List.find?_cons]
    by_cases e : a = v
    · subst e; simp
    · have e2 : ¬ (a : Int) = (v : Int) := fun q => e (Int.ofNat.inj q)
      simp only [e2, decide_false]
      rw [ih, List.idxOf_cons]
      have e3 : (a == v) = false := by simpa using e
      rw [e3]
      simp
theorem Rem.up_eq (H : Rem n R T) (v : Nat) : upOf (upsOf R T) (v : Int) = (hpR R T v).map fun u : Nat => (u : Int) := upOf_zip v R T (by have := H.len; have := H.tl; omega)
theorem Rem.isWay (H : Rem n R T) : ∀ v, v < n → IsWay (upsOf R T) (v : Int) ((wayR n R T v).map fun u : Nat => (u : Int)) := by
  refine H.way_ind (Z := fun v l => IsWay (upsOf R T) (v : Int) (l.map fun u : Nat => (u : Int))) (fun v hv e => ?_) fun v u hv hu e ih => ?_
  · refine ⟨rfl, ?_⟩
    show upOf _ _ = none
    rw [H.up_eq, e]; rfl
  · rw [H.way_eq hu] at ih ⊢
    refine ⟨rfl, ?_⟩
    show upOf _ _ = some _ ∧ _
    refine ⟨by rw [H.up_eq, e]; rfl, ih⟩
end
end Mine
end

section
open PySem PySem.W PyProof.Rows PySem.Builtin.Str
namespace Mine
theorem zip_fst : ∀ (R T : List Nat), (R.zip T).map (·.1) = R.take T.length
  | [], T => by simp
  | a :: R, [] => by simp
  | a :: R, b :: T => by rw [List.zip_cons_cons, List.map_cons, List.length_cons, List.take_succ_cons, zip_fst R T]
theorem ups_keys (R T : List Nat) : (upsOf R T).map (·.1) = (R.take T.length).map fun v : Nat => (v : Int) := by
  unfold upsOf
  rw [List.map_map, ← zip_fst R T, List.map_map]
  rfl
theorem str_find {P : Nat → Str} {u : Nat} : ∀ l : List Nat, u ∈ l → strOf (l.map fun v : Nat => ((v : Int), P v)) (u : Int) = some (P u)
  | a :: l, h => by
    unfold strOf
    rw [List.map_cons, List.find?_cons]
    by_cases e : a = u
    · subst e; simp
    · have e2 : ¬ (a : Int) = (u : Int) := fun q => e (Int.ofNat.inj q)
      simp only [e2, decide_false]
      rcases List.mem_cons.mp h with h | h
      · exact absurd h.symm e
      · exact str_find l h
section
variable {n : Nat} {R T : List Nat} {root : Nat}
noncomputable def keysRev (n : Nat) (R : List Nat) : List Nat := (R.take (n - 1)).reverse
noncomputable def PPof (n : Nat) (R T : List Nat) (root : Nat) (i : Nat) : List (Int × Str) := (root :: (keysRev n R).take i).map fun v : Nat => ((v : Int), pathR n R T v)
theorem Rem.kr_len (H : Rem n R T) : (keysRev n R).length = n - 1 := by
  unfold keysRev
  rw [List.length_reverse, List.length_take, H.len]; omega
theorem Rem.kr_at (H : Rem n R T) {i v : Nat} (hi : i < n - 1) (h : (keysRev n R)[i]? = some v) : R[n - 2 - i]? = some v := by
  unfold keysRev at h
  rw [List.getElem?_reverse (by rw [List.length_take, H.len]; omega), List.length_take, H.len, List.getElem?_take] at h
  split at h
  · rw [← h]; congr 1; omega
  · cases h
theorem Rem.kr_mem (H : Rem n R T) {u k : Nat} (hu : u < n) (hr : R.idxOf u + 1 < n) (hk : n - 1 ≤ k + R.idxOf u) : u ∈ (keysRev n R).take k := by
  have h1 := at_idx ((H.mem u).mpr hu)
  have h2 : (keysRev n R)[n - 2 - R.idxOf u]? = some u := by
    unfold keysRev
    rw [List.getElem?_reverse (by rw [List.length_take, H.len]; omega), List.length_take, H.len, List.getElem?_take, if_pos (by omega), ← h1]
    congr 1; omega
  exact List.mem_iff_getElem?.mpr ⟨n - 2 - R.idxOf u, by rw [List.getElem?_take, if_pos (by omega)]; exact h2⟩
theorem Rem.root_idx (H : Rem n R T) (hroot : R[n - 1]? = some root) : R.idxOf root = n - 1 := idx_at H.nd hroot
theorem Rem.root_lt (H : Rem n R T) (hroot : R[n - 1]? = some root) : root < n := (H.mem root).mp (List.mem_of_getElem? hroot)
theorem Rem.root_none (H : Rem n R T) (hroot : R[n - 1]? = some root) : hpR R T root = none := by
  unfold hpR
  rw [H.root_idx hroot]
  have := H.tl
  exact List.getElem?_eq_none (by omega)
theorem Rem.eq_root (H : Rem n R T) (hroot : R[n - 1]? = some root) {u : Nat} (hu : u < n) (e : R.idxOf u = n - 1) : u = root := by
  have h1 := at_idx ((H.mem u).mpr hu)
  rw [e, hroot] at h1
  exact (Option.some.inj h1).symm
theorem Rem.pp_all (H : Rem n R T) (hroot : R[n - 1]? = some root) {u : Nat} (hu : u < n) : strOf (PPof n R T root (n - 1)) (u : Int) = some (pathR n R T u) := by
  refine str_find _ ?_
  have hi := H.idx_le hu
  by_cases e : R.idxOf u = n - 1
  · rw [H.eq_root hroot hu e]; exact .head _
  · exact .tail _ (H.kr_mem hu (by omega) (by omega))
theorem Rem.pp_zero (H : Rem n R T) (hroot : R[n - 1]? = some root) : PPof n R T root 0 = [((root : Int), nmOf (root : Int))] := by
  show [((root : Int), pathR n R T root)] = _
  rw [H.path_none (H.root_lt hroot) (H.root_none hroot)]
theorem pp_len (i : Nat) : (PPof n R T root i).length ≤ 1 + i := by
  unfold PPof
  rw [List.length_map, List.length_cons, List.length_take]; omega
theorem Rem.pp_step (H : Rem n R T) (h9 : n ≤ 9) (hroot : R[n - 1]? = some root) (i : Nat) (z : Int) (hi : i < (upsOf R T).length) (hz : ((upsOf R T).map (·.1)).reverse[i]? = some z) :
    ∃ par base, upOf (upsOf R T) z = some par ∧ strOf (PPof n R T root i) par = some base ∧ 0 ≤ z ∧ z < 9 ∧ z ∉ (PPof n R T root i).map (·.1) ∧ base.length ≤ 2000 ∧ PPof n R T root (i + 1) = PPof n R T root i ++ [(z, under base z)] := by
  have hul : (upsOf R T).length = n - 1 := by
    unfold upsOf; rw [List.length_map, List.length_zip]; have := H.len; have := H.tl; omega
  rw [hul] at hi
  have htl : T.length = n - 1 := by have := H.tl; omega
  rw [ups_keys, htl, ← List.map_reverse] at hz
  change ((keysRev n R).map fun v : Nat => (v : Int))[i]? = some z at hz
  rw [List.getElem?_map] at hz
  obtain ⟨v, hv, rfl⟩ := Option.map_eq_some_iff.mp hz
  have hRv := H.kr_at hi hv
  have hvn : v < n := (H.mem v).mp (List.mem_of_getElem? hRv)
  have hiv := idx_at H.nd hRv
  obtain ⟨u, hu⟩ : ∃ u, hpR R T v = some u := by
    unfold hpR
    rw [hiv]
    exact ⟨_, List.getElem?_eq_getElem (by omega)⟩
  obtain ⟨hu1, hun⟩ := H.hp_lt hu
  have hiu := H.idx_le hun
  have hum : u ∈ root :: (keysRev n R).take i := by
    by_cases e : R.idxOf u = n - 1
    · rw [H.eq_root hroot hun e]; exact .head _
    · exact .tail _ (H.kr_mem hun (by omega) (by omega))
  refine ⟨(u : Int), pathR n R T u, by rw [H.up_eq, hu]; rfl, str_find _ hum, by omega, by omega, fun hm => ?_, Nat.le_trans (H.path_le h9 hun) (by decide), ?_⟩
  · obtain ⟨q, hq, e⟩ := List.mem_map.mp hm
    obtain ⟨y, hy, rfl⟩ := List.mem_map.mp hq
    have hyv : y = v := Int.ofNat.inj e
    subst hyv
    rcases List.mem_cons.mp hy with rfl | hy
    · have := H.root_idx hroot; omega
    · obtain ⟨j, hj⟩ := List.mem_iff_getElem?.mp hy
      rw [List.getElem?_take] at hj
      split at hj
      · rename_i hji
        have := idx_at H.nd (H.kr_at (by omega) hj)
        omega
      · cases hj
  · unfold PPof
    rw [List.take_add_one, hv]
    show ((root :: (List.take i (keysRev n R) ++ [v])).map fun v : Nat => ((v : Int), pathR n R T v)) = _
    rw [← List.cons_append, List.map_append, ← H.path_some hvn hu]
    rfl
end
section
variable {n m : Nat} {c o : List Nat} {root : Nat}
theorem Pru.zip (H : Pru n m c o root) {x : Nat} (hx : preN c o m = [x]) : ∀ f k, k + f = m → (Rf c o root f k).zip (c.drop k ++ [root]) = ((List.range' k f).map fun i => (lN c o i, c.getD i 0)) ++ [(x, root)]
  | 0, k, hk => by
    have hcl := H.cl
    have hkm : k = m := by omega
    subst hkm
    show (preN c o k ++ [root]).zip _ = _
    rw [hx, List.drop_of_length_le (by omega)]
    rfl
  | f + 1, k, hk => by
    have hcl := H.cl
    show (lN c o k :: Rf c o root f (k + 1)).zip _ = _
    rw [List.drop_eq_getElem_cons (by omega), List.cons_append, List.zip_cons_cons, H.zip hx f (k + 1) (by omega), List.range'_succ, List.map_cons, List.cons_append]
    rw [show c.getD k 0 = c[k] by rw [List.getD_eq_getElem?_getD, List.getElem?_eq_getElem (by omega)]; rfl]
theorem Pru.ups (H : Pru n m c o root) {x : Nat} (hx : preN c o m = [x]) : (treeSt (c.map fun v : Nat => (v : Int)) ((o ++ [root]).map fun v : Nat => (v : Int)) m).2 ++ [((x : Int), (root : Int))] = upsOf (RN m c o root) (TN c root) := by
  rw [H.tree m (Nat.le_refl _)]
  unfold upsOf
  have h := H.zip hx m 0 (by omega)
  rw [List.drop_zero] at h
  show _ = ((Rf c o root m 0).zip (c ++ [root])).map _
  dsimp only
  rw [h, List.range_eq_range']
  simp only [List.map_append, List.map_map, List.map_cons, List.map_nil]
  rfl
theorem Pru.fin (H : Pru n m c o root) {x : Nat} (hx : preN c o m = [x]) : (treeSt (c.map fun v : Nat => (v : Int)) ((o ++ [root]).map fun v : Nat => (v : Int)) m).1 = [(x : Int), (root : Int)] := by
  rw [H.tree m (Nat.le_refl _), hx]; rfl
theorem Pru.fil (H : Pru n m c o root) (k : Nat) (hk : k < m) : leafs (c.map fun v : Nat => (v : Int)) k (treeSt (c.map fun v : Nat => (v : Int)) ((o ++ [root]).map fun v : Nat => (v : Int)) k).1 ≠ [] := by
  rw [H.tree k (by omega)]
  dsimp only
  rw [leafs_cast, List.filter_append]
  intro e
  have := List.map_eq_nil_iff.mp e
  exact (H.plen k (by omega)).2 hk (List.append_eq_nil_iff.mp this).1
theorem Pru.rootAt (H : Pru n m c o root) : (RN m c o root)[n - 1]? = some root := by
  obtain ⟨x, hx⟩ := H.last
  have hmn := H.mn
  have h := congrArg (fun l : List Nat => l[1]?) (RN_drop (c := c) (o := o) (root := root) (k := m) (m := m) (Nat.le_refl _))
  simp only [List.getElem?_drop, Nat.sub_self] at h
  rw [show n - 1 = m + 1 by omega, h]
  show (preN c o m ++ [root])[1]? = _
  rw [hx]; rfl
end
end Mine
end

section
open PySem PySem.W PyProof.Rows PySem.Builtin.Str
namespace Mine
theorem toList_at {p : Array Nat} {i : Nat} (h : i < p.toList.length) : p.toList[i] = at0 p i := by
  have h' : i < p.size := by rw [Array.length_toList] at h; exact h
  simp [at0, Array.getD, h']
/-- what the law's code and order are, in plain terms -/
theorem plain (sns : List Int) (p : Array Nat) (hp : Pm (lawN sns) p) (hs : Srt (fun i j => lex3 (lawKey sns i) (lawKey sns j)) p (lawN sns)) :
    ∃ (m : Nat) (c o : List Nat) (root : Nat), Pru (lawN sns) m c o root ∧ lawCode sns = (c.map fun v : Nat => (v : Int)) ∧ p.toList = o ++ [root] ∧ (o ++ [root]).Pairwise (Lt2 (lawFst sns) (lawSnd sns) (figAt (lawNums sns).sum)) := by
  obtain ⟨n4, n9⟩ := lawN_b sns
  have hlen : p.toList.length = lawN sns := by rw [Array.length_toList, hp.sz]
  have hat : ∀ i (h : i < p.toList.length), p.toList[i] = at0 p i := fun i h => toList_at h
  have hnd : p.toList.Nodup := by
    rw [List.nodup_iff_pairwise_ne, List.pairwise_iff_getElem]
    intro i j hi hj hij e
    rw [hat i hi, hat j hj] at e
    have := hp.inj i j (by omega) (by omega) e
    omega
  have hlt : ∀ v ∈ p.toList, v < lawN sns := fun v hv => by
    obtain ⟨i, hi, rfl⟩ := List.mem_iff_getElem.mp hv
    rw [hat i hi]; exact hp.lt i (by omega)
  have hmem : ∀ v, v ∈ p.toList ↔ v < lawN sns := fun v => ⟨hlt v, fun hv => Classical.byContradiction fun hn => by
    have h1 : (v :: p.toList).Nodup := List.nodup_cons.mpr ⟨hn, hnd⟩
    have h2 : v :: p.toList ⊆ List.range (lawN sns) := fun y hy => by
      rcases List.mem_cons.mp hy with rfl | hy
      · exact List.mem_range.mpr hv
      · exact List.mem_range.mpr (hlt y hy)
    have := List.Nodup.length_le_of_subset h1 h2
    rw [List.length_cons, List.length_range] at this
    omega⟩
  have hpw : p.toList.Pairwise (Lt2 (lawFst sns) (lawSnd sns) (figAt (lawNums sns).sum)) := by
    rw [List.pairwise_iff_getElem]
    intro i j hi hj hij
    rw [hat i hi, hat j hj]
    exact lt2_of (lawFst_b sns) (lawSnd_b sns) (hs i j hij (by omega))
  have hne : p.toList ≠ [] := fun e => by rw [e] at hlen; simp at hlen; omega
  have hsplit : p.toList = p.toList.dropLast ++ [p.toList.getLast hne] := (List.dropLast_concat_getLast hne).symm
  have hN : (0 : Int) < (lawN sns : Int) := by omega
  have hc0 : ∀ z ∈ lawCode sns, 0 ≤ z ∧ z < (lawN sns : Int) := fun z hz => by
    obtain ⟨y, _, rfl⟩ := List.mem_map.mp hz
    exact ⟨Int.fmod_nonneg_of_pos y hN, Int.fmod_lt_of_pos y hN⟩
  have hcast : ((lawCode sns).map Int.toNat).map (fun v : Nat => (v : Int)) = lawCode sns := by
    rw [List.map_map]
    conv => rhs; rw [← List.map_id (lawCode sns)]
    exact List.map_congr_left fun z hz => Int.toNat_of_nonneg (hc0 z hz).1
  refine ⟨(lawNums sns).length, (lawCode sns).map Int.toNat, p.toList.dropLast, p.toList.getLast hne, ⟨hsplit ▸ hnd, fun v => hsplit ▸ hmem v, ?_, ?_, rfl, ?_⟩, hcast.symm, hsplit, hsplit ▸ hpw⟩
  · rw [List.length_dropLast, hlen]; omega
  · rw [List.length_map]; exact List.length_map ..
  · intro v hv
    obtain ⟨z, hz, rfl⟩ := List.mem_map.mp hv
    have := hc0 z hz
    omega
end Mine
end

section
open PySem PySem.W PyProof.Rows
set_option maxRecDepth 100000
namespace Mine
local macro_rules | `(tactic| ktr_room) => `(tactic| ((dsimp +zetaDelta only); ktr_room))
local macro_rules | `(tactic| ktr_units) => `(tactic| ((dsimp +zetaDelta only); ktr_units))
local macro_rules | `(tactic| units_room) => `(tactic| ((dsimp +zetaDelta only); units_room))
local macro_rules | `(tactic| walk_at "lt0") => `(tactic| (intro l1; try k_lt l1))
local macro_rules | `(tactic| walk_at "lt1") => `(tactic| (intro l1 _; try k_lt l1))
local macro_rules | `(tactic| walk_at "cdA") => `(tactic| (intro B' _ _; (try dsimp only); (try k_lift B'); (try k_fold)))
local macro_rules | `(tactic| walk_at "cdC") => `(tactic| (intro N' Y' B' _ _ l1; (try k_lt l1); k_cells Y'; (try simp only [List.cons_append, List.nil_append] at N'); (try dsimp only); (try k_lift B'); (try k_fold)))
local macro_rules | `(tactic| walk_at "ds") => `(tactic| (intro z; try dsimp only at z))
local macro_rules | `(tactic| walk_at "cdP") => `(tactic| (intro l1 _ _ _ B' _ _; (try k_lt l1); (try dsimp only); (try k_lift B'); (try k_fold)))
local macro_rules | `(tactic| walk_at "lt2") => `(tactic| (intro l1 _ _; try k_lt l1))
local macro_rules | `(tactic| walk_at "lt3") => `(tactic| (intro l1 _ _ _; try k_lt l1))
local macro_rules | `(tactic| walk_at "lt6") => `(tactic| (intro l1 _ _ _ _ _ _; try k_lt l1))
local macro_rules | `(tactic| walk_at "lt4") => `(tactic| (intro l1 _ _ _ _; try k_lt l1))
local macro_rules | `(tactic| walk_at "lu3") => `(tactic| (intro l1 l2 _ _ _; (replace l2 : @LT.lt Nat _ _ _ := l2); try k_lt l1))
local macro_rules | `(tactic| walk_at "lu0") => `(tactic| (intro l1 l2; (replace l2 : @LT.lt Nat _ _ _ := l2); try k_lt l1))
local macro_rules | `(tactic| omega) => `(tactic| k_extra "omega")
local macro_rules | `(tactic| k_ne) => `(tactic| k_extra "ne")
local macro_rules | `(tactic| k_steps) => `(tactic| k_extra "steps")
local macro_rules | `(tactic| keq_rows) => `(tactic| k_extra "rows")
local macro_rules | `(tactic| k_all) => `(tactic| k_extra "all")
local macro_rules | `(tactic| k_enter) => `(tactic| k_extra "enter")
local macro_rules | `(tactic| k_mem) => `(tactic| k_extra "mem")
theorem walkWords0 : True := by
  w_top off
  k_with_none
  k_with "via" => first | exact Mine.viaHead _ | (refine Mine.viaTail ?_; k_extra "via") | exact Mine.viaLast _ | fail
  k_with "conj" => with_reducible first | assumption | (refine' Mine.viaLt ?zqh ?zqk; (case zqh => assumption); (case zqk => k_extra "via")) | (refine' Mine.viaNe ?zqh ?zqk; (case zqh => assumption); (case zqk => k_extra "via")) | fail
  k_with "up" => with_reducible first | exact Mine.u0 | exact Mine.u1 | exact Mine.u2 | exact Mine.u3 | exact Mine.u4 | exact Mine.u5 | exact Mine.u6 | exact Mine.u7 | exact Mine.u8 | fail
  k_with "omega" => first | (k_whole; with_reducible first | assumption | exact Mine.v0 | exact Mine.v1 | exact Mine.v2 | exact Mine.v3 | exact Mine.v4 | exact Mine.v5 | exact Mine.v6 | exact Mine.v7 | exact Mine.v8 | k_extra "conj" | (refine Mine.neGt ?_; k_extra "conj") | (refine Mine.neLt ?_; k_extra "conj") | k_extra "up" | exact Int.natCast_nonneg _ | decide | exact Mine.leCut (by assumption) | exact Mine.ltCut (by assumption) | exact Mine.leCut' (by assumption) | exact Mine.ltCut' (by assumption) | exact Mine.iCut1 (by assumption) | exact Mine.iCut2 (by assumption) | exact Mine.iCut3 (by assumption) | exact Mine.iCut4 (by assumption) | fail) | (k_whole; lia) | omega +splitDisjunctions | ((dsimp +zetaDelta only at *); omega +splitDisjunctions)
  k_with "ne" => (refine PySem.W.neN ?_; (try dsimp only); first | (refine Mine.neGt ?_; first | k_extra "conj" | k_extra "up") | (refine Mine.neLt ?_; first | k_extra "conj" | k_extra "up") | (refine Mine.neSym ?_; k_extra "conj") | omega)
  k_with "rows" => with_reducible first | show wpAny _ _ (exec (Stmt.While _ _ _ _) _) _ _ _ | show wpAny _ _ (exec (Stmt.For _ _ _ _ _) _) _ _ _ | show wpAny _ _ (eval (Expr.ListComp _ _ _ _) _) _ _ _ | show wpAny _ _ (exec (Stmt.Assign _ (Expr.ListComp _ _ _ _) _) _) _ _ _ | fail
  k_with "steps" => repeat' (first | ((fail_if_success keq_rows); (first | (k_unfold; (try dsimp only)) | (k_end; wrow_close) | ((first | walk1 | (dsimp only; walk1)); (all_goals try walk_at "tidy")) | (leave1; walk_say "STEP leave1"; try dsimp only))) | fail "no step")
  k_with "tidy" => ((try ((with_reducible show wpAny _ _ (exec _ _) _ _ _); (fail_if_success fail_if_success k_fold); refine Mine.foldQ ?_; intro _)); (try ((fail_if_success fail_if_success (first | conv in (Around.deeper _ _) => skip | conv in (ktrTop _ _ _ _ _ _ _ _ _ _) => skip)); refine Mine.foldE ?_; intro _; refine Mine.foldA ?_; intro _)); (try ((fail_if_success fail_if_success (conv in (Shared.mk _ _ _ _ _) => skip)); (with_reducible show wpAny _ _ (exec _ _) _ _ _); refine Mine.foldS ?_; intro _)))
  k_with "flat" => with_reducible first | ((refine Mine.an12 ?_; iterate 11 intro _); walk_at "flat") | ((refine Mine.an6 ?_; iterate 5 intro _); walk_at "flat") | ((refine Mine.an3 ?_; iterate 2 intro _); walk_at "flat") | ((refine Mine.an2 ?_; iterate 1 intro _); walk_at "flat") | ((refine Mine.ex15 ?_; iterate 15 intro _); walk_at "flat") | ((refine Mine.ex8 ?_; iterate 8 intro _); walk_at "flat") | ((refine Mine.ex4 ?_; iterate 4 intro _); walk_at "flat") | ((refine Mine.ex2 ?_; iterate 2 intro _); walk_at "flat") | ((refine Mine.ex1 ?_; iterate 1 intro _); walk_at "flat") | intro _
  k_with "call ref" => (k_here; refine wpAny_call ?_; k_dflt ( (refine' code_defN ?zqk2 ?zqk3 ?zqk4 ?zqk5 ?zqk6 ?zqk7 ?zqk8 ?zqk9 ?zqkB ?_ ?zqc2 ?zqc3 ?zqc4 ?zqc5; (case zqk2 => k_asm); (case zqk3 => k_asm); (case zqk4 => k_asm); (case zqk5 => k_asm); (case zqk6 => k_is); (case zqk7 => k_is); (case zqk8 => first | ((try dsimp +zetaDelta only); simp only [Around.deeper]; omega) | ((try dsimp only); omega)); (case zqk9 => exact BindsTo.of_eq rfl); (case zqc5 => decide); (case zqkB => exact locs rfl); (case zqc2 => exact rfl); (case zqc3 => exact rfl); (case zqc4 => exact rfl); k_whole; intro _ _ _ _ _ _ _ _; walk_at "lt0"; (try dsimp only); (try k_fold))))
  trivial
set_option maxHeartbeats 4000000 in
theorem split_ok (w : World) {p : Program} {loose : List Str} {mean : ExcName → Option Value} {mg mb : Str → Option Value}
  {d un : Nat} {h₀ : Heap} {L : Addr} {m : Str → Option Value} {news : List (Addr × Obj)} {s : Shared} {Q E : Value → Shared → Prop}
    (F : Fr h₀ L s.heap m) (X : (K w.params).In h₀) (N : News h₀ L s.heap news) (T : Top p loose mean mg mb h₀)
    (hdp : d + 5 < recursionLimit) (hun : un + 50 < cLine)
    (x : Str) (t : Tok) (hx : x.length ≤ 100000) 
    (hret : ∀ h' tk r t1 t2, Fr h₀ L h' m → News h₀ L h' ((r, { cls := .type "tuple", data := .seq #[.str (headOf x) t1, .str (tailOf x) t2] }) :: news) → (∀ p ∈ news, p.1 < r) → (headOf x).length ≤ x.length → Q (.ref r) { s with heap := h', toks := tk }) :
    wpAny (model PySem.Challenge.rw_ij0017_01.row.prog w) (aN d un) (call (.ref 140) [.str x t]) Q E s := by
  revert X; k_fill; intro X
  try walk_at "tidy"
  walk_at "call ref"
  walk_at "tidy"
  k_steps
  · rename_i F9 N9 l9 kF kN kT kX
    have e : headOf x = Txt.rstripChars (hd0 x) slash := head_a (by unfold hd0; assumption) (by unfold hd0; assumption)
    rw [e] at hret
    exact hret _ _ _ _ _ kF (news_sub kN keep1_1) (all_lt_of l9.2) (Nat.le_trans (len_rstripChars _ _) (by unfold hd0; assumption))
  · rename_i F9 N9 l9 kF kN kT kX
    have e : headOf x = hd0 x := head_b (by unfold hd0; assumption)
    rw [e] at hret
    exact hret _ _ _ _ _ kF (news_sub kN keep1_1) (all_lt_of l9.2) (by unfold hd0; assumption)
  · rename_i F9 N9 l9 kF kN kT kX
    have e : headOf x = hd0 x := head_c (by unfold hd0; assumption)
    rw [e] at hret
    exact hret _ _ _ _ _ kF (news_sub kN keep1_1) (all_lt_of l9.2) (by unfold hd0; assumption)
theorem walkWords1 : True := by
  w_top off
  k_with "call ref" => (k_here; (with_reducible show wpAny _ _ (call (Value.ref 140) [Value.str _ _]) _ _ _); k_dflt (refine' wpAny_ofN (A := aN _ _) (split_ok _ ?zqF ?zqX ?zqN ?zqT ?zqhdp ?zqhun _ _ ?zqhx ?_) ?zqy1 ?zqy2 ?zqy3; (case zqF => k_asm); (case zqX => k_asm); (case zqN => k_asm); (case zqT => k_asm); (case zqy1 => rfl); (case zqy2 => exact Nat.le_refl _); (case zqy3 => exact Nat.le_refl _); (case zqhdp => first | ((try dsimp +zetaDelta only); simp only [Around.deeper]; omega) | ((try dsimp only); omega)); (case zqhun => first | ((try dsimp +zetaDelta only); simp only [Around.deeper]; omega) | ((try dsimp only); omega)); (case zqhx => omega)); intro _ _ _ _ _ _ _; walk_at "lt1"; (try k_sweep))
  k_with "mem" => first | exact List.Mem.head _ | assumption | (refine' List.Mem.tail _ ?_; k_mem)
  k_with "eval Name" => (k_here; (with_reducible show wpAny _ _ (eval (Expr.Name _ _) (envOf _ _ _ _ _)) _ _ _); k_dflt (refine' nameX_L (cl := []) ?zqF ?zqv ?_ ?zqa ?zqb; (case zqF => k_asm); (case zqa => rfl); (case zqb => rfl); (case zqv => first | exact rfl | assumption); k_whole))
  trivial
set_option maxHeartbeats 4000000 in
theorem anc_ok (w : World) {p : Program} {loose : List Str} {mean : ExcName → Option Value} {mg mb : Str → Option Value}
  {A : Around} {h₀ : Heap} {L : Addr} {m : Str → Option Value} {news : List (Addr × Obj)} {s : Shared} {Q E : Value → Shared → Prop}
    (F : Fr h₀ L s.heap m) (X : (K w.params).In h₀) (N : News h₀ L s.heap news) (T : Top p loose mean mg mb h₀) (hb : Heap) (Xb : (K w.params).In hb) (Tb : Top p loose mean mg mb hb) (hroom : A.depth < recursionLimit)
    (x : Str) (t : Tok) (hx : x.length ≤ 100000) (all : List Str) (hall : Anc headOf bareOf (Txt.rstripChars x slash) all)
    (hret : ∀ h' tk G GL oGL nm qn t1 t2 gs mG, Fr h₀ L h' m → News h₀ L h' ((G, genObj s.gens.size nm qn t1 t2) :: (GL, oGL) :: news) → (∀ p ∈ news, p.1 < GL) → GL < G → h₀.objs.size ≤ GL → FrObj GL oGL mG → gs.bare = true → 
      (∀ d u, d + 50 < recursionLimit → u + 100 < cLine → ∀ s', Fr hb GL s'.heap mG → gs.Goes (model PySem.Challenge.rw_ij0017_01.row.prog w) (aN d u) (RG GL) (YG hb GL all) all.length (.send .none) s') →
      Q (.ref G) { s with gens := s.gens.push gs, heap := h', toks := tk }) :
    wpAny (model PySem.Challenge.rw_ij0017_01.row.prog w) A (call (.ref 147) [.str x t]) Q E s := by
  revert X; k_fill; intro X
  try walk_at "tidy"
  refine' gen_call ?k2 ?k3 ?k4 ?k5 ?k6 ?k7 ?k8 ?k9 ?kB ?_ ?c2 ?c3 ?c4 ?c5; (case k2 => k_asm); (case k3 => k_asm); (case k4 => k_asm); (case k5 => k_asm); (case k6 => k_is); (case k7 => k_is); (case k8 => exact hroom); (case k9 => exact BindsTo.of_eq rfl); (case c5 => decide); (case kB => exact locs rfl); (case c2 => exact rfl); (case c3 => exact rfl); (case c4 => exact rfl)
  intro GL G h' tk oGL t1 t2 F1 N1 l1 l2 hsz hfo
  refine hret _ _ _ _ _ _ _ _ _ _ _ F1 N1 l1 l2 hsz hfo rfl fun d u hd hu s' F2 => ?_
  clear T X
  have T := Tb
  have X := Xb
  refine gen_goes (d := d + 10) (u := u + 30) rfl (Nat.le_refl _) (Nat.le_refl _) rfl rfl (fun m q => ∃ t, m "path" = some (.str q t)) (fun q => q.length ≤ 100000) ?hlim (Txt.rstripChars x slash) _ ?hstart ?htest ?hval ?hstep hall ?hl s' F2
  case hl => exact Nat.le_trans (len_rstripChars _ _) hx
  case hlim => exact fun q hq => Nat.le_trans (headOf_len q (hd0_len q)) hq
  case hstart =>
    refine piece_of fun s1 news1 F3 N3 Q1 hq => ?_
    clear F N F1 N1 F2
    k_steps
    rename_i F9 N9
    exact hq _ _ _ _ [] ⟨rfl, _, rfl⟩ F9 N9
  case htest =>
    rintro m1 q ⟨tq, hmq⟩ hlq
    refine piece_of fun s1 news1 F3 N3 Q1 hq => ?_
    clear F N F1 N1 F2
    k_steps
    exact hq _ m1 _ _ [] ⟨bare_ne q, rfl⟩ F3 N3
  case hval =>
    rintro m1 q ⟨tq, hmq⟩ hlq
    refine piece_of fun s1 news1 F3 N3 Q1 hq => ?_
    clear F N F1 N1 F2
    k_steps
    exact hq _ m1 s1.heap s1.toks [] ⟨⟨tq, rfl⟩, rfl⟩ F3 N3
  case hstep =>
    rintro m1 q ⟨tq, hmq⟩ hlq
    refine piece_of fun s1 news1 F3 N3 Q1 hq => ?_
    clear F N F1 N1 F2
    k_steps
    rename_i F9 N9
    exact hq _ _ _ _ [_] ⟨rfl, _, rfl⟩ F9 N9
theorem walkWords2 : True := by
  w_top off
  k_with_none
  k_with "via" => first | exact Mine.viaHead _ | (refine Mine.viaTail ?_; k_extra "via") | exact Mine.viaLast _ | fail
  k_with "conj" => with_reducible first | assumption | (refine' Mine.viaLt ?zqh ?zqk; (case zqh => assumption); (case zqk => k_extra "via")) | (refine' Mine.viaNe ?zqh ?zqk; (case zqh => assumption); (case zqk => k_extra "via")) | fail
  k_with "up" => with_reducible first | exact Mine.u0 | exact Mine.u1 | exact Mine.u2 | exact Mine.u3 | exact Mine.u4 | exact Mine.u5 | exact Mine.u6 | exact Mine.u7 | exact Mine.u8 | fail
  k_with "omega" => first | (k_whole; with_reducible first | assumption | exact Mine.v0 | exact Mine.v1 | exact Mine.v2 | exact Mine.v3 | exact Mine.v4 | exact Mine.v5 | exact Mine.v6 | exact Mine.v7 | exact Mine.v8 | k_extra "conj" | (refine Mine.neGt ?_; k_extra "conj") | (refine Mine.neLt ?_; k_extra "conj") | k_extra "up" | exact Int.natCast_nonneg _ | decide | exact Mine.leCut (by assumption) | exact Mine.ltCut (by assumption) | exact Mine.leCut' (by assumption) | exact Mine.ltCut' (by assumption) | exact Mine.iCut1 (by assumption) | exact Mine.iCut2 (by assumption) | exact Mine.iCut3 (by assumption) | exact Mine.iCut4 (by assumption) | fail) | (k_whole; lia) | omega +splitDisjunctions | ((dsimp +zetaDelta only at *); omega +splitDisjunctions)
  k_with "ne" => (refine PySem.W.neN ?_; (try dsimp only); first | (refine Mine.neGt ?_; first | k_extra "conj" | k_extra "up") | (refine Mine.neLt ?_; first | k_extra "conj" | k_extra "up") | (refine Mine.neSym ?_; k_extra "conj") | omega)
  k_with "rows" => with_reducible first | show wpAny _ _ (exec (Stmt.While _ _ _ _) _) _ _ _ | show wpAny _ _ (exec (Stmt.For _ _ _ _ _) _) _ _ _ | show wpAny _ _ (eval (Expr.ListComp _ _ _ _) _) _ _ _ | show wpAny _ _ (exec (Stmt.Assign _ (Expr.ListComp _ _ _ _) _) _) _ _ _ | fail
  k_with "steps" => repeat' (first | ((fail_if_success keq_rows); (first | (k_unfold; (try dsimp only)) | (k_end; wrow_close) | ((first | walk1 | (dsimp only; walk1)); (all_goals try walk_at "tidy")) | (leave1; walk_say "STEP leave1"; try dsimp only))) | fail "no step")
  k_with "tidy" => ((try ((with_reducible show wpAny _ _ (exec _ _) _ _ _); (fail_if_success fail_if_success k_fold); refine Mine.foldQ ?_; intro _)); (try ((fail_if_success fail_if_success (first | conv in (Around.deeper _ _) => skip | conv in (ktrTop _ _ _ _ _ _ _ _ _ _) => skip)); refine Mine.foldE ?_; intro _; refine Mine.foldA ?_; intro _)); (try ((fail_if_success fail_if_success (conv in (Shared.mk _ _ _ _ _) => skip)); (with_reducible show wpAny _ _ (exec _ _) _ _ _); refine Mine.foldS ?_; intro _)))
  k_with "flat" => with_reducible first | ((refine Mine.an12 ?_; iterate 11 intro _); walk_at "flat") | ((refine Mine.an6 ?_; iterate 5 intro _); walk_at "flat") | ((refine Mine.an3 ?_; iterate 2 intro _); walk_at "flat") | ((refine Mine.an2 ?_; iterate 1 intro _); walk_at "flat") | ((refine Mine.ex15 ?_; iterate 15 intro _); walk_at "flat") | ((refine Mine.ex8 ?_; iterate 8 intro _); walk_at "flat") | ((refine Mine.ex4 ?_; iterate 4 intro _); walk_at "flat") | ((refine Mine.ex2 ?_; iterate 2 intro _); walk_at "flat") | ((refine Mine.ex1 ?_; iterate 1 intro _); walk_at "flat") | intro _
  k_with "call ref" => (k_here; refine wpAny_call ?_; k_dflt (first | (refine' code_def ?zqk1 ?zqk2 ?zqk3 ?zqk4 ?zqk5 ?zqkA ?zqkF ?zqkK ?zqk6 ?zqk7 ?zqk8 ?zqk9 ?zqkB ?_ ?zqc2 ?zqc3 ?zqc4 ?zqc5; (case zqkA => exact rfl); (case zqkF => exact rfl); (case zqkK => first | exact rfl | assumption); (case zqk1 => k_asm); (case zqk2 => k_asm); (case zqk3 => k_asm); (case zqk4 => k_asm); (case zqk5 => k_asm); (case zqk6 => k_is); (case zqk7 => k_is); (case zqk8 => ktr_room); (case zqk9 => exact BindsTo.of_eq rfl); (case zqc5 => decide); (case zqkB => exact locs rfl); (case zqc2 => exact rfl); (case zqc3 => exact rfl); (case zqc4 => exact rfl); k_whole; intro _ _ _ _ _ _; walk_at "cdA") | (refine' code_defC ?zqk1 ?zqk2 ?zqk3 ?zqk4 ?zqk5 ?zqkA ?zqkF ?zqkK ?zqk6 ?zqk7 ?zqk8 ?zqk9 ?zqkB ?zqkD ?_ ?zqc2 ?zqc3 ?zqc4; (case zqkA => exact rfl); (case zqkF => exact rfl); (case zqkK => first | exact rfl | assumption); (case zqk1 => k_asm); (case zqk2 => k_asm); (case zqk3 => k_asm); (case zqk4 => k_asm); (case zqk5 => k_asm); (case zqk6 => k_is); (case zqk7 => k_is); (case zqk8 => ktr_room); (case zqk9 => exact BindsTo.of_eq rfl); (case zqkB => exact rfl); (case zqkD => decide +kernel); (case zqc2 => exact rfl); (case zqc3 => exact rfl); (case zqc4 => exact rfl); k_whole; intro _ _ _ _ _ _ _; walk_at "cdC")))
  k_with "call type:list" => (k_here; (with_reducible show wpAny _ _ (call (Value.type "list") [Value.ref _]) _ _ _); k_dflt (refine' list_copyK ?zqF ?zqN ?zql ?_ ?zqz; (case zqF => k_asm); (case zqN => k_asm); (case zql => exact News.isList (by k_asm) (by k_mem)); (case zqz => (rw [List.size_toArray, sizeLine_eq]; omega)); k_whole); intro _ _ _ _ _; walk_at "lt0"; (try k_sweep))
  k_with "mem" => first | exact List.Mem.head _ | assumption | (refine' List.Mem.tail _ ?_; k_mem)
  k_with "call builtin:len" => (k_here; (with_reducible show wpAny _ _ (call (Value.builtin "len") [Value.ref _]) _ _ _); k_dflt (refine' len_L ?zqN ?zqm ?zqf ?_; (case zqN => k_asm); (case zqm => k_mem); (case zqf => omega); k_whole))
  k_with "eval Name" => (k_here; (with_reducible show wpAny _ _ (eval (Expr.Name _ _) (envOf _ _ _ _ _)) _ _ _); k_dflt (refine' nameX_L (cl := []) ?zqF ?zqv ?_ ?zqa ?zqb; (case zqF => k_asm); (case zqa => rfl); (case zqb => rfl); (case zqv => first | exact rfl | assumption); k_whole))
  k_with "eval Name" => (k_here; (with_reducible show wpAny _ _ (eval (Expr.Name _ _) (envOfC _ _ _ _ _)) _ _ _); k_dflt (refine' nameX_L ?zqF ?zqv ?_ ?zqa ?zqb; (case zqF => k_asm); (case zqa => rfl); (case zqb => rfl); (case zqv => first | exact rfl | assumption); k_whole))
  k_with "all" => exact all_ge (by assumption) (by omega)
  k_with "eval Name" => (k_here; (with_reducible show wpAny _ _ (eval (Expr.Name _ _) (compEnvC _ _ _ (envOfC _ _ _ _ _))) _ _ _); k_dflt (first | (refine' ce_L ?zqN ?zqC ?zqm ?zqv ?_ ?zqa; (case zqa => decide +kernel); (case zqN => k_asm); (case zqC => assumption); (case zqm => k_mem); (case zqv => assumption); k_whole) | (refine' ce_C ?zqN ?zqa ?zqc ?zqm ?zqd ?_; (case zqa => decide +kernel); (case zqN => k_asm); (case zqc => rfl); (case zqm => k_mem); (case zqd => assumption); k_whole)))
  k_with "compareOp NotIn int ref" => (k_here; k_dflt (refine' notIn_L ?zqN ?zqm ?zqi ?_; (case zqN => k_asm); (case zqm => k_mem); (case zqi => first | assumption | exact ints_drop (by assumption) _); k_whole))
  k_with "compareOp In int ref" => (k_here; k_dflt (refine' in_L ?zqN ?zqm ?zqi ?_; (case zqN => k_asm); (case zqm => k_mem); (case zqi => first | assumption | exact ints_drop (by assumption) _); k_whole))
  k_with "subscriptTail Name Slice ref ref" => (k_here; (with_reducible show wpAny _ _ (subscriptTail _ (PySem.Expr.Slice (some _) none none _) (Value.ref _) (Value.ref _)) _ _ _); k_dflt (refine' slice_K ?zqF ?zqN ?zqm (IsPart.int _ _) IsPart.none (pick_from _ ?zqe) ?_ ?zqs ?zqt ?zqz; (case zqF => k_asm); (case zqN => k_asm); (case zqm => k_mem); (case zqe => omega); (case zqs => with_unfolding_all rfl); (case zqt => (intro _; with_unfolding_all rfl)); (case zqz => omega)); intro _ _ _ _; walk_at "lt0"; (try k_sweep))
  k_with "subscriptTail" => (k_here; (with_reducible show wpAny _ _ (subscriptTail _ _ (Value.ref _) (Value.int _ _)) _ _ _); k_dflt (refine' item_L ?zqN ?zqm ?zqa ?zqb ?zqx ?_ ?zqs; (case zqN => k_asm); (case zqm => k_mem); (case zqa => omega); (case zqb => omega); (case zqx => first | exact rfl | assumption); (case zqs => with_unfolding_all rfl); k_whole))
  k_with "setItem ref int" => (k_here; k_dflt (refine' setItem_D (isI _ _) ?zqF ?zqN ?zqU ?zqd ?zqz ?_; (case zqF => k_asm); (case zqN => k_asm); (case zqU => k_updF); (case zqd => assumption); (case zqz => omega); k_whole); intro _ _ _; walk_at "ds"; intro _; (try k_sweep))
  k_with "call builtin:list.remove" => (k_here; k_dflt (refine' remove_L ?zqF ?zqN ?zqU ?zqi ?zqx ?zqz ?_; (case zqF => k_asm); (case zqN => k_asm); (case zqU => k_updF); (case zqi => assumption); (case zqx => assumption); (case zqz => omega); k_whole); intro _ _ _ _; walk_at "ds"; intro _; (try k_sweep))
  k_with "compareOp In int ref" => (k_here; k_dflt (first | (refine' in_DI0 ?zqN ?zqd ?zqm ?zqv ?zqlo ?zqz ?_; (case zqN => k_asm); (case zqz => assumption); (case zqm => k_mem); (case zqd => assumption); (case zqv => assumption); (case zqlo => assumption); k_whole) | (refine' in_DI1 ?zqN ?zqd ?zqm ?zqv ?zqlo ?zqz ?_; (case zqN => k_asm); (case zqz => assumption); (case zqm => k_mem); (case zqd => assumption); (case zqv => assumption); (case zqlo => assumption); k_whole)))
  k_with "subscriptTail" => (k_here; (with_reducible show wpAny _ _ (subscriptTail _ _ (Value.ref _) (Value.int _ _)) _ _ _); k_dflt (refine' item_DI ?zqN ?zqd ?zqm ?zqv ?zqz ?_ ?zqs; (case zqN => k_asm); (case zqz => assumption); (case zqm => k_mem); (case zqd => assumption); (case zqv => assumption); (case zqs => with_unfolding_all rfl); k_whole); intro _)
  k_with "call builtin:list.append" => (k_here; (with_reducible show wpAny _ _ (call (Value.builtin _) [Value.ref _, _]) _ _ _); k_dflt (refine' append_L ?zqF ?zqN ?zqU ?zqz ?_; (case zqF => k_asm); (case zqN => k_asm); (case zqU => k_updF); (case zqz => omega); k_whole); intro _ _; walk_at "ds"; (try k_sweep))
  k_with "enter" => ((fail_if_success k_inElt); (refine' kp_rest ?zqk1 ?zqk2 ?zqk3 ?zqk4 ?zqk5 ?zqkA ?zqkF ?zqkK ?zqk6 ?zqk7 ?zqk8 ?zqkV ?zqkP ?zqkG ?zqkB ?_ ?zqc2 ?zqc3 ?zqc4 ?zqc5; (case zqkA => exact rfl); (case zqkF => exact rfl); (case zqkK => first | exact rfl | assumption); (case zqk1 => k_asm); (case zqk2 => k_asm); (case zqk3 => k_asm); (case zqk4 => k_asm); (case zqk5 => k_asm); (case zqk6 => k_is); (case zqk7 => k_is); (case zqk8 => first | ktr_room | (rw [depth_under_kw]; (try dsimp only); omega)); (case zqkV => kl_lit); (case zqkP => exact rfl); (case zqkG => exact fun _ => rfl); (case zqkB => exact fun _ => locs rfl); (case zqc5 => decide); (case zqc2 => exact rfl); (case zqc3 => exact rfl); (case zqc4 => exact rfl); k_whole; intro _ _ _ _; walk_at "cdP"))
  k_with "call builtin:iter" => (k_here; (with_reducible show wpAny _ _ (call (Value.builtin "iter") [Value.ref _]) _ _ _); k_dflt (refine' iter_gen ?zqN ?zqm ?_; (case zqN => k_asm); (case zqm => k_mem); k_whole))
  trivial
set_option maxHeartbeats 4000000 in
theorem isl_ok (w : World) {p : Program} {loose : List Str} {mean : ExcName → Option Value} {mg mb : Str → Option Value}
  {dp un : Nat} {gd : Option (List Code)} {cn : Str} {cs : Scope} {a : Addr} {ccd : Value} {cl : List (Str × Addr)} {outer : List Env} {A₀ : Around} {base h₀ : Heap} {L : Addr} {m : Str → Option Value} {news : List (Addr × Obj)} {s : Shared}
    {Q E : Value → Shared → Prop} 
    (B : Below A₀ base outer h₀) (F : Fr h₀ L s.heap m) (X : (K w.params).In h₀) (N : News h₀ L s.heap news) (T : Top p loose mean mg mb h₀) (hk : cs.kind = .function)
    (hdp : dp + 50 < recursionLimit) (hun : un + 400 < cLine)
    (G : Addr) (g : Nat) (nm qn : Str) (t1 t2 kt : Tok) (hG : (G, genObj g nm qn t1 t2) ∈ news)
    (hret : ∀ s' x d k1 k2 k3 k4, Sm s s' → Fr h₀ L s'.heap m → News h₀ L s'.heap ((x, islObj d (.ref G) 0 1 (-1) 1 k1 k2 k3 k4) :: (d, dictOf [] 0) :: news) → (∀ p ∈ news, p.1 < d) → d < x → Q (.ref x) s') :
    wpAny (model PySem.Challenge.rw_ij0017_01.row.prog w) (ktrTop dp un gd cn cs L a ccd cl outer) (call (.ref 68) [.ref G, .int 1 kt, .none]) Q E s := by
  revert X; k_fill; intro X
  try walk_at "tidy"
  k_steps
  refine for_rule2 ?_
  k_steps
  rename_i x9 d9 h1 F1 N1 l1 l2 D9 gF LF h2 FG F2 N2 BG XG TG l3 _ _ _ _ _ _ _
  have hLn : AllLt d9 news := allLt_of l1
  refine tuple_for rfl F2 N2 (List.mem_cons_self ..) (fun i m₁ led => led = ((D9, { cls := Value.type "tuple", data := Data.seq [Value.int 1 kt, .none].toArray }) :: (x9, instObj 68 d9) :: (d9, dictOf [] 0) :: news) ∧ m₁ "self" = some (.ref x9) ∧ m₁ "iterable" = some (.ref G) ∧ m₁ "args" = some (.ref D9)) ?hs ?h0 ?turn ?done
  case hs => rintro i m₁ led ⟨rfl, _⟩; exact List.mem_cons_self ..
  case h0 => exact ⟨rfl, rfl, rfl, rfl⟩
  case turn =>
    rintro i v m₁ led s₁ I oI hv hIl ⟨rfl, hm1, hm2, hm3⟩ sm F₁ N₁ hne
    clear F2 N2
    match i, hv with
    | 0, hv =>
      obtain rfl : Value.int 1 kt = v := by simpa using hv
      k_steps
      rename_i F9 N9 _ _
      exact ⟨_, _, Sm.of sm, F9, N9, hne, rfl, hm1, hm2, hm3⟩
    | 1, hv =>
      obtain rfl : Value.none = v := by simpa using hv
      k_steps
      rename_i F9 N9 _ _
      exact ⟨_, _, Sm.of sm, F9, N9, hne, rfl, hm1, hm2, hm3⟩
    | n + 2, hv => simp at hv
  case done =>
    rintro m₁ led s₁ ⟨rfl, hm1, hm2, hm3⟩ sm F₁ N₁
    clear F2 N2
    k_steps
    rename_i F9 N9 kF kN kT kX
    exact hret _ x9 d9 _ _ _ _ (Sm.of sm) kF (news_sub kN fun _ hp => .tail _ hp) l1 l2
theorem walkWords3 : True := by
  w_top off
  k_with_none
  k_with "via" => first | exact Mine.viaHead _ | (refine Mine.viaTail ?_; k_extra "via") | exact Mine.viaLast _ | fail
  k_with "conj" => with_reducible first | assumption | (refine' Mine.viaLt ?zqh ?zqk; (case zqh => assumption); (case zqk => k_extra "via")) | (refine' Mine.viaNe ?zqh ?zqk; (case zqh => assumption); (case zqk => k_extra "via")) | fail
  k_with "up" => with_reducible first | exact Mine.u0 | exact Mine.u1 | exact Mine.u2 | exact Mine.u3 | exact Mine.u4 | exact Mine.u5 | exact Mine.u6 | exact Mine.u7 | exact Mine.u8 | fail
  k_with "omega" => first | (k_whole; with_reducible first | assumption | exact Mine.v0 | exact Mine.v1 | exact Mine.v2 | exact Mine.v3 | exact Mine.v4 | exact Mine.v5 | exact Mine.v6 | exact Mine.v7 | exact Mine.v8 | k_extra "conj" | (refine Mine.neGt ?_; k_extra "conj") | (refine Mine.neLt ?_; k_extra "conj") | k_extra "up" | exact Int.natCast_nonneg _ | decide | exact Mine.leCut (by assumption) | exact Mine.ltCut (by assumption) | exact Mine.leCut' (by assumption) | exact Mine.ltCut' (by assumption) | exact Mine.iCut1 (by assumption) | exact Mine.iCut2 (by assumption) | exact Mine.iCut3 (by assumption) | exact Mine.iCut4 (by assumption) | fail) | (k_whole; lia) | omega +splitDisjunctions | ((dsimp +zetaDelta only at *); omega +splitDisjunctions)
  k_with "ne" => (refine PySem.W.neN ?_; (try dsimp only); first | (refine Mine.neGt ?_; first | k_extra "conj" | k_extra "up") | (refine Mine.neLt ?_; first | k_extra "conj" | k_extra "up") | (refine Mine.neSym ?_; k_extra "conj") | omega)
  k_with "rows" => with_reducible first | show wpAny _ _ (exec (Stmt.While _ _ _ _) _) _ _ _ | show wpAny _ _ (exec (Stmt.For _ _ _ _ _) _) _ _ _ | show wpAny _ _ (eval (Expr.ListComp _ _ _ _) _) _ _ _ | show wpAny _ _ (exec (Stmt.Assign _ (Expr.ListComp _ _ _ _) _) _) _ _ _ | fail
  k_with "steps" => repeat' (first | ((fail_if_success keq_rows); (first | (k_unfold; (try dsimp only)) | (k_end; wrow_close) | ((first | walk1 | (dsimp only; walk1)); (all_goals try walk_at "tidy")) | (leave1; walk_say "STEP leave1"; try dsimp only))) | fail "no step")
  k_with "tidy" => ((try ((with_reducible show wpAny _ _ (exec _ _) _ _ _); (fail_if_success fail_if_success k_fold); refine Mine.foldQ ?_; intro _)); (try ((fail_if_success fail_if_success (first | conv in (Around.deeper _ _) => skip | conv in (ktrTop _ _ _ _ _ _ _ _ _ _) => skip)); refine Mine.foldE ?_; intro _; refine Mine.foldA ?_; intro _)); (try ((fail_if_success fail_if_success (conv in (Shared.mk _ _ _ _ _) => skip)); (with_reducible show wpAny _ _ (exec _ _) _ _ _); refine Mine.foldS ?_; intro _)))
  k_with "flat" => with_reducible first | ((refine Mine.an12 ?_; iterate 11 intro _); walk_at "flat") | ((refine Mine.an6 ?_; iterate 5 intro _); walk_at "flat") | ((refine Mine.an3 ?_; iterate 2 intro _); walk_at "flat") | ((refine Mine.an2 ?_; iterate 1 intro _); walk_at "flat") | ((refine Mine.ex15 ?_; iterate 15 intro _); walk_at "flat") | ((refine Mine.ex8 ?_; iterate 8 intro _); walk_at "flat") | ((refine Mine.ex4 ?_; iterate 4 intro _); walk_at "flat") | ((refine Mine.ex2 ?_; iterate 2 intro _); walk_at "flat") | ((refine Mine.ex1 ?_; iterate 1 intro _); walk_at "flat") | intro _
  k_with "call ref" => (k_here; refine wpAny_call ?_; k_dflt (first | (refine' code_def ?zqk1 ?zqk2 ?zqk3 ?zqk4 ?zqk5 ?zqkA ?zqkF ?zqkK ?zqk6 ?zqk7 ?zqk8 ?zqk9 ?zqkB ?_ ?zqc2 ?zqc3 ?zqc4 ?zqc5; (case zqkA => exact rfl); (case zqkF => exact rfl); (case zqkK => first | exact rfl | assumption); (case zqk1 => k_asm); (case zqk2 => k_asm); (case zqk3 => k_asm); (case zqk4 => k_asm); (case zqk5 => k_asm); (case zqk6 => k_is); (case zqk7 => k_is); (case zqk8 => ktr_room); (case zqk9 => exact BindsTo.of_eq rfl); (case zqc5 => decide); (case zqkB => exact locs rfl); (case zqc2 => exact rfl); (case zqc3 => exact rfl); (case zqc4 => exact rfl); k_whole; intro _ _ _ _ _ _; walk_at "cdA") | (refine' code_defC ?zqk1 ?zqk2 ?zqk3 ?zqk4 ?zqk5 ?zqkA ?zqkF ?zqkK ?zqk6 ?zqk7 ?zqk8 ?zqk9 ?zqkB ?zqkD ?_ ?zqc2 ?zqc3 ?zqc4; (case zqkA => exact rfl); (case zqkF => exact rfl); (case zqkK => first | exact rfl | assumption); (case zqk1 => k_asm); (case zqk2 => k_asm); (case zqk3 => k_asm); (case zqk4 => k_asm); (case zqk5 => k_asm); (case zqk6 => k_is); (case zqk7 => k_is); (case zqk8 => ktr_room); (case zqk9 => exact BindsTo.of_eq rfl); (case zqkB => exact rfl); (case zqkD => decide +kernel); (case zqc2 => exact rfl); (case zqc3 => exact rfl); (case zqc4 => exact rfl); k_whole; intro _ _ _ _ _ _ _; walk_at "cdC")))
  k_with "call type:list" => (k_here; (with_reducible show wpAny _ _ (call (Value.type "list") [Value.ref _]) _ _ _); k_dflt (refine' list_copyK ?zqF ?zqN ?zql ?_ ?zqz; (case zqF => k_asm); (case zqN => k_asm); (case zql => exact News.isList (by k_asm) (by k_mem)); (case zqz => (rw [List.size_toArray, sizeLine_eq]; omega)); k_whole); intro _ _ _ _ _; walk_at "lt0"; (try k_sweep))
  k_with "mem" => first | exact List.Mem.head _ | assumption | (refine' List.Mem.tail _ ?_; k_mem)
  k_with "call builtin:len" => (k_here; (with_reducible show wpAny _ _ (call (Value.builtin "len") [Value.ref _]) _ _ _); k_dflt (refine' len_L ?zqN ?zqm ?zqf ?_; (case zqN => k_asm); (case zqm => k_mem); (case zqf => omega); k_whole))
  k_with "eval Name" => (k_here; (with_reducible show wpAny _ _ (eval (Expr.Name _ _) (envOf _ _ _ _ _)) _ _ _); k_dflt (refine' nameX_L (cl := []) ?zqF ?zqv ?_ ?zqa ?zqb; (case zqF => k_asm); (case zqa => rfl); (case zqb => rfl); (case zqv => first | exact rfl | assumption); k_whole))
  k_with "eval Name" => (k_here; (with_reducible show wpAny _ _ (eval (Expr.Name _ _) (envOfC _ _ _ _ _)) _ _ _); k_dflt (refine' nameX_L ?zqF ?zqv ?_ ?zqa ?zqb; (case zqF => k_asm); (case zqa => rfl); (case zqb => rfl); (case zqv => first | exact rfl | assumption); k_whole))
  k_with "all" => exact all_ge (by assumption) (by omega)
  k_with "eval Name" => (k_here; (with_reducible show wpAny _ _ (eval (Expr.Name _ _) (compEnvC _ _ _ (envOfC _ _ _ _ _))) _ _ _); k_dflt (first | (refine' ce_L ?zqN ?zqC ?zqm ?zqv ?_ ?zqa; (case zqa => decide +kernel); (case zqN => k_asm); (case zqC => assumption); (case zqm => k_mem); (case zqv => assumption); k_whole) | (refine' ce_C ?zqN ?zqa ?zqc ?zqm ?zqd ?_; (case zqa => decide +kernel); (case zqN => k_asm); (case zqc => rfl); (case zqm => k_mem); (case zqd => assumption); k_whole)))
  k_with "compareOp NotIn int ref" => (k_here; k_dflt (refine' notIn_L ?zqN ?zqm ?zqi ?_; (case zqN => k_asm); (case zqm => k_mem); (case zqi => first | assumption | exact ints_drop (by assumption) _); k_whole))
  k_with "compareOp In int ref" => (k_here; k_dflt (refine' in_L ?zqN ?zqm ?zqi ?_; (case zqN => k_asm); (case zqm => k_mem); (case zqi => first | assumption | exact ints_drop (by assumption) _); k_whole))
  k_with "subscriptTail Name Slice ref ref" => (k_here; (with_reducible show wpAny _ _ (subscriptTail _ (PySem.Expr.Slice (some _) none none _) (Value.ref _) (Value.ref _)) _ _ _); k_dflt (refine' slice_K ?zqF ?zqN ?zqm (IsPart.int _ _) IsPart.none (pick_from _ ?zqe) ?_ ?zqs ?zqt ?zqz; (case zqF => k_asm); (case zqN => k_asm); (case zqm => k_mem); (case zqe => omega); (case zqs => with_unfolding_all rfl); (case zqt => (intro _; with_unfolding_all rfl)); (case zqz => omega)); intro _ _ _ _; walk_at "lt0"; (try k_sweep))
  k_with "subscriptTail" => (k_here; (with_reducible show wpAny _ _ (subscriptTail _ _ (Value.ref _) (Value.int _ _)) _ _ _); k_dflt (refine' item_L ?zqN ?zqm ?zqa ?zqb ?zqx ?_ ?zqs; (case zqN => k_asm); (case zqm => k_mem); (case zqa => omega); (case zqb => omega); (case zqx => first | exact rfl | assumption); (case zqs => with_unfolding_all rfl); k_whole))
  k_with "setItem ref int" => (k_here; k_dflt (refine' setItem_D (isI _ _) ?zqF ?zqN ?zqU ?zqd ?zqz ?_; (case zqF => k_asm); (case zqN => k_asm); (case zqU => k_updF); (case zqd => assumption); (case zqz => omega); k_whole); intro _ _ _; walk_at "ds"; intro _; (try k_sweep))
  k_with "call builtin:list.remove" => (k_here; k_dflt (refine' remove_L ?zqF ?zqN ?zqU ?zqi ?zqx ?zqz ?_; (case zqF => k_asm); (case zqN => k_asm); (case zqU => k_updF); (case zqi => assumption); (case zqx => assumption); (case zqz => omega); k_whole); intro _ _ _ _; walk_at "ds"; intro _; (try k_sweep))
  k_with "compareOp In int ref" => (k_here; k_dflt (first | (refine' in_DI0 ?zqN ?zqd ?zqm ?zqv ?zqlo ?zqz ?_; (case zqN => k_asm); (case zqz => assumption); (case zqm => k_mem); (case zqd => assumption); (case zqv => assumption); (case zqlo => assumption); k_whole) | (refine' in_DI1 ?zqN ?zqd ?zqm ?zqv ?zqlo ?zqz ?_; (case zqN => k_asm); (case zqz => assumption); (case zqm => k_mem); (case zqd => assumption); (case zqv => assumption); (case zqlo => assumption); k_whole)))
  k_with "subscriptTail" => (k_here; (with_reducible show wpAny _ _ (subscriptTail _ _ (Value.ref _) (Value.int _ _)) _ _ _); k_dflt (refine' item_DI ?zqN ?zqd ?zqm ?zqv ?zqz ?_ ?zqs; (case zqN => k_asm); (case zqz => assumption); (case zqm => k_mem); (case zqd => assumption); (case zqv => assumption); (case zqs => with_unfolding_all rfl); k_whole); intro _)
  k_with "call builtin:list.append" => (k_here; (with_reducible show wpAny _ _ (call (Value.builtin _) [Value.ref _, _]) _ _ _); k_dflt (refine' append_L ?zqF ?zqN ?zqU ?zqz ?_; (case zqF => k_asm); (case zqN => k_asm); (case zqU => k_updF); (case zqz => omega); k_whole); intro _ _; walk_at "ds"; (try k_sweep))
  k_with "enter" => ((fail_if_success k_inElt); (refine' kp_rest ?zqk1 ?zqk2 ?zqk3 ?zqk4 ?zqk5 ?zqkA ?zqkF ?zqkK ?zqk6 ?zqk7 ?zqk8 ?zqkV ?zqkP ?zqkG ?zqkB ?_ ?zqc2 ?zqc3 ?zqc4 ?zqc5; (case zqkA => exact rfl); (case zqkF => exact rfl); (case zqkK => first | exact rfl | assumption); (case zqk1 => k_asm); (case zqk2 => k_asm); (case zqk3 => k_asm); (case zqk4 => k_asm); (case zqk5 => k_asm); (case zqk6 => k_is); (case zqk7 => k_is); (case zqk8 => first | ktr_room | (rw [depth_under_kw]; (try dsimp only); omega)); (case zqkV => kl_lit); (case zqkP => exact rfl); (case zqkG => exact fun _ => rfl); (case zqkB => exact fun _ => locs rfl); (case zqc5 => decide); (case zqc2 => exact rfl); (case zqc3 => exact rfl); (case zqc4 => exact rfl); k_whole; intro _ _ _ _; walk_at "cdP"))
  k_with "call ref" => (k_here; (with_reducible show wpAny _ _ (call (Value.ref 68) [Value.ref _, Value.int 1 _, Value.none]) _ _ _); k_dflt (refine' isl_ok _ ?zqB ?zqF ?zqX ?zqN ?zqT ?zqhk ?zqhdp ?zqhun _ _ _ _ _ _ _ ?zqm ?_; (case zqB => k_asm); (case zqF => k_asm); (case zqX => k_asm); (case zqN => k_asm); (case zqT => k_asm); (case zqhk => rfl); (case zqhdp => (try dsimp only); omega); (case zqhun => (try dsimp only); omega); (case zqm => k_mem)); intro _ _ _ _ _ _ _ _ _ _; walk_at "lt1"; (try k_sweep))
  trivial
set_option maxHeartbeats 4000000 in
theorem par_ok (w : World) {p : Program} {loose : List Str} {mean : ExcName → Option Value} {mg mb : Str → Option Value}
  {dp un : Nat} {gd : Option (List Code)} {cn : Str} {cs : Scope} {a : Addr} {ccd : Value} {cl : List (Str × Addr)} {outer : List Env} {A₀ : Around} {base h₀ : Heap} {L : Addr} {m : Str → Option Value} {news : List (Addr × Obj)} {s : Shared}
    {Q E : Value → Shared → Prop} 
    (B : Below A₀ base outer h₀) (F : Fr h₀ L s.heap m) (X : (K w.params).In h₀) (N : News h₀ L s.heap news) (T : Top p loose mean mg mb h₀) (hk : cs.kind = .function)
    (hdp : dp + 60 < recursionLimit) (hun : un + 500 < cLine)
    (x : Str) (t : Tok) (hx : x.length ≤ 100000) (all : List Str) (hall : Anc headOf bareOf (Txt.rstripChars x slash) all)
    (hret : ∀ s' X d G GL oGL g nm qn t1 t2 k1 k2 k3 k4 gs mG, Sm s s' → s'.gens[g]? = some gs → s.gens.size ≤ g → gs.bare = true → Fr h₀ L s'.heap m →
      News h₀ L s'.heap ((X, islObj d (.ref G) 0 1 (-1) 1 k1 k2 k3 k4) :: (d, dictOf [] 0) :: (G, genObj g nm qn t1 t2) :: (GL, oGL) :: news) → (∀ p ∈ news, p.1 < GL) → GL < G → G < d → d < X → L < GL → FrObj GL oGL mG →
      (∀ d u, d + 50 < recursionLimit → u + 100 < cLine → ∀ s', Fr h₀ GL s'.heap mG → gs.Goes (model PySem.Challenge.rw_ij0017_01.row.prog w) (aN d u) (RG GL) (YG h₀ GL all) all.length (.send .none) s') → Q (.ref X) s') :
    wpAny (model PySem.Challenge.rw_ij0017_01.row.prog w) (ktrTop dp un gd cn cs L a ccd cl outer) (call (.ref 119) [.str x t]) Q E s := by
  revert X; k_fill; intro X
  try walk_at "tidy"
  k_steps
  rename_i gF LF h1 FG F1 N1 BG XG TG _ _ _ _
  refine anc_ok _ F1 XG N1 TG h₀ X T ?hr _ _ hx all hall ?_
  case hr => ktr_room
  intro h2 tk2 G GL oGL nm qn t1 t2 gs mG F2 N2 l1 l2 lz hfo hbr hgo
  clear F1 N1
  have hLn : AllLt GL news := allLt_of l1
  k_steps
  rename_i s9 X9 d9 k1 k2 k3 k4 sm9 F9 N9 l9 l8 kF kN kT kX
  refine hret s9 X9 d9 G GL oGL s.gens.size nm qn t1 t2 k1 k2 k3 k4 gs mG ⟨sm9.1, GR.trans (GR.push hbr) sm9.2⟩ (sm9.2.keep _ _ (Array.getElem?_push_size ..)) (Nat.le_refl _) hbr kF kN l1 l2 l8.1 l9 ?_ hfo hgo
  exact Nat.lt_of_lt_of_le FG.ns.lt lz
theorem walkWords4 : True := by
  w_top off
  k_with_none
  k_with "via" => first | exact Mine.viaHead _ | (refine Mine.viaTail ?_; k_extra "via") | exact Mine.viaLast _ | fail
  k_with "conj" => with_reducible first | assumption | (refine' Mine.viaLt ?zqh ?zqk; (case zqh => assumption); (case zqk => k_extra "via")) | (refine' Mine.viaNe ?zqh ?zqk; (case zqh => assumption); (case zqk => k_extra "via")) | fail
  k_with "up" => with_reducible first | exact Mine.u0 | exact Mine.u1 | exact Mine.u2 | exact Mine.u3 | exact Mine.u4 | exact Mine.u5 | exact Mine.u6 | exact Mine.u7 | exact Mine.u8 | fail
  k_with "omega" => first | (k_whole; with_reducible first | assumption | exact Mine.v0 | exact Mine.v1 | exact Mine.v2 | exact Mine.v3 | exact Mine.v4 | exact Mine.v5 | exact Mine.v6 | exact Mine.v7 | exact Mine.v8 | k_extra "conj" | (refine Mine.neGt ?_; k_extra "conj") | (refine Mine.neLt ?_; k_extra "conj") | k_extra "up" | exact Int.natCast_nonneg _ | decide | exact Mine.leCut (by assumption) | exact Mine.ltCut (by assumption) | exact Mine.leCut' (by assumption) | exact Mine.ltCut' (by assumption) | exact Mine.iCut1 (by assumption) | exact Mine.iCut2 (by assumption) | exact Mine.iCut3 (by assumption) | exact Mine.iCut4 (by assumption) | fail) | (k_whole; lia) | omega +splitDisjunctions | ((dsimp +zetaDelta only at *); omega +splitDisjunctions)
  k_with "ne" => (refine PySem.W.neN ?_; (try dsimp only); first | (refine Mine.neGt ?_; first | k_extra "conj" | k_extra "up") | (refine Mine.neLt ?_; first | k_extra "conj" | k_extra "up") | (refine Mine.neSym ?_; k_extra "conj") | omega)
  k_with "rows" => with_reducible first | show wpAny _ _ (exec (Stmt.While _ _ _ _) _) _ _ _ | show wpAny _ _ (exec (Stmt.For _ _ _ _ _) _) _ _ _ | show wpAny _ _ (eval (Expr.ListComp _ _ _ _) _) _ _ _ | show wpAny _ _ (exec (Stmt.Assign _ (Expr.ListComp _ _ _ _) _) _) _ _ _ | fail
  k_with "steps" => repeat' (first | ((fail_if_success keq_rows); (first | (k_unfold; (try dsimp only)) | (k_end; wrow_close) | ((first | walk1 | (dsimp only; walk1)); (all_goals try walk_at "tidy")) | (leave1; walk_say "STEP leave1"; try dsimp only))) | fail "no step")
  k_with "tidy" => ((try ((with_reducible show wpAny _ _ (exec _ _) _ _ _); (fail_if_success fail_if_success k_fold); refine Mine.foldQ ?_; intro _)); (try ((fail_if_success fail_if_success (first | conv in (Around.deeper _ _) => skip | conv in (ktrTop _ _ _ _ _ _ _ _ _ _) => skip)); refine Mine.foldE ?_; intro _; refine Mine.foldA ?_; intro _)); (try ((fail_if_success fail_if_success (conv in (Shared.mk _ _ _ _ _) => skip)); (with_reducible show wpAny _ _ (exec _ _) _ _ _); refine Mine.foldS ?_; intro _)))
  k_with "flat" => with_reducible first | ((refine Mine.an12 ?_; iterate 11 intro _); walk_at "flat") | ((refine Mine.an6 ?_; iterate 5 intro _); walk_at "flat") | ((refine Mine.an3 ?_; iterate 2 intro _); walk_at "flat") | ((refine Mine.an2 ?_; iterate 1 intro _); walk_at "flat") | ((refine Mine.ex15 ?_; iterate 15 intro _); walk_at "flat") | ((refine Mine.ex8 ?_; iterate 8 intro _); walk_at "flat") | ((refine Mine.ex4 ?_; iterate 4 intro _); walk_at "flat") | ((refine Mine.ex2 ?_; iterate 2 intro _); walk_at "flat") | ((refine Mine.ex1 ?_; iterate 1 intro _); walk_at "flat") | intro _
  k_with "call ref" => (k_here; refine wpAny_call ?_; k_dflt (first | (refine' code_def ?zqk1 ?zqk2 ?zqk3 ?zqk4 ?zqk5 ?zqkA ?zqkF ?zqkK ?zqk6 ?zqk7 ?zqk8 ?zqk9 ?zqkB ?_ ?zqc2 ?zqc3 ?zqc4 ?zqc5; (case zqkA => exact rfl); (case zqkF => exact rfl); (case zqkK => first | exact rfl | assumption); (case zqk1 => k_asm); (case zqk2 => k_asm); (case zqk3 => k_asm); (case zqk4 => k_asm); (case zqk5 => k_asm); (case zqk6 => k_is); (case zqk7 => k_is); (case zqk8 => ktr_room); (case zqk9 => exact BindsTo.of_eq rfl); (case zqc5 => decide); (case zqkB => exact locs rfl); (case zqc2 => exact rfl); (case zqc3 => exact rfl); (case zqc4 => exact rfl); k_whole; intro _ _ _ _ _ _; walk_at "cdA") | (refine' code_defC ?zqk1 ?zqk2 ?zqk3 ?zqk4 ?zqk5 ?zqkA ?zqkF ?zqkK ?zqk6 ?zqk7 ?zqk8 ?zqk9 ?zqkB ?zqkD ?_ ?zqc2 ?zqc3 ?zqc4; (case zqkA => exact rfl); (case zqkF => exact rfl); (case zqkK => first | exact rfl | assumption); (case zqk1 => k_asm); (case zqk2 => k_asm); (case zqk3 => k_asm); (case zqk4 => k_asm); (case zqk5 => k_asm); (case zqk6 => k_is); (case zqk7 => k_is); (case zqk8 => ktr_room); (case zqk9 => exact BindsTo.of_eq rfl); (case zqkB => exact rfl); (case zqkD => decide +kernel); (case zqc2 => exact rfl); (case zqc3 => exact rfl); (case zqc4 => exact rfl); k_whole; intro _ _ _ _ _ _ _; walk_at "cdC")))
  k_with "call type:list" => (k_here; (with_reducible show wpAny _ _ (call (Value.type "list") [Value.ref _]) _ _ _); k_dflt (refine' list_copyK ?zqF ?zqN ?zql ?_ ?zqz; (case zqF => k_asm); (case zqN => k_asm); (case zql => exact News.isList (by k_asm) (by k_mem)); (case zqz => (rw [List.size_toArray, sizeLine_eq]; omega)); k_whole); intro _ _ _ _ _; walk_at "lt0"; (try k_sweep))
  k_with "mem" => first | exact List.Mem.head _ | assumption | (refine' List.Mem.tail _ ?_; k_mem)
  k_with "call builtin:len" => (k_here; (with_reducible show wpAny _ _ (call (Value.builtin "len") [Value.ref _]) _ _ _); k_dflt (refine' len_L ?zqN ?zqm ?zqf ?_; (case zqN => k_asm); (case zqm => k_mem); (case zqf => omega); k_whole))
  k_with "eval Name" => (k_here; (with_reducible show wpAny _ _ (eval (Expr.Name _ _) (envOf _ _ _ _ _)) _ _ _); k_dflt (refine' nameX_L (cl := []) ?zqF ?zqv ?_ ?zqa ?zqb; (case zqF => k_asm); (case zqa => rfl); (case zqb => rfl); (case zqv => first | exact rfl | assumption); k_whole))
  k_with "eval Name" => (k_here; (with_reducible show wpAny _ _ (eval (Expr.Name _ _) (envOfC _ _ _ _ _)) _ _ _); k_dflt (refine' nameX_L ?zqF ?zqv ?_ ?zqa ?zqb; (case zqF => k_asm); (case zqa => rfl); (case zqb => rfl); (case zqv => first | exact rfl | assumption); k_whole))
  k_with "all" => exact all_ge (by assumption) (by omega)
  k_with "eval Name" => (k_here; (with_reducible show wpAny _ _ (eval (Expr.Name _ _) (compEnvC _ _ _ (envOfC _ _ _ _ _))) _ _ _); k_dflt (first | (refine' ce_L ?zqN ?zqC ?zqm ?zqv ?_ ?zqa; (case zqa => decide +kernel); (case zqN => k_asm); (case zqC => assumption); (case zqm => k_mem); (case zqv => assumption); k_whole) | (refine' ce_C ?zqN ?zqa ?zqc ?zqm ?zqd ?_; (case zqa => decide +kernel); (case zqN => k_asm); (case zqc => rfl); (case zqm => k_mem); (case zqd => assumption); k_whole)))
  k_with "compareOp NotIn int ref" => (k_here; k_dflt (refine' notIn_L ?zqN ?zqm ?zqi ?_; (case zqN => k_asm); (case zqm => k_mem); (case zqi => first | assumption | exact ints_drop (by assumption) _); k_whole))
  k_with "compareOp In int ref" => (k_here; k_dflt (refine' in_L ?zqN ?zqm ?zqi ?_; (case zqN => k_asm); (case zqm => k_mem); (case zqi => first | assumption | exact ints_drop (by assumption) _); k_whole))
  k_with "subscriptTail Name Slice ref ref" => (k_here; (with_reducible show wpAny _ _ (subscriptTail _ (PySem.Expr.Slice (some _) none none _) (Value.ref _) (Value.ref _)) _ _ _); k_dflt (refine' slice_K ?zqF ?zqN ?zqm (IsPart.int _ _) IsPart.none (pick_from _ ?zqe) ?_ ?zqs ?zqt ?zqz; (case zqF => k_asm); (case zqN => k_asm); (case zqm => k_mem); (case zqe => omega); (case zqs => with_unfolding_all rfl); (case zqt => (intro _; with_unfolding_all rfl)); (case zqz => omega)); intro _ _ _ _; walk_at "lt0"; (try k_sweep))
  k_with "subscriptTail" => (k_here; (with_reducible show wpAny _ _ (subscriptTail _ _ (Value.ref _) (Value.int _ _)) _ _ _); k_dflt (refine' item_L ?zqN ?zqm ?zqa ?zqb ?zqx ?_ ?zqs; (case zqN => k_asm); (case zqm => k_mem); (case zqa => omega); (case zqb => omega); (case zqx => first | exact rfl | assumption); (case zqs => with_unfolding_all rfl); k_whole))
  k_with "setItem ref int" => (k_here; k_dflt (refine' setItem_D (isI _ _) ?zqF ?zqN ?zqU ?zqd ?zqz ?_; (case zqF => k_asm); (case zqN => k_asm); (case zqU => k_updF); (case zqd => assumption); (case zqz => omega); k_whole); intro _ _ _; walk_at "ds"; intro _; (try k_sweep))
  k_with "call builtin:list.remove" => (k_here; k_dflt (refine' remove_L ?zqF ?zqN ?zqU ?zqi ?zqx ?zqz ?_; (case zqF => k_asm); (case zqN => k_asm); (case zqU => k_updF); (case zqi => assumption); (case zqx => assumption); (case zqz => omega); k_whole); intro _ _ _ _; walk_at "ds"; intro _; (try k_sweep))
  k_with "compareOp In int ref" => (k_here; k_dflt (first | (refine' in_DI0 ?zqN ?zqd ?zqm ?zqv ?zqlo ?zqz ?_; (case zqN => k_asm); (case zqz => assumption); (case zqm => k_mem); (case zqd => assumption); (case zqv => assumption); (case zqlo => assumption); k_whole) | (refine' in_DI1 ?zqN ?zqd ?zqm ?zqv ?zqlo ?zqz ?_; (case zqN => k_asm); (case zqz => assumption); (case zqm => k_mem); (case zqd => assumption); (case zqv => assumption); (case zqlo => assumption); k_whole)))
  k_with "subscriptTail" => (k_here; (with_reducible show wpAny _ _ (subscriptTail _ _ (Value.ref _) (Value.int _ _)) _ _ _); k_dflt (refine' item_DI ?zqN ?zqd ?zqm ?zqv ?zqz ?_ ?zqs; (case zqN => k_asm); (case zqz => assumption); (case zqm => k_mem); (case zqd => assumption); (case zqv => assumption); (case zqs => with_unfolding_all rfl); k_whole); intro _)
  k_with "call builtin:list.append" => (k_here; (with_reducible show wpAny _ _ (call (Value.builtin _) [Value.ref _, _]) _ _ _); k_dflt (refine' append_L ?zqF ?zqN ?zqU ?zqz ?_; (case zqF => k_asm); (case zqN => k_asm); (case zqU => k_updF); (case zqz => omega); k_whole); intro _ _; walk_at "ds"; (try k_sweep))
  k_with "enter" => ((fail_if_success k_inElt); (refine' kp_rest ?zqk1 ?zqk2 ?zqk3 ?zqk4 ?zqk5 ?zqkA ?zqkF ?zqkK ?zqk6 ?zqk7 ?zqk8 ?zqkV ?zqkP ?zqkG ?zqkB ?_ ?zqc2 ?zqc3 ?zqc4 ?zqc5; (case zqkA => exact rfl); (case zqkF => exact rfl); (case zqkK => first | exact rfl | assumption); (case zqk1 => k_asm); (case zqk2 => k_asm); (case zqk3 => k_asm); (case zqk4 => k_asm); (case zqk5 => k_asm); (case zqk6 => k_is); (case zqk7 => k_is); (case zqk8 => first | ktr_room | (rw [depth_under_kw]; (try dsimp only); omega)); (case zqkV => kl_lit); (case zqkP => exact rfl); (case zqkG => exact fun _ => rfl); (case zqkB => exact fun _ => locs rfl); (case zqc5 => decide); (case zqc2 => exact rfl); (case zqc3 => exact rfl); (case zqc4 => exact rfl); k_whole; intro _ _ _ _; walk_at "cdP"))
  k_with "all" => assumption
  k_with "call builtin:next" => (k_here; (with_reducible show wpAny _ _ (call (Value.builtin "next") [Value.ref _]) _ _ _); k_dflt (refine' pull_item ?zqhh ?zqhd ?zqhu ?zqF ?zqN ?zqhl ?zqU ?zqhG ?zqhgs ?zqhfo ?zqhkeep ?zqhsz ?zqhgo ?_; (case zqhh => rfl); (case zqF => k_asm); (case zqN => k_asm); (case zqhd => (((try dsimp +zetaDelta only); simp only [Around.deeper]; first | omega | ((unfold recursionLimit at *); omega)))); (case zqhu => (((try dsimp +zetaDelta only); simp only [Around.deeper]; first | omega | ((unfold cLine at *); omega)))); (case zqhl => exact Top.nolimit (by k_asm)); (case zqhG => k_mem); (case zqhgs => assumption); (case zqhfo => assumption); (case zqhgo => assumption); (case zqU => k_updF); (case zqhkeep => exact Fr.keep (by assumption)); (case zqhsz => assumption)); intro _ _ _ _ _ _ _ _ _ _ _ _; walk_at "ds"; (try k_sweep))
  trivial
set_option maxHeartbeats 4000000 in
theorem isln_item (w : World) {p : Program} {loose : List Str} {mean : ExcName → Option Value} {mg mb : Str → Option Value}
  {dp un : Nat} {gd : Option (List Code)} {cn : Str} {cs : Scope} {a : Addr} {ccd : Value} {cl : List (Str × Addr)} {outer : List Env} {A₀ : Around} {base h₀ : Heap} {L : Addr} {m : Str → Option Value} {rest : List (Addr × Obj)} {s : Shared}
    {Q E : Value → Shared → Prop} {x GL G d : Addr} {oGL : Obj} {c n : Int} {k1 k2 k3 k4 : Tok} {nm qn : Str} {t1 t2 : Tok} {g : Nat} {gs : GenState} {all : List Str} {j k : Nat} {mG : Str → Option Value}
    (B : Below A₀ base outer h₀) (F : Fr h₀ L s.heap m) (X : (K w.params).In h₀) (N : News h₀ L s.heap ((x, islObj d (.ref G) c n (-1) 1 k1 k2 k3 k4) :: (GL, oGL) :: rest)) (T : Top p loose mean mg mb h₀) (hk : cs.kind = .function)
    (hdp : dp + 150 < recursionLimit) (hun : un + 600 < cLine)
    (hd : (d, dictOf [] 0) ∈ rest) (hG : (G, genObj g nm qn t1 t2) ∈ rest) (hxG : x ≠ GL) (hGx : GL ≠ x) (hxr : ∀ p ∈ rest, p.1 ≠ x) (hGr : ∀ p ∈ rest, p.1 ≠ GL)
    (hgs : s.gens[g]? = some gs) (hfo : FrObj GL oGL mG) (hsz : h₀.objs.size ≤ GL) (hgo : GoesAt w h₀ GL all gs (k + 1 + j) mG) (hc0 : 0 ≤ c) (hcn : c + j = n) (hn : n < 1000000)
    (hret : ∀ h' tk oGL' mG' gs' gens' t k1 k2 k3 k4, gs'.bare = true → FrObj GL oGL' mG' → GoesAt w h₀ GL all gs' k mG' → GSet g gs' s.gens gens' → Fr h₀ L h' m → News h₀ L h' ((x, islObj d (.ref G) (n + 1) (n + 1) (-1) 1 k1 k2 k3 k4) :: (GL, oGL') :: rest) →
      Q (.str (all.getD (all.length - (k + 1)) ⟨#[]⟩) t) { s with gens := gens', heap := h', toks := tk }) :
    wpAny (model PySem.Challenge.rw_ij0017_01.row.prog w) (ktrTop dp un gd cn cs L a ccd cl outer) (call (.ref 64) [.ref x]) Q E s := by
  revert X; k_fill; intro X
  try walk_at "tidy"
  k_steps
  rename_i gF LF h1 FG BG XG TG _ _ tk1 _ _ h2 tk2 _ _ _ h3 F1 N1 _ _ _
  refine while_rule (fun i s' => ∃ c' gs' mG' oGL' k1' k2' k3' k4' h' tk' gens', c' + i = n ∧ 0 ≤ c' ∧ s' = { s with gens := gens', heap := h', toks := tk' } ∧ gens'[g]? = some gs' ∧ (∀ i, i ≠ g → gens'[i]? = s.gens[i]?) ∧ FrObj GL oGL' mG' ∧ GoesAt w h₀ GL all gs' (k + 1 + i) mG' ∧
    Fr gF LF h' (fun y => if y = Str.ofString "stop" then some (Value.int (-1) k4) else if y = Str.ofString "it" then some (Value.ref G) else List.lookup y [(Str.ofString "self", Value.ref x)]) ∧ News gF LF h' ((x, islObj d (.ref G) c' n (-1) 1 k1' k2' k3' k4') :: (GL, oGL') :: rest)) j ?h0 ?turn
  case h0 => exact ⟨c, gs, mG, oGL, k1, k2, k3, k4, h3, _, s.gens, hcn, hc0, rfl, hgs, fun _ _ => rfl, hfo, hgo, F1, N1⟩
  case turn =>
    rintro i s'
    walk_at "flat"
    rename_i c' gs' mG' oGL' k1' k2' k3' k4' h' tk' gens' hci hc0' hz91 hgs' hgo' hfo' hgoes F2 N2
    subst hz91
    clear F1 N1 hgo hfo hgs N F
    cases i with
    | zero =>
      have hgoes1 : GoesAt w h₀ GL all gs' (k + 1) mG' := hgoes
      clear hgoes
      have hcn' : c' = n := by omega
      subst hcn'
      k_steps
      rename_i hb9 hfo9 hgo9 hgs9 _ _ _ _ _ _ _ _ _ F9 N9 _ _ _ _ _ kF kN kT kX
      exact hret _ _ _ _ _ _ _ _ _ _ _ hb9 hfo9 hgo9 ⟨hgs9.1, fun i hi => (hgs9.2 i hi).trans (hgo' i hi)⟩ kF kN
    | succ i =>
      have hgoes1 : GoesAt w h₀ GL all gs' ((k + 1 + i) + 1) mG' := hgoes
      clear hgoes
      have hlt : c' < n := by omega
      k_steps
      rename_i hb9 hfo9 hgo9 hgs9 _ _ _ F9 N9
      exact ⟨i, Nat.lt_succ_self i, c' + 1, _, _, _, _, _, _, _, _, _, _, by omega, by omega, rfl, hgs9.1, fun i hi => (hgs9.2 i hi).trans (hgo' i hi), hfo9, hgo9, F9, N9⟩
theorem walkWords5 : True := by
  w_top off
  trivial
set_option maxHeartbeats 4000000 in
theorem isln_stop (w : World) {p : Program} {loose : List Str} {mean : ExcName → Option Value} {mg mb : Str → Option Value}
  {dp un : Nat} {gd : Option (List Code)} {cn : Str} {cs : Scope} {a : Addr} {ccd : Value} {cl : List (Str × Addr)} {outer : List Env} {A₀ : Around} {base h₀ : Heap} {L : Addr} {m : Str → Option Value} {rest : List (Addr × Obj)} {s : Shared}
    {Q E : Value → Shared → Prop} {x GL G d : Addr} {oGL : Obj} {c n : Int} {k1 k2 k3 k4 : Tok} {nm qn : Str} {t1 t2 : Tok} {g : Nat} {gs : GenState} {all : List Str} {j : Nat} {mG : Str → Option Value}
    (B : Below A₀ base outer h₀) (F : Fr h₀ L s.heap m) (X : (K w.params).In h₀) (N : News h₀ L s.heap ((x, islObj d (.ref G) c n (-1) 1 k1 k2 k3 k4) :: (GL, oGL) :: rest)) (T : Top p loose mean mg mb h₀) (hk : cs.kind = .function)
    (XB : (K w.params).In base) (TB : Top p loose mean mg mb base)
    (hdp : dp + 150 < recursionLimit) (hun : un + 600 < cLine)
    (hd : (d, dictOf [] 0) ∈ rest) (hG : (G, genObj g nm qn t1 t2) ∈ rest) (hxG : x ≠ GL) (hGx : GL ≠ x) (hxr : ∀ p ∈ rest, p.1 ≠ x) (hGr : ∀ p ∈ rest, p.1 ≠ GL)
    (hgs : s.gens[g]? = some gs) (hfo : FrObj GL oGL mG) (hsz : h₀.objs.size ≤ GL) (hgo : GoesAt w h₀ GL all gs j mG) (hc0 : 0 ≤ c) (hcn : c + j = n) (hn : n < 1000000)
    (hret : ∀ h' tk gens' e h₀', GSet g .finished s.gens gens' → KtsTurn (outer.filterMap (·.frame)) h₀ h₀' → Below A₀ base outer h₀' → Fr h₀' L h' m → News h₀' L h' rest → (∃ ob, h'.get? e = some ob ∧ ob.cls = .type "StopIteration") →
      E (.ref e) { s with gens := gens', heap := h', toks := tk }) :
    wpAny (model PySem.Challenge.rw_ij0017_01.row.prog w) (ktrTop dp un gd cn cs L a ccd cl outer) (call (.ref 64) [.ref x]) Q E s := by
  revert X; k_fill; intro X
  try walk_at "tidy"
  k_steps
  rename_i gF LF h1 FG BG XG TG _ _ tk1 _ _ h2 tk2 _ _ _ h3 F1 N1 _ _ _
  refine while_rule (fun i s' => ∃ c' gs' mG' oGL' k1' k2' k3' k4' h' tk' gens', c' + i = n ∧ 0 ≤ c' ∧ s' = { s with gens := gens', heap := h', toks := tk' } ∧ gens'[g]? = some gs' ∧ (∀ i, i ≠ g → gens'[i]? = s.gens[i]?) ∧ FrObj GL oGL' mG' ∧ GoesAt w h₀ GL all gs' i mG' ∧
    Fr gF LF h' (fun y => if y = Str.ofString "stop" then some (Value.int (-1) k4) else if y = Str.ofString "it" then some (Value.ref G) else List.lookup y [(Str.ofString "self", Value.ref x)]) ∧ News gF LF h' ((x, islObj d (.ref G) c' n (-1) 1 k1' k2' k3' k4') :: (GL, oGL') :: rest)) j ?h0 ?turn
  case h0 => exact ⟨c, gs, mG, oGL, k1, k2, k3, k4, h3, _, s.gens, hcn, hc0, rfl, hgs, fun _ _ => rfl, hfo, hgo, F1, N1⟩
  case turn =>
    rintro i s'
    walk_at "flat"
    rename_i c' gs' mG' oGL' k1' k2' k3' k4' h' tk' gens' hci hc0' hz91 hgs' hgo' hfo' hgoes F2 N2
    subst hz91
    clear F1 N1 hgo hfo hgs N F
    cases i with
    | zero =>
      have hcn' : c' = n := by omega
      subst hcn'
      k_steps
      refine pull_stop (hb := h₀) (GL := GL) (all := all) rfl ?hd ?hu F2 N2 (Top.nolimit TG) (by k_mem) (by k_mem) hgs' hfo' FG.keep hsz hgoes ?_
      case hd => (try dsimp +zetaDelta only); simp only [Around.deeper]; unfold recursionLimit at *; omega
      case hu => (try dsimp +zetaDelta only); simp only [Around.deeper]; unfold cLine at *; omega
      intro h4 tk4 h5 e gens5 hgs5 hk4 hx5
      have hGLn := (N2 (GL, oGL') (.tail _ (.head _)))
      have F4 : Fr gF LF h4 _ := ⟨F2.ns.at' fun o e => hk4 _ o (Ne.symm hGLn.2.1) e, fun b o e => hk4 b o (fun q => by have := hGLn.2.2; rw [← q, e] at this; cases this) (F2.keep b o e), F2.above⟩
      have N4 : News gF LF h4 ((x, islObj d (.ref G) c' c' (-1) 1 k1' k2' k3' k4') :: rest) := fun p hp => by
        have q : p.1 ≠ GL := by
          rcases List.mem_cons.mp hp with rfl | hp
          · exact hxG
          · exact hGr p hp
        have r := N2 p (by rcases List.mem_cons.mp hp with rfl | hp; exact .head _; exact .tail _ (.tail _ hp))
        exact ⟨hk4 _ _ q r.1, r.2⟩
      refine note_new (h := h4) rfl rfl (BG.push F4).frames hx5 fun h6 TT hx6 hTn Gr6 => ?_
      refine flight_at (fr := none) hx6 fun h7 hx7 hk7 => ?_
      have Gr7 := Gr6.but hTn hk7
      obtain ⟨g7, T7, F7, K7⟩ := grown_ground BG F4 rfl Gr7
      have hc7 := hx7
      obtain ⟨oe7, _, _, _, he7, hc7, _⟩ := hc7
      refine wpAny_handleBy_builtin (X := "StopIteration") (T := "BaseException") (b := true) (by rw [isSubtype_type]; kernel_rfl) (by rw [isSubtype_type]; kernel_rfl) (by rw [isSubtype_type]; kernel_rfl) (name_B F7 (XB.keeps K7.stays) (topRead_of (TB.keeps K7.stays)) (by k_is) PyProof.Rows.Boot.«BaseException» (by decide) ⟨rfl, ⟨oe7, he7, hc7⟩, ?_⟩)
      refine flight_at (fr := none) hx7 fun h8 hx8 hk8 => ?_
      have Gr8 := Gr7.but hTn hk8
      obtain ⟨g8, T8, F8, K8⟩ := grown_ground BG F4 rfl Gr8
      have N8 := news_grown BG F4 N4 rfl Gr8 T8
      obtain ⟨oe, oT, Ne, hmk⟩ := ex_entries F4 F8 T8 hx8 hx5.new hTn
      have N9 := News.app N8 Ne
      have hxin := (N4 _ (List.mem_cons_self ..)).1
      dsimp only at hxin
      clear Ne N8 F7 F2 N2
      have F4' : ∃ m, Fr gF LF h4 m := ⟨_, F4⟩
      have N4' : ∀ p ∈ rest, h4.get? p.1 = some p.2 ∧ gF.get? p.1 = none := fun p hp => ⟨(N4 p (.tail _ hp)).1, (N4 p (.tail _ hp)).2.2⟩
      clear F4 N4
      have X8 := XB.keeps K8.stays
      have T88 := TB.keeps K8.stays
      simp only [List.cons_append] at N9
      have hd9 : (d, dictOf [] 0) ∈ rest ++ [(e, oe), (TT, oT)] := List.mem_append_left _ hd
      have hx4 := hxin
      have hx9 : ∀ p ∈ rest ++ [(e, oe), (TT, oT)], p.1 ≠ x := fun p hp => by
        rcases List.mem_append.mp hp with hp | hp
        · exact hxr p hp
        rcases List.mem_cons.mp hp with rfl | hp
        · exact fun q => by rw [← q, hx5.new] at hx4; cases hx4
        · rw [List.mem_singleton.mp hp]
          exact fun q => by rw [← q, hTn] at hx4; cases hx4
      k_steps
      rename_i h10 F10 N10 _ _
      have hx10 := hmk h10 (N10 _ (.tail _ (List.mem_append_right _ (.head _)))).1 (N10 _ (.tail _ (List.mem_append_right _ (.tail _ (.head _))))).1
      have hT10 : g8.get? TT = none := (N10 _ (.tail _ (List.mem_append_right _ (.tail _ (.head _))))).2.2
      refine raise_bare rfl rfl hx10 fun h11 hx11 hk11 => ?_
      unfold notedBy
      refine note_again rfl hx11 ?_
      refine back_at rfl hx11 fun h12 hx12 hk12 => ?_
      show wpAny _ _ (leaving _ _) _ _ _
      refine leave_at rfl hx12 fun h13 hx13 hk13 => ?_
      have hkT : ∀ b o, b ≠ TT → h10.get? b = some o → h13.get? b = some o := fun b o n q => hk13 b o n (hk12 b o n (hk11 b o n q))
      obtain ⟨h₀', T', B', F', N'⟩ := back_ground (h' := h13) (led := rest) B FG rfl T8 (fun b o q => hkT b o (fun q' => by rw [q', hT10] at q; cases q) (F10.keep b o q)) (fun p hp => ⟨hkT _ _ (fun q' => by have := (N4' p hp).1; rw [q', hTn] at this; cases this) (N10 p (.tail _ (List.mem_append_left _ hp))).1, (N4' p hp).2⟩)
      obtain ⟨oe13, _, _, _, he13, hc13, _⟩ := hx13
      exact hret _ _ _ _ _ ⟨hgs5.1, fun i hi => (hgs5.2 i hi).trans (hgo' i hi)⟩ T' B' F' N' ⟨oe13, he13, hc13⟩
    | succ i =>
      have hgoes1 : GoesAt w h₀ GL all gs' (i + 1) mG' := hgoes
      clear hgoes
      have hlt : c' < n := by omega
      k_steps
      rename_i hb9 hfo9 hgo9 hgs9 _ _ _ F9 N9
      exact ⟨i, Nat.lt_succ_self i, c' + 1, _, _, _, _, _, _, _, _, _, _, by omega, by omega, rfl, hgs9.1, fun i hi => (hgs9.2 i hi).trans (hgo' i hi), hfo9, hgo9, F9, N9⟩
theorem walkWords6 : True := by
  w_top off
  trivial
set_option maxHeartbeats 4000000 in
theorem pls_ok (w : World) {p : Program} {loose : List Str} {mean : ExcName → Option Value} {mg mb : Str → Option Value}
  {dp un : Nat} {gd : Option (List Code)} {cn : Str} {cs : Scope} {a : Addr} {ccd : Value} {cl : List (Str × Addr)} {outer : List Env} {A₀ : Around} {base h₀ : Heap} {L : Addr} {m : Str → Option Value} {news : List (Addr × Obj)} {s : Shared}
    {Q E : Value → Shared → Prop} {x GL G d : Addr} {oGL : Obj} {k1 k2 k3 k4 : Tok} {nm qn : Str} {t1 t2 : Tok} {g : Nat} {gs : GenState} {a0 : Str} {rest : List Str} {mG : Str → Option Value}
    (B : Below A₀ base outer h₀) (F : Fr h₀ L s.heap m) (X : (K w.params).In h₀) (N : News h₀ L s.heap ((x, islObj d (.ref G) 0 1 (-1) 1 k1 k2 k3 k4) :: (d, dictOf [] 0) :: (G, genObj g nm qn t1 t2) :: (GL, oGL) :: news)) (T : Top p loose mean mg mb h₀) (hk : cs.kind = .function)
    (XB : (K w.params).In base) (TB : Top p loose mean mg mb base)
    (hdp : dp + 160 < recursionLimit) (hun : un + 620 < cLine)
    (hl1 : ∀ p ∈ news, p.1 < GL) (hl2 : GL < G) (hl3 : G < d) (hl4 : d < x) (hLG : L < GL)
    (hgs : s.gens[g]? = some gs) (hfo : FrObj GL oGL mG) (hgo : GoesAt w h₀ GL (a0 :: rest) gs (a0 :: rest).length mG) (hlen : rest.length ≤ 100)
    (hret : ∀ h' tk gens' D vs c h₀', GSet g .finished s.gens gens' → KtsTurn (outer.filterMap (·.frame)) h₀ h₀' → Below A₀ base outer h₀' → Fr h₀' L h' m → News h₀' L h' ((D, listOf vs.toArray c) :: news) → (∀ p ∈ news, p.1 < D) → StrsAre vs rest →
      Q (.ref D) { s with gens := gens', heap := h', toks := tk }) :
    wpAny (model PySem.Challenge.rw_ij0017_01.row.prog w) (ktrTop dp un gd cn cs L a ccd cl outer) (call (.type "list") [.ref x]) Q E s := by
  revert X; k_fill; intro X
  try walk_at "tidy"
  have hsz : h₀.objs.size ≤ GL := Nat.le_of_lt (Nat.lt_of_le_of_lt F.above hLG)
  refine list_own (K := K w.params) (C := 68) (fi := 57) (gn := .ref 64) F X N (.head _) (.tail _ (.head _)) (by k_is) (by k_is) (by k_is) (by k_is) (by k_is) ?hit ?hloop
  case hit =>
    rintro S s' hS ⟨h1, tk1, c1, rfl, F1, N1⟩
    clear F N
    k_steps
    rename_i kF kN _ _
    exact ⟨_, _, c1, rfl, kF, kN⟩
  case hloop =>
    rintro S s0 hS ⟨h1, tk1, c1, rfl, F1, N1⟩
    clear F N
    have hSx : x < S := hS _ (.head _)
    refine ext_own_loop (n := rest.length) (by omega) (fun i acc s' => ∃ h tk gens' cS oGL' mG' gs', ∃ c n : Int, ∃ j : Nat, ∃ k1 k2 k3 k4 vs, s' = { s with gens := gens', heap := h, toks := tk } ∧ acc = vs.toArray ∧ StrsAre vs (rest.take i) ∧ Fr h₀ L h m ∧
      News h₀ L h ((S, listOf acc cS) :: (x, islObj d (.ref G) c n (-1) 1 k1 k2 k3 k4) :: (GL, oGL') :: (d, dictOf [] 0) :: (G, genObj g nm qn t1 t2) :: news) ∧ gens'[g]? = some gs' ∧ (∀ i, i ≠ g → gens'[i]? = s.gens[i]?) ∧
      FrObj GL oGL' mG' ∧ GoesAt w h₀ GL (a0 :: rest) gs' (rest.length - i + j) mG' ∧ c + j = n ∧ 0 ≤ c ∧ n ≤ i + 1) ?item ?done _ 0 #[] _ rfl (Nat.zero_le _) rfl ?st0
    case st0 =>
      refine ⟨h1, tk1, s.gens, c1, oGL, mG, gs, 0, 1, 1, k1, k2, k3, k4, [], rfl, rfl, .nil, F1, news_sub N1 ?_, hgs, fun _ _ => rfl, hfo, hgo, by decide, by decide, by omega⟩
      intro p9 hp9
      simp only [List.mem_cons] at hp9 ⊢
      rcases hp9 with h | h | h | h | h | h
      · exact .inl h
      · exact .inr (.inl h)
      · exact .inr (.inr (.inr (.inr (.inl h))))
      · exact .inr (.inr (.inl h))
      · exact .inr (.inr (.inr (.inl h)))
      · exact .inr (.inr (.inr (.inr (.inr h))))
    case item =>
      rintro i acc s' hi hacc
      try dsimp only
      walk_at "flat"
      rename_i h tk gens' cS oGL' mG' gs' c n j q1 q2 q3 q4 vs hz91 hz92 hvs F2 N2 hgs' hgo' hfo' hgoes hcj hc0 hni
      subst hz91
      subst hz92
      clear F1 N1
      have N3 : News h₀ L h ((x, islObj d (.ref G) c n (-1) 1 q1 q2 q3 q4) :: (GL, oGL') :: (S, listOf vs.toArray cS) :: (d, dictOf [] 0) :: (G, genObj g nm qn t1 t2) :: news) := news_sub N2 (by
        intro p9 hp9
        simp only [List.mem_cons] at hp9 ⊢
        rcases hp9 with h | h | h | h | h | h
        · exact .inr (.inl h)
        · exact .inr (.inr (.inl h))
        · exact .inl h
        · exact .inr (.inr (.inr (.inl h)))
        · exact .inr (.inr (.inr (.inr (.inl h))))
        · exact .inr (.inr (.inr (.inr (.inr h)))))
      have I2 : InstAt h x (islObj d (.ref G) c n (-1) 1 q1 q2 q3 q4) 68 (some (dictOf [] 0)) := InstAt.of_news N2 (.tail _ (.head _)) (.tail _ (.tail _ (.tail _ (.head _))))
      have hgoes1 : GoesAt w h₀ GL (a0 :: rest) gs' ((rest.length - i - 1) + 1 + j) mG' := by
        have e : (rest.length - i - 1) + 1 + j = rest.length - i + j := by omega
        rw [e]; exact hgoes
      have hne : ∀ p ∈ (S, listOf vs.toArray cS) :: (d, dictOf [] 0) :: (G, genObj g nm qn t1 t2) :: news, p.1 ≠ x ∧ p.1 ≠ GL := by
        intro p9 hp9
        simp only [List.mem_cons] at hp9
        rcases hp9 with rfl | rfl | rfl | h
        · exact ⟨Nat.ne_of_gt hSx, Nat.ne_of_gt (Nat.lt_trans (Nat.lt_trans (Nat.lt_trans hl2 hl3) hl4) hSx)⟩
        · exact ⟨Nat.ne_of_lt hl4, Nat.ne_of_gt (Nat.lt_trans hl2 hl3)⟩
        · exact ⟨Nat.ne_of_lt (Nat.lt_trans hl3 hl4), Nat.ne_of_gt hl2⟩
        · exact ⟨Nat.ne_of_lt (Nat.lt_trans (hl1 _ h) (Nat.lt_trans (Nat.lt_trans hl2 hl3) hl4)), Nat.ne_of_lt (hl1 _ h)⟩
      refine owit_next (K := K w.params) (C := 68) (f := 64) F2 X I2 (by k_is) (by k_is) ?_
      refine isln_item w (dp := dp) (un := un + 1 + 1) (k := rest.length - i - 1) (j := j) B F2 X N3 T hk (by omega) (by omega) (.tail _ (.head _)) (.tail _ (.tail _ (.head _))) (Nat.ne_of_gt (Nat.lt_trans (Nat.lt_trans hl2 hl3) hl4)) (Nat.ne_of_lt (Nat.lt_trans (Nat.lt_trans hl2 hl3) hl4)) (fun p hp => (hne p hp).1) (fun p hp => (hne p hp).2) hgs' hfo' hsz hgoes1 hc0 hcj (by omega) ?_
      intro h3 tk3 oGL3 mG3 gs3 gens3 t3 r1 r2 r3 r4 hb3 hfo3 hgo3 hgs3 F3 N4
      refine ⟨_, rfl, ?_⟩
      have N5 : News h₀ L h3 ((S, listOf vs.toArray cS) :: (x, islObj d (.ref G) (n + 1) (n + 1) (-1) 1 r1 r2 r3 r4) :: (GL, oGL3) :: (d, dictOf [] 0) :: (G, genObj g nm qn t1 t2) :: news) := news_sub N4 (by
        intro p9 hp9
        simp only [List.mem_cons] at hp9 ⊢
        rcases hp9 with h | h | h | h | h | h
        · exact .inr (.inr (.inl h))
        · exact .inl h
        · exact .inr (.inl h)
        · exact .inr (.inr (.inr (.inl h)))
        · exact .inr (.inr (.inr (.inr (.inl h))))
        · exact .inr (.inr (.inr (.inr (.inr h)))))
      have hlv : vs.toArray.size ≤ 1000 := by rw [hacc]; omega
      refine seq_upd0 (s := { s with gens := gens3, heap := h3, toks := tk3 }) (c := cS) ?_ F3 N5 (by rw [sizeLine_eq]; omega) (by rw [Array.size_push, sizeLine_eq]; omega) fun h4 c4 F4 N6 => ?_
      · intro p9 hp9
        simp only [List.mem_cons] at hp9
        rcases hp9 with rfl | rfl | rfl | rfl | h
        · exact Nat.ne_of_lt hSx
        · exact Nat.ne_of_lt (Nat.lt_trans (Nat.lt_trans (Nat.lt_trans hl2 hl3) hl4) hSx)
        · exact Nat.ne_of_lt (Nat.lt_trans hl4 hSx)
        · exact Nat.ne_of_lt (Nat.lt_trans (Nat.lt_trans hl3 hl4) hSx)
        · exact Nat.ne_of_lt (Nat.lt_trans (hl1 _ h) (Nat.lt_trans (Nat.lt_trans (Nat.lt_trans hl2 hl3) hl4) hSx))
      · have hit : rest[i]? = some ((a0 :: rest).getD ((a0 :: rest).length - (rest.length - i - 1 + 1)) ⟨#[]⟩) := by
          have e : (a0 :: rest).length - (rest.length - i - 1 + 1) = i + 1 := by simp only [List.length_cons]; omega
          rw [e, List.getD_eq_getElem?_getD, List.getElem?_cons_succ, List.getElem?_eq_getElem hi]; rfl
        refine ⟨h4, tk3, gens3, c4, oGL3, mG3, gs3, n + 1, n + 1, 0, r1, r2, r3, r4, vs ++ [Value.str ((a0 :: rest).getD ((a0 :: rest).length - (rest.length - i - 1 + 1)) ⟨#[]⟩) t3], rfl, List.push_toArray _ _, ?_, F4, N6, hgs3.1, fun i hi => (hgs3.2 i hi).trans (hgo' i hi), hfo3, ?_, by simp, by omega, by omega⟩
        · rw [List.take_add_one, hit]
          exact StrsAre.append' hvs (.cons _ _ .nil)
        · have e : rest.length - (i + 1) + 0 = rest.length - i - 1 := by omega
          rw [e]; exact hgo3
    case done =>
      rintro acc s' hacc
      try dsimp only
      walk_at "flat"
      rename_i h tk gens' cS oGL' mG' gs' c n j q1 q2 q3 q4 vs hz93 hz94 hvs F2 N2 hgs' hgo' hfo' hgoes hcj hc0 hni
      subst hz93
      subst hz94
      clear F1 N1
      have N3 : News h₀ L h ((x, islObj d (.ref G) c n (-1) 1 q1 q2 q3 q4) :: (GL, oGL') :: (S, listOf vs.toArray cS) :: (d, dictOf [] 0) :: (G, genObj g nm qn t1 t2) :: news) := news_sub N2 (by
        intro p9 hp9
        simp only [List.mem_cons] at hp9 ⊢
        rcases hp9 with h | h | h | h | h | h
        · exact .inr (.inl h)
        · exact .inr (.inr (.inl h))
        · exact .inl h
        · exact .inr (.inr (.inr (.inl h)))
        · exact .inr (.inr (.inr (.inr (.inl h))))
        · exact .inr (.inr (.inr (.inr (.inr h)))))
      have I2 : InstAt h x (islObj d (.ref G) c n (-1) 1 q1 q2 q3 q4) 68 (some (dictOf [] 0)) := InstAt.of_news N2 (.tail _ (.head _)) (.tail _ (.tail _ (.tail _ (.head _))))
      have hgoes1 : GoesAt w h₀ GL (a0 :: rest) gs' j mG' := by
        have e : j = rest.length - rest.length + j := by omega
        rw [e]; exact hgoes
      have hne : ∀ p ∈ (S, listOf vs.toArray cS) :: (d, dictOf [] 0) :: (G, genObj g nm qn t1 t2) :: news, p.1 ≠ x ∧ p.1 ≠ GL := by
        intro p9 hp9
        simp only [List.mem_cons] at hp9
        rcases hp9 with rfl | rfl | rfl | h
        · exact ⟨Nat.ne_of_gt hSx, Nat.ne_of_gt (Nat.lt_trans (Nat.lt_trans (Nat.lt_trans hl2 hl3) hl4) hSx)⟩
        · exact ⟨Nat.ne_of_lt hl4, Nat.ne_of_gt (Nat.lt_trans hl2 hl3)⟩
        · exact ⟨Nat.ne_of_lt (Nat.lt_trans hl3 hl4), Nat.ne_of_gt hl2⟩
        · exact ⟨Nat.ne_of_lt (Nat.lt_trans (hl1 _ h) (Nat.lt_trans (Nat.lt_trans hl2 hl3) hl4)), Nat.ne_of_lt (hl1 _ h)⟩
      refine owit_next (K := K w.params) (C := 68) (f := 64) F2 X I2 (by k_is) (by k_is) ?_
      refine isln_stop w (dp := dp) (un := un + 1 + 1) (j := j) B F2 X N3 T hk XB TB (by omega) (by omega) (.tail _ (.head _)) (.tail _ (.tail _ (.head _))) (Nat.ne_of_gt (Nat.lt_trans (Nat.lt_trans hl2 hl3) hl4)) (Nat.ne_of_lt (Nat.lt_trans (Nat.lt_trans hl2 hl3) hl4)) (fun p hp => (hne p hp).1) (fun p hp => (hne p hp).2) hgs' hfo' hsz hgoes1 hc0 hcj (by omega) ?_
      rintro h3 tk3 gens3 e h₀' hgs3 T3 B3 F3 N4 ⟨ob, hob, hobc⟩
      unfold OwitStop
      refine wpAny_isInstance (T := "StopIteration") (b := true) ⟨ob, hob, hobc⟩ (by rw [isSubtype_type]; kernel_rfl) ?_
      rw [if_pos rfl]
      refine ⟨rfl, rfl, ?_⟩
      rw [List.take_length] at hvs
      exact hret h3 tk3 gens3 S vs cS h₀' ⟨hgs3.1, fun i hi => (hgs3.2 i hi).trans (hgo' i hi)⟩ T3 B3 F3 (news_sub N4 (fun p hp => by
        rcases List.mem_cons.mp hp with rfl | hp
        · exact .head _
        · exact .tail _ (.tail _ (.tail _ hp)))) (fun p hp => hS p (.tail _ (.tail _ (.tail _ (.tail _ hp))))) hvs
theorem walkWords7 : True := by
  w_top off
  k_with_none
  k_with "via" => first | exact Mine.viaHead _ | (refine Mine.viaTail ?_; k_extra "via") | exact Mine.viaLast _ | fail
  k_with "conj" => with_reducible first | assumption | (refine' Mine.viaLt ?zqh ?zqk; (case zqh => assumption); (case zqk => k_extra "via")) | (refine' Mine.viaNe ?zqh ?zqk; (case zqh => assumption); (case zqk => k_extra "via")) | fail
  k_with "up" => with_reducible first | exact Mine.u0 | exact Mine.u1 | exact Mine.u2 | exact Mine.u3 | exact Mine.u4 | exact Mine.u5 | exact Mine.u6 | exact Mine.u7 | exact Mine.u8 | fail
  k_with "omega" => first | (k_whole; with_reducible first | assumption | exact Mine.v0 | exact Mine.v1 | exact Mine.v2 | exact Mine.v3 | exact Mine.v4 | exact Mine.v5 | exact Mine.v6 | exact Mine.v7 | exact Mine.v8 | k_extra "conj" | (refine Mine.neGt ?_; k_extra "conj") | (refine Mine.neLt ?_; k_extra "conj") | k_extra "up" | exact Int.natCast_nonneg _ | decide | exact Mine.leCut (by assumption) | exact Mine.ltCut (by assumption) | exact Mine.leCut' (by assumption) | exact Mine.ltCut' (by assumption) | exact Mine.iCut1 (by assumption) | exact Mine.iCut2 (by assumption) | exact Mine.iCut3 (by assumption) | exact Mine.iCut4 (by assumption) | fail) | (k_whole; lia) | omega +splitDisjunctions | ((dsimp +zetaDelta only at *); omega +splitDisjunctions)
  k_with "ne" => (refine PySem.W.neN ?_; (try dsimp only); first | (refine Mine.neGt ?_; first | k_extra "conj" | k_extra "up") | (refine Mine.neLt ?_; first | k_extra "conj" | k_extra "up") | (refine Mine.neSym ?_; k_extra "conj") | omega)
  k_with "rows" => with_reducible first | show wpAny _ _ (exec (Stmt.While _ _ _ _) _) _ _ _ | show wpAny _ _ (exec (Stmt.For _ _ _ _ _) _) _ _ _ | show wpAny _ _ (eval (Expr.ListComp _ _ _ _) _) _ _ _ | show wpAny _ _ (exec (Stmt.Assign _ (Expr.ListComp _ _ _ _) _) _) _ _ _ | fail
  k_with "steps" => repeat' (first | ((fail_if_success keq_rows); (first | (k_unfold; (try dsimp only)) | (k_end; wrow_close) | ((first | walk1 | (dsimp only; walk1)); (all_goals try walk_at "tidy")) | (leave1; walk_say "STEP leave1"; try dsimp only))) | fail "no step")
  k_with "tidy" => ((try ((with_reducible show wpAny _ _ (exec _ _) _ _ _); (fail_if_success fail_if_success k_fold); refine Mine.foldQ ?_; intro _)); (try ((fail_if_success fail_if_success (first | conv in (Around.deeper _ _) => skip | conv in (ktrTop _ _ _ _ _ _ _ _ _ _) => skip)); refine Mine.foldE ?_; intro _; refine Mine.foldA ?_; intro _)); (try ((fail_if_success fail_if_success (conv in (Shared.mk _ _ _ _ _) => skip)); (with_reducible show wpAny _ _ (exec _ _) _ _ _); refine Mine.foldS ?_; intro _)))
  k_with "flat" => with_reducible first | ((refine Mine.an12 ?_; iterate 11 intro _); walk_at "flat") | ((refine Mine.an6 ?_; iterate 5 intro _); walk_at "flat") | ((refine Mine.an3 ?_; iterate 2 intro _); walk_at "flat") | ((refine Mine.an2 ?_; iterate 1 intro _); walk_at "flat") | ((refine Mine.ex15 ?_; iterate 15 intro _); walk_at "flat") | ((refine Mine.ex8 ?_; iterate 8 intro _); walk_at "flat") | ((refine Mine.ex4 ?_; iterate 4 intro _); walk_at "flat") | ((refine Mine.ex2 ?_; iterate 2 intro _); walk_at "flat") | ((refine Mine.ex1 ?_; iterate 1 intro _); walk_at "flat") | intro _
  k_with "call ref" => (k_here; refine wpAny_call ?_; k_dflt (first | (refine' code_def ?zqk1 ?zqk2 ?zqk3 ?zqk4 ?zqk5 ?zqkA ?zqkF ?zqkK ?zqk6 ?zqk7 ?zqk8 ?zqk9 ?zqkB ?_ ?zqc2 ?zqc3 ?zqc4 ?zqc5; (case zqkA => exact rfl); (case zqkF => exact rfl); (case zqkK => first | exact rfl | assumption); (case zqk1 => k_asm); (case zqk2 => k_asm); (case zqk3 => k_asm); (case zqk4 => k_asm); (case zqk5 => k_asm); (case zqk6 => k_is); (case zqk7 => k_is); (case zqk8 => ktr_room); (case zqk9 => exact BindsTo.of_eq rfl); (case zqc5 => decide); (case zqkB => exact locs rfl); (case zqc2 => exact rfl); (case zqc3 => exact rfl); (case zqc4 => exact rfl); k_whole; intro _ _ _ _ _ _; walk_at "cdA") | (refine' code_defC ?zqk1 ?zqk2 ?zqk3 ?zqk4 ?zqk5 ?zqkA ?zqkF ?zqkK ?zqk6 ?zqk7 ?zqk8 ?zqk9 ?zqkB ?zqkD ?_ ?zqc2 ?zqc3 ?zqc4; (case zqkA => exact rfl); (case zqkF => exact rfl); (case zqkK => first | exact rfl | assumption); (case zqk1 => k_asm); (case zqk2 => k_asm); (case zqk3 => k_asm); (case zqk4 => k_asm); (case zqk5 => k_asm); (case zqk6 => k_is); (case zqk7 => k_is); (case zqk8 => ktr_room); (case zqk9 => exact BindsTo.of_eq rfl); (case zqkB => exact rfl); (case zqkD => decide +kernel); (case zqc2 => exact rfl); (case zqc3 => exact rfl); (case zqc4 => exact rfl); k_whole; intro _ _ _ _ _ _ _; walk_at "cdC")))
  k_with "call type:list" => (k_here; (with_reducible show wpAny _ _ (call (Value.type "list") [Value.ref _]) _ _ _); k_dflt (refine' list_copyK ?zqF ?zqN ?zql ?_ ?zqz; (case zqF => k_asm); (case zqN => k_asm); (case zql => exact News.isList (by k_asm) (by k_mem)); (case zqz => (rw [List.size_toArray, sizeLine_eq]; omega)); k_whole); intro _ _ _ _ _; walk_at "lt0"; (try k_sweep))
  k_with "mem" => first | exact List.Mem.head _ | assumption | (refine' List.Mem.tail _ ?_; k_mem)
  k_with "call builtin:len" => (k_here; (with_reducible show wpAny _ _ (call (Value.builtin "len") [Value.ref _]) _ _ _); k_dflt (refine' len_L ?zqN ?zqm ?zqf ?_; (case zqN => k_asm); (case zqm => k_mem); (case zqf => omega); k_whole))
  k_with "eval Name" => (k_here; (with_reducible show wpAny _ _ (eval (Expr.Name _ _) (envOf _ _ _ _ _)) _ _ _); k_dflt (refine' nameX_L (cl := []) ?zqF ?zqv ?_ ?zqa ?zqb; (case zqF => k_asm); (case zqa => rfl); (case zqb => rfl); (case zqv => first | exact rfl | assumption); k_whole))
  k_with "eval Name" => (k_here; (with_reducible show wpAny _ _ (eval (Expr.Name _ _) (envOfC _ _ _ _ _)) _ _ _); k_dflt (refine' nameX_L ?zqF ?zqv ?_ ?zqa ?zqb; (case zqF => k_asm); (case zqa => rfl); (case zqb => rfl); (case zqv => first | exact rfl | assumption); k_whole))
  k_with "all" => exact all_ge (by assumption) (by omega)
  k_with "eval Name" => (k_here; (with_reducible show wpAny _ _ (eval (Expr.Name _ _) (compEnvC _ _ _ (envOfC _ _ _ _ _))) _ _ _); k_dflt (first | (refine' ce_L ?zqN ?zqC ?zqm ?zqv ?_ ?zqa; (case zqa => decide +kernel); (case zqN => k_asm); (case zqC => assumption); (case zqm => k_mem); (case zqv => assumption); k_whole) | (refine' ce_C ?zqN ?zqa ?zqc ?zqm ?zqd ?_; (case zqa => decide +kernel); (case zqN => k_asm); (case zqc => rfl); (case zqm => k_mem); (case zqd => assumption); k_whole)))
  k_with "compareOp NotIn int ref" => (k_here; k_dflt (refine' notIn_L ?zqN ?zqm ?zqi ?_; (case zqN => k_asm); (case zqm => k_mem); (case zqi => first | assumption | exact ints_drop (by assumption) _); k_whole))
  k_with "compareOp In int ref" => (k_here; k_dflt (refine' in_L ?zqN ?zqm ?zqi ?_; (case zqN => k_asm); (case zqm => k_mem); (case zqi => first | assumption | exact ints_drop (by assumption) _); k_whole))
  k_with "subscriptTail Name Slice ref ref" => (k_here; (with_reducible show wpAny _ _ (subscriptTail _ (PySem.Expr.Slice (some _) none none _) (Value.ref _) (Value.ref _)) _ _ _); k_dflt (refine' slice_K ?zqF ?zqN ?zqm (IsPart.int _ _) IsPart.none (pick_from _ ?zqe) ?_ ?zqs ?zqt ?zqz; (case zqF => k_asm); (case zqN => k_asm); (case zqm => k_mem); (case zqe => omega); (case zqs => with_unfolding_all rfl); (case zqt => (intro _; with_unfolding_all rfl)); (case zqz => omega)); intro _ _ _ _; walk_at "lt0"; (try k_sweep))
  k_with "subscriptTail" => (k_here; (with_reducible show wpAny _ _ (subscriptTail _ _ (Value.ref _) (Value.int _ _)) _ _ _); k_dflt (refine' item_L ?zqN ?zqm ?zqa ?zqb ?zqx ?_ ?zqs; (case zqN => k_asm); (case zqm => k_mem); (case zqa => omega); (case zqb => omega); (case zqx => first | exact rfl | assumption); (case zqs => with_unfolding_all rfl); k_whole))
  k_with "setItem ref int" => (k_here; k_dflt (refine' setItem_D (isI _ _) ?zqF ?zqN ?zqU ?zqd ?zqz ?_; (case zqF => k_asm); (case zqN => k_asm); (case zqU => k_updF); (case zqd => assumption); (case zqz => omega); k_whole); intro _ _ _; walk_at "ds"; intro _; (try k_sweep))
  k_with "call builtin:list.remove" => (k_here; k_dflt (refine' remove_L ?zqF ?zqN ?zqU ?zqi ?zqx ?zqz ?_; (case zqF => k_asm); (case zqN => k_asm); (case zqU => k_updF); (case zqi => assumption); (case zqx => assumption); (case zqz => omega); k_whole); intro _ _ _ _; walk_at "ds"; intro _; (try k_sweep))
  k_with "compareOp In int ref" => (k_here; k_dflt (first | (refine' in_DI0 ?zqN ?zqd ?zqm ?zqv ?zqlo ?zqz ?_; (case zqN => k_asm); (case zqz => assumption); (case zqm => k_mem); (case zqd => assumption); (case zqv => assumption); (case zqlo => assumption); k_whole) | (refine' in_DI1 ?zqN ?zqd ?zqm ?zqv ?zqlo ?zqz ?_; (case zqN => k_asm); (case zqz => assumption); (case zqm => k_mem); (case zqd => assumption); (case zqv => assumption); (case zqlo => assumption); k_whole)))
  k_with "subscriptTail" => (k_here; (with_reducible show wpAny _ _ (subscriptTail _ _ (Value.ref _) (Value.int _ _)) _ _ _); k_dflt (refine' item_DI ?zqN ?zqd ?zqm ?zqv ?zqz ?_ ?zqs; (case zqN => k_asm); (case zqz => assumption); (case zqm => k_mem); (case zqd => assumption); (case zqv => assumption); (case zqs => with_unfolding_all rfl); k_whole); intro _)
  k_with "call builtin:list.append" => (k_here; (with_reducible show wpAny _ _ (call (Value.builtin _) [Value.ref _, _]) _ _ _); k_dflt (refine' append_L ?zqF ?zqN ?zqU ?zqz ?_; (case zqF => k_asm); (case zqN => k_asm); (case zqU => k_updF); (case zqz => omega); k_whole); intro _ _; walk_at "ds"; (try k_sweep))
  k_with "enter" => ((fail_if_success k_inElt); (refine' kp_rest ?zqk1 ?zqk2 ?zqk3 ?zqk4 ?zqk5 ?zqkA ?zqkF ?zqkK ?zqk6 ?zqk7 ?zqk8 ?zqkV ?zqkP ?zqkG ?zqkB ?_ ?zqc2 ?zqc3 ?zqc4 ?zqc5; (case zqkA => exact rfl); (case zqkF => exact rfl); (case zqkK => first | exact rfl | assumption); (case zqk1 => k_asm); (case zqk2 => k_asm); (case zqk3 => k_asm); (case zqk4 => k_asm); (case zqk5 => k_asm); (case zqk6 => k_is); (case zqk7 => k_is); (case zqk8 => first | ktr_room | (rw [depth_under_kw]; (try dsimp only); omega)); (case zqkV => kl_lit); (case zqkP => exact rfl); (case zqkG => exact fun _ => rfl); (case zqkB => exact fun _ => locs rfl); (case zqc5 => decide); (case zqc2 => exact rfl); (case zqc3 => exact rfl); (case zqc4 => exact rfl); k_whole; intro _ _ _ _; walk_at "cdP"))
  k_with "enter" => ((fail_if_success k_inElt); (refine' code_def ?zqk1 ?zqk2 ?zqk3 ?zqk4 ?zqk5 ?zqkA ?zqkF ?zqkK ?zqk6 ?zqk7 ?zqk8 ?zqk9 ?zqkB ?_ ?zqc2 ?zqc3 ?zqc4 ?zqc5; (case zqkA => exact rfl); (case zqkF => exact rfl); (case zqkK => first | exact rfl | assumption); (case zqk1 => k_asm); (case zqk2 => k_asm); (case zqk3 => k_asm); (case zqk4 => k_asm); (case zqk5 => k_asm); (case zqk6 => k_is); (case zqk7 => k_is); (case zqk8 => first | ktr_room | (rw [depth_under_kw]; (try dsimp only); omega)); (case zqk9 => exact BindsTo.of_eq rfl); (case zqc5 => decide); (case zqkB => exact locs rfl); (case zqc2 => exact rfl); (case zqc3 => exact rfl); (case zqc4 => exact rfl); k_whole; intro _ _ _ _ _ _; walk_at "cdA"))
  k_with "call type:set" => (k_here; (with_reducible show wpAny _ _ (call (Value.type "set") [Value.ref _]) _ _ _); k_dflt (refine' set_strs ?zqh ?zqF ?zqN ?zqm ?zqi ?zqb ?_; (case zqh => rfl); (case zqF => k_asm); (case zqN => k_asm); (case zqm => k_mem); (case zqi => assumption); (case zqb => omega)); intro _ _ _ _ _ _ _; walk_at "lt2"; (try k_sweep))
  k_with "getAttr ref" => (k_here; (with_reducible show wpAny _ _ (getAttr (Value.ref _) (Str.ofString "__contains__") true) _ _ _); k_dflt (refine' getAttr_contains ?zqF ?zqN ?zqm ?zqs ?_; (case zqF => k_asm); (case zqN => k_asm); (case zqm => k_mem); (case zqs => assumption)); intro _ _ _ _; walk_at "lt0"; (try k_sweep))
  k_with "call builtin:iter" => (k_here; (with_reducible show wpAny _ _ (call (Value.builtin "iter") [Value.ref _]) _ _ _); k_dflt (refine' iter_list ?zqF ?zqN ?zqm ?_; (case zqF => k_asm); (case zqN => k_asm); (case zqm => k_mem); k_whole); intro _ _ _ _; walk_at "lt0"; (try k_sweep))
  trivial
set_option maxHeartbeats 4000000 in
theorem dif_ok (w : World) {p : Program} {loose : List Str} {mean : ExcName → Option Value} {mg mb : Str → Option Value}
  {dp un : Nat} {gd : Option (List Code)} {cn : Str} {cs : Scope} {a : Addr} {ccd : Value} {cl : List (Str × Addr)} {outer : List Env} {A₀ : Around} {base h₀ : Heap} {L : Addr} {m : Str → Option Value} {news : List (Addr × Obj)} {s : Shared}
    {Q E : Value → Shared → Prop}
    (B : Below A₀ base outer h₀) (F : Fr h₀ L s.heap m) (X : (K w.params).In h₀) (N : News h₀ L s.heap news) (T : Top p loose mean mg mb h₀) (hk : cs.kind = .function)
    (hdp : dp + 160 < recursionLimit) (hun : un + 620 < cLine)
    (c o : Addr) (cvs ovs : List Value) (css oss : List Str) (hcs : StrsAre cvs css) (hos : StrsAre ovs oss) (nc no : Nat) (hc : (c, listOf cvs.toArray nc) ∈ news) (ho : (o, listOf ovs.toArray no) ∈ news) (hcl : css.length ≤ 100) (hol : oss.length ≤ 100)
    (hret : ∀ h' tk x d I q D so n, so.SetObjOf (PySem.strKind PySem.Challenge.rw_ij0017_01.row.prog w) (fun k => decide (k ∈ oss)) n → n ≤ 1000 → Fr h₀ L h' m →
      News h₀ L h' ((I, liObj c 0) :: (x, ffObj d I q) :: (d, dictOf [] 0) :: (q, bmObj D) :: (D, so) :: news) → (∀ p ∈ news, p.1 < D) → D < q → q < d → d < x → x < I → Q (.ref x) { s with heap := h', toks := tk }) :
    wpAny (model PySem.Challenge.rw_ij0017_01.row.prog w) (ktrTop dp un gd cn cs L a ccd cl outer) (call (.ref 154) [.ref c, .ref o]) Q E s := by
  revert X; k_fill; intro X
  try walk_at "tidy"
  k_steps
  rename_i kF kN _ _
  exact hret _ _ _ _ _ _ _ _ _ (by assumption) (by assumption) kF kN (by assumption) (And.left (by assumption)) (And.left (by assumption)) (by assumption) (And.left (by assumption))
theorem walkWords8 : True := by
  w_top off
  k_with_none
  k_with "via" => first | exact Mine.viaHead _ | (refine Mine.viaTail ?_; k_extra "via") | exact Mine.viaLast _ | fail
  k_with "conj" => with_reducible first | assumption | (refine' Mine.viaLt ?zqh ?zqk; (case zqh => assumption); (case zqk => k_extra "via")) | (refine' Mine.viaNe ?zqh ?zqk; (case zqh => assumption); (case zqk => k_extra "via")) | fail
  k_with "up" => with_reducible first | exact Mine.u0 | exact Mine.u1 | exact Mine.u2 | exact Mine.u3 | exact Mine.u4 | exact Mine.u5 | exact Mine.u6 | exact Mine.u7 | exact Mine.u8 | fail
  k_with "omega" => first | (k_whole; with_reducible first | assumption | exact Mine.v0 | exact Mine.v1 | exact Mine.v2 | exact Mine.v3 | exact Mine.v4 | exact Mine.v5 | exact Mine.v6 | exact Mine.v7 | exact Mine.v8 | k_extra "conj" | (refine Mine.neGt ?_; k_extra "conj") | (refine Mine.neLt ?_; k_extra "conj") | k_extra "up" | exact Int.natCast_nonneg _ | decide | exact Mine.leCut (by assumption) | exact Mine.ltCut (by assumption) | exact Mine.leCut' (by assumption) | exact Mine.ltCut' (by assumption) | exact Mine.iCut1 (by assumption) | exact Mine.iCut2 (by assumption) | exact Mine.iCut3 (by assumption) | exact Mine.iCut4 (by assumption) | fail) | (k_whole; lia) | omega +splitDisjunctions | ((dsimp +zetaDelta only at *); omega +splitDisjunctions)
  k_with "ne" => (refine PySem.W.neN ?_; (try dsimp only); first | (refine Mine.neGt ?_; first | k_extra "conj" | k_extra "up") | (refine Mine.neLt ?_; first | k_extra "conj" | k_extra "up") | (refine Mine.neSym ?_; k_extra "conj") | omega)
  k_with "rows" => with_reducible first | show wpAny _ _ (exec (Stmt.While _ _ _ _) _) _ _ _ | show wpAny _ _ (exec (Stmt.For _ _ _ _ _) _) _ _ _ | show wpAny _ _ (eval (Expr.ListComp _ _ _ _) _) _ _ _ | show wpAny _ _ (exec (Stmt.Assign _ (Expr.ListComp _ _ _ _) _) _) _ _ _ | fail
  k_with "steps" => repeat' (first | ((fail_if_success keq_rows); (first | (k_unfold; (try dsimp only)) | (k_end; wrow_close) | ((first | walk1 | (dsimp only; walk1)); (all_goals try walk_at "tidy")) | (leave1; walk_say "STEP leave1"; try dsimp only))) | fail "no step")
  k_with "tidy" => ((try ((with_reducible show wpAny _ _ (exec _ _) _ _ _); (fail_if_success fail_if_success k_fold); refine Mine.foldQ ?_; intro _)); (try ((fail_if_success fail_if_success (first | conv in (Around.deeper _ _) => skip | conv in (ktrTop _ _ _ _ _ _ _ _ _ _) => skip)); refine Mine.foldE ?_; intro _; refine Mine.foldA ?_; intro _)); (try ((fail_if_success fail_if_success (conv in (Shared.mk _ _ _ _ _) => skip)); (with_reducible show wpAny _ _ (exec _ _) _ _ _); refine Mine.foldS ?_; intro _)))
  k_with "flat" => with_reducible first | ((refine Mine.an12 ?_; iterate 11 intro _); walk_at "flat") | ((refine Mine.an6 ?_; iterate 5 intro _); walk_at "flat") | ((refine Mine.an3 ?_; iterate 2 intro _); walk_at "flat") | ((refine Mine.an2 ?_; iterate 1 intro _); walk_at "flat") | ((refine Mine.ex15 ?_; iterate 15 intro _); walk_at "flat") | ((refine Mine.ex8 ?_; iterate 8 intro _); walk_at "flat") | ((refine Mine.ex4 ?_; iterate 4 intro _); walk_at "flat") | ((refine Mine.ex2 ?_; iterate 2 intro _); walk_at "flat") | ((refine Mine.ex1 ?_; iterate 1 intro _); walk_at "flat") | intro _
  k_with "call ref" => (k_here; refine wpAny_call ?_; k_dflt (first | (refine' code_def ?zqk1 ?zqk2 ?zqk3 ?zqk4 ?zqk5 ?zqkA ?zqkF ?zqkK ?zqk6 ?zqk7 ?zqk8 ?zqk9 ?zqkB ?_ ?zqc2 ?zqc3 ?zqc4 ?zqc5; (case zqkA => exact rfl); (case zqkF => exact rfl); (case zqkK => first | exact rfl | assumption); (case zqk1 => k_asm); (case zqk2 => k_asm); (case zqk3 => k_asm); (case zqk4 => k_asm); (case zqk5 => k_asm); (case zqk6 => k_is); (case zqk7 => k_is); (case zqk8 => ktr_room); (case zqk9 => exact BindsTo.of_eq rfl); (case zqc5 => decide); (case zqkB => exact locs rfl); (case zqc2 => exact rfl); (case zqc3 => exact rfl); (case zqc4 => exact rfl); k_whole; intro _ _ _ _ _ _; walk_at "cdA") | (refine' code_defC ?zqk1 ?zqk2 ?zqk3 ?zqk4 ?zqk5 ?zqkA ?zqkF ?zqkK ?zqk6 ?zqk7 ?zqk8 ?zqk9 ?zqkB ?zqkD ?_ ?zqc2 ?zqc3 ?zqc4; (case zqkA => exact rfl); (case zqkF => exact rfl); (case zqkK => first | exact rfl | assumption); (case zqk1 => k_asm); (case zqk2 => k_asm); (case zqk3 => k_asm); (case zqk4 => k_asm); (case zqk5 => k_asm); (case zqk6 => k_is); (case zqk7 => k_is); (case zqk8 => ktr_room); (case zqk9 => exact BindsTo.of_eq rfl); (case zqkB => exact rfl); (case zqkD => decide +kernel); (case zqc2 => exact rfl); (case zqc3 => exact rfl); (case zqc4 => exact rfl); k_whole; intro _ _ _ _ _ _ _; walk_at "cdC")))
  k_with "call type:list" => (k_here; (with_reducible show wpAny _ _ (call (Value.type "list") [Value.ref _]) _ _ _); k_dflt (refine' list_copyK ?zqF ?zqN ?zql ?_ ?zqz; (case zqF => k_asm); (case zqN => k_asm); (case zql => exact News.isList (by k_asm) (by k_mem)); (case zqz => (rw [List.size_toArray, sizeLine_eq]; omega)); k_whole); intro _ _ _ _ _; walk_at "lt0"; (try k_sweep))
  k_with "mem" => first | exact List.Mem.head _ | assumption | (refine' List.Mem.tail _ ?_; k_mem)
  k_with "call builtin:len" => (k_here; (with_reducible show wpAny _ _ (call (Value.builtin "len") [Value.ref _]) _ _ _); k_dflt (refine' len_L ?zqN ?zqm ?zqf ?_; (case zqN => k_asm); (case zqm => k_mem); (case zqf => omega); k_whole))
  k_with "eval Name" => (k_here; (with_reducible show wpAny _ _ (eval (Expr.Name _ _) (envOf _ _ _ _ _)) _ _ _); k_dflt (refine' nameX_L (cl := []) ?zqF ?zqv ?_ ?zqa ?zqb; (case zqF => k_asm); (case zqa => rfl); (case zqb => rfl); (case zqv => first | exact rfl | assumption); k_whole))
  k_with "eval Name" => (k_here; (with_reducible show wpAny _ _ (eval (Expr.Name _ _) (envOfC _ _ _ _ _)) _ _ _); k_dflt (refine' nameX_L ?zqF ?zqv ?_ ?zqa ?zqb; (case zqF => k_asm); (case zqa => rfl); (case zqb => rfl); (case zqv => first | exact rfl | assumption); k_whole))
  k_with "all" => exact all_ge (by assumption) (by omega)
  k_with "eval Name" => (k_here; (with_reducible show wpAny _ _ (eval (Expr.Name _ _) (compEnvC _ _ _ (envOfC _ _ _ _ _))) _ _ _); k_dflt (first | (refine' ce_L ?zqN ?zqC ?zqm ?zqv ?_ ?zqa; (case zqa => decide +kernel); (case zqN => k_asm); (case zqC => assumption); (case zqm => k_mem); (case zqv => assumption); k_whole) | (refine' ce_C ?zqN ?zqa ?zqc ?zqm ?zqd ?_; (case zqa => decide +kernel); (case zqN => k_asm); (case zqc => rfl); (case zqm => k_mem); (case zqd => assumption); k_whole)))
  k_with "compareOp NotIn int ref" => (k_here; k_dflt (refine' notIn_L ?zqN ?zqm ?zqi ?_; (case zqN => k_asm); (case zqm => k_mem); (case zqi => first | assumption | exact ints_drop (by assumption) _); k_whole))
  k_with "compareOp In int ref" => (k_here; k_dflt (refine' in_L ?zqN ?zqm ?zqi ?_; (case zqN => k_asm); (case zqm => k_mem); (case zqi => first | assumption | exact ints_drop (by assumption) _); k_whole))
  k_with "subscriptTail Name Slice ref ref" => (k_here; (with_reducible show wpAny _ _ (subscriptTail _ (PySem.Expr.Slice (some _) none none _) (Value.ref _) (Value.ref _)) _ _ _); k_dflt (refine' slice_K ?zqF ?zqN ?zqm (IsPart.int _ _) IsPart.none (pick_from _ ?zqe) ?_ ?zqs ?zqt ?zqz; (case zqF => k_asm); (case zqN => k_asm); (case zqm => k_mem); (case zqe => omega); (case zqs => with_unfolding_all rfl); (case zqt => (intro _; with_unfolding_all rfl)); (case zqz => omega)); intro _ _ _ _; walk_at "lt0"; (try k_sweep))
  k_with "subscriptTail" => (k_here; (with_reducible show wpAny _ _ (subscriptTail _ _ (Value.ref _) (Value.int _ _)) _ _ _); k_dflt (refine' item_L ?zqN ?zqm ?zqa ?zqb ?zqx ?_ ?zqs; (case zqN => k_asm); (case zqm => k_mem); (case zqa => omega); (case zqb => omega); (case zqx => first | exact rfl | assumption); (case zqs => with_unfolding_all rfl); k_whole))
  k_with "setItem ref int" => (k_here; k_dflt (refine' setItem_D (isI _ _) ?zqF ?zqN ?zqU ?zqd ?zqz ?_; (case zqF => k_asm); (case zqN => k_asm); (case zqU => k_updF); (case zqd => assumption); (case zqz => omega); k_whole); intro _ _ _; walk_at "ds"; intro _; (try k_sweep))
  k_with "call builtin:list.remove" => (k_here; k_dflt (refine' remove_L ?zqF ?zqN ?zqU ?zqi ?zqx ?zqz ?_; (case zqF => k_asm); (case zqN => k_asm); (case zqU => k_updF); (case zqi => assumption); (case zqx => assumption); (case zqz => omega); k_whole); intro _ _ _ _; walk_at "ds"; intro _; (try k_sweep))
  k_with "compareOp In int ref" => (k_here; k_dflt (first | (refine' in_DI0 ?zqN ?zqd ?zqm ?zqv ?zqlo ?zqz ?_; (case zqN => k_asm); (case zqz => assumption); (case zqm => k_mem); (case zqd => assumption); (case zqv => assumption); (case zqlo => assumption); k_whole) | (refine' in_DI1 ?zqN ?zqd ?zqm ?zqv ?zqlo ?zqz ?_; (case zqN => k_asm); (case zqz => assumption); (case zqm => k_mem); (case zqd => assumption); (case zqv => assumption); (case zqlo => assumption); k_whole)))
  k_with "subscriptTail" => (k_here; (with_reducible show wpAny _ _ (subscriptTail _ _ (Value.ref _) (Value.int _ _)) _ _ _); k_dflt (refine' item_DI ?zqN ?zqd ?zqm ?zqv ?zqz ?_ ?zqs; (case zqN => k_asm); (case zqz => assumption); (case zqm => k_mem); (case zqd => assumption); (case zqv => assumption); (case zqs => with_unfolding_all rfl); k_whole); intro _)
  k_with "call builtin:list.append" => (k_here; (with_reducible show wpAny _ _ (call (Value.builtin _) [Value.ref _, _]) _ _ _); k_dflt (refine' append_L ?zqF ?zqN ?zqU ?zqz ?_; (case zqF => k_asm); (case zqN => k_asm); (case zqU => k_updF); (case zqz => omega); k_whole); intro _ _; walk_at "ds"; (try k_sweep))
  k_with "enter" => ((fail_if_success k_inElt); (refine' kp_rest ?zqk1 ?zqk2 ?zqk3 ?zqk4 ?zqk5 ?zqkA ?zqkF ?zqkK ?zqk6 ?zqk7 ?zqk8 ?zqkV ?zqkP ?zqkG ?zqkB ?_ ?zqc2 ?zqc3 ?zqc4 ?zqc5; (case zqkA => exact rfl); (case zqkF => exact rfl); (case zqkK => first | exact rfl | assumption); (case zqk1 => k_asm); (case zqk2 => k_asm); (case zqk3 => k_asm); (case zqk4 => k_asm); (case zqk5 => k_asm); (case zqk6 => k_is); (case zqk7 => k_is); (case zqk8 => first | ktr_room | (rw [depth_under_kw]; (try dsimp only); omega)); (case zqkV => kl_lit); (case zqkP => exact rfl); (case zqkG => exact fun _ => rfl); (case zqkB => exact fun _ => locs rfl); (case zqc5 => decide); (case zqc2 => exact rfl); (case zqc3 => exact rfl); (case zqc4 => exact rfl); k_whole; intro _ _ _ _; walk_at "cdP"))
  k_with "enter" => ((fail_if_success k_inElt); (refine' code_def ?zqk1 ?zqk2 ?zqk3 ?zqk4 ?zqk5 ?zqkA ?zqkF ?zqkK ?zqk6 ?zqk7 ?zqk8 ?zqk9 ?zqkB ?_ ?zqc2 ?zqc3 ?zqc4 ?zqc5; (case zqkA => exact rfl); (case zqkF => exact rfl); (case zqkK => first | exact rfl | assumption); (case zqk1 => k_asm); (case zqk2 => k_asm); (case zqk3 => k_asm); (case zqk4 => k_asm); (case zqk5 => k_asm); (case zqk6 => k_is); (case zqk7 => k_is); (case zqk8 => first | ktr_room | (rw [depth_under_kw]; (try dsimp only); omega)); (case zqk9 => exact BindsTo.of_eq rfl); (case zqc5 => decide); (case zqkB => exact locs rfl); (case zqc2 => exact rfl); (case zqc3 => exact rfl); (case zqc4 => exact rfl); k_whole; intro _ _ _ _ _ _; walk_at "cdA"))
  k_with "all" => assumption
  k_with "call builtin:next" => (k_here; (with_reducible show wpAny _ _ (call (Value.builtin "next") [Value.ref _]) _ _ _); k_dflt (refine' next_list_item ?zqF ?zqN ?zqU ?zqm ?zqx ?_; (case zqF => k_asm); (case zqN => k_asm); (case zqU => k_updF); (case zqm => k_mem); (case zqx => assumption)); intro _ _; walk_at "ds"; (try k_sweep))
  k_with "call ref" => (k_here; (with_reducible show wpAny _ _ (call (Value.ref _) [Value.str _ _]) _ _ _); k_dflt (refine' call_contains_b ?zqN ?zqq ?zqm ?zqs ?zqn _ _ ?zqb ?_; (case zqN => k_asm); (case zqq => k_mem); (case zqm => k_mem); (case zqs => assumption); (case zqn => assumption); (case zqb => assumption)))
  k_with "callWith ref" => (k_here; k_dflt (refine' callWith_B ?zqN ?zqq ?_; (case zqN => k_asm); (case zqq => k_mem); k_whole))
  k_with "And" => ((with_reducible show BmP _ _ _ ∧ _); k_dflt (refine ⟨bmP (by k_asm) (by k_mem), ?_⟩); (try dsimp only [List.nil_append, List.cons_append]))
  trivial
set_option maxHeartbeats 4000000 in
theorem ffn_item (w : World) {p : Program} {loose : List Str} {mean : ExcName → Option Value} {mg mb : Str → Option Value}
  {dp un : Nat} {gd : Option (List Code)} {cn : Str} {cs : Scope} {a : Addr} {ccd : Value} {cl : List (Str × Addr)} {outer : List Env} {A₀ : Around} {base h₀ : Heap} {L : Addr} {m : Str → Option Value} {rest : List (Addr × Obj)} {s : Shared}
    {Q E : Value → Shared → Prop} {x d I q D c : Addr} {so : Obj} {n nc i j : Nat} {cvs : List Value} {css oss : List Str} {y : Str}
    (B : Below A₀ base outer h₀) (F : Fr h₀ L s.heap m) (X : (K w.params).In h₀) (N : News h₀ L s.heap ((I, liObj c i) :: rest)) (T : Top p loose mean mg mb h₀) (hk : cs.kind = .function)
    (hdp : dp + 150 < recursionLimit) (hun : un + 600 < cLine)
    (hx : (x, ffObj d I q) ∈ rest) (hd : (d, dictOf [] 0) ∈ rest) (hq : (q, bmObj D) ∈ rest) (hD : (D, so) ∈ rest) (hc : (c, listOf cvs.toArray nc) ∈ rest) (hIr : ∀ p ∈ rest, p.1 ≠ I)
    (hso : so.SetObjOf (PySem.strKind PySem.Challenge.rw_ij0017_01.row.prog w) (fun k => decide (k ∈ oss)) n) (hn : n ≤ 1000) (hcs : StrsAre cvs css)
    (hj : css[j]? = some y) (hij : i ≤ j) (hy : y ∉ oss) (hskip : ∀ k z, i ≤ k → k < j → css[k]? = some z → z ∈ oss)
    (hret : ∀ h' tk t, Fr h₀ L h' m → News h₀ L h' ((I, liObj c (j + 1)) :: rest) → Q (.str y t) { s with heap := h', toks := tk }) :
    wpAny (model PySem.Challenge.rw_ij0017_01.row.prog w) (ktrTop dp un gd cn cs L a ccd cl outer) (call (.ref 104) [.ref x]) Q E s := by
  revert X; k_fill; intro X
  try walk_at "tidy"
  k_steps
  rename_i gF LF h1 FG BG XG TG _ _ _ _ _ h2 F1 N1 _ _
  refine while_rule (fun k s' => ∃ i' m' h' tk', i' + k = j ∧ i ≤ i' ∧ s' = { s with heap := h', toks := tk' } ∧ Fr gF LF h' m' ∧ m' "func" = some (.ref q) ∧ m' "self" = some (.ref x) ∧ News gF LF h' ((I, liObj c i') :: rest)) (j - i) ?h0 ?turn
  case h0 => exact ⟨i, _, h2, _, by omega, Nat.le_refl _, rfl, F1, rfl, rfl, N1⟩
  case turn =>
    rintro k s'
    walk_at "flat"
    rename_i i' m' h' tk' hik hii hz91 F2 hm1 hm2 N2
    subst hz91
    clear F1 N1 N F
    cases k with
    | zero =>
      obtain rfl : i' = j := by omega
      obtain ⟨t, ht⟩ := hcs.get i' y hj
      have hit : cvs.toArray[i']? = some (.str y t) := by simpa using ht
      have hyb : decide (y ∈ oss) = false := decide_eq_false hy
      k_steps
      rename_i kF kN kT kX
      exact hret _ _ _ kF kN
    | succ k =>
      have hlt : i' < css.length := by
        have := (List.getElem?_eq_some_iff.mp hj).1
        omega
      have hz : css[i']? = some css[i'] := List.getElem?_eq_getElem hlt
      generalize css[i'] = z at hz
      obtain ⟨t, ht⟩ := hcs.get i' z hz
      have hit : cvs.toArray[i']? = some (.str z t) := by simpa using ht
      have hzb : decide (z ∈ oss) = true := decide_eq_true (hskip i' z hii (by omega) hz)
      k_steps
      rename_i h9 F9 N9 _ _ _ _
      exact ⟨k, Nat.lt_succ_self k, i' + 1, _, h9, _, by omega, by omega, rfl, F9, hm1, hm2, N9⟩
theorem walkWords9 : True := by
  w_top off
  trivial
set_option maxHeartbeats 4000000 in
theorem ffn_stop (w : World) {p : Program} {loose : List Str} {mean : ExcName → Option Value} {mg mb : Str → Option Value}
  {dp un : Nat} {gd : Option (List Code)} {cn : Str} {cs : Scope} {a : Addr} {ccd : Value} {cl : List (Str × Addr)} {outer : List Env} {A₀ : Around} {base h₀ : Heap} {L : Addr} {m : Str → Option Value} {rest : List (Addr × Obj)} {s : Shared}
    {Q E : Value → Shared → Prop} {x d I q D c : Addr} {so : Obj} {n nc i : Nat} {cvs : List Value} {css oss : List Str}
    (B : Below A₀ base outer h₀) (F : Fr h₀ L s.heap m) (X : (K w.params).In h₀) (N : News h₀ L s.heap ((I, liObj c i) :: rest)) (T : Top p loose mean mg mb h₀) (hk : cs.kind = .function)
    (hdp : dp + 150 < recursionLimit) (hun : un + 600 < cLine)
    (hx : (x, ffObj d I q) ∈ rest) (hd : (d, dictOf [] 0) ∈ rest) (hq : (q, bmObj D) ∈ rest) (hD : (D, so) ∈ rest) (hc : (c, listOf cvs.toArray nc) ∈ rest) (hIr : ∀ p ∈ rest, p.1 ≠ I)
    (hso : so.SetObjOf (PySem.strKind PySem.Challenge.rw_ij0017_01.row.prog w) (fun k => decide (k ∈ oss)) n) (hn : n ≤ 1000) (hcs : StrsAre cvs css)
    (hi : i ≤ css.length) (hskip : ∀ k z, i ≤ k → css[k]? = some z → z ∈ oss)
    (hret : ∀ h' tk e h₀', KtsTurn (outer.filterMap (·.frame)) h₀ h₀' → Below A₀ base outer h₀' → Fr h₀' L h' m → News h₀' L h' rest → (∃ ob, h'.get? e = some ob ∧ ob.cls = .type "StopIteration") → E (.ref e) { s with heap := h', toks := tk }) :
    wpAny (model PySem.Challenge.rw_ij0017_01.row.prog w) (ktrTop dp un gd cn cs L a ccd cl outer) (call (.ref 104) [.ref x]) Q E s := by
  revert X; k_fill; intro X
  try walk_at "tidy"
  k_steps
  rename_i gF LF h1 FG BG XG TG _ _ _ _ _ h2 F1 N1 _ _
  have hvl := hcs.length
  refine while_ruleE (fun k s' => ∃ i' m' h' tk', i' + k = css.length ∧ i ≤ i' ∧ s' = { s with heap := h', toks := tk' } ∧ Fr gF LF h' m' ∧ m' "func" = some (.ref q) ∧ m' "self" = some (.ref x) ∧ News gF LF h' ((I, liObj c i') :: rest)) (css.length - i) ?h0 ?turn
  case h0 => exact ⟨i, _, h2, _, by omega, Nat.le_refl _, rfl, F1, rfl, rfl, N1⟩
  case turn =>
    rintro k s'
    walk_at "flat"
    rename_i i' m' h' tk' hik hii hz91 F2 hm1 hm2 N2
    subst hz91
    clear F1 N1 N F
    cases k with
    | zero =>
      have hnone : cvs.toArray[i']? = none := by
        rw [List.getElem?_toArray, List.getElem?_eq_none_iff]
        omega
      k_steps
      refine next_list_end rfl N2 (.head _) (.tail _ hc) hnone ?_
      intro h4 h5 e hk4 hx5
      have hIn := N2 _ (List.mem_cons_self ..)
      have F4 : Fr gF LF h4 m' := ⟨F2.ns.at' fun o e => hk4 _ o (Ne.symm hIn.2.1) e, fun b o e => hk4 b o (fun q => by have := hIn.2.2; rw [← q, e] at this; cases this) (F2.keep b o e), F2.above⟩
      have N4 : News gF LF h4 rest := fun p hp => ⟨hk4 _ _ (hIr p hp) (N2 p (.tail _ hp)).1, (N2 p (.tail _ hp)).2⟩
      unfold notedBy
      refine note_new (h := h4) rfl rfl (BG.push F4).frames hx5 fun h6 TT hx6 hTn Gr6 => ?_
      refine back_at rfl hx6 fun h7 hx7 hk7 => ?_
      show wpAny _ _ (leaving _ _) _ _ _
      refine leave_at rfl hx7 fun h8 hx8 hk8 => ?_
      have Gr8 := (Gr6.but hTn hk7).but hTn hk8
      obtain ⟨g8, T8, F8, K8⟩ := grown_ground BG F4 rfl Gr8
      have N8 := news_grown BG F4 N4 rfl Gr8 T8
      obtain ⟨h₀', T', B', F', N'⟩ := back_ground (h' := h8) (led := rest) B FG rfl T8 F8.keep (fun p hp => ⟨(N8 p hp).1, (N4 p hp).2.2⟩)
      obtain ⟨oe13, _, _, _, he13, hc13, _⟩ := hx8
      exact hret _ _ _ _ T' B' F' N' ⟨oe13, he13, hc13⟩
    | succ k =>
      have hlt : i' < css.length := by omega
      have hz : css[i']? = some css[i'] := List.getElem?_eq_getElem hlt
      generalize css[i'] = z at hz
      obtain ⟨t, ht⟩ := hcs.get i' z hz
      have hit : cvs.toArray[i']? = some (.str z t) := by simpa using ht
      have hzb : decide (z ∈ oss) = true := decide_eq_true (hskip i' z hii hz)
      k_steps
      rename_i h9 F9 N9 _ _ _ _
      exact ⟨k, Nat.lt_succ_self k, i' + 1, _, h9, _, by omega, by omega, rfl, F9, hm1, hm2, N9⟩
theorem walkWords10 : True := by
  w_top off
  k_with_none
  k_with "via" => first | exact Mine.viaHead _ | (refine Mine.viaTail ?_; k_extra "via") | exact Mine.viaLast _ | fail
  k_with "conj" => with_reducible first | assumption | (refine' Mine.viaLt ?zqh ?zqk; (case zqh => assumption); (case zqk => k_extra "via")) | (refine' Mine.viaNe ?zqh ?zqk; (case zqh => assumption); (case zqk => k_extra "via")) | fail
  k_with "up" => with_reducible first | exact Mine.u0 | exact Mine.u1 | exact Mine.u2 | exact Mine.u3 | exact Mine.u4 | exact Mine.u5 | exact Mine.u6 | exact Mine.u7 | exact Mine.u8 | fail
  k_with "omega" => first | (k_whole; with_reducible first | assumption | exact Mine.v0 | exact Mine.v1 | exact Mine.v2 | exact Mine.v3 | exact Mine.v4 | exact Mine.v5 | exact Mine.v6 | exact Mine.v7 | exact Mine.v8 | k_extra "conj" | (refine Mine.neGt ?_; k_extra "conj") | (refine Mine.neLt ?_; k_extra "conj") | k_extra "up" | exact Int.natCast_nonneg _ | decide | exact Mine.leCut (by assumption) | exact Mine.ltCut (by assumption) | exact Mine.leCut' (by assumption) | exact Mine.ltCut' (by assumption) | exact Mine.iCut1 (by assumption) | exact Mine.iCut2 (by assumption) | exact Mine.iCut3 (by assumption) | exact Mine.iCut4 (by assumption) | fail) | (k_whole; lia) | omega +splitDisjunctions | ((dsimp +zetaDelta only at *); omega +splitDisjunctions)
  k_with "ne" => (refine PySem.W.neN ?_; (try dsimp only); first | (refine Mine.neGt ?_; first | k_extra "conj" | k_extra "up") | (refine Mine.neLt ?_; first | k_extra "conj" | k_extra "up") | (refine Mine.neSym ?_; k_extra "conj") | omega)
  k_with "rows" => with_reducible first | show wpAny _ _ (exec (Stmt.While _ _ _ _) _) _ _ _ | show wpAny _ _ (exec (Stmt.For _ _ _ _ _) _) _ _ _ | show wpAny _ _ (eval (Expr.ListComp _ _ _ _) _) _ _ _ | show wpAny _ _ (exec (Stmt.Assign _ (Expr.ListComp _ _ _ _) _) _) _ _ _ | fail
  k_with "steps" => repeat' (first | ((fail_if_success keq_rows); (first | (k_unfold; (try dsimp only)) | (k_end; wrow_close) | ((first | walk1 | (dsimp only; walk1)); (all_goals try walk_at "tidy")) | (leave1; walk_say "STEP leave1"; try dsimp only))) | fail "no step")
  k_with "tidy" => ((try ((with_reducible show wpAny _ _ (exec _ _) _ _ _); (fail_if_success fail_if_success k_fold); refine Mine.foldQ ?_; intro _)); (try ((fail_if_success fail_if_success (first | conv in (Around.deeper _ _) => skip | conv in (ktrTop _ _ _ _ _ _ _ _ _ _) => skip)); refine Mine.foldE ?_; intro _; refine Mine.foldA ?_; intro _)); (try ((fail_if_success fail_if_success (conv in (Shared.mk _ _ _ _ _) => skip)); (with_reducible show wpAny _ _ (exec _ _) _ _ _); refine Mine.foldS ?_; intro _)))
  k_with "flat" => with_reducible first | ((refine Mine.an12 ?_; iterate 11 intro _); walk_at "flat") | ((refine Mine.an6 ?_; iterate 5 intro _); walk_at "flat") | ((refine Mine.an3 ?_; iterate 2 intro _); walk_at "flat") | ((refine Mine.an2 ?_; iterate 1 intro _); walk_at "flat") | ((refine Mine.ex15 ?_; iterate 15 intro _); walk_at "flat") | ((refine Mine.ex8 ?_; iterate 8 intro _); walk_at "flat") | ((refine Mine.ex4 ?_; iterate 4 intro _); walk_at "flat") | ((refine Mine.ex2 ?_; iterate 2 intro _); walk_at "flat") | ((refine Mine.ex1 ?_; iterate 1 intro _); walk_at "flat") | intro _
  k_with "call ref" => (k_here; refine wpAny_call ?_; k_dflt (first | (refine' code_def ?zqk1 ?zqk2 ?zqk3 ?zqk4 ?zqk5 ?zqkA ?zqkF ?zqkK ?zqk6 ?zqk7 ?zqk8 ?zqk9 ?zqkB ?_ ?zqc2 ?zqc3 ?zqc4 ?zqc5; (case zqkA => exact rfl); (case zqkF => exact rfl); (case zqkK => first | exact rfl | assumption); (case zqk1 => k_asm); (case zqk2 => k_asm); (case zqk3 => k_asm); (case zqk4 => k_asm); (case zqk5 => k_asm); (case zqk6 => k_is); (case zqk7 => k_is); (case zqk8 => ktr_room); (case zqk9 => exact BindsTo.of_eq rfl); (case zqc5 => decide); (case zqkB => exact locs rfl); (case zqc2 => exact rfl); (case zqc3 => exact rfl); (case zqc4 => exact rfl); k_whole; intro _ _ _ _ _ _; walk_at "cdA") | (refine' code_defC ?zqk1 ?zqk2 ?zqk3 ?zqk4 ?zqk5 ?zqkA ?zqkF ?zqkK ?zqk6 ?zqk7 ?zqk8 ?zqk9 ?zqkB ?zqkD ?_ ?zqc2 ?zqc3 ?zqc4; (case zqkA => exact rfl); (case zqkF => exact rfl); (case zqkK => first | exact rfl | assumption); (case zqk1 => k_asm); (case zqk2 => k_asm); (case zqk3 => k_asm); (case zqk4 => k_asm); (case zqk5 => k_asm); (case zqk6 => k_is); (case zqk7 => k_is); (case zqk8 => ktr_room); (case zqk9 => exact BindsTo.of_eq rfl); (case zqkB => exact rfl); (case zqkD => decide +kernel); (case zqc2 => exact rfl); (case zqc3 => exact rfl); (case zqc4 => exact rfl); k_whole; intro _ _ _ _ _ _ _; walk_at "cdC")))
  k_with "call type:list" => (k_here; (with_reducible show wpAny _ _ (call (Value.type "list") [Value.ref _]) _ _ _); k_dflt (refine' list_copyK ?zqF ?zqN ?zql ?_ ?zqz; (case zqF => k_asm); (case zqN => k_asm); (case zql => exact News.isList (by k_asm) (by k_mem)); (case zqz => (rw [List.size_toArray, sizeLine_eq]; omega)); k_whole); intro _ _ _ _ _; walk_at "lt0"; (try k_sweep))
  k_with "mem" => first | exact List.Mem.head _ | assumption | (refine' List.Mem.tail _ ?_; k_mem)
  k_with "call builtin:len" => (k_here; (with_reducible show wpAny _ _ (call (Value.builtin "len") [Value.ref _]) _ _ _); k_dflt (refine' len_L ?zqN ?zqm ?zqf ?_; (case zqN => k_asm); (case zqm => k_mem); (case zqf => omega); k_whole))
  k_with "eval Name" => (k_here; (with_reducible show wpAny _ _ (eval (Expr.Name _ _) (envOf _ _ _ _ _)) _ _ _); k_dflt (refine' nameX_L (cl := []) ?zqF ?zqv ?_ ?zqa ?zqb; (case zqF => k_asm); (case zqa => rfl); (case zqb => rfl); (case zqv => first | exact rfl | assumption); k_whole))
  k_with "eval Name" => (k_here; (with_reducible show wpAny _ _ (eval (Expr.Name _ _) (envOfC _ _ _ _ _)) _ _ _); k_dflt (refine' nameX_L ?zqF ?zqv ?_ ?zqa ?zqb; (case zqF => k_asm); (case zqa => rfl); (case zqb => rfl); (case zqv => first | exact rfl | assumption); k_whole))
  k_with "all" => exact all_ge (by assumption) (by omega)
  k_with "eval Name" => (k_here; (with_reducible show wpAny _ _ (eval (Expr.Name _ _) (compEnvC _ _ _ (envOfC _ _ _ _ _))) _ _ _); k_dflt (first | (refine' ce_L ?zqN ?zqC ?zqm ?zqv ?_ ?zqa; (case zqa => decide +kernel); (case zqN => k_asm); (case zqC => assumption); (case zqm => k_mem); (case zqv => assumption); k_whole) | (refine' ce_C ?zqN ?zqa ?zqc ?zqm ?zqd ?_; (case zqa => decide +kernel); (case zqN => k_asm); (case zqc => rfl); (case zqm => k_mem); (case zqd => assumption); k_whole)))
  k_with "compareOp NotIn int ref" => (k_here; k_dflt (refine' notIn_L ?zqN ?zqm ?zqi ?_; (case zqN => k_asm); (case zqm => k_mem); (case zqi => first | assumption | exact ints_drop (by assumption) _); k_whole))
  k_with "compareOp In int ref" => (k_here; k_dflt (refine' in_L ?zqN ?zqm ?zqi ?_; (case zqN => k_asm); (case zqm => k_mem); (case zqi => first | assumption | exact ints_drop (by assumption) _); k_whole))
  k_with "subscriptTail Name Slice ref ref" => (k_here; (with_reducible show wpAny _ _ (subscriptTail _ (PySem.Expr.Slice (some _) none none _) (Value.ref _) (Value.ref _)) _ _ _); k_dflt (refine' slice_K ?zqF ?zqN ?zqm (IsPart.int _ _) IsPart.none (pick_from _ ?zqe) ?_ ?zqs ?zqt ?zqz; (case zqF => k_asm); (case zqN => k_asm); (case zqm => k_mem); (case zqe => omega); (case zqs => with_unfolding_all rfl); (case zqt => (intro _; with_unfolding_all rfl)); (case zqz => omega)); intro _ _ _ _; walk_at "lt0"; (try k_sweep))
  k_with "subscriptTail" => (k_here; (with_reducible show wpAny _ _ (subscriptTail _ _ (Value.ref _) (Value.int _ _)) _ _ _); k_dflt (refine' item_L ?zqN ?zqm ?zqa ?zqb ?zqx ?_ ?zqs; (case zqN => k_asm); (case zqm => k_mem); (case zqa => omega); (case zqb => omega); (case zqx => first | exact rfl | assumption); (case zqs => with_unfolding_all rfl); k_whole))
  k_with "setItem ref int" => (k_here; k_dflt (refine' setItem_D (isI _ _) ?zqF ?zqN ?zqU ?zqd ?zqz ?_; (case zqF => k_asm); (case zqN => k_asm); (case zqU => k_updF); (case zqd => assumption); (case zqz => omega); k_whole); intro _ _ _; walk_at "ds"; intro _; (try k_sweep))
  k_with "call builtin:list.remove" => (k_here; k_dflt (refine' remove_L ?zqF ?zqN ?zqU ?zqi ?zqx ?zqz ?_; (case zqF => k_asm); (case zqN => k_asm); (case zqU => k_updF); (case zqi => assumption); (case zqx => assumption); (case zqz => omega); k_whole); intro _ _ _ _; walk_at "ds"; intro _; (try k_sweep))
  k_with "compareOp In int ref" => (k_here; k_dflt (first | (refine' in_DI0 ?zqN ?zqd ?zqm ?zqv ?zqlo ?zqz ?_; (case zqN => k_asm); (case zqz => assumption); (case zqm => k_mem); (case zqd => assumption); (case zqv => assumption); (case zqlo => assumption); k_whole) | (refine' in_DI1 ?zqN ?zqd ?zqm ?zqv ?zqlo ?zqz ?_; (case zqN => k_asm); (case zqz => assumption); (case zqm => k_mem); (case zqd => assumption); (case zqv => assumption); (case zqlo => assumption); k_whole)))
  k_with "subscriptTail" => (k_here; (with_reducible show wpAny _ _ (subscriptTail _ _ (Value.ref _) (Value.int _ _)) _ _ _); k_dflt (refine' item_DI ?zqN ?zqd ?zqm ?zqv ?zqz ?_ ?zqs; (case zqN => k_asm); (case zqz => assumption); (case zqm => k_mem); (case zqd => assumption); (case zqv => assumption); (case zqs => with_unfolding_all rfl); k_whole); intro _)
  k_with "call builtin:list.append" => (k_here; (with_reducible show wpAny _ _ (call (Value.builtin _) [Value.ref _, _]) _ _ _); k_dflt (refine' append_L ?zqF ?zqN ?zqU ?zqz ?_; (case zqF => k_asm); (case zqN => k_asm); (case zqU => k_updF); (case zqz => omega); k_whole); intro _ _; walk_at "ds"; (try k_sweep))
  k_with "enter" => ((fail_if_success k_inElt); (refine' kp_rest ?zqk1 ?zqk2 ?zqk3 ?zqk4 ?zqk5 ?zqkA ?zqkF ?zqkK ?zqk6 ?zqk7 ?zqk8 ?zqkV ?zqkP ?zqkG ?zqkB ?_ ?zqc2 ?zqc3 ?zqc4 ?zqc5; (case zqkA => exact rfl); (case zqkF => exact rfl); (case zqkK => first | exact rfl | assumption); (case zqk1 => k_asm); (case zqk2 => k_asm); (case zqk3 => k_asm); (case zqk4 => k_asm); (case zqk5 => k_asm); (case zqk6 => k_is); (case zqk7 => k_is); (case zqk8 => first | ktr_room | (rw [depth_under_kw]; (try dsimp only); omega)); (case zqkV => kl_lit); (case zqkP => exact rfl); (case zqkG => exact fun _ => rfl); (case zqkB => exact fun _ => locs rfl); (case zqc5 => decide); (case zqc2 => exact rfl); (case zqc3 => exact rfl); (case zqc4 => exact rfl); k_whole; intro _ _ _ _; walk_at "cdP"))
  k_with "enter" => ((fail_if_success k_inElt); (refine' code_def ?zqk1 ?zqk2 ?zqk3 ?zqk4 ?zqk5 ?zqkA ?zqkF ?zqkK ?zqk6 ?zqk7 ?zqk8 ?zqk9 ?zqkB ?_ ?zqc2 ?zqc3 ?zqc4 ?zqc5; (case zqkA => exact rfl); (case zqkF => exact rfl); (case zqkK => first | exact rfl | assumption); (case zqk1 => k_asm); (case zqk2 => k_asm); (case zqk3 => k_asm); (case zqk4 => k_asm); (case zqk5 => k_asm); (case zqk6 => k_is); (case zqk7 => k_is); (case zqk8 => first | ktr_room | (rw [depth_under_kw]; (try dsimp only); omega)); (case zqk9 => exact BindsTo.of_eq rfl); (case zqc5 => decide); (case zqkB => exact locs rfl); (case zqc2 => exact rfl); (case zqc3 => exact rfl); (case zqc4 => exact rfl); k_whole; intro _ _ _ _ _ _; walk_at "cdA"))
  trivial
set_option maxHeartbeats 4000000 in
theorem dls_ok (w : World) {p : Program} {loose : List Str} {mean : ExcName → Option Value} {mg mb : Str → Option Value}
  {dp un : Nat} {gd : Option (List Code)} {cn : Str} {cs : Scope} {a : Addr} {ccd : Value} {cl : List (Str × Addr)} {outer : List Env} {A₀ : Around} {base h₀ : Heap} {L : Addr} {m : Str → Option Value} {news : List (Addr × Obj)} {s : Shared}
    {Q E : Value → Shared → Prop} {x d I q D c : Addr} {so : Obj} {n nc : Nat} {cvs : List Value} {css oss : List Str}
    (B : Below A₀ base outer h₀) (F : Fr h₀ L s.heap m) (X : (K w.params).In h₀) (N : News h₀ L s.heap ((I, liObj c 0) :: (x, ffObj d I q) :: (d, dictOf [] 0) :: (q, bmObj D) :: (D, so) :: news)) (T : Top p loose mean mg mb h₀) (hk : cs.kind = .function)
    (hdp : dp + 160 < recursionLimit) (hun : un + 620 < cLine)
    (hl1 : ∀ p ∈ news, p.1 < D) (hl2 : D < q) (hl3 : q < d) (hl4 : d < x) (hl5 : x < I) (hc : (c, listOf cvs.toArray nc) ∈ news)
    (hso : so.SetObjOf (PySem.strKind PySem.Challenge.rw_ij0017_01.row.prog w) (fun k => decide (k ∈ oss)) n) (hn : n ≤ 1000) (hcs : StrsAre cvs css) (hlen : css.length ≤ 100)
    (hret : ∀ h' tk S vs c h₀', KtsTurn (outer.filterMap (·.frame)) h₀ h₀' → Below A₀ base outer h₀' → Fr h₀' L h' m → News h₀' L h' ((S, listOf vs.toArray c) :: news) → (∀ p ∈ news, p.1 < S) → StrsAre vs (css.filter fun z => decide (z ∉ oss)) →
      Q (.ref S) { s with heap := h', toks := tk }) :
    wpAny (model PySem.Challenge.rw_ij0017_01.row.prog w) (ktrTop dp un gd cn cs L a ccd cl outer) (call (.type "list") [.ref x]) Q E s := by
  revert X; k_fill; intro X
  try walk_at "tidy"
  refine list_own (K := K w.params) (C := 108) (fi := 97) (gn := .ref 104) F X N (.tail _ (.head _)) (.tail _ (.tail _ (.head _))) (by k_is) (by k_is) (by k_is) (by k_is) (by k_is) ?hit ?hloop
  case hit =>
    rintro S s' hS ⟨h1, tk1, c1, rfl, F1, N1⟩
    clear F N
    k_steps
    rename_i kF kN _ _
    exact ⟨_, _, c1, rfl, kF, kN⟩
  case hloop =>
    rintro S s0 hS ⟨h1, tk1, c1, rfl, F1, N1⟩
    clear F N
    have hSI : I < S := hS _ (.head _)
    generalize hout : (css.filter fun z => decide (z ∉ oss)) = out at hret
    have hol : out.length ≤ 100 := by
      have := List.length_filter_le (fun z => decide (z ∉ oss)) css
      rw [hout] at this
      omega
    have hp1 : ∀ p ∈ news, p.1 < S := fun p hp => hS p (.tail _ (.tail _ (.tail _ (.tail _ (.tail _ hp)))))
    have toff : ∀ {h : Heap} {i : Nat} {acc : Array Value} {cS : Nat}, News h₀ L h ((S, listOf acc cS) :: (I, liObj c i) :: (x, ffObj d I q) :: (d, dictOf [] 0) :: (q, bmObj D) :: (D, so) :: news) → News h₀ L h ((I, liObj c i) :: (S, listOf acc cS) :: (x, ffObj d I q) :: (d, dictOf [] 0) :: (q, bmObj D) :: (D, so) :: news) := fun N => news_sub N (by
      intro p9 hp9
      rcases List.mem_cons.mp hp9 with rfl | hp9
      · exact .tail _ (.head _)
      rcases List.mem_cons.mp hp9 with rfl | hp9
      · exact .head _
      exact .tail _ (.tail _ hp9))
    have tof : ∀ {h : Heap} {i : Nat} {acc : Array Value} {cS : Nat}, News h₀ L h ((I, liObj c i) :: (S, listOf acc cS) :: (x, ffObj d I q) :: (d, dictOf [] 0) :: (q, bmObj D) :: (D, so) :: news) → News h₀ L h ((S, listOf acc cS) :: (I, liObj c i) :: (x, ffObj d I q) :: (d, dictOf [] 0) :: (q, bmObj D) :: (D, so) :: news) := fun N => news_sub N (by
      intro p9 hp9
      rcases List.mem_cons.mp hp9 with rfl | hp9
      · exact .tail _ (.head _)
      rcases List.mem_cons.mp hp9 with rfl | hp9
      · exact .head _
      exact .tail _ (.tail _ hp9))
    have hneI : ∀ {acc : Array Value} {cS : Nat}, ∀ p ∈ (S, listOf acc cS) :: (x, ffObj d I q) :: (d, dictOf [] 0) :: (q, bmObj D) :: (D, so) :: news, p.1 ≠ I := by
      intro acc cS p9 hp9
      simp only [List.mem_cons] at hp9
      rcases hp9 with rfl | rfl | rfl | rfl | rfl | h
      · exact Nat.ne_of_gt hSI
      · exact Nat.ne_of_lt hl5
      · exact Nat.ne_of_lt (Nat.lt_trans hl4 hl5)
      · exact Nat.ne_of_lt (Nat.lt_trans hl3 (Nat.lt_trans hl4 hl5))
      · exact Nat.ne_of_lt (Nat.lt_trans hl2 (Nat.lt_trans hl3 (Nat.lt_trans hl4 hl5)))
      · exact Nat.ne_of_lt (Nat.lt_trans (hl1 _ h) (Nat.lt_trans hl2 (Nat.lt_trans hl3 (Nat.lt_trans hl4 hl5))))
    have hneS : ∀ {i : Nat}, ∀ p ∈ (I, liObj c i) :: (x, ffObj d I q) :: (d, dictOf [] 0) :: (q, bmObj D) :: (D, so) :: news, p.1 ≠ S := by
      intro i p9 hp9
      rcases List.mem_cons.mp hp9 with rfl | hp9
      · exact Nat.ne_of_lt hSI
      · exact Nat.ne_of_lt (Nat.lt_of_lt_of_le (hS p9 (.tail _ hp9)) (Nat.le_refl _))
    refine ext_own_loop (n := out.length) (by omega) (fun k acc s' => ∃ h tk cS i vs, s' = { s with heap := h, toks := tk } ∧ acc = vs.toArray ∧ StrsAre vs (out.take k) ∧ Fr h₀ L h m ∧
      News h₀ L h ((S, listOf acc cS) :: (I, liObj c i) :: (x, ffObj d I q) :: (d, dictOf [] 0) :: (q, bmObj D) :: (D, so) :: news) ∧ i ≤ css.length ∧ ((css.drop i).filter fun z => decide (z ∉ oss)) = out.drop k) ?item ?done _ 0 #[] _ rfl (Nat.zero_le _) rfl ?st0
    case st0 => exact ⟨h1, tk1, c1, 0, [], rfl, rfl, .nil, F1, N1, Nat.zero_le _, hout⟩
    case item =>
      rintro k acc s' hk' hacc
      walk_at "flat"
      rename_i h tk cS i vs hz91 hz92 hvs F2 N2 hi hflt
      subst hz91
      subst hz92
      clear F1 N1
      have hok : out[k]? = some out[k] := List.getElem?_eq_getElem hk'
      have hdr : out.drop k = out[k] :: out.drop (k + 1) := List.drop_eq_getElem_cons hk'
      rw [hdr] at hflt
      generalize out[k] = y at hok hflt
      obtain ⟨j, hj1, hj2, hj3, hj4⟩ := filt_next _ _ _ _ hflt
      rw [List.getElem?_drop] at hj1
      rw [List.drop_drop] at hj4
      have I2 : InstAt h x (ffObj d I q) 108 (some (dictOf [] 0)) := InstAt.of_news N2 (.tail _ (.tail _ (.head _))) (.tail _ (.tail _ (.tail _ (.head _))))
      refine owit_next (K := K w.params) (C := 108) (f := 104) F2 X I2 (by k_is) (by k_is) ?_
      refine ffn_item w (dp := dp) (un := un + 1 + 1) (j := i + j) B F2 X (toff N2) T hk (by omega) (by omega) (.tail _ (.head _)) (.tail _ (.tail _ (.head _))) (.tail _ (.tail _ (.tail _ (.head _)))) (.tail _ (.tail _ (.tail _ (.tail _ (.head _))))) (.tail _ (.tail _ (.tail _ (.tail _ (.tail _ hc))))) hneI hso hn hcs hj1 (Nat.le_add_right _ _) (of_decide_eq_true hj2) ?_ ?_
      · intro k2 z hk1 hk2 hz
        have e : k2 = i + (k2 - i) := by omega
        have := hj3 (k2 - i) z (by omega) (by rw [List.getElem?_drop, ← e]; exact hz)
        simpa using this
      · intro h3 tk3 t3 F3 N3
        refine ⟨_, rfl, ?_⟩
        have hlv : vs.toArray.size ≤ 1000 := by rw [hacc]; omega
        refine seq_upd0 (s := { s with heap := h3, toks := tk3 }) (c := cS) hneS F3 (tof N3) (by rw [sizeLine_eq]; omega) (by rw [Array.size_push, sizeLine_eq]; omega) fun h4 c4 F4 N4 => ?_
        have hjl := (List.getElem?_eq_some_iff.mp hj1).1
        refine ⟨h4, tk3, c4, i + j + 1, vs ++ [Value.str y t3], rfl, List.push_toArray _ _, ?_, F4, N4, by omega, hj4⟩
        rw [List.take_add_one, hok]
        exact StrsAre.append' hvs (.cons _ _ .nil)
    case done =>
      rintro acc s' hacc
      walk_at "flat"
      rename_i h tk cS i vs hz93 hz94 hvs F2 N2 hi hflt
      subst hz93
      subst hz94
      clear F1 N1
      rw [List.drop_length] at hflt
      rw [List.take_length] at hvs
      have I2 : InstAt h x (ffObj d I q) 108 (some (dictOf [] 0)) := InstAt.of_news N2 (.tail _ (.tail _ (.head _))) (.tail _ (.tail _ (.tail _ (.head _))))
      refine owit_next (K := K w.params) (C := 108) (f := 104) F2 X I2 (by k_is) (by k_is) ?_
      refine ffn_stop w (dp := dp) (un := un + 1 + 1) B F2 X (toff N2) T hk (by omega) (by omega) (.tail _ (.head _)) (.tail _ (.tail _ (.head _))) (.tail _ (.tail _ (.tail _ (.head _)))) (.tail _ (.tail _ (.tail _ (.tail _ (.head _))))) (.tail _ (.tail _ (.tail _ (.tail _ (.tail _ hc))))) hneI hso hn hcs hi ?_ ?_
      · intro k z hk1 hz
        have hm : z ∈ css.drop i := by
          refine List.mem_of_getElem? (i := k - i) ?_
          rw [List.getElem?_drop, show i + (k - i) = k by omega]
          exact hz
        have := List.filter_eq_nil_iff.mp hflt z hm
        simpa using this
      · rintro h3 tk3 e h₀' T3 B3 F3 N4 ⟨ob, hob, hobc⟩
        unfold OwitStop
        refine wpAny_isInstance (T := "StopIteration") (b := true) ⟨ob, hob, hobc⟩ (by rw [isSubtype_type]; kernel_rfl) ?_
        rw [if_pos rfl]
        refine ⟨rfl, rfl, ?_⟩
        exact hret h3 tk3 S vs cS h₀' T3 B3 F3 (news_sub N4 (fun p hp => by
          rcases List.mem_cons.mp hp with rfl | hp
          · exact .head _
          · exact .tail _ (.tail _ (.tail _ (.tail _ (.tail _ hp)))))) hp1 hvs
theorem walkWords11 : True := by
  w_top off
  trivial
set_option maxHeartbeats 4000000 in
theorem tc_ok (w : World) {p : Program} {loose : List Str} {mean : ExcName → Option Value} {mg mb : Str → Option Value}
  {dp un : Nat} {gd : Option (List Code)} {cn : Str} {cs : Scope} {a : Addr} {ccd : Value} {cl : List (Str × Addr)} {outer : List Env} {A₀ : Around} {base h₀ : Heap} {L : Addr} {m : Str → Option Value} {news : List (Addr × Obj)} {s : Shared}
    {Q E : Value → Shared → Prop} 
    (B : Below A₀ base outer h₀) (F : Fr h₀ L s.heap m) (X : (K w.params).In h₀) (N : News h₀ L s.heap news) (T : Top p loose mean mg mb h₀) (hk : cs.kind = .function)
    (hdp : dp + 50 < recursionLimit) (hun : un + 400 < cLine) (ts : Addr)
    (hret : ∀ s' x d kk, Sm s s' → Fr h₀ L s'.heap m → News h₀ L s'.heap ((x, instObj 178 d) :: (d, dictOf [⟨PyData.keyHash w.params "comp_select_list", .str "comp_select_list" kk, .ref ts⟩] 1) :: news) → (∀ p ∈ news, p.1 < d) → d < x → Q (.ref x) s') :
    wpAny (model PySem.Challenge.rw_ij0017_01.row.prog w) (ktrTop dp un gd cn cs L a ccd cl outer) (call (.ref 178) [.ref ts]) Q E s := by
  revert X; k_fill; intro X
  try walk_at "tidy"
  k_steps
  rename_i x9 d9 h1 F1 N1 l1 l2 g2 L2 h2 FG BG XG TG _ _ _ _ _ h3 F3 N3 kF kN kT kX
  exact hret _ x9 d9 _ (Sm.of (Sm.rfl s)) kF kN l1 l2
theorem walkWords12 : True := by
  w_top off
  k_with_none
  k_with "via" => first | exact Mine.viaHead _ | (refine Mine.viaTail ?_; k_extra "via") | exact Mine.viaLast _ | fail
  k_with "conj" => with_reducible first | assumption | (refine' Mine.viaLt ?zqh ?zqk; (case zqh => assumption); (case zqk => k_extra "via")) | (refine' Mine.viaNe ?zqh ?zqk; (case zqh => assumption); (case zqk => k_extra "via")) | fail
  k_with "up" => with_reducible first | exact Mine.u0 | exact Mine.u1 | exact Mine.u2 | exact Mine.u3 | exact Mine.u4 | exact Mine.u5 | exact Mine.u6 | exact Mine.u7 | exact Mine.u8 | fail
  k_with "omega" => first | (k_whole; with_reducible first | assumption | exact Mine.v0 | exact Mine.v1 | exact Mine.v2 | exact Mine.v3 | exact Mine.v4 | exact Mine.v5 | exact Mine.v6 | exact Mine.v7 | exact Mine.v8 | k_extra "conj" | (refine Mine.neGt ?_; k_extra "conj") | (refine Mine.neLt ?_; k_extra "conj") | k_extra "up" | exact Int.natCast_nonneg _ | decide | exact Mine.leCut (by assumption) | exact Mine.ltCut (by assumption) | exact Mine.leCut' (by assumption) | exact Mine.ltCut' (by assumption) | exact Mine.iCut1 (by assumption) | exact Mine.iCut2 (by assumption) | exact Mine.iCut3 (by assumption) | exact Mine.iCut4 (by assumption) | fail) | (k_whole; lia) | omega +splitDisjunctions | ((dsimp +zetaDelta only at *); omega +splitDisjunctions)
  k_with "ne" => (refine PySem.W.neN ?_; (try dsimp only); first | (refine Mine.neGt ?_; first | k_extra "conj" | k_extra "up") | (refine Mine.neLt ?_; first | k_extra "conj" | k_extra "up") | (refine Mine.neSym ?_; k_extra "conj") | omega)
  k_with "rows" => with_reducible first | show wpAny _ _ (exec (Stmt.While _ _ _ _) _) _ _ _ | show wpAny _ _ (exec (Stmt.For _ _ _ _ _) _) _ _ _ | show wpAny _ _ (eval (Expr.ListComp _ _ _ _) _) _ _ _ | show wpAny _ _ (exec (Stmt.Assign _ (Expr.ListComp _ _ _ _) _) _) _ _ _ | fail
  k_with "steps" => repeat' (first | ((fail_if_success keq_rows); (first | (k_unfold; (try dsimp only)) | (k_end; wrow_close) | ((first | walk1 | (dsimp only; walk1)); (all_goals try walk_at "tidy")) | (leave1; walk_say "STEP leave1"; try dsimp only))) | fail "no step")
  k_with "tidy" => ((try ((with_reducible show wpAny _ _ (exec _ _) _ _ _); (fail_if_success fail_if_success k_fold); refine Mine.foldQ ?_; intro _)); (try ((fail_if_success fail_if_success (first | conv in (Around.deeper _ _) => skip | conv in (ktrTop _ _ _ _ _ _ _ _ _ _) => skip)); refine Mine.foldE ?_; intro _; refine Mine.foldA ?_; intro _)); (try ((fail_if_success fail_if_success (conv in (Shared.mk _ _ _ _ _) => skip)); (with_reducible show wpAny _ _ (exec _ _) _ _ _); refine Mine.foldS ?_; intro _)))
  k_with "flat" => with_reducible first | ((refine Mine.an12 ?_; iterate 11 intro _); walk_at "flat") | ((refine Mine.an6 ?_; iterate 5 intro _); walk_at "flat") | ((refine Mine.an3 ?_; iterate 2 intro _); walk_at "flat") | ((refine Mine.an2 ?_; iterate 1 intro _); walk_at "flat") | ((refine Mine.ex15 ?_; iterate 15 intro _); walk_at "flat") | ((refine Mine.ex8 ?_; iterate 8 intro _); walk_at "flat") | ((refine Mine.ex4 ?_; iterate 4 intro _); walk_at "flat") | ((refine Mine.ex2 ?_; iterate 2 intro _); walk_at "flat") | ((refine Mine.ex1 ?_; iterate 1 intro _); walk_at "flat") | intro _
  k_with "call ref" => (k_here; refine wpAny_call ?_; k_dflt (first | (refine' code_def ?zqk1 ?zqk2 ?zqk3 ?zqk4 ?zqk5 ?zqkA ?zqkF ?zqkK ?zqk6 ?zqk7 ?zqk8 ?zqk9 ?zqkB ?_ ?zqc2 ?zqc3 ?zqc4 ?zqc5; (case zqkA => exact rfl); (case zqkF => exact rfl); (case zqkK => first | exact rfl | assumption); (case zqk1 => k_asm); (case zqk2 => k_asm); (case zqk3 => k_asm); (case zqk4 => k_asm); (case zqk5 => k_asm); (case zqk6 => k_is); (case zqk7 => k_is); (case zqk8 => ktr_room); (case zqk9 => exact BindsTo.of_eq rfl); (case zqc5 => decide); (case zqkB => exact locs rfl); (case zqc2 => exact rfl); (case zqc3 => exact rfl); (case zqc4 => exact rfl); k_whole; intro _ _ _ _ _ _; walk_at "cdA") | (refine' code_defC ?zqk1 ?zqk2 ?zqk3 ?zqk4 ?zqk5 ?zqkA ?zqkF ?zqkK ?zqk6 ?zqk7 ?zqk8 ?zqk9 ?zqkB ?zqkD ?_ ?zqc2 ?zqc3 ?zqc4; (case zqkA => exact rfl); (case zqkF => exact rfl); (case zqkK => first | exact rfl | assumption); (case zqk1 => k_asm); (case zqk2 => k_asm); (case zqk3 => k_asm); (case zqk4 => k_asm); (case zqk5 => k_asm); (case zqk6 => k_is); (case zqk7 => k_is); (case zqk8 => ktr_room); (case zqk9 => exact BindsTo.of_eq rfl); (case zqkB => exact rfl); (case zqkD => decide +kernel); (case zqc2 => exact rfl); (case zqc3 => exact rfl); (case zqc4 => exact rfl); k_whole; intro _ _ _ _ _ _ _; walk_at "cdC")))
  k_with "call type:list" => (k_here; (with_reducible show wpAny _ _ (call (Value.type "list") [Value.ref _]) _ _ _); k_dflt (refine' list_copyK ?zqF ?zqN ?zql ?_ ?zqz; (case zqF => k_asm); (case zqN => k_asm); (case zql => exact News.isList (by k_asm) (by k_mem)); (case zqz => (rw [List.size_toArray, sizeLine_eq]; omega)); k_whole); intro _ _ _ _ _; walk_at "lt0"; (try k_sweep))
  k_with "mem" => first | exact List.Mem.head _ | assumption | (refine' List.Mem.tail _ ?_; k_mem)
  k_with "call builtin:len" => (k_here; (with_reducible show wpAny _ _ (call (Value.builtin "len") [Value.ref _]) _ _ _); k_dflt (refine' len_L ?zqN ?zqm ?zqf ?_; (case zqN => k_asm); (case zqm => k_mem); (case zqf => omega); k_whole))
  k_with "eval Name" => (k_here; (with_reducible show wpAny _ _ (eval (Expr.Name _ _) (envOf _ _ _ _ _)) _ _ _); k_dflt (refine' nameX_L (cl := []) ?zqF ?zqv ?_ ?zqa ?zqb; (case zqF => k_asm); (case zqa => rfl); (case zqb => rfl); (case zqv => first | exact rfl | assumption); k_whole))
  k_with "eval Name" => (k_here; (with_reducible show wpAny _ _ (eval (Expr.Name _ _) (envOfC _ _ _ _ _)) _ _ _); k_dflt (refine' nameX_L ?zqF ?zqv ?_ ?zqa ?zqb; (case zqF => k_asm); (case zqa => rfl); (case zqb => rfl); (case zqv => first | exact rfl | assumption); k_whole))
  k_with "all" => exact all_ge (by assumption) (by omega)
  k_with "eval Name" => (k_here; (with_reducible show wpAny _ _ (eval (Expr.Name _ _) (compEnvC _ _ _ (envOfC _ _ _ _ _))) _ _ _); k_dflt (first | (refine' ce_L ?zqN ?zqC ?zqm ?zqv ?_ ?zqa; (case zqa => decide +kernel); (case zqN => k_asm); (case zqC => assumption); (case zqm => k_mem); (case zqv => assumption); k_whole) | (refine' ce_C ?zqN ?zqa ?zqc ?zqm ?zqd ?_; (case zqa => decide +kernel); (case zqN => k_asm); (case zqc => rfl); (case zqm => k_mem); (case zqd => assumption); k_whole)))
  k_with "compareOp NotIn int ref" => (k_here; k_dflt (refine' notIn_L ?zqN ?zqm ?zqi ?_; (case zqN => k_asm); (case zqm => k_mem); (case zqi => first | assumption | exact ints_drop (by assumption) _); k_whole))
  k_with "compareOp In int ref" => (k_here; k_dflt (refine' in_L ?zqN ?zqm ?zqi ?_; (case zqN => k_asm); (case zqm => k_mem); (case zqi => first | assumption | exact ints_drop (by assumption) _); k_whole))
  k_with "subscriptTail Name Slice ref ref" => (k_here; (with_reducible show wpAny _ _ (subscriptTail _ (PySem.Expr.Slice (some _) none none _) (Value.ref _) (Value.ref _)) _ _ _); k_dflt (refine' slice_K ?zqF ?zqN ?zqm (IsPart.int _ _) IsPart.none (pick_from _ ?zqe) ?_ ?zqs ?zqt ?zqz; (case zqF => k_asm); (case zqN => k_asm); (case zqm => k_mem); (case zqe => omega); (case zqs => with_unfolding_all rfl); (case zqt => (intro _; with_unfolding_all rfl)); (case zqz => omega)); intro _ _ _ _; walk_at "lt0"; (try k_sweep))
  k_with "subscriptTail" => (k_here; (with_reducible show wpAny _ _ (subscriptTail _ _ (Value.ref _) (Value.int _ _)) _ _ _); k_dflt (refine' item_L ?zqN ?zqm ?zqa ?zqb ?zqx ?_ ?zqs; (case zqN => k_asm); (case zqm => k_mem); (case zqa => omega); (case zqb => omega); (case zqx => first | exact rfl | assumption); (case zqs => with_unfolding_all rfl); k_whole))
  k_with "setItem ref int" => (k_here; k_dflt (refine' setItem_D (isI _ _) ?zqF ?zqN ?zqU ?zqd ?zqz ?_; (case zqF => k_asm); (case zqN => k_asm); (case zqU => k_updF); (case zqd => assumption); (case zqz => omega); k_whole); intro _ _ _; walk_at "ds"; intro _; (try k_sweep))
  k_with "call builtin:list.remove" => (k_here; k_dflt (refine' remove_L ?zqF ?zqN ?zqU ?zqi ?zqx ?zqz ?_; (case zqF => k_asm); (case zqN => k_asm); (case zqU => k_updF); (case zqi => assumption); (case zqx => assumption); (case zqz => omega); k_whole); intro _ _ _ _; walk_at "ds"; intro _; (try k_sweep))
  k_with "compareOp In int ref" => (k_here; k_dflt (first | (refine' in_DI0 ?zqN ?zqd ?zqm ?zqv ?zqlo ?zqz ?_; (case zqN => k_asm); (case zqz => assumption); (case zqm => k_mem); (case zqd => assumption); (case zqv => assumption); (case zqlo => assumption); k_whole) | (refine' in_DI1 ?zqN ?zqd ?zqm ?zqv ?zqlo ?zqz ?_; (case zqN => k_asm); (case zqz => assumption); (case zqm => k_mem); (case zqd => assumption); (case zqv => assumption); (case zqlo => assumption); k_whole)))
  k_with "subscriptTail" => (k_here; (with_reducible show wpAny _ _ (subscriptTail _ _ (Value.ref _) (Value.int _ _)) _ _ _); k_dflt (refine' item_DI ?zqN ?zqd ?zqm ?zqv ?zqz ?_ ?zqs; (case zqN => k_asm); (case zqz => assumption); (case zqm => k_mem); (case zqd => assumption); (case zqv => assumption); (case zqs => with_unfolding_all rfl); k_whole); intro _)
  k_with "call builtin:list.append" => (k_here; (with_reducible show wpAny _ _ (call (Value.builtin _) [Value.ref _, _]) _ _ _); k_dflt (refine' append_L ?zqF ?zqN ?zqU ?zqz ?_; (case zqF => k_asm); (case zqN => k_asm); (case zqU => k_updF); (case zqz => omega); k_whole); intro _ _; walk_at "ds"; (try k_sweep))
  trivial
set_option maxHeartbeats 4000000 in
theorem tree_ok (w : World) {p : Program} {loose : List Str} {mean : ExcName → Option Value} {mg mb : Str → Option Value}
  {dp un : Nat} {gd : Option (List Code)} {cn : Str} {cs : Scope} {a : Addr} {ccd : Value} {cl : List (Str × Addr)} {outer : List Env} {A₀ : Around} {base h₀ : Heap} {L : Addr} {m : Str → Option Value} {news : List (Addr × Obj)} {s : Shared}
    {Q E : Value → Shared → Prop} 
    (B : Below A₀ base outer h₀) (F : Fr h₀ L s.heap m) (X : (K w.params).In h₀) (N : News h₀ L s.heap news) (T : Top p loose mean mg mb h₀) (hk : cs.kind = .function)
    (hdp : dp + 50 < recursionLimit) (hun : un + 400 < cLine)
    (c o : Addr) (cvs ovs : List Value) (cns ons : List Int) (hci : IntsAre cvs cns) (hoi : IntsAre ovs ons) (nc no : Nat) (hc : (c, listOf cvs.toArray nc) ∈ news) (ho : (o, listOf ovs.toArray no) ∈ news) (hcl : cvs.length ≤ 100) (hol : ovs.length ≤ 100)
    (hnd : ons.Nodup) (hfil : ∀ k, k < cns.length → leafs cns k (treeSt cns ons k).1 ≠ []) (x y : Int) (rest : List Int) (hfin : (treeSt cns ons cns.length).1 = x :: y :: rest)
    (hret : ∀ s' U oU kvs, Sm s s' → Fr h₀ L s'.heap m → News h₀ L s'.heap ((U, oU) :: news) → (∀ p ∈ news, p.1 < U) → (U == sysModules) = false → oU.IsDictOf (PySem.intKind PySem.Challenge.rw_ij0017_01.row.prog w) kvs → IntVals kvs ((treeSt cns ons cns.length).2 ++ [(x, y)]) → Q (.ref U) s') :
    wpAny (model PySem.Challenge.rw_ij0017_01.row.prog w) (ktrTop dp un gd cn cs L a ccd cl outer) (call (.ref 201) [.ref c, .ref o]) Q E s := by
  revert X; k_fill; intro X
  try walk_at "tidy"
  walk_at "call ref"
  walk_at "tidy"
  k_steps
  refine for_rule ?_
  k_steps
  rename_i gF LF h5 tk1 FG BG XG TG l1a oc1 oc2 dc1 dc2 _ _ _ _ U h4 oU loU _ _ hU _ l1b h3 _ _ _ Lf cLf h2 l1c h1 FF NN _ _ h6 tk2 t1 u1 v1 hr Fr1 Nr1 kr
  have hLn : AllLt LF news := allLt_of l1a
  have hclen := hci.length
  have holen := hoi.length
  have dcode : oc2.data = .cell (some (.ref c)) := dc2
  refine range_for (n := cvs.length) rfl hr rfl (by omega) Fr1 Nr1 (fun i m₁ led => m₁ "left" = some (.ref Lf) ∧ m₁ "up" = some (.ref U) ∧ ∃ lvs cl' oU' oK kvs vk, led = [(Lf, listOf lvs.toArray cl'), (U, oU'), (LF + 1 + 1, oK), (LF + 1, oc2)] ++ news ∧ oK.data = .cell vk ∧
    IntsAre lvs (treeSt cns ons i).1 ∧ Obj.IsDictOf (PySem.intKind PySem.Challenge.rw_ij0017_01.row.prog w) oU' kvs ∧ IntVals kvs (treeSt cns ons i).2 ∧ lvs.length ≤ 100 ∧ kvs.length ≤ i ∧ (treeSt cns ons i).1.Nodup ∧ (∀ q ∈ (treeSt cns ons i).2, q.1 ∉ (treeSt cns ons i).1)) ?h0 ?turn ?done
  case h0 => exact ⟨rfl, rfl, ovs, cLf, oU, oc1, [], _, rfl, dc1, hoi, hU, .nil, by omega, by simp, hnd, by simp [treeSt]⟩
  case turn =>
    rintro i ti m₁ led s₁ I oI hi hIl
    walk_at "flat"
    rename_i hml hmu lvs cl' oU' oK kvs vk hz91 hoK hlv hUd hUv hlvl hkl hnd' hdis
    subst hz91
    rintro sm F₁ N₁ hne
    simp only [List.cons_append, List.nil_append] at N₁
    replace hne := gnNe_of hne
    simp only [List.cons_append, List.nil_append, GnNe] at hne
    k_steps
    refine comp_rule (by with_unfolding_all rfl) (by decide) rfl (by decide) rfl ?_
    k_steps
    rename_i hK oK1 FK NK dK _ _
    refine list_comp rfl FK NK (by k_mem) (fun j ys led => led = (I, oI) :: (Lf, listOf lvs.toArray cl') :: (U, oU') :: (LF + 1 + 1, oK1) :: (LF + 1, oc2) :: news ∧ IntsAre ys (((treeSt cns ons i).1.take j).filter fun p => decide (p ∉ cns.drop i))) ?hs2 ⟨rfl, .nil⟩ rfl rfl (by omega) ?turn2 ?done2
    case hs2 => rintro j ys led ⟨rfl, _⟩; k_mem
    case turn2 =>
      rintro I2 D2 C2 j v ys led s₂ oI2 oC2 oD2 mc hI2 hID hDC hv ⟨rfl, hys⟩ hyl sm2 F₂ N₂ h2 hC2 hmc
      obtain ⟨n, t, rfl, hn⟩ := ints_at hlv hv
      replace F₂ : Fr gF LF s₂.heap m₁ := F₂
      replace N₂ : News gF LF s₂.heap ((I2, oI2) :: (C2, oC2) :: (D2, oD2) :: (I, oI) :: (Lf, listOf lvs.toArray cl') :: (U, oU') :: (LF + 1 + 1, oK1) :: (LF + 1, oc2) :: news) := N₂
      clear F₁ N₁ FK NK
      refine tests_one ?_
      k_steps
      · refine CEnd.same (l := _) (Sm.of sm2) (by k_asm) (by k_asm) h2 (by intro p9 hp9; first | exact hp9 | exact .tail _ hp9) ⟨rfl, ?_⟩
        rename_i hnot
        rw [Int.toNat_natCast] at hnot
        rw [List.take_add_one, hn]
        simp only [Option.toList_some, List.filter_append]
        rw [List.filter_cons_of_pos (by simpa using hnot)]
        exact IntsAre.append hys (.cons n t .nil)
      · refine CEnd.same (l := _) (Sm.of sm2) (by k_asm) (by k_asm) h2 (by intro p9 hp9; first | exact hp9 | exact .tail _ hp9) ⟨rfl, ?_⟩
        rename_i hnot
        rw [Int.toNat_natCast] at hnot
        rw [List.take_add_one, hn]
        simp only [Option.toList_some, List.filter_append]
        rw [List.filter_cons_of_neg (by simpa using hnot), List.filter_nil, List.append_nil]
        exact hys
    case done2 =>
      rintro D2 ys led s₂ cD hD2 ⟨rfl, hys⟩ sm2 F₂ N₂ h2
      rw [List.take_of_length_le (by rw [← hlv.length]; omega)] at hys
      replace F₂ : Fr gF LF s₂.heap m₁ := F₂
      replace N₂ : News gF LF s₂.heap ((D2, listOf ys.toArray cD) :: (I, oI) :: (Lf, listOf lvs.toArray cl') :: (U, oU') :: (LF + 1 + 1, oK1) :: (LF + 1, oc2) :: news) := N₂
      replace hD2 := allLt_of hD2
      simp only [AllLt] at hD2
      clear F₁ N₁ FK NK
      have hne0 := hfil i (by omega)
      have hst : treeSt cns ons (i + 1) = ((treeSt cns ons i).1.erase ((leafs cns i (treeSt cns ons i).1).headD 0), (treeSt cns ons i).2 ++ [((leafs cns i (treeSt cns ons i).1).headD 0, cns.getD i 0)]) := rfl
      have hys' : IntsAre ys (leafs cns i (treeSt cns ons i).1) := hys
      have hleaf : ∀ q, q ∈ leafs cns i (treeSt cns ons i).1 → q ∈ (treeSt cns ons i).1 := fun q hq => (List.mem_filter.mp hq).1
      generalize leafs cns i (treeSt cns ons i).1 = lf at hne0 hst hys' hleaf
      clear hys
      cases hys' with
      | nil => exact absurd rfl hne0
      | cons leaf tl hys' =>
      have hlm := hleaf leaf (List.mem_cons_self ..)
      simp only [List.headD_cons] at hst
      obtain ⟨tc, hcv⟩ := hci.get i (cns.getD i 0) (by rw [List.getD_eq_getElem?_getD]; rw [List.getElem?_eq_getElem (by omega : i < cns.length)]; rfl)
      have hcv' : cvs[((i : Int)).toNat]? = some (.int (cns.getD i 0) tc) := by rw [Int.toNat_natCast]; exact hcv
      k_steps
      rename_i ha _ _ _ hb oU2 hU2 _ _ hc2 lvs2 kl2 FE NE hI2
      have hnl : leaf ∉ (treeSt cns ons i).2.map (·.1) := fun hq => by
        obtain ⟨q, hq, e⟩ := List.mem_map.mp hq
        exact hdis q hq (e ▸ hlm)
      refine ⟨_, _, ⟨sm2.1.trans sm.1, sm.2.trans sm2.2⟩, FE, news_sub (l' := (I, oI) :: (Lf, listOf lvs2.toArray kl2) :: (U, oU2) :: (LF + 1 + 1, oK1) :: (LF + 1, oc2) :: news) NE (by intro p9 hp9; exact .tail _ hp9), ?_, hml, hmu, lvs2, kl2, oU2, oK1, _, _, rfl, dK, ?_, hU2, ?_, ?_, ?_, ?_, ?_⟩
      · intro p9 hp9
        rcases List.mem_cons.mp hp9 with rfl | hp9
        · exact hne.1
        rcases List.mem_cons.mp hp9 with rfl | hp9
        · exact hne.2.1
        rcases List.mem_cons.mp hp9 with rfl | hp9
        · exact hne.2.2.1
        rcases List.mem_cons.mp hp9 with rfl | hp9
        · exact hne.2.2.2.1
        exact Nat.ne_of_lt (hIl p9 (by simp [hp9]))
      · rw [hst]; exact hI2
      · rw [hst]; exact IntVals.snoc hUv hnl
      · have := hI2.length
        have := List.length_erase_le (l := (treeSt cns ons i).1) (a := leaf)
        have := hlv.length
        omega
      · rw [(IntVals.snoc hUv hnl).length]
        have := hUv.length
        simp
        omega
      · rw [hst]; exact hnd'.erase leaf
      · rw [hst]
        intro q hq
        rcases List.mem_append.mp hq with hq | hq
        · exact fun h9 => hdis q hq (List.mem_of_mem_erase h9)
        · rw [List.mem_singleton.mp hq]
          exact fun h9 => (hnd'.mem_erase_iff.mp h9).1 rfl
  case done =>
    rintro m₁ led s₁
    walk_at "flat"
    rename_i hml hmu lvs cl' oU' oK kvs vk hz92 hoK hlv hUd hUv hlvl hkl hnd' hdis
    subst hz92
    rintro sm F₁ N₁
    simp only [List.cons_append, List.nil_append] at N₁
    rw [hclen] at hlv hUv hnd' hdis
    rw [hfin] at hlv hdis
    cases hlv with | cons _ tx hlv =>
    cases hlv with | cons _ ty hlv =>
    k_steps
    rename_i hx oU3 FE NE hU3 _ _ kF kN _ _
    have hxk : x ∉ (treeSt cns ons cns.length).2.map (·.1) := fun hq => by
      obtain ⟨q, hq, e⟩ := List.mem_map.mp hq
      exact hdis q hq (e ▸ List.mem_cons_self ..)
    exact hret _ U oU3 _ ⟨sm.1, sm.2⟩ kF (news_sub kN (by intro p9 hp9; rcases List.mem_cons.mp hp9 with rfl | hp9; exact .tail _ (.head _); exact .tail _ (.tail _ (.tail _ (.tail _ hp9))))) (fun p9 hp9 => Nat.lt_trans (l1a p9 hp9) (by omega)) loU hU3 (IntVals.snoc hUv hxk)
theorem walkWords13 : True := by
  w_top off
  k_with "subscriptTail" => (k_here; (with_reducible show wpAny _ _ (subscriptTail _ _ (Value.ref _) (Value.int (-1) _)) _ _ _); k_dflt (refine' last_L ?zqN ?zqm ?zqx ?_ ?zqs; (case zqN => k_asm); (case zqm => k_mem); (case zqx => assumption); (case zqs => with_unfolding_all rfl); k_whole))
  trivial
set_option maxHeartbeats 4000000 in
theorem way_ok (w : World) {p : Program} {loose : List Str} {mean : ExcName → Option Value} {mg mb : Str → Option Value}
  {dp un : Nat} {gd : Option (List Code)} {cn : Str} {cs : Scope} {a : Addr} {ccd : Value} {cl : List (Str × Addr)} {outer : List Env} {A₀ : Around} {base h₀ : Heap} {L : Addr} {m : Str → Option Value} {news : List (Addr × Obj)} {s : Shared}
    {Q E : Value → Shared → Prop} 
    (B : Below A₀ base outer h₀) (F : Fr h₀ L s.heap m) (X : (K w.params).In h₀) (N : News h₀ L s.heap news) (T : Top p loose mean mg mb h₀) (hk : cs.kind = .function)
    (hdp : dp + 50 < recursionLimit) (hun : un + 400 < cLine)
    (u : Addr) (oU : Obj) (kvs : List (Int × Value)) (ups : List (Int × Int)) (hu : (u, oU) ∈ news) (hus : (u == sysModules) = false) (hU : oU.IsDictOf (PySem.intKind PySem.Challenge.rw_ij0017_01.row.prog w) kvs) (hUv : IntVals kvs ups)
    (pl : Int) (t : Tok) (ws : List Int) (hws : IsWay ups pl ws) (hwl : ws.length ≤ 100)
    (hret : ∀ s' l vs k, Sm s s' → Fr h₀ L s'.heap m → News h₀ L s'.heap ((l, listOf vs.toArray k) :: news) → (∀ p ∈ news, p.1 < l) → IntsAre vs ws → Q (.ref l) s') :
    wpAny (model PySem.Challenge.rw_ij0017_01.row.prog w) (ktrTop dp un gd cn cs L a ccd cl outer) (call (.ref 215) [.ref u, .int pl t]) Q E s := by
  revert X; k_fill; intro X
  try walk_at "tidy"
  walk_at "call ref"
  walk_at "tidy"
  k_steps
  rename_i gF LF h1 FG BG XG TG _ _ tk1 _ _ l h2 l1 h3 F1 N1 _ _
  refine while_rule (fun n s' => ∃ vs k pre x post, n = post.length ∧ Sm s s' ∧ Fr gF LF s'.heap (fun y => if y = Str.ofString "way" then some (Value.ref l) else List.lookup y [(Str.ofString "place", Value.int pl t), (Str.ofString "up", Value.ref u)]) ∧ News gF LF s'.heap ((l, listOf vs.toArray k) :: news) ∧ IntsAre vs (pre ++ [x]) ∧ IsWay ups x (x :: post) ∧ pre ++ x :: post = ws) (ws.length - 1) ?h0 ?turn
  case h0 =>
    cases ws with
    | nil => exact hws.elim
    | cons y r =>
      obtain ⟨rfl, h⟩ := hws
      exact ⟨_, _, [], pl, r, rfl, Sm.of (Sm.rfl s), F1, N1, .cons pl t .nil, ⟨rfl, h⟩, rfl⟩
  case turn =>
    rintro n s'
    walk_at "flat"
    rename_i vs k pre x post hz91 sm F2 N2 hv hw hpre
    subst hz91
    clear F1 N1
    obtain ⟨tx, hlast⟩ := ints_last hv
    have hvl := hv.length
    rw [← hpre] at hwl
    simp only [List.length_append, List.length_cons, List.length_nil] at hvl hwl
    have hLl := allLt_of l1
    cases post with
    | nil =>
      have hz : upOf ups x = none := hw.2
      k_steps
      exact hret _ l vs k (Sm.of sm) (by k_asm) (by k_asm) l1 (hpre ▸ hv)
    | cons z post =>
      have hz : upOf ups x = some z := hw.2.1
      k_steps
      rename_i tz h4 F3 N3
      refine ⟨post.length, by simp, _, _, pre ++ [x], z, post, rfl, Sm.of sm, F3, N3, IntsAre.append hv (.cons z tz .nil), hw.2.2, by simpa using hpre⟩
theorem walkWords14 : True := by
  w_top off
  k_with_none
  k_with "via" => first | exact Mine.viaHead _ | (refine Mine.viaTail ?_; k_extra "via") | exact Mine.viaLast _ | fail
  k_with "conj" => with_reducible first | assumption | (refine' Mine.viaLt ?zqh ?zqk; (case zqh => assumption); (case zqk => k_extra "via")) | (refine' Mine.viaNe ?zqh ?zqk; (case zqh => assumption); (case zqk => k_extra "via")) | fail
  k_with "up" => with_reducible first | exact Mine.u0 | exact Mine.u1 | exact Mine.u2 | exact Mine.u3 | exact Mine.u4 | exact Mine.u5 | exact Mine.u6 | exact Mine.u7 | exact Mine.u8 | fail
  k_with "omega" => first | (k_whole; with_reducible first | assumption | exact Mine.v0 | exact Mine.v1 | exact Mine.v2 | exact Mine.v3 | exact Mine.v4 | exact Mine.v5 | exact Mine.v6 | exact Mine.v7 | exact Mine.v8 | k_extra "conj" | (refine Mine.neGt ?_; k_extra "conj") | (refine Mine.neLt ?_; k_extra "conj") | k_extra "up" | exact Int.natCast_nonneg _ | decide | exact Mine.leCut (by assumption) | exact Mine.ltCut (by assumption) | exact Mine.leCut' (by assumption) | exact Mine.ltCut' (by assumption) | exact Mine.iCut1 (by assumption) | exact Mine.iCut2 (by assumption) | exact Mine.iCut3 (by assumption) | exact Mine.iCut4 (by assumption) | fail) | (k_whole; lia) | omega +splitDisjunctions | ((dsimp +zetaDelta only at *); omega +splitDisjunctions)
  k_with "ne" => (refine PySem.W.neN ?_; (try dsimp only); first | (refine Mine.neGt ?_; first | k_extra "conj" | k_extra "up") | (refine Mine.neLt ?_; first | k_extra "conj" | k_extra "up") | (refine Mine.neSym ?_; k_extra "conj") | omega)
  k_with "rows" => with_reducible first | show wpAny _ _ (exec (Stmt.While _ _ _ _) _) _ _ _ | show wpAny _ _ (exec (Stmt.For _ _ _ _ _) _) _ _ _ | show wpAny _ _ (eval (Expr.ListComp _ _ _ _) _) _ _ _ | show wpAny _ _ (exec (Stmt.Assign _ (Expr.ListComp _ _ _ _) _) _) _ _ _ | fail
  k_with "steps" => repeat' (first | ((fail_if_success keq_rows); (first | (k_unfold; (try dsimp only)) | (k_end; wrow_close) | ((first | walk1 | (dsimp only; walk1)); (all_goals try walk_at "tidy")) | (leave1; walk_say "STEP leave1"; try dsimp only))) | fail "no step")
  k_with "tidy" => ((try ((with_reducible show wpAny _ _ (exec _ _) _ _ _); (fail_if_success fail_if_success k_fold); refine Mine.foldQ ?_; intro _)); (try ((fail_if_success fail_if_success (first | conv in (Around.deeper _ _) => skip | conv in (ktrTop _ _ _ _ _ _ _ _ _ _) => skip)); refine Mine.foldE ?_; intro _; refine Mine.foldA ?_; intro _)); (try ((fail_if_success fail_if_success (conv in (Shared.mk _ _ _ _ _) => skip)); (with_reducible show wpAny _ _ (exec _ _) _ _ _); refine Mine.foldS ?_; intro _)))
  k_with "flat" => with_reducible first | ((refine Mine.an12 ?_; iterate 11 intro _); walk_at "flat") | ((refine Mine.an6 ?_; iterate 5 intro _); walk_at "flat") | ((refine Mine.an3 ?_; iterate 2 intro _); walk_at "flat") | ((refine Mine.an2 ?_; iterate 1 intro _); walk_at "flat") | ((refine Mine.ex15 ?_; iterate 15 intro _); walk_at "flat") | ((refine Mine.ex8 ?_; iterate 8 intro _); walk_at "flat") | ((refine Mine.ex4 ?_; iterate 4 intro _); walk_at "flat") | ((refine Mine.ex2 ?_; iterate 2 intro _); walk_at "flat") | ((refine Mine.ex1 ?_; iterate 1 intro _); walk_at "flat") | intro _
  k_with "call ref" => (k_here; refine wpAny_call ?_; k_dflt (first | (refine' code_def ?zqk1 ?zqk2 ?zqk3 ?zqk4 ?zqk5 ?zqkA ?zqkF ?zqkK ?zqk6 ?zqk7 ?zqk8 ?zqk9 ?zqkB ?_ ?zqc2 ?zqc3 ?zqc4 ?zqc5; (case zqkA => exact rfl); (case zqkF => exact rfl); (case zqkK => first | exact rfl | assumption); (case zqk1 => k_asm); (case zqk2 => k_asm); (case zqk3 => k_asm); (case zqk4 => k_asm); (case zqk5 => k_asm); (case zqk6 => k_is); (case zqk7 => k_is); (case zqk8 => ktr_room); (case zqk9 => exact BindsTo.of_eq rfl); (case zqc5 => decide); (case zqkB => exact locs rfl); (case zqc2 => exact rfl); (case zqc3 => exact rfl); (case zqc4 => exact rfl); k_whole; intro _ _ _ _ _ _; walk_at "cdA") | (refine' code_defC ?zqk1 ?zqk2 ?zqk3 ?zqk4 ?zqk5 ?zqkA ?zqkF ?zqkK ?zqk6 ?zqk7 ?zqk8 ?zqk9 ?zqkB ?zqkD ?_ ?zqc2 ?zqc3 ?zqc4; (case zqkA => exact rfl); (case zqkF => exact rfl); (case zqkK => first | exact rfl | assumption); (case zqk1 => k_asm); (case zqk2 => k_asm); (case zqk3 => k_asm); (case zqk4 => k_asm); (case zqk5 => k_asm); (case zqk6 => k_is); (case zqk7 => k_is); (case zqk8 => ktr_room); (case zqk9 => exact BindsTo.of_eq rfl); (case zqkB => exact rfl); (case zqkD => decide +kernel); (case zqc2 => exact rfl); (case zqc3 => exact rfl); (case zqc4 => exact rfl); k_whole; intro _ _ _ _ _ _ _; walk_at "cdC")))
  k_with "call type:list" => (k_here; (with_reducible show wpAny _ _ (call (Value.type "list") [Value.ref _]) _ _ _); k_dflt (refine' list_copyK ?zqF ?zqN ?zql ?_ ?zqz; (case zqF => k_asm); (case zqN => k_asm); (case zql => exact News.isList (by k_asm) (by k_mem)); (case zqz => (rw [List.size_toArray, sizeLine_eq]; omega)); k_whole); intro _ _ _ _ _; walk_at "lt0"; (try k_sweep))
  k_with "mem" => first | exact List.Mem.head _ | assumption | (refine' List.Mem.tail _ ?_; k_mem)
  k_with "call builtin:len" => (k_here; (with_reducible show wpAny _ _ (call (Value.builtin "len") [Value.ref _]) _ _ _); k_dflt (refine' len_L ?zqN ?zqm ?zqf ?_; (case zqN => k_asm); (case zqm => k_mem); (case zqf => omega); k_whole))
  k_with "eval Name" => (k_here; (with_reducible show wpAny _ _ (eval (Expr.Name _ _) (envOf _ _ _ _ _)) _ _ _); k_dflt (refine' nameX_L (cl := []) ?zqF ?zqv ?_ ?zqa ?zqb; (case zqF => k_asm); (case zqa => rfl); (case zqb => rfl); (case zqv => first | exact rfl | assumption); k_whole))
  k_with "eval Name" => (k_here; (with_reducible show wpAny _ _ (eval (Expr.Name _ _) (envOfC _ _ _ _ _)) _ _ _); k_dflt (refine' nameX_L ?zqF ?zqv ?_ ?zqa ?zqb; (case zqF => k_asm); (case zqa => rfl); (case zqb => rfl); (case zqv => first | exact rfl | assumption); k_whole))
  k_with "all" => exact all_ge (by assumption) (by omega)
  k_with "eval Name" => (k_here; (with_reducible show wpAny _ _ (eval (Expr.Name _ _) (compEnvC _ _ _ (envOfC _ _ _ _ _))) _ _ _); k_dflt (first | (refine' ce_L ?zqN ?zqC ?zqm ?zqv ?_ ?zqa; (case zqa => decide +kernel); (case zqN => k_asm); (case zqC => assumption); (case zqm => k_mem); (case zqv => assumption); k_whole) | (refine' ce_C ?zqN ?zqa ?zqc ?zqm ?zqd ?_; (case zqa => decide +kernel); (case zqN => k_asm); (case zqc => rfl); (case zqm => k_mem); (case zqd => assumption); k_whole)))
  k_with "compareOp NotIn int ref" => (k_here; k_dflt (refine' notIn_L ?zqN ?zqm ?zqi ?_; (case zqN => k_asm); (case zqm => k_mem); (case zqi => first | assumption | exact ints_drop (by assumption) _); k_whole))
  k_with "compareOp In int ref" => (k_here; k_dflt (refine' in_L ?zqN ?zqm ?zqi ?_; (case zqN => k_asm); (case zqm => k_mem); (case zqi => first | assumption | exact ints_drop (by assumption) _); k_whole))
  k_with "subscriptTail Name Slice ref ref" => (k_here; (with_reducible show wpAny _ _ (subscriptTail _ (PySem.Expr.Slice (some _) none none _) (Value.ref _) (Value.ref _)) _ _ _); k_dflt (refine' slice_K ?zqF ?zqN ?zqm (IsPart.int _ _) IsPart.none (pick_from _ ?zqe) ?_ ?zqs ?zqt ?zqz; (case zqF => k_asm); (case zqN => k_asm); (case zqm => k_mem); (case zqe => omega); (case zqs => with_unfolding_all rfl); (case zqt => (intro _; with_unfolding_all rfl)); (case zqz => omega)); intro _ _ _ _; walk_at "lt0"; (try k_sweep))
  k_with "subscriptTail" => (k_here; (with_reducible show wpAny _ _ (subscriptTail _ _ (Value.ref _) (Value.int _ _)) _ _ _); k_dflt (refine' item_L ?zqN ?zqm ?zqa ?zqb ?zqx ?_ ?zqs; (case zqN => k_asm); (case zqm => k_mem); (case zqa => omega); (case zqb => omega); (case zqx => first | exact rfl | assumption); (case zqs => with_unfolding_all rfl); k_whole))
  k_with "setItem ref int" => (k_here; k_dflt (refine' setItem_D (isI _ _) ?zqF ?zqN ?zqU ?zqd ?zqz ?_; (case zqF => k_asm); (case zqN => k_asm); (case zqU => k_updF); (case zqd => assumption); (case zqz => omega); k_whole); intro _ _ _; walk_at "ds"; intro _; (try k_sweep))
  k_with "call builtin:list.remove" => (k_here; k_dflt (refine' remove_L ?zqF ?zqN ?zqU ?zqi ?zqx ?zqz ?_; (case zqF => k_asm); (case zqN => k_asm); (case zqU => k_updF); (case zqi => assumption); (case zqx => assumption); (case zqz => omega); k_whole); intro _ _ _ _; walk_at "ds"; intro _; (try k_sweep))
  k_with "compareOp In int ref" => (k_here; k_dflt (first | (refine' in_DI0 ?zqN ?zqd ?zqm ?zqv ?zqlo ?zqz ?_; (case zqN => k_asm); (case zqz => assumption); (case zqm => k_mem); (case zqd => assumption); (case zqv => assumption); (case zqlo => assumption); k_whole) | (refine' in_DI1 ?zqN ?zqd ?zqm ?zqv ?zqlo ?zqz ?_; (case zqN => k_asm); (case zqz => assumption); (case zqm => k_mem); (case zqd => assumption); (case zqv => assumption); (case zqlo => assumption); k_whole)))
  k_with "subscriptTail" => (k_here; (with_reducible show wpAny _ _ (subscriptTail _ _ (Value.ref _) (Value.int _ _)) _ _ _); k_dflt (refine' item_DI ?zqN ?zqd ?zqm ?zqv ?zqz ?_ ?zqs; (case zqN => k_asm); (case zqz => assumption); (case zqm => k_mem); (case zqd => assumption); (case zqv => assumption); (case zqs => with_unfolding_all rfl); k_whole); intro _)
  k_with "call builtin:list.append" => (k_here; (with_reducible show wpAny _ _ (call (Value.builtin _) [Value.ref _, _]) _ _ _); k_dflt (refine' append_L ?zqF ?zqN ?zqU ?zqz ?_; (case zqF => k_asm); (case zqN => k_asm); (case zqU => k_updF); (case zqz => omega); k_whole); intro _ _; walk_at "ds"; (try k_sweep))
  trivial
set_option maxHeartbeats 4000000 in
theorem compare_ok (w : World) {p : Program} {loose : List Str} {mean : ExcName → Option Value} {mg mb : Str → Option Value}
  {dp un : Nat} {gd : Option (List Code)} {cn : Str} {cs : Scope} {a : Addr} {ccd : Value} {cl : List (Str × Addr)} {outer : List Env} {A₀ : Around} {base h₀ : Heap} {L : Addr} {m : Str → Option Value} {news : List (Addr × Obj)} {s : Shared}
    {Q E : Value → Shared → Prop} 
    (B : Below A₀ base outer h₀) (F : Fr h₀ L s.heap m) (X : (K w.params).In h₀) (N : News h₀ L s.heap news) (T : Top p loose mean mg mb h₀) (hk : cs.kind = .function)
    (hdp : dp + 50 < recursionLimit) (hun : un + 400 < cLine)
    (jx jd tsel t0 t1 ta tb : Addr) (first second fa pa fb pb : Int) (k0 k1 k2 k3 k4 k5 k6 k7 : Tok) (kk : Tok)
    (hj : (jx, instObj 178 jd) ∈ news) (hjd : (jd, dictOf [⟨PyData.keyHash w.params "comp_select_list", .str "comp_select_list" kk, .ref tsel⟩] 1) ∈ news)
    (hs : (tsel, { cls := .type "tuple", data := .seq #[.ref t0, .ref t1] }) ∈ news) (h0 : (t0, { cls := .type "tuple", data := .seq #[.int 0 k0, .int first k1] }) ∈ news) (h1 : (t1, { cls := .type "tuple", data := .seq #[.int 1 k2, .int second k3] }) ∈ news)
    (ha : (ta, { cls := .type "tuple", data := .seq #[.int fa k4, .int pa k5]}) ∈ news) (hb : (tb, { cls := .type "tuple", data := .seq #[.int fb k6, .int pb k7] }) ∈ news)
    (hret : ∀ s' t, Sm s s' → Fr h₀ L s'.heap m → News h₀ L s'.heap news → Q (.int (cmp2 first second fa pa fb pb) t) s') :
    wpAny (model PySem.Challenge.rw_ij0017_01.row.prog w) (ktrTop dp un gd cn cs L a ccd cl outer) (call (.ref 175) [.ref jx, .ref ta, .ref tb]) Q E s := by
  revert X; k_fill; intro X
  try walk_at "tidy"
  walk_at "call ref"
  walk_at "tidy"
  k_steps
  refine for_rule2 ?_
  k_steps
  rename_i gF LF h2 FG F1 N1 BG XG TG _ _ _ _
  refine tuple_for rfl F1 N1 hs (fun i m₁ led => led = news ∧ m₁ "left" = some (.ref ta) ∧ m₁ "right" = some (.ref tb) ∧ (0 < i → fa = fb) ∧ (1 < i → pa = pb)) ?hs ?h0 ?turn ?done
  case hs => rintro i m₁ led ⟨rfl, _⟩; exact hs
  case h0 => exact ⟨rfl, rfl, rfl, fun h => absurd h (by decide), fun h => absurd h (by decide)⟩
  case turn =>
    rintro i v m₁ led s₁ I oI hv hIl ⟨rfl, hml, hmr, e1, e2⟩ sm F₁ N₁ hne
    clear F1 N1
    match i, hv with
    | 0, hv =>
      obtain rfl : Value.ref t0 = v := by simpa using hv
      k_steps
      · have e : cmp2 first second fa pa fb pb = -first := by unfold cmp2; rw [if_pos (by omega)]
        exact e ▸ hret _ _ (Sm.of sm) (by k_asm) (news_sub (by k_asm) fun _ h => .tail _ h)
      · have e : cmp2 first second fa pa fb pb = first := by unfold cmp2; rw [if_neg (by omega), if_pos (by omega)]
        exact e ▸ hret _ _ (Sm.of sm) (by k_asm) (news_sub (by k_asm) fun _ h => .tail _ h)
      · rename_i F9 N9 _ _ _ _ _
        exact ⟨_, _, Sm.of sm, F9, N9, hne, rfl, hml, hmr, fun _ => by omega, fun h => absurd h (by decide)⟩
    | 1, hv =>
      obtain rfl : Value.ref t1 = v := by simpa using hv
      have e1' := e1 (by decide)
      k_steps
      · have e : cmp2 first second fa pa fb pb = -second := by unfold cmp2; rw [if_neg (by omega), if_neg (by omega), if_pos (by omega)]
        exact e ▸ hret _ _ (Sm.of sm) (by k_asm) (news_sub (by k_asm) fun _ h => .tail _ h)
      · have e : cmp2 first second fa pa fb pb = second := by unfold cmp2; rw [if_neg (by omega), if_neg (by omega), if_neg (by omega), if_pos (by omega)]
        exact e ▸ hret _ _ (Sm.of sm) (by k_asm) (news_sub (by k_asm) fun _ h => .tail _ h)
      · rename_i F9 N9 _ _ _ _ _
        exact ⟨_, _, Sm.of sm, F9, N9, hne, rfl, hml, hmr, fun _ => e1', fun _ => by omega⟩
    | n + 2, hv => simp at hv
  case done =>
    rintro m₁ led s₁ ⟨rfl, hml, hmr, e1, e2⟩ sm F₁ N₁
    have e1' := e1 (Nat.le_add_left 1 1)
    have e2' := e2 (Nat.le_refl 2)
    k_steps
    have e : cmp2 first second fa pa fb pb = 0 := by unfold cmp2; rw [if_neg (by omega), if_neg (by omega), if_neg (by omega), if_neg (by omega)]
    exact e ▸ hret _ _ (Sm.of sm) (by k_asm) (by k_asm)
theorem walkWords15 : True := by
  w_top off
  k_with "binaryOp Add str str" => (k_here; (with_reducible show wpAny _ _ (binaryOp Operator.Add (Value.str _ _) (Value.str _ _)) _ _ _); (refine' KXadd.add (K := 100000) (L := 100000) ?zqa ?zqb (by decide) ?_; (case zqa => omega); (case zqb => omega); intro _ _ _))
  k_with "subscriptTail Name Name ref int" => (k_here; (with_reducible show wpAny _ _ (subscriptTail _ _ (Value.ref _) (Value.int _ _)) _ _ _); k_dflt (refine' item_LS ?zqN ?zqm ?zqS ?zqa ?zqb ?zqx ?_ ?zqs; (case zqN => k_asm); (case zqm => k_mem); (case zqS => assumption); (case zqa => omega); (case zqb => omega); (case zqx => assumption); (case zqs => with_unfolding_all rfl); k_whole); intro _)
  k_with "call type:list" => (k_here; (with_reducible show wpAny _ _ (call (Value.type "list") [Value.ref _]) _ _ _); k_dflt (refine' list_DI ?zqh ?zqF ?zqN ?zqd ?zqm ?zqv ?zqlo ?zqz ?_; (case zqh => exact rfl); (case zqF => k_asm); (case zqN => k_asm); (case zqm => k_mem); (case zqd => assumption); (case zqv => assumption); (case zqlo => assumption); (case zqz => omega); k_whole); intro _ _ _ _ _ _ _; walk_at "lt1"; (try k_sweep))
  k_with "subscriptTail" => (k_here; (with_reducible show wpAny _ _ (subscriptTail _ (PySem.Expr.Slice none none (some _) _) (Value.ref _) (Value.ref _)) _ _ _); k_dflt (refine' rev_L ?zqF ?zqN ?zqm ?zqk ?zqi ?zqz ?_ ?zqs ?zqt; (case zqF => k_asm); (case zqN => k_asm); (case zqm => k_mem); (case zqk => exact IsPart.int _ _); (case zqi => assumption); (case zqz => omega); (case zqs => with_unfolding_all rfl); (case zqt => (intro _; with_unfolding_all rfl))); intro _ _ _ _ _; walk_at "lt1"; (try k_sweep))
  k_with "subscriptTail" => (k_here; (with_reducible show wpAny _ _ (subscriptTail _ _ (Value.ref _) (Value.int _ _)) _ _ _); k_dflt (refine' item_DS ?zqN ?zqd ?zqm ?zqv ?zqz ?_ ?zqs; (case zqN => k_asm); (case zqz => assumption); (case zqm => k_mem); (case zqd => assumption); (case zqv => assumption); (case zqs => with_unfolding_all rfl); k_whole); intro _)
  k_with "eval Dict" => (k_here; k_dflt (refine' kdn_eval (knd := PySem.intKind _ _) ?zqF ?zqN ?zqb ?zqa ?zql ?zqe ?zqn ?_; (case zqF => k_asm); (case zqN => first | k_asm | exact News.nil); (case zqb => exact Top.nolimit (by k_asm)); (case zqa => rfl); (case zql => rfl); (case zqe => exact List.cons_ne_nil _ _); (case zqn => exact Nat.le_of_ble_eq_true rfl)); intro _ _ _ _ _; walk_at "lt2")
  trivial
set_option maxHeartbeats 4000000 in
theorem paths_ok (w : World) {p : Program} {loose : List Str} {mean : ExcName → Option Value} {mg mb : Str → Option Value}
  {dp un : Nat} {gd : Option (List Code)} {cn : Str} {cs : Scope} {a : Addr} {ccd : Value} {cl : List (Str × Addr)} {outer : List Env} {A₀ : Around} {base h₀ : Heap} {L : Addr} {m : Str → Option Value} {news : List (Addr × Obj)} {s : Shared}
    {Q E : Value → Shared → Prop} 
    (B : Below A₀ base outer h₀) (F : Fr h₀ L s.heap m) (X : (K w.params).In h₀) (N : News h₀ L s.heap news) (T : Top p loose mean mg mb h₀) (hk : cs.kind = .function)
    (hdp : dp + 50 < recursionLimit) (hun : un + 400 < cLine)
    (u : Addr) (oU : Obj) (kvs : List (Int × Value)) (ups : List (Int × Int)) (hu : (u, oU) ∈ news) (hus : (u == sysModules) = false) (hU : oU.IsDictOf (PySem.intKind PySem.Challenge.rw_ij0017_01.row.prog w) kvs) (hUv : IntVals kvs ups) (hul : ups.length ≤ 100)
    (r : Int) (t : Tok) (hr0 : 0 ≤ r) (hr9 : r < 9) (P : Nat → List (Int × Str)) (hP0 : P 0 = [(r, nmOf r)]) (hPl : ∀ i, i ≤ ups.length → (P i).length ≤ 1 + i)
    (hstep : ∀ i n, i < ups.length → (ups.map (·.1)).reverse[i]? = some n → ∃ par base, upOf ups n = some par ∧ strOf (P i) par = some base ∧ 0 ≤ n ∧ n < 9 ∧ n ∉ (P i).map (·.1) ∧ base.length ≤ 2000 ∧ P (i + 1) = P i ++ [(n, under base n)])
    (hret : ∀ s' D oD kvs, Sm s s' → Fr h₀ L s'.heap m → News h₀ L s'.heap ((D, oD) :: news) → (∀ p ∈ news, p.1 < D) → (D == sysModules) = false → oD.IsDictOf (PySem.intKind PySem.Challenge.rw_ij0017_01.row.prog w) kvs → StrVals kvs (P ups.length) → Q (.ref D) s')
    :
    wpAny (model PySem.Challenge.rw_ij0017_01.row.prog w) (ktrTop dp un gd cn cs L a ccd cl outer) (call (.ref 208) [.ref u, .int r t]) Q E s := by
  revert X; k_fill; intro X
  try walk_at "tidy"
  walk_at "call ref"
  walk_at "tidy"
  k_steps
  refine for_rule ?_
  k_steps
  rename_i gF LF h1 FG BG XG TG _ _ tk1 _ _ lN h2 l1a h3 _ _ _ dP h4 o4 lo4 hd4 l1b tn ktb h5 oP hP hPf h6 _ _ DL c7 h7 tk7 vs7 hi7 l1c DR vsR h8 F8 N8 hR hC l1d
  have hLn : AllLt lN news := allLt_of l1a
  obtain ⟨vsN, hN9, N9⟩ : ∃ vsN, StrsAre vsN nms ∧ News gF LF h8 ((DR, listOf vsR.toArray 0) :: (dP, oP) :: (lN, listOf (List.toArray vsN) 0) :: news) := by
    refine ⟨[Value.str (Str.ofString "a") (tk1), Value.str (Str.ofString "b") (tk1 + 1), Value.str (Str.ofString ".") (tk1 + 1 + 1), Value.str (Str.ofString "..") (tk1 + 1 + 1 + 1), Value.str (Str.ofString "ab") (tk1 + 1 + 1 + 1 + 1), Value.str (Str.ofString "a b") (tk1 + 1 + 1 + 1 + 1 + 1), Value.str (Str.ofString "a.b") (tk1 + 1 + 1 + 1 + 1 + 1 + 1), Value.str (Str.ofString "b-") (tk1 + 1 + 1 + 1 + 1 + 1 + 1 + 1), Value.str (Str.ofString "_") (tk1 + 1 + 1 + 1 + 1 + 1 + 1 + 1 + 1)], ?a, news_sub N8 ?b⟩
    case b =>
      intro p9 hp9
      rcases List.mem_cons.mp hp9 with rfl | hp9
      · exact .head _
      rcases List.mem_cons.mp hp9 with rfl | hp9
      · exact .tail _ (.tail _ (.head _))
      rcases List.mem_cons.mp hp9 with rfl | hp9
      · exact .tail _ (.tail _ (.tail _ (.head _)))
      exact .tail _ (.tail _ (.tail _ (.tail _ hp9)))
    case a => repeat (first | exact .nil | refine .cons _ _ ?_)
  refine list_for rfl F8 N9 (by k_mem) (fun i m₁ led => m₁ "names" = some (.ref lN) ∧ m₁ "paths" = some (.ref dP) ∧ m₁ "up" = some (.ref u) ∧ ∃ oP kvs vsN kN, led = [(DR, listOf vsR.toArray 0), (dP, oP), (lN, listOf (List.toArray vsN) kN)] ++ news ∧
    Obj.IsDictOf (PySem.intKind PySem.Challenge.rw_ij0017_01.row.prog w) oP kvs ∧ StrVals kvs (P i) ∧ StrsAre vsN nms) ?hs ?h0 ?turn ?done
  case hs => rintro i m₁ led ⟨_, _, _, oP, kvs, vsN, kN, rfl, _⟩; k_mem
  case h0 =>
    refine ⟨rfl, rfl, rfl, oP, _, vsN, 0, rfl, hP, ?_, hN9⟩
    rw [hP0]
    exact Paired.cons ⟨rfl, tn, rfl⟩ .nil
  case turn =>
    rintro i v m₁ led s₁ I oI hv hIl
    walk_at "flat"
    rename_i hmn hmp hmu oP kvs vsN kN hz91 hoP hkv hN9
    subst hz91
    rintro sm F₁ N₁ hne
    simp only [List.cons_append, List.nil_append] at N₁
    replace hne := gnNe_of hne
    simp only [List.cons_append, List.nil_append, GnNe] at hne
    obtain ⟨n, t1, rfl, hn⟩ := ints_at hR hv
    have hi : i < ups.length := by
      have := List.getElem?_eq_some_iff.mp hn
      obtain ⟨h, _⟩ := this
      simpa using h
    obtain ⟨par, base, hup, hbs, h0, h9, hnk, hbl, hPs⟩ := hstep i n hi hn
    obtain ⟨hn1, hn2⟩ := nm_at h0 h9
    have hf0 : 0 ≤ n.fmod 2 := Int.fmod_nonneg_of_pos n (by decide)
    have hf2 : n.fmod 2 < 2 := Int.fmod_lt_of_pos n (by decide)
    have hkl := hkv.length
    have hpl := hPl i (by omega)
    clear F8 N8 N9
    k_steps
    rename_i h9 oP2 F9 N9 hd9
    refine ⟨_, _, ⟨sm.1, sm.2⟩, F9, N9, ?_, hmn, hmp, hmu, oP2, _, vsN, kN, rfl, hd9, ?_, hN9⟩
    · intro p9 hp9
      rcases List.mem_cons.mp hp9 with rfl | hp9
      · exact hne.1
      rcases List.mem_cons.mp hp9 with rfl | hp9
      · exact hne.2.1
      rcases List.mem_cons.mp hp9 with rfl | hp9
      · exact hne.2.2.1
      exact Nat.ne_of_lt (hIl p9 (by simp [hp9]))
    · rw [hPs]
      exact hkv.snoc hnk
  case done =>
    rintro m₁ led s₁
    walk_at "flat"
    rename_i hmn hmp hmu oP kvs vsN kN hz92 hoP hkv hN9
    subst hz92
    rintro sm F₁ N₁
    simp only [List.cons_append, List.nil_append] at N₁
    k_steps
    rename_i kF kN _ _
    have e : vsR.length = ups.length := by rw [hR.length]; simp
    rw [e] at hkv
    exact hret _ dP oP kvs (Sm.of sm) kF (news_sub kN (by intro p9 hp9; rcases List.mem_cons.mp hp9 with rfl | hp9; exact .tail _ (.head _); exact .tail _ (.tail _ (.tail _ hp9)))) (all_lt_of l1b.2) lo4 hoP hkv
theorem walkWords16 : True := by
  w_top off
  k_with_none
  k_with "via" => first | exact Mine.viaHead _ | (refine Mine.viaTail ?_; k_extra "via") | exact Mine.viaLast _ | fail
  k_with "conj" => with_reducible first | assumption | (refine' Mine.viaLt ?zqh ?zqk; (case zqh => assumption); (case zqk => k_extra "via")) | (refine' Mine.viaNe ?zqh ?zqk; (case zqh => assumption); (case zqk => k_extra "via")) | fail
  k_with "up" => with_reducible first | exact Mine.u0 | exact Mine.u1 | exact Mine.u2 | exact Mine.u3 | exact Mine.u4 | exact Mine.u5 | exact Mine.u6 | exact Mine.u7 | exact Mine.u8 | fail
  k_with "omega" => first | (k_whole; with_reducible first | assumption | exact Mine.v0 | exact Mine.v1 | exact Mine.v2 | exact Mine.v3 | exact Mine.v4 | exact Mine.v5 | exact Mine.v6 | exact Mine.v7 | exact Mine.v8 | k_extra "conj" | (refine Mine.neGt ?_; k_extra "conj") | (refine Mine.neLt ?_; k_extra "conj") | k_extra "up" | exact Int.natCast_nonneg _ | decide | exact Mine.leCut (by assumption) | exact Mine.ltCut (by assumption) | exact Mine.leCut' (by assumption) | exact Mine.ltCut' (by assumption) | exact Mine.iCut1 (by assumption) | exact Mine.iCut2 (by assumption) | exact Mine.iCut3 (by assumption) | exact Mine.iCut4 (by assumption) | fail) | (k_whole; lia) | omega +splitDisjunctions | ((dsimp +zetaDelta only at *); omega +splitDisjunctions)
  k_with "ne" => (refine PySem.W.neN ?_; (try dsimp only); first | (refine Mine.neGt ?_; first | k_extra "conj" | k_extra "up") | (refine Mine.neLt ?_; first | k_extra "conj" | k_extra "up") | (refine Mine.neSym ?_; k_extra "conj") | omega)
  k_with "rows" => with_reducible first | show wpAny _ _ (exec (Stmt.While _ _ _ _) _) _ _ _ | show wpAny _ _ (exec (Stmt.For _ _ _ _ _) _) _ _ _ | show wpAny _ _ (eval (Expr.ListComp _ _ _ _) _) _ _ _ | show wpAny _ _ (exec (Stmt.Assign _ (Expr.ListComp _ _ _ _) _) _) _ _ _ | fail
  k_with "steps" => repeat' (first | ((fail_if_success keq_rows); (first | (k_unfold; (try dsimp only)) | (k_end; wrow_close) | ((first | walk1 | (dsimp only; walk1)); (all_goals try walk_at "tidy")) | (leave1; walk_say "STEP leave1"; try dsimp only))) | fail "no step")
  k_with "tidy" => ((try ((with_reducible show wpAny _ _ (exec _ _) _ _ _); (fail_if_success fail_if_success k_fold); refine Mine.foldQ ?_; intro _)); (try ((fail_if_success fail_if_success (first | conv in (Around.deeper _ _) => skip | conv in (ktrTop _ _ _ _ _ _ _ _ _ _) => skip)); refine Mine.foldE ?_; intro _; refine Mine.foldA ?_; intro _)); (try ((fail_if_success fail_if_success (conv in (Shared.mk _ _ _ _ _) => skip)); (with_reducible show wpAny _ _ (exec _ _) _ _ _); refine Mine.foldS ?_; intro _)))
  k_with "flat" => with_reducible first | ((refine Mine.an12 ?_; iterate 11 intro _); walk_at "flat") | ((refine Mine.an6 ?_; iterate 5 intro _); walk_at "flat") | ((refine Mine.an3 ?_; iterate 2 intro _); walk_at "flat") | ((refine Mine.an2 ?_; iterate 1 intro _); walk_at "flat") | ((refine Mine.ex15 ?_; iterate 15 intro _); walk_at "flat") | ((refine Mine.ex8 ?_; iterate 8 intro _); walk_at "flat") | ((refine Mine.ex4 ?_; iterate 4 intro _); walk_at "flat") | ((refine Mine.ex2 ?_; iterate 2 intro _); walk_at "flat") | ((refine Mine.ex1 ?_; iterate 1 intro _); walk_at "flat") | intro _
  k_with "call ref" => (k_here; refine wpAny_call ?_; k_dflt (first | (refine' code_def ?zqk1 ?zqk2 ?zqk3 ?zqk4 ?zqk5 ?zqkA ?zqkF ?zqkK ?zqk6 ?zqk7 ?zqk8 ?zqk9 ?zqkB ?_ ?zqc2 ?zqc3 ?zqc4 ?zqc5; (case zqkA => exact rfl); (case zqkF => exact rfl); (case zqkK => first | exact rfl | assumption); (case zqk1 => k_asm); (case zqk2 => k_asm); (case zqk3 => k_asm); (case zqk4 => k_asm); (case zqk5 => k_asm); (case zqk6 => k_is); (case zqk7 => k_is); (case zqk8 => ktr_room); (case zqk9 => exact BindsTo.of_eq rfl); (case zqc5 => decide); (case zqkB => exact locs rfl); (case zqc2 => exact rfl); (case zqc3 => exact rfl); (case zqc4 => exact rfl); k_whole; intro _ _ _ _ _ _; walk_at "cdA") | (refine' code_defC ?zqk1 ?zqk2 ?zqk3 ?zqk4 ?zqk5 ?zqkA ?zqkF ?zqkK ?zqk6 ?zqk7 ?zqk8 ?zqk9 ?zqkB ?zqkD ?_ ?zqc2 ?zqc3 ?zqc4; (case zqkA => exact rfl); (case zqkF => exact rfl); (case zqkK => first | exact rfl | assumption); (case zqk1 => k_asm); (case zqk2 => k_asm); (case zqk3 => k_asm); (case zqk4 => k_asm); (case zqk5 => k_asm); (case zqk6 => k_is); (case zqk7 => k_is); (case zqk8 => ktr_room); (case zqk9 => exact BindsTo.of_eq rfl); (case zqkB => exact rfl); (case zqkD => decide +kernel); (case zqc2 => exact rfl); (case zqc3 => exact rfl); (case zqc4 => exact rfl); k_whole; intro _ _ _ _ _ _ _; walk_at "cdC")))
  k_with "call type:list" => (k_here; (with_reducible show wpAny _ _ (call (Value.type "list") [Value.ref _]) _ _ _); k_dflt (refine' list_copyK ?zqF ?zqN ?zql ?_ ?zqz; (case zqF => k_asm); (case zqN => k_asm); (case zql => exact News.isList (by k_asm) (by k_mem)); (case zqz => (rw [List.size_toArray, sizeLine_eq]; omega)); k_whole); intro _ _ _ _ _; walk_at "lt0"; (try k_sweep))
  k_with "mem" => first | exact List.Mem.head _ | assumption | (refine' List.Mem.tail _ ?_; k_mem)
  k_with "call builtin:len" => (k_here; (with_reducible show wpAny _ _ (call (Value.builtin "len") [Value.ref _]) _ _ _); k_dflt (refine' len_L ?zqN ?zqm ?zqf ?_; (case zqN => k_asm); (case zqm => k_mem); (case zqf => omega); k_whole))
  k_with "eval Name" => (k_here; (with_reducible show wpAny _ _ (eval (Expr.Name _ _) (envOf _ _ _ _ _)) _ _ _); k_dflt (refine' nameX_L (cl := []) ?zqF ?zqv ?_ ?zqa ?zqb; (case zqF => k_asm); (case zqa => rfl); (case zqb => rfl); (case zqv => first | exact rfl | assumption); k_whole))
  k_with "eval Name" => (k_here; (with_reducible show wpAny _ _ (eval (Expr.Name _ _) (envOfC _ _ _ _ _)) _ _ _); k_dflt (refine' nameX_L ?zqF ?zqv ?_ ?zqa ?zqb; (case zqF => k_asm); (case zqa => rfl); (case zqb => rfl); (case zqv => first | exact rfl | assumption); k_whole))
  k_with "all" => exact all_ge (by assumption) (by omega)
  k_with "eval Name" => (k_here; (with_reducible show wpAny _ _ (eval (Expr.Name _ _) (compEnvC _ _ _ (envOfC _ _ _ _ _))) _ _ _); k_dflt (first | (refine' ce_L ?zqN ?zqC ?zqm ?zqv ?_ ?zqa; (case zqa => decide +kernel); (case zqN => k_asm); (case zqC => assumption); (case zqm => k_mem); (case zqv => assumption); k_whole) | (refine' ce_C ?zqN ?zqa ?zqc ?zqm ?zqd ?_; (case zqa => decide +kernel); (case zqN => k_asm); (case zqc => rfl); (case zqm => k_mem); (case zqd => assumption); k_whole)))
  k_with "compareOp NotIn int ref" => (k_here; k_dflt (refine' notIn_L ?zqN ?zqm ?zqi ?_; (case zqN => k_asm); (case zqm => k_mem); (case zqi => first | assumption | exact ints_drop (by assumption) _); k_whole))
  k_with "compareOp In int ref" => (k_here; k_dflt (refine' in_L ?zqN ?zqm ?zqi ?_; (case zqN => k_asm); (case zqm => k_mem); (case zqi => first | assumption | exact ints_drop (by assumption) _); k_whole))
  k_with "subscriptTail Name Slice ref ref" => (k_here; (with_reducible show wpAny _ _ (subscriptTail _ (PySem.Expr.Slice (some _) none none _) (Value.ref _) (Value.ref _)) _ _ _); k_dflt (refine' slice_K ?zqF ?zqN ?zqm (IsPart.int _ _) IsPart.none (pick_from _ ?zqe) ?_ ?zqs ?zqt ?zqz; (case zqF => k_asm); (case zqN => k_asm); (case zqm => k_mem); (case zqe => omega); (case zqs => with_unfolding_all rfl); (case zqt => (intro _; with_unfolding_all rfl)); (case zqz => omega)); intro _ _ _ _; walk_at "lt0"; (try k_sweep))
  k_with "subscriptTail" => (k_here; (with_reducible show wpAny _ _ (subscriptTail _ _ (Value.ref _) (Value.int _ _)) _ _ _); k_dflt (refine' item_L ?zqN ?zqm ?zqa ?zqb ?zqx ?_ ?zqs; (case zqN => k_asm); (case zqm => k_mem); (case zqa => omega); (case zqb => omega); (case zqx => first | exact rfl | assumption); (case zqs => with_unfolding_all rfl); k_whole))
  k_with "setItem ref int" => (k_here; k_dflt (refine' setItem_D (isI _ _) ?zqF ?zqN ?zqU ?zqd ?zqz ?_; (case zqF => k_asm); (case zqN => k_asm); (case zqU => k_updF); (case zqd => assumption); (case zqz => omega); k_whole); intro _ _ _; walk_at "ds"; intro _; (try k_sweep))
  k_with "call builtin:list.remove" => (k_here; k_dflt (refine' remove_L ?zqF ?zqN ?zqU ?zqi ?zqx ?zqz ?_; (case zqF => k_asm); (case zqN => k_asm); (case zqU => k_updF); (case zqi => assumption); (case zqx => assumption); (case zqz => omega); k_whole); intro _ _ _ _; walk_at "ds"; intro _; (try k_sweep))
  k_with "compareOp In int ref" => (k_here; k_dflt (first | (refine' in_DI0 ?zqN ?zqd ?zqm ?zqv ?zqlo ?zqz ?_; (case zqN => k_asm); (case zqz => assumption); (case zqm => k_mem); (case zqd => assumption); (case zqv => assumption); (case zqlo => assumption); k_whole) | (refine' in_DI1 ?zqN ?zqd ?zqm ?zqv ?zqlo ?zqz ?_; (case zqN => k_asm); (case zqz => assumption); (case zqm => k_mem); (case zqd => assumption); (case zqv => assumption); (case zqlo => assumption); k_whole)))
  k_with "subscriptTail" => (k_here; (with_reducible show wpAny _ _ (subscriptTail _ _ (Value.ref _) (Value.int _ _)) _ _ _); k_dflt (refine' item_DI ?zqN ?zqd ?zqm ?zqv ?zqz ?_ ?zqs; (case zqN => k_asm); (case zqz => assumption); (case zqm => k_mem); (case zqd => assumption); (case zqv => assumption); (case zqs => with_unfolding_all rfl); k_whole); intro _)
  k_with "call builtin:list.append" => (k_here; (with_reducible show wpAny _ _ (call (Value.builtin _) [Value.ref _, _]) _ _ _); k_dflt (refine' append_L ?zqF ?zqN ?zqU ?zqz ?_; (case zqF => k_asm); (case zqN => k_asm); (case zqU => k_updF); (case zqz => omega); k_whole); intro _ _; walk_at "ds"; (try k_sweep))
  k_with "getMethod ref" => (k_here; (with_reducible show wpAny _ _ (getMethod (Value.ref _) (Str.ofString "items") _) _ _ _); k_dflt (refine' items_method ?zqN ?zqm ?zqd ?_; (case zqN => k_asm); (case zqm => k_mem); (case zqd => assumption); k_whole))
  k_with "call builtin:dict.items" => (k_here; k_dflt (refine' items_call ?zqF ?zqN ?zqm ?zqd ?zqlo ?_; (case zqF => k_asm); (case zqN => k_asm); (case zqm => k_mem); (case zqd => assumption); (case zqlo => assumption); k_whole); intro _ _ _ _ _; (try k_sweep))
  k_with "setItem ref str" => (k_here; k_dflt (refine' setItem_D (isS _ _) ?zqF ?zqN ?zqU ?zqd ?zqz ?_; (case zqF => k_asm); (case zqN => k_asm); (case zqU => k_updF); (case zqd => assumption); (case zqz => omega); k_whole); intro _ _ _; walk_at "ds"; intro _; (try k_sweep))
  k_with "compareOp In str ref" => (k_here; k_dflt (first | (refine' in_SI0 ?zqN ?zqm ?zqd ?zqv ?zqlo ?zqz ?_; (case zqN => k_asm); (case zqm => k_mem); (case zqd => assumption); (case zqv => assumption); (case zqlo => assumption); (case zqz => assumption); k_whole) | (refine' in_SI1 ?zqN ?zqm ?zqd ?zqv ?zqlo ?zqz ?_; (case zqN => k_asm); (case zqm => k_mem); (case zqd => assumption); (case zqv => assumption); (case zqlo => assumption); (case zqz => assumption); k_whole)))
  k_with "getItem ref str" => (k_here; k_dflt (refine' get_SI ?zqN ?zqm ?zqd ?zqv ?zqn ?_; (case zqN => k_asm); (case zqm => k_mem); (case zqd => assumption); (case zqv => assumption); (case zqn => assumption); k_whole); intro _)
  k_with "subscriptTail" => (k_here; (with_reducible show wpAny _ _ (subscriptTail _ _ (Value.ref _) (Value.str _ _)) _ _ _); k_dflt (refine' item_SI ?zqN ?zqm ?zqd ?zqv ?zqn ?_ ?zqs; (case zqN => k_asm); (case zqm => k_mem); (case zqd => assumption); (case zqv => assumption); (case zqn => assumption); (case zqs => with_unfolding_all rfl); k_whole); intro _)
  trivial
set_option maxHeartbeats 4000000 in
theorem addc_ok (w : World) {p : Program} {loose : List Str} {mean : ExcName → Option Value} {mg mb : Str → Option Value}
  {dp un : Nat} {gd : Option (List Code)} {cn : Str} {cs : Scope} {a : Addr} {ccd : Value} {cl : List (Str × Addr)} {outer : List Env} {A₀ : Around} {base h₀ : Heap} {L : Addr} {m : Str → Option Value} {news : List (Addr × Obj)} {s : Shared}
    {Q E : Value → Shared → Prop} 
    (B : Below A₀ base outer h₀) (F : Fr h₀ L s.heap m) (X : (K w.params).In h₀) (N : News h₀ L s.heap news) (T : Top p loose mean mg mb h₀) (hk : cs.kind = .function)
    (hdp : dp + 50 < recursionLimit) (hun : un + 400 < cLine)
    (t u : Addr) (ot ou : Obj) (kt ku : List (Str × Value)) (pt pu : List (Str × Int)) (htm : (t, ot) ∈ news) (hum : (u, ou) ∈ news) (lt : (t == sysModules) = false) (lu : (u == sysModules) = false)
    (htd : ot.IsDictOf (PySem.strKind PySem.Challenge.rw_ij0017_01.row.prog w) kt) (hud : ou.IsDictOf (PySem.strKind PySem.Challenge.rw_ij0017_01.row.prog w) ku) (htv : SI kt pt) (huv : SI ku pu) (hnt : (pt.map (·.1)).Nodup) (hlt : pt.length ≤ 200) (hlu : pu.length ≤ 200)
    (hret : ∀ s' D oD kvs, Sm s s' → Fr h₀ L s'.heap m → News h₀ L s'.heap ((D, oD) :: news) → (∀ p ∈ news, p.1 < D) → (D == sysModules) = false → oD.IsDictOf (PySem.strKind PySem.Challenge.rw_ij0017_01.row.prog w) kvs → SI kvs (addC pt pu) → Q (.ref D) s') :
    wpAny (model PySem.Challenge.rw_ij0017_01.row.prog w) (ktrTop dp un gd cn cs L a ccd cl outer) (call (.ref 196) [.ref t, .ref u]) Q E s := by
  revert X; k_fill; intro X
  try walk_at "tidy"
  walk_at "call ref"
  walk_at "tidy"
  k_steps
  refine for_rule2 ?_
  k_steps
  rename_i gF LF h2 FG BG XG TG _ _ _ _ _ dN h3 oN l1 loN hN0 _ _ _ _ _ _ vw1 h4 hvw1 F1 N1
  have hLn : AllLt dN news := allLt_of l1
  have hkt := htv.length
  have hku := huv.length
  refine items_for rfl F1 N1 hvw1 (by k_mem) htd (fun i m₁ led => m₁ "target" = some (.ref t) ∧ m₁ "source" = some (.ref u) ∧ m₁ "new_callers" = some (.ref dN) ∧ ∃ oN kn, led = (dN, oN) :: news ∧ oN.IsDictOf (PySem.strKind PySem.Challenge.rw_ij0017_01.row.prog w) kn ∧ SI kn (pt.take i)) ?hs ?h0 rfl rfl ?turn ?done
  case hs => rintro i m₁ led ⟨_, _, _, oN, kn, rfl, _⟩; exact .tail _ htm
  case h0 => exact ⟨rfl, rfl, rfl, oN, [], rfl, hN0, .nil⟩
  case turn =>
    rintro i k x key m₁ led s₁ I oI hx hkey hIl
    walk_at "flat"
    rename_i hm1 hm2 hm3 oN kn hz91 hoN hkn
    subst hz91
    rintro sm F₁ N₁ hne
    obtain ⟨tk, rfl⟩ := isS_inv hkey
    obtain ⟨n, tn, rfl, hn⟩ := htv.at hx
    have hkl := hkn.length
    have hi := (List.getElem?_eq_some_iff.mp hn).1
    rw [List.length_take] at hkl
    replace hne := gnNe_of hne
    simp only [GnNe] at hne
    clear F1 N1
    k_steps
    rename_i h9 oN2 F9 N9 hd9
    refine ⟨_, _, Sm.of sm, F9, N9, ?_, hm1, hm2, hm3, oN2, _, rfl, hd9, take_put hnt hn ▸ hkn.stored k n tn⟩
    intro p9 hp9
    rcases List.mem_cons.mp hp9 with rfl | hp9
    · exact hne.1
    exact Nat.ne_of_lt (hIl p9 (by simp [hp9]))
  case done =>
    rintro m₁ led s₁
    walk_at "flat"
    rename_i hm1 hm2 hm3 oN kn hz92 hoN hkn
    subst hz92
    rintro sm F₁ N₁
    rw [hkt, List.take_length] at hkn
    have hkl := hkn.length
    clear F1 N1
    k_steps
    refine for_rule2 ?_
    k_steps
    rename_i vw2 h6 hvw2 F2 N2
    refine items_for rfl F2 N2 hvw2 (by k_mem) hud (fun i m₁ led => m₁ "target" = some (.ref t) ∧ m₁ "source" = some (.ref u) ∧ m₁ "new_callers" = some (.ref dN) ∧ ∃ oN kn, led = (dN, oN) :: news ∧ oN.IsDictOf (PySem.strKind PySem.Challenge.rw_ij0017_01.row.prog w) kn ∧ SI kn (addC pt (pu.take i))) ?hs2 ?h02 rfl rfl ?turn2 ?done2
    case hs2 => rintro i m₁ led ⟨_, _, _, oN, kn, rfl, _⟩; exact .tail _ hum
    case h02 => exact ⟨hm1, hm2, hm3, oN, kn, rfl, hoN, hkn⟩
    case turn2 =>
      rintro i k x key m₂ led s₂ I oI hx hkey hIl
      walk_at "flat"
      rename_i hm1' hm2' hm3' oN' kn' hz93 hoN' hkn'
      subst hz93
      rintro sm2 F₂ N₂ hne
      obtain ⟨tk2, rfl⟩ := isS_inv hkey
      obtain ⟨n, tn, rfl, hn⟩ := huv.at hx
      have hkl' := hkn'.length
      have hal := addC_len (pu.take i) pt
      have hi := (List.getElem?_eq_some_iff.mp hn).1
      rw [List.length_take] at hal
      replace hne := gnNe_of hne
      simp only [GnNe] at hne
      clear F2 N2
      have hst := addC_step (ts := pt) hn
      have hne2 : ∀ (oN2 : Obj), ∀ p ∈ (dN, oN2) :: news, p.1 ≠ I := by
        intro oN2 p9 hp9
        rcases List.mem_cons.mp hp9 with rfl | hp9
        · exact hne.1
        exact Nat.ne_of_lt (hIl p9 (by simp [hp9]))
      cases hq : intOf (addC pt (pu.take i)) k with
      | none =>
        rw [hq] at hst
        k_steps
        rename_i h9 oN2 F9 N9 hd9
        exact ⟨_, _, Sm.of sm2, F9, N9, hne2 _, hm1', hm2', hm3', oN2, _, rfl, hd9, hst ▸ hkn'.stored k n tn⟩
      | some v =>
        rw [hq] at hst
        k_steps
        rename_i h9 oN2 F9 N9 hd9
        exact ⟨_, _, Sm.of sm2, F9, N9, hne2 _, hm1', hm2', hm3', oN2, _, rfl, hd9, hst ▸ hkn'.stored k (v + n) _⟩
    case done2 =>
      rintro m₂ led s₂
      walk_at "flat"
      rename_i hm1' hm2' hm3' oN' kn' hz94 hoN' hkn'
      subst hz94
      rintro sm2 F₂ N₂
      rw [hku, List.take_length] at hkn'
      clear F2 N2
      k_steps
      rename_i kF kN _ _
      exact hret _ dN oN' kn' (Sm.of (sm.trans sm2)) kF kN l1 loN hoN' hkn'
theorem walkWords17 : True := by
  w_top off
  k_with_none
  k_with "via" => first | exact Mine.viaHead _ | (refine Mine.viaTail ?_; k_extra "via") | exact Mine.viaLast _ | fail
  k_with "conj" => with_reducible first | assumption | (refine' Mine.viaLt ?zqh ?zqk; (case zqh => assumption); (case zqk => k_extra "via")) | (refine' Mine.viaNe ?zqh ?zqk; (case zqh => assumption); (case zqk => k_extra "via")) | fail
  k_with "up" => with_reducible first | exact Mine.u0 | exact Mine.u1 | exact Mine.u2 | exact Mine.u3 | exact Mine.u4 | exact Mine.u5 | exact Mine.u6 | exact Mine.u7 | exact Mine.u8 | fail
  k_with "omega" => first | (k_whole; with_reducible first | assumption | exact Mine.v0 | exact Mine.v1 | exact Mine.v2 | exact Mine.v3 | exact Mine.v4 | exact Mine.v5 | exact Mine.v6 | exact Mine.v7 | exact Mine.v8 | k_extra "conj" | (refine Mine.neGt ?_; k_extra "conj") | (refine Mine.neLt ?_; k_extra "conj") | k_extra "up" | exact Int.natCast_nonneg _ | decide | exact Mine.leCut (by assumption) | exact Mine.ltCut (by assumption) | exact Mine.leCut' (by assumption) | exact Mine.ltCut' (by assumption) | exact Mine.iCut1 (by assumption) | exact Mine.iCut2 (by assumption) | exact Mine.iCut3 (by assumption) | exact Mine.iCut4 (by assumption) | fail) | (k_whole; lia) | omega +splitDisjunctions | ((dsimp +zetaDelta only at *); omega +splitDisjunctions)
  k_with "ne" => (refine PySem.W.neN ?_; (try dsimp only); first | (refine Mine.neGt ?_; first | k_extra "conj" | k_extra "up") | (refine Mine.neLt ?_; first | k_extra "conj" | k_extra "up") | (refine Mine.neSym ?_; k_extra "conj") | omega)
  k_with "rows" => with_reducible first | show wpAny _ _ (exec (Stmt.While _ _ _ _) _) _ _ _ | show wpAny _ _ (exec (Stmt.For _ _ _ _ _) _) _ _ _ | show wpAny _ _ (eval (Expr.ListComp _ _ _ _) _) _ _ _ | show wpAny _ _ (exec (Stmt.Assign _ (Expr.ListComp _ _ _ _) _) _) _ _ _ | fail
  k_with "steps" => repeat' (first | ((fail_if_success keq_rows); (first | (k_unfold; (try dsimp only)) | (k_end; wrow_close) | ((first | walk1 | (dsimp only; walk1)); (all_goals try walk_at "tidy")) | (leave1; walk_say "STEP leave1"; try dsimp only))) | fail "no step")
  k_with "tidy" => ((try ((with_reducible show wpAny _ _ (exec _ _) _ _ _); (fail_if_success fail_if_success k_fold); refine Mine.foldQ ?_; intro _)); (try ((fail_if_success fail_if_success (first | conv in (Around.deeper _ _) => skip | conv in (ktrTop _ _ _ _ _ _ _ _ _ _) => skip)); refine Mine.foldE ?_; intro _; refine Mine.foldA ?_; intro _)); (try ((fail_if_success fail_if_success (conv in (Shared.mk _ _ _ _ _) => skip)); (with_reducible show wpAny _ _ (exec _ _) _ _ _); refine Mine.foldS ?_; intro _)))
  k_with "flat" => with_reducible first | ((refine Mine.an12 ?_; iterate 11 intro _); walk_at "flat") | ((refine Mine.an6 ?_; iterate 5 intro _); walk_at "flat") | ((refine Mine.an3 ?_; iterate 2 intro _); walk_at "flat") | ((refine Mine.an2 ?_; iterate 1 intro _); walk_at "flat") | ((refine Mine.ex15 ?_; iterate 15 intro _); walk_at "flat") | ((refine Mine.ex8 ?_; iterate 8 intro _); walk_at "flat") | ((refine Mine.ex4 ?_; iterate 4 intro _); walk_at "flat") | ((refine Mine.ex2 ?_; iterate 2 intro _); walk_at "flat") | ((refine Mine.ex1 ?_; iterate 1 intro _); walk_at "flat") | intro _
  k_with "call ref" => (k_here; refine wpAny_call ?_; k_dflt (first | (refine' code_def ?zqk1 ?zqk2 ?zqk3 ?zqk4 ?zqk5 ?zqkA ?zqkF ?zqkK ?zqk6 ?zqk7 ?zqk8 ?zqk9 ?zqkB ?_ ?zqc2 ?zqc3 ?zqc4 ?zqc5; (case zqkA => exact rfl); (case zqkF => exact rfl); (case zqkK => first | exact rfl | assumption); (case zqk1 => k_asm); (case zqk2 => k_asm); (case zqk3 => k_asm); (case zqk4 => k_asm); (case zqk5 => k_asm); (case zqk6 => k_is); (case zqk7 => k_is); (case zqk8 => ktr_room); (case zqk9 => exact BindsTo.of_eq rfl); (case zqc5 => decide); (case zqkB => exact locs rfl); (case zqc2 => exact rfl); (case zqc3 => exact rfl); (case zqc4 => exact rfl); k_whole; intro _ _ _ _ _ _; walk_at "cdA") | (refine' code_defC ?zqk1 ?zqk2 ?zqk3 ?zqk4 ?zqk5 ?zqkA ?zqkF ?zqkK ?zqk6 ?zqk7 ?zqk8 ?zqk9 ?zqkB ?zqkD ?_ ?zqc2 ?zqc3 ?zqc4; (case zqkA => exact rfl); (case zqkF => exact rfl); (case zqkK => first | exact rfl | assumption); (case zqk1 => k_asm); (case zqk2 => k_asm); (case zqk3 => k_asm); (case zqk4 => k_asm); (case zqk5 => k_asm); (case zqk6 => k_is); (case zqk7 => k_is); (case zqk8 => ktr_room); (case zqk9 => exact BindsTo.of_eq rfl); (case zqkB => exact rfl); (case zqkD => decide +kernel); (case zqc2 => exact rfl); (case zqc3 => exact rfl); (case zqc4 => exact rfl); k_whole; intro _ _ _ _ _ _ _; walk_at "cdC")))
  k_with "call type:list" => (k_here; (with_reducible show wpAny _ _ (call (Value.type "list") [Value.ref _]) _ _ _); k_dflt (refine' list_copyK ?zqF ?zqN ?zql ?_ ?zqz; (case zqF => k_asm); (case zqN => k_asm); (case zql => exact News.isList (by k_asm) (by k_mem)); (case zqz => (rw [List.size_toArray, sizeLine_eq]; omega)); k_whole); intro _ _ _ _ _; walk_at "lt0"; (try k_sweep))
  k_with "mem" => first | exact List.Mem.head _ | assumption | (refine' List.Mem.tail _ ?_; k_mem)
  k_with "call builtin:len" => (k_here; (with_reducible show wpAny _ _ (call (Value.builtin "len") [Value.ref _]) _ _ _); k_dflt (refine' len_L ?zqN ?zqm ?zqf ?_; (case zqN => k_asm); (case zqm => k_mem); (case zqf => omega); k_whole))
  k_with "eval Name" => (k_here; (with_reducible show wpAny _ _ (eval (Expr.Name _ _) (envOf _ _ _ _ _)) _ _ _); k_dflt (refine' nameX_L (cl := []) ?zqF ?zqv ?_ ?zqa ?zqb; (case zqF => k_asm); (case zqa => rfl); (case zqb => rfl); (case zqv => first | exact rfl | assumption); k_whole))
  k_with "eval Name" => (k_here; (with_reducible show wpAny _ _ (eval (Expr.Name _ _) (envOfC _ _ _ _ _)) _ _ _); k_dflt (refine' nameX_L ?zqF ?zqv ?_ ?zqa ?zqb; (case zqF => k_asm); (case zqa => rfl); (case zqb => rfl); (case zqv => first | exact rfl | assumption); k_whole))
  k_with "all" => exact all_ge (by assumption) (by omega)
  k_with "eval Name" => (k_here; (with_reducible show wpAny _ _ (eval (Expr.Name _ _) (compEnvC _ _ _ (envOfC _ _ _ _ _))) _ _ _); k_dflt (first | (refine' ce_L ?zqN ?zqC ?zqm ?zqv ?_ ?zqa; (case zqa => decide +kernel); (case zqN => k_asm); (case zqC => assumption); (case zqm => k_mem); (case zqv => assumption); k_whole) | (refine' ce_C ?zqN ?zqa ?zqc ?zqm ?zqd ?_; (case zqa => decide +kernel); (case zqN => k_asm); (case zqc => rfl); (case zqm => k_mem); (case zqd => assumption); k_whole)))
  k_with "compareOp NotIn int ref" => (k_here; k_dflt (refine' notIn_L ?zqN ?zqm ?zqi ?_; (case zqN => k_asm); (case zqm => k_mem); (case zqi => first | assumption | exact ints_drop (by assumption) _); k_whole))
  k_with "compareOp In int ref" => (k_here; k_dflt (refine' in_L ?zqN ?zqm ?zqi ?_; (case zqN => k_asm); (case zqm => k_mem); (case zqi => first | assumption | exact ints_drop (by assumption) _); k_whole))
  k_with "subscriptTail Name Slice ref ref" => (k_here; (with_reducible show wpAny _ _ (subscriptTail _ (PySem.Expr.Slice (some _) none none _) (Value.ref _) (Value.ref _)) _ _ _); k_dflt (refine' slice_K ?zqF ?zqN ?zqm (IsPart.int _ _) IsPart.none (pick_from _ ?zqe) ?_ ?zqs ?zqt ?zqz; (case zqF => k_asm); (case zqN => k_asm); (case zqm => k_mem); (case zqe => omega); (case zqs => with_unfolding_all rfl); (case zqt => (intro _; with_unfolding_all rfl)); (case zqz => omega)); intro _ _ _ _; walk_at "lt0"; (try k_sweep))
  k_with "subscriptTail" => (k_here; (with_reducible show wpAny _ _ (subscriptTail _ _ (Value.ref _) (Value.int _ _)) _ _ _); k_dflt (refine' item_L ?zqN ?zqm ?zqa ?zqb ?zqx ?_ ?zqs; (case zqN => k_asm); (case zqm => k_mem); (case zqa => omega); (case zqb => omega); (case zqx => first | exact rfl | assumption); (case zqs => with_unfolding_all rfl); k_whole))
  k_with "setItem ref int" => (k_here; k_dflt (refine' setItem_D (isI _ _) ?zqF ?zqN ?zqU ?zqd ?zqz ?_; (case zqF => k_asm); (case zqN => k_asm); (case zqU => k_updF); (case zqd => assumption); (case zqz => omega); k_whole); intro _ _ _; walk_at "ds"; intro _; (try k_sweep))
  k_with "call builtin:list.remove" => (k_here; k_dflt (refine' remove_L ?zqF ?zqN ?zqU ?zqi ?zqx ?zqz ?_; (case zqF => k_asm); (case zqN => k_asm); (case zqU => k_updF); (case zqi => assumption); (case zqx => assumption); (case zqz => omega); k_whole); intro _ _ _ _; walk_at "ds"; intro _; (try k_sweep))
  k_with "compareOp In int ref" => (k_here; k_dflt (first | (refine' in_DI0 ?zqN ?zqd ?zqm ?zqv ?zqlo ?zqz ?_; (case zqN => k_asm); (case zqz => assumption); (case zqm => k_mem); (case zqd => assumption); (case zqv => assumption); (case zqlo => assumption); k_whole) | (refine' in_DI1 ?zqN ?zqd ?zqm ?zqv ?zqlo ?zqz ?_; (case zqN => k_asm); (case zqz => assumption); (case zqm => k_mem); (case zqd => assumption); (case zqv => assumption); (case zqlo => assumption); k_whole)))
  k_with "subscriptTail" => (k_here; (with_reducible show wpAny _ _ (subscriptTail _ _ (Value.ref _) (Value.int _ _)) _ _ _); k_dflt (refine' item_DI ?zqN ?zqd ?zqm ?zqv ?zqz ?_ ?zqs; (case zqN => k_asm); (case zqz => assumption); (case zqm => k_mem); (case zqd => assumption); (case zqv => assumption); (case zqs => with_unfolding_all rfl); k_whole); intro _)
  k_with "call builtin:list.append" => (k_here; (with_reducible show wpAny _ _ (call (Value.builtin _) [Value.ref _, _]) _ _ _); k_dflt (refine' append_L ?zqF ?zqN ?zqU ?zqz ?_; (case zqF => k_asm); (case zqN => k_asm); (case zqU => k_updF); (case zqz => omega); k_whole); intro _ _; walk_at "ds"; (try k_sweep))
  k_with "call ref" => (k_here; (with_reducible show wpAny _ _ (call (Value.ref 196) [Value.ref _, Value.ref _]) _ _ _); k_dflt (refine' addc_ok _ ?zqB ?zqF ?zqX ?zqN ?zqT ?zqhk ?zqhdp ?zqhun _ _ _ _ _ _ _ _ ?zqtm ?zqum ?zqlt ?zqlu ?zqtd ?zqud ?zqtv ?zquv ?zqnd ?zqll ?zqlm ?_; (case zqB => k_asm); (case zqF => k_asm); (case zqX => k_asm); (case zqN => k_asm); (case zqT => k_asm); (case zqhk => rfl); (case zqhdp => (try dsimp only); omega); (case zqhun => (try dsimp only); omega); (case zqtm => k_mem); (case zqum => k_mem); (case zqlt => assumption); (case zqlu => assumption); (case zqtd => assumption); (case zqud => assumption); (case zqtv => assumption); (case zquv => assumption); (case zqnd => assumption); (case zqll => omega); (case zqlm => omega)); intro _ _ _ _ _ _ _; walk_at "lt3"; (try k_sweep))
  trivial
set_option maxHeartbeats 4000000 in
theorem adds_ok (w : World) {p : Program} {loose : List Str} {mean : ExcName → Option Value} {mg mb : Str → Option Value}
  {dp un : Nat} {gd : Option (List Code)} {cn : Str} {cs : Scope} {a : Addr} {ccd : Value} {cl : List (Str × Addr)} {outer : List Env} {A₀ : Around} {base h₀ : Heap} {L : Addr} {m : Str → Option Value} {news : List (Addr × Obj)} {s : Shared}
    {Q E : Value → Shared → Prop} 
    (B : Below A₀ base outer h₀) (F : Fr h₀ L s.heap m) (X : (K w.params).In h₀) (N : News h₀ L s.heap news) (T : Top p loose mean mg mb h₀) (hk : cs.kind = .function)
    (hdp : dp + 60 < recursionLimit) (hun : un + 500 < cLine)
    (t u d1 d2 : Addr) (i0 i1 i2 i3 j0 j1 j2 j3 : Int) (a0 a1 a2 a3 b0 b1 b2 b3 : Tok) (htt : (t, { cls := .type "tuple", data := .seq #[.int i0 a0, .int i1 a1, .int i2 a2, .int i3 a3, .ref d1] }) ∈ news) (huu : (u, { cls := .type "tuple", data := .seq #[.int j0 b0, .int j1 b1, .int j2 b2, .int j3 b3, .ref d2] }) ∈ news)
    (ot ou : Obj) (kt ku : List (Str × Value)) (pt pu : List (Str × Int)) (htm : (d1, ot) ∈ news) (hum : (d2, ou) ∈ news) (lt : (d1 == sysModules) = false) (lu : (d2 == sysModules) = false)
    (htd : ot.IsDictOf (PySem.strKind PySem.Challenge.rw_ij0017_01.row.prog w) kt) (hud : ou.IsDictOf (PySem.strKind PySem.Challenge.rw_ij0017_01.row.prog w) ku) (htv : SI kt pt) (huv : SI ku pu) (hnt : (pt.map (·.1)).Nodup) (hlt : pt.length ≤ 200) (hlu : pu.length ≤ 200)
    (hret : ∀ s' R D oD kvs t0 t1 t2 t3, Sm s s' → Fr h₀ L s'.heap m → News h₀ L s'.heap ((R, { cls := .type "tuple", data := .seq #[.int (j0 + i0) t0, .int (j1 + i1) t1, .int (j2 + i2) t2, .int (j3 + i3) t3, .ref D] }) :: (D, oD) :: news) → (∀ p ∈ news, p.1 < D) → D < R → (D == sysModules) = false → oD.IsDictOf (PySem.strKind PySem.Challenge.rw_ij0017_01.row.prog w) kvs → SI kvs (addC pt pu) → Q (.ref R) s') :
    wpAny (model PySem.Challenge.rw_ij0017_01.row.prog w) (ktrTop dp un gd cn cs L a ccd cl outer) (call (.ref 189) [.ref t, .ref u]) Q E s := by
  revert X; k_fill; intro X
  try walk_at "tidy"
  walk_at "call ref"
  walk_at "tidy"
  k_steps
  rename_i s9 D9 o9 kvs9 sm9 l19 lo9 hd9 hv9 R9 h9 F9 N9 l9 kF kN _ _
  exact hret _ R9 D9 o9 kvs9 _ _ _ _ (Sm.of sm9) kF kN l19 l9.1 lo9 hd9 hv9
theorem walkWords18 : True := by
  w_top off
  k_with_none
  k_with "via" => first | exact Mine.viaHead _ | (refine Mine.viaTail ?_; k_extra "via") | exact Mine.viaLast _ | fail
  k_with "conj" => with_reducible first | assumption | (refine' Mine.viaLt ?zqh ?zqk; (case zqh => assumption); (case zqk => k_extra "via")) | (refine' Mine.viaNe ?zqh ?zqk; (case zqh => assumption); (case zqk => k_extra "via")) | fail
  k_with "up" => with_reducible first | exact Mine.u0 | exact Mine.u1 | exact Mine.u2 | exact Mine.u3 | exact Mine.u4 | exact Mine.u5 | exact Mine.u6 | exact Mine.u7 | exact Mine.u8 | fail
  k_with "omega" => first | (k_whole; with_reducible first | assumption | exact Mine.v0 | exact Mine.v1 | exact Mine.v2 | exact Mine.v3 | exact Mine.v4 | exact Mine.v5 | exact Mine.v6 | exact Mine.v7 | exact Mine.v8 | k_extra "conj" | (refine Mine.neGt ?_; k_extra "conj") | (refine Mine.neLt ?_; k_extra "conj") | k_extra "up" | exact Int.natCast_nonneg _ | decide | exact Mine.leCut (by assumption) | exact Mine.ltCut (by assumption) | exact Mine.leCut' (by assumption) | exact Mine.ltCut' (by assumption) | exact Mine.iCut1 (by assumption) | exact Mine.iCut2 (by assumption) | exact Mine.iCut3 (by assumption) | exact Mine.iCut4 (by assumption) | fail) | (k_whole; lia) | omega +splitDisjunctions | ((dsimp +zetaDelta only at *); omega +splitDisjunctions)
  k_with "ne" => (refine PySem.W.neN ?_; (try dsimp only); first | (refine Mine.neGt ?_; first | k_extra "conj" | k_extra "up") | (refine Mine.neLt ?_; first | k_extra "conj" | k_extra "up") | (refine Mine.neSym ?_; k_extra "conj") | omega)
  k_with "rows" => with_reducible first | show wpAny _ _ (exec (Stmt.While _ _ _ _) _) _ _ _ | show wpAny _ _ (exec (Stmt.For _ _ _ _ _) _) _ _ _ | show wpAny _ _ (eval (Expr.ListComp _ _ _ _) _) _ _ _ | show wpAny _ _ (exec (Stmt.Assign _ (Expr.ListComp _ _ _ _) _) _) _ _ _ | fail
  k_with "steps" => repeat' (first | ((fail_if_success keq_rows); (first | (k_unfold; (try dsimp only)) | (k_end; wrow_close) | ((first | walk1 | (dsimp only; walk1)); (all_goals try walk_at "tidy")) | (leave1; walk_say "STEP leave1"; try dsimp only))) | fail "no step")
  k_with "tidy" => ((try ((with_reducible show wpAny _ _ (exec _ _) _ _ _); (fail_if_success fail_if_success k_fold); refine Mine.foldQ ?_; intro _)); (try ((fail_if_success fail_if_success (first | conv in (Around.deeper _ _) => skip | conv in (ktrTop _ _ _ _ _ _ _ _ _ _) => skip)); refine Mine.foldE ?_; intro _; refine Mine.foldA ?_; intro _)); (try ((fail_if_success fail_if_success (conv in (Shared.mk _ _ _ _ _) => skip)); (with_reducible show wpAny _ _ (exec _ _) _ _ _); refine Mine.foldS ?_; intro _)))
  k_with "flat" => with_reducible first | ((refine Mine.an12 ?_; iterate 11 intro _); walk_at "flat") | ((refine Mine.an6 ?_; iterate 5 intro _); walk_at "flat") | ((refine Mine.an3 ?_; iterate 2 intro _); walk_at "flat") | ((refine Mine.an2 ?_; iterate 1 intro _); walk_at "flat") | ((refine Mine.ex15 ?_; iterate 15 intro _); walk_at "flat") | ((refine Mine.ex8 ?_; iterate 8 intro _); walk_at "flat") | ((refine Mine.ex4 ?_; iterate 4 intro _); walk_at "flat") | ((refine Mine.ex2 ?_; iterate 2 intro _); walk_at "flat") | ((refine Mine.ex1 ?_; iterate 1 intro _); walk_at "flat") | intro _
  k_with "call ref" => (k_here; refine wpAny_call ?_; k_dflt (first | (refine' code_def ?zqk1 ?zqk2 ?zqk3 ?zqk4 ?zqk5 ?zqkA ?zqkF ?zqkK ?zqk6 ?zqk7 ?zqk8 ?zqk9 ?zqkB ?_ ?zqc2 ?zqc3 ?zqc4 ?zqc5; (case zqkA => exact rfl); (case zqkF => exact rfl); (case zqkK => first | exact rfl | assumption); (case zqk1 => k_asm); (case zqk2 => k_asm); (case zqk3 => k_asm); (case zqk4 => k_asm); (case zqk5 => k_asm); (case zqk6 => k_is); (case zqk7 => k_is); (case zqk8 => ktr_room); (case zqk9 => exact BindsTo.of_eq rfl); (case zqc5 => decide); (case zqkB => exact locs rfl); (case zqc2 => exact rfl); (case zqc3 => exact rfl); (case zqc4 => exact rfl); k_whole; intro _ _ _ _ _ _; walk_at "cdA") | (refine' code_defC ?zqk1 ?zqk2 ?zqk3 ?zqk4 ?zqk5 ?zqkA ?zqkF ?zqkK ?zqk6 ?zqk7 ?zqk8 ?zqk9 ?zqkB ?zqkD ?_ ?zqc2 ?zqc3 ?zqc4; (case zqkA => exact rfl); (case zqkF => exact rfl); (case zqkK => first | exact rfl | assumption); (case zqk1 => k_asm); (case zqk2 => k_asm); (case zqk3 => k_asm); (case zqk4 => k_asm); (case zqk5 => k_asm); (case zqk6 => k_is); (case zqk7 => k_is); (case zqk8 => ktr_room); (case zqk9 => exact BindsTo.of_eq rfl); (case zqkB => exact rfl); (case zqkD => decide +kernel); (case zqc2 => exact rfl); (case zqc3 => exact rfl); (case zqc4 => exact rfl); k_whole; intro _ _ _ _ _ _ _; walk_at "cdC")))
  k_with "call type:list" => (k_here; (with_reducible show wpAny _ _ (call (Value.type "list") [Value.ref _]) _ _ _); k_dflt (refine' list_copyK ?zqF ?zqN ?zql ?_ ?zqz; (case zqF => k_asm); (case zqN => k_asm); (case zql => exact News.isList (by k_asm) (by k_mem)); (case zqz => (rw [List.size_toArray, sizeLine_eq]; omega)); k_whole); intro _ _ _ _ _; walk_at "lt0"; (try k_sweep))
  k_with "mem" => first | exact List.Mem.head _ | assumption | (refine' List.Mem.tail _ ?_; k_mem)
  k_with "call builtin:len" => (k_here; (with_reducible show wpAny _ _ (call (Value.builtin "len") [Value.ref _]) _ _ _); k_dflt (refine' len_L ?zqN ?zqm ?zqf ?_; (case zqN => k_asm); (case zqm => k_mem); (case zqf => omega); k_whole))
  k_with "eval Name" => (k_here; (with_reducible show wpAny _ _ (eval (Expr.Name _ _) (envOf _ _ _ _ _)) _ _ _); k_dflt (refine' nameX_L (cl := []) ?zqF ?zqv ?_ ?zqa ?zqb; (case zqF => k_asm); (case zqa => rfl); (case zqb => rfl); (case zqv => first | exact rfl | assumption); k_whole))
  k_with "eval Name" => (k_here; (with_reducible show wpAny _ _ (eval (Expr.Name _ _) (envOfC _ _ _ _ _)) _ _ _); k_dflt (refine' nameX_L ?zqF ?zqv ?_ ?zqa ?zqb; (case zqF => k_asm); (case zqa => rfl); (case zqb => rfl); (case zqv => first | exact rfl | assumption); k_whole))
  k_with "all" => exact all_ge (by assumption) (by omega)
  k_with "eval Name" => (k_here; (with_reducible show wpAny _ _ (eval (Expr.Name _ _) (compEnvC _ _ _ (envOfC _ _ _ _ _))) _ _ _); k_dflt (first | (refine' ce_L ?zqN ?zqC ?zqm ?zqv ?_ ?zqa; (case zqa => decide +kernel); (case zqN => k_asm); (case zqC => assumption); (case zqm => k_mem); (case zqv => assumption); k_whole) | (refine' ce_C ?zqN ?zqa ?zqc ?zqm ?zqd ?_; (case zqa => decide +kernel); (case zqN => k_asm); (case zqc => rfl); (case zqm => k_mem); (case zqd => assumption); k_whole)))
  k_with "compareOp NotIn int ref" => (k_here; k_dflt (refine' notIn_L ?zqN ?zqm ?zqi ?_; (case zqN => k_asm); (case zqm => k_mem); (case zqi => first | assumption | exact ints_drop (by assumption) _); k_whole))
  k_with "compareOp In int ref" => (k_here; k_dflt (refine' in_L ?zqN ?zqm ?zqi ?_; (case zqN => k_asm); (case zqm => k_mem); (case zqi => first | assumption | exact ints_drop (by assumption) _); k_whole))
  k_with "subscriptTail Name Slice ref ref" => (k_here; (with_reducible show wpAny _ _ (subscriptTail _ (PySem.Expr.Slice (some _) none none _) (Value.ref _) (Value.ref _)) _ _ _); k_dflt (refine' slice_K ?zqF ?zqN ?zqm (IsPart.int _ _) IsPart.none (pick_from _ ?zqe) ?_ ?zqs ?zqt ?zqz; (case zqF => k_asm); (case zqN => k_asm); (case zqm => k_mem); (case zqe => omega); (case zqs => with_unfolding_all rfl); (case zqt => (intro _; with_unfolding_all rfl)); (case zqz => omega)); intro _ _ _ _; walk_at "lt0"; (try k_sweep))
  k_with "subscriptTail" => (k_here; (with_reducible show wpAny _ _ (subscriptTail _ _ (Value.ref _) (Value.int _ _)) _ _ _); k_dflt (refine' item_L ?zqN ?zqm ?zqa ?zqb ?zqx ?_ ?zqs; (case zqN => k_asm); (case zqm => k_mem); (case zqa => omega); (case zqb => omega); (case zqx => first | exact rfl | assumption); (case zqs => with_unfolding_all rfl); k_whole))
  k_with "setItem ref int" => (k_here; k_dflt (refine' setItem_D (isI _ _) ?zqF ?zqN ?zqU ?zqd ?zqz ?_; (case zqF => k_asm); (case zqN => k_asm); (case zqU => k_updF); (case zqd => assumption); (case zqz => omega); k_whole); intro _ _ _; walk_at "ds"; intro _; (try k_sweep))
  k_with "call builtin:list.remove" => (k_here; k_dflt (refine' remove_L ?zqF ?zqN ?zqU ?zqi ?zqx ?zqz ?_; (case zqF => k_asm); (case zqN => k_asm); (case zqU => k_updF); (case zqi => assumption); (case zqx => assumption); (case zqz => omega); k_whole); intro _ _ _ _; walk_at "ds"; intro _; (try k_sweep))
  k_with "compareOp In int ref" => (k_here; k_dflt (first | (refine' in_DI0 ?zqN ?zqd ?zqm ?zqv ?zqlo ?zqz ?_; (case zqN => k_asm); (case zqz => assumption); (case zqm => k_mem); (case zqd => assumption); (case zqv => assumption); (case zqlo => assumption); k_whole) | (refine' in_DI1 ?zqN ?zqd ?zqm ?zqv ?zqlo ?zqz ?_; (case zqN => k_asm); (case zqz => assumption); (case zqm => k_mem); (case zqd => assumption); (case zqv => assumption); (case zqlo => assumption); k_whole)))
  k_with "subscriptTail" => (k_here; (with_reducible show wpAny _ _ (subscriptTail _ _ (Value.ref _) (Value.int _ _)) _ _ _); k_dflt (refine' item_DI ?zqN ?zqd ?zqm ?zqv ?zqz ?_ ?zqs; (case zqN => k_asm); (case zqz => assumption); (case zqm => k_mem); (case zqd => assumption); (case zqv => assumption); (case zqs => with_unfolding_all rfl); k_whole); intro _)
  k_with "call builtin:list.append" => (k_here; (with_reducible show wpAny _ _ (call (Value.builtin _) [Value.ref _, _]) _ _ _); k_dflt (refine' append_L ?zqF ?zqN ?zqU ?zqz ?_; (case zqF => k_asm); (case zqN => k_asm); (case zqU => k_updF); (case zqz => omega); k_whole); intro _ _; walk_at "ds"; (try k_sweep))
  k_with "call builtin:sum" => (k_here; (with_reducible show wpAny _ _ (call (Value.builtin "sum") [Value.ref _]) _ _ _); k_dflt (refine' sum_L ?zqh ?zqF ?zqN ?zqm ?zqi ?_; (case zqh => rfl); (case zqF => k_asm); (case zqN => k_asm); (case zqm => k_mem); (case zqi => assumption); k_whole); intro _ _ _ _ _; (try k_sweep))
  k_with "setItem ref str" => (k_here; k_dflt (refine' setItem_D (isS _ _) ?zqF ?zqN ?zqU ?zqd ?zqz ?_; (case zqF => k_asm); (case zqN => k_asm); (case zqU => k_updF); (case zqd => assumption); (case zqz => omega); k_whole); intro _ _ _; walk_at "ds"; intro _; (try k_sweep))
  trivial
set_option maxHeartbeats 4000000 in
theorem due_ok (w : World) {p : Program} {loose : List Str} {mean : ExcName → Option Value} {mg mb : Str → Option Value}
  {dp un : Nat} {gd : Option (List Code)} {cn : Str} {cs : Scope} {a : Addr} {ccd : Value} {cl : List (Str × Addr)} {outer : List Env} {A₀ : Around} {base h₀ : Heap} {L : Addr} {m : Str → Option Value} {news : List (Addr × Obj)} {s : Shared}
    {Q E : Value → Shared → Prop} 
    (B : Below A₀ base outer h₀) (F : Fr h₀ L s.heap m) (X : (K w.params).In h₀) (N : News h₀ L s.heap news) (T : Top p loose mean mg mb h₀) (hk : cs.kind = .function)
    (hdp : dp + 50 < recursionLimit) (hun : un + 400 < cLine)
    (f b : Addr) (fvs bvs : List Value) (fns bns : List Int) (hfi : IntsAre fvs fns) (hbi : IntsAre bvs bns) (nc no : Nat) (hf : (f, listOf fvs.toArray nc) ∈ news) (hb : (b, listOf bvs.toArray no) ∈ news) (hfl : fvs.length ≤ 100) (hbl : bvs.length ≤ 100)
    (hbr : ∀ x ∈ bns, 0 ≤ x ∧ x < fns.length)
    (hret : ∀ s' R U oU kvs t0 t1 t2 t3, Sm s s' → Fr h₀ L s'.heap m → News h₀ L s'.heap ((R, { cls := .type "tuple", data := .seq #[.int bvs.length t0, .int bns.sum t1, .int (bns.map fun x => fns.getD x.toNat 0).sum t2, .int (bns.map fun x => fns.getD x.toNat 0 * x).sum t3, .ref U] }) :: (U, oU) :: news) → (∀ p ∈ news, p.1 < U) → U < R → (U == sysModules) = false → oU.IsDictOf (PySem.strKind PySem.Challenge.rw_ij0017_01.row.prog w) kvs → SI kvs (dueC fns bns 3) → Q (.ref R) s') :
    wpAny (model PySem.Challenge.rw_ij0017_01.row.prog w) (ktrTop dp un gd cn cs L a ccd cl outer) (call (.ref 225) [.ref f, .ref b]) Q E s := by
  revert X; k_fill; intro X
  try walk_at "tidy"
  walk_at "call ref"
  walk_at "tidy"
  k_steps
  refine for_rule ?_
  k_steps
  rename_i gF LF h5 tk1 FG BG XG TG l1a oc1 oc2 dc1 dc2 _ _ _ _ U h4 oU loU hU _ _ _ l1b h3 F0 N0 _ _ h6 tk2 t1 u1 v1 hr Fr1 Nr1 kr
  have hLn : AllLt LF news := allLt_of l1a
  have hfl' := hfi.length
  have hbl' := hbi.length
  have dfig : oc2.data = .cell (some (.ref f)) := dc2
  refine range_for (n := 3) rfl hr rfl (by omega) Fr1 Nr1 (fun i m₁ led => m₁ "callers" = some (.ref U) ∧ m₁ "below" = some (.ref b) ∧ ∃ oU' oK kvs vk, led = (U, oU') :: (LF + 1 + 1, oK) :: (LF + 1, oc2) :: news ∧ oK.data = .cell vk ∧
    Obj.IsDictOf (PySem.strKind PySem.Challenge.rw_ij0017_01.row.prog w) oU' kvs ∧ SI kvs (dueC fns bns i)) ?h0 ?turn ?done
  case h0 => exact ⟨rfl, rfl, oU, oc1, [], _, rfl, dc1, hU, .nil⟩
  case turn =>
    rintro i ti m₁ led s₁ I oI hi hIl
    walk_at "flat"
    rename_i hmc hmb oU' oK kvs vk hz91 hoK hUd hUv
    subst hz91
    rintro sm F₁ N₁ hne
    replace hne := gnNe_of hne
    simp only [GnNe] at hne
    have hne2 : ∀ (oU2 oK2 : Obj), ∀ p ∈ (U, oU2) :: (LF + 1 + 1, oK2) :: (LF + 1, oc2) :: news, p.1 ≠ I := by
      intro oU2 oK2 p9 hp9
      rcases List.mem_cons.mp hp9 with rfl | hp9
      · exact hne.1
      rcases List.mem_cons.mp hp9 with rfl | hp9
      · exact hne.2.1
      rcases List.mem_cons.mp hp9 with rfl | hp9
      · exact hne.2.2.1
      exact Nat.ne_of_lt (hIl p9 (by simp [hp9]))
    k_steps
    refine comp_ruleA (by with_unfolding_all rfl) (by with_unfolding_all rfl) (by decide) rfl (by decide) rfl ?_
    k_steps
    rename_i hK oK1 FK NK dK _ _
    refine list_compG rfl FK NK (by k_mem) (fun j ys led => led = (I, oI) :: (U, oU') :: (LF + 1 + 1, oK1) :: (LF + 1, oc2) :: news ∧ IntsAre ys (cntOf fns (bns.take j) i)) ?hs2 ⟨rfl, .nil⟩ rfl rfl (by omega) ?turn2 ?done2
    case hs2 => rintro j ys led ⟨rfl, _⟩; k_mem
    case turn2 =>
      rintro I2 D2 C2 j v ys led s₂ oI2 oC2 oD2 mc hI2 hID hDC hv ⟨rfl, hys⟩ hyl sm2 F₂ N₂ h2 hC2 hmc
      obtain ⟨n, t, rfl, hn⟩ := ints_at hbi hv
      obtain ⟨hn0, hn1⟩ := hbr n (List.mem_of_getElem? hn)
      obtain ⟨tf, hft⟩ := ints_getD hfi hn0 hn1
      replace F₂ : Fr gF LF s₂.heap m₁ := F₂
      replace N₂ : News gF LF s₂.heap ((I2, oI2) :: (C2, oC2) :: (D2, oD2) :: (I, oI) :: (U, oU') :: (LF + 1 + 1, oK1) :: (LF + 1, oc2) :: news) := N₂
      clear F₁ N₁ FK NK
      refine tests_one ?_
      have htk : bns.take (j + 1) = bns.take j ++ [n] := by rw [List.take_add_one, hn]; rfl
      k_steps
      · refine CEnd.same (l := _) (Sm.of sm2) (by k_asm) (by k_asm) h2 (by intro p9 hp9; first | exact hp9 | exact .tail _ hp9) ⟨rfl, ?_⟩
        rename_i hq
        unfold cntOf at hys ⊢
        rw [htk, List.filter_append, List.filter_cons_of_pos (by simpa using hq), List.map_append]
        exact IntsAre.append hys (.cons _ _ .nil)
      · refine CEnd.same (l := _) (Sm.of sm2) (by k_asm) (by k_asm) h2 (by intro p9 hp9; first | exact hp9 | exact .tail _ hp9) ⟨rfl, ?_⟩
        rename_i hq
        unfold cntOf at hys ⊢
        rw [htk, List.filter_append, List.filter_cons_of_neg (by simpa using hq), List.filter_nil, List.append_nil]
        exact hys
    case done2 =>
      rintro D2 C2 ys led s₂ cD oC2 mc hD2 hDC ⟨rfl, hys⟩ sm2 F₂ N₂ h2 hC2
      unfold UAss
      replace F₂ : Fr gF LF s₂.heap m₁ := F₂
      replace N₂ : News gF LF s₂.heap ((C2, oC2) :: (D2, listOf ys.toArray cD) :: (I, oI) :: (U, oU') :: (LF + 1 + 1, oK1) :: (LF + 1, oc2) :: news) := N₂
      replace hD2 := allLt_of hD2
      simp only [AllLt] at hD2
      clear F₁ N₁ FK NK
      k_steps
      rename_i h8 F8 N8
      refine free_done F8 N8 hC2 (fun p9 hp9 => ?_) fun h9 F9 N9 => ?_
      · rcases List.mem_cons.mp hp9 with rfl | hp9
        · exact Nat.ne_of_lt hDC
        · exact (h2 p9 hp9).1
      clear F8 N8
      rw [List.take_of_length_le (by rw [hbl']; exact Nat.le_refl _)] at hys
      have hdl := dueC_len fns bns i
      have hul := hUv.length
      try dsimp only
      k_steps
      · rename_i l8 h8' F8 N8 l18 hnil
        refine ⟨_, _, ⟨sm2.1.trans sm.1, sm.2.trans sm2.2⟩, F8, news_sub (l' := (I, oI) :: (U, oU') :: (LF + 1 + 1, oK1) :: (LF + 1, oc2) :: news) N8 (fun p hp => .tail _ (.tail _ hp)), hne2 _ _, hmc, hmb, oU', oK1, kvs, _, rfl, dK, hUd, ?_⟩
        rw [dueC, if_pos (of_decide_eq_true hnil)]
        exact hUv
      · rename_i l8 h82 l18 hnil _ _ h81 tkx1 tx kx h8' oU2 F8 N8 hd2
        refine ⟨_, _, ⟨sm2.1.trans sm.1, sm.2.trans sm2.2⟩, F8, news_sub (l' := (I, oI) :: (U, oU2) :: (LF + 1 + 1, oK1) :: (LF + 1, oc2) :: news) N8 (fun p hp => .tail _ (.tail _ hp)), hne2 _ _, hmc, hmb, oU2, oK1, _, _, rfl, dK, hd2, ?_⟩
        rw [dueC, if_neg (of_decide_eq_false hnil)]
        exact hUv.stored _ _ _
  case done =>
    rintro m₁ led s₁
    walk_at "flat"
    rename_i hmc hmb oU' oK kvs vk hz92 hoK hUd hUv
    subst hz92
    rintro sm F₁ N₁
    k_steps
    refine comp_ruleA (by with_unfolding_all rfl) (by with_unfolding_all rfl) (by decide) rfl (by decide) rfl ?_
    k_steps
    replace F₁ : Fr gF LF s₁.heap m₁ := F₁
    replace N₁ : News gF LF s₁.heap ((U, oU') :: (LF + 1 + 1, oK) :: (LF + 1, oc2) :: news) := N₁
    refine list_compG rfl F₁ N₁ (by k_mem) (fun j ys led => led = (U, oU') :: (LF + 1 + 1, oK) :: (LF + 1, oc2) :: news ∧ IntsAre ys ((bns.take j).map fun x => fns.getD x.toNat 0)) ?hs3 ⟨rfl, .nil⟩ rfl rfl (by omega) ?turn3 ?done3
    case hs3 => rintro j ys led ⟨rfl, _⟩; k_mem
    case turn3 =>
      rintro I2 D2 C2 j v ys led s₂ oI2 oC2 oD2 mc hI2 hID hDC hv ⟨rfl, hys⟩ hyl sm2 F₂ N₂ h2 hC2 hmc'
      obtain ⟨n, t, rfl, hn⟩ := ints_at hbi hv
      obtain ⟨hn0, hn1⟩ := hbr n (List.mem_of_getElem? hn)
      obtain ⟨tf, hft⟩ := ints_getD hfi hn0 hn1
      replace F₂ : Fr gF LF s₂.heap m₁ := F₂
      replace N₂ : News gF LF s₂.heap ((I2, oI2) :: (C2, oC2) :: (D2, oD2) :: (U, oU') :: (LF + 1 + 1, oK) :: (LF + 1, oc2) :: news) := N₂
      clear F₁ N₁
      refine tests_nil ?_
      rw [if_pos rfl]
      have htk : bns.take (j + 1) = bns.take j ++ [n] := by rw [List.take_add_one, hn]; rfl
      k_steps
      refine CEnd.same (l := _) (Sm.of sm2) (by k_asm) (by k_asm) h2 (by intro p9 hp9; first | exact hp9 | exact .tail _ hp9) ⟨rfl, ?_⟩
      rw [htk, List.map_append]
      exact IntsAre.append hys (.cons _ _ .nil)
    case done3 =>
      rintro D2 C2 ys led s₂ cD oC2 mc hD2 hDC ⟨rfl, hys⟩ sm2 F₂ N₂ h2 hC2
      unfold UAss
      replace F₂ : Fr gF LF s₂.heap m₁ := F₂
      replace N₂ : News gF LF s₂.heap ((C2, oC2) :: (D2, listOf ys.toArray cD) :: (U, oU') :: (LF + 1 + 1, oK) :: (LF + 1, oc2) :: news) := N₂
      replace hD2 := allLt_of hD2
      simp only [AllLt] at hD2
      clear F₁ N₁
      k_steps
      rename_i h8 F8 N8
      refine free_done F8 N8 hC2 (fun p9 hp9 => ?_) fun h9 F9 N9 => ?_
      · rcases List.mem_cons.mp hp9 with rfl | hp9
        · exact Nat.ne_of_lt hDC
        · exact (h2 p9 hp9).1
      clear F8 N8
      rw [List.take_of_length_le (by rw [hbl']; exact Nat.le_refl _)] at hys
      try dsimp only
      k_steps
      rename_i F10 N10

      refine comp_rule (by with_unfolding_all rfl) (by decide) rfl (by decide) rfl ?_
      k_steps
      refine list_comp rfl F10 N10 (by k_mem) (fun j zs led => led = (D2, listOf ys.toArray cD) :: (U, oU') :: (LF + 1 + 1, oK) :: (LF + 1, oc2) :: news ∧ IntsAre zs ((bns.take j).map fun x => fns.getD x.toNat 0 * x)) ?hs4 ⟨rfl, .nil⟩ rfl rfl (by omega) ?turn4 ?done4
      case hs4 => rintro j zs led ⟨rfl, _⟩; k_mem
      case turn4 =>
        rintro I3 D3 C3 j v zs led s₃ oI3 oC3 oD3 mc3 hI3 hID3 hDC3 hv ⟨rfl, hzs⟩ hzl sm3 F₃ N₃ h3' hC3 hmc3
        obtain ⟨n, t, rfl, hn⟩ := ints_at hbi hv
        obtain ⟨hn0, hn1⟩ := hbr n (List.mem_of_getElem? hn)
        obtain ⟨tf, hft⟩ := ints_getD hfi hn0 hn1
        replace F₃ : Fr gF LF s₃.heap _ := F₃
        replace N₃ : News gF LF s₃.heap ((I3, oI3) :: (C3, oC3) :: (D3, oD3) :: (D2, listOf ys.toArray cD) :: (U, oU') :: (LF + 1 + 1, oK) :: (LF + 1, oc2) :: news) := N₃
        clear F10 N10
        refine tests_nil ?_
        rw [if_pos rfl]
        have htk : bns.take (j + 1) = bns.take j ++ [n] := by rw [List.take_add_one, hn]; rfl
        k_steps
        refine CEnd.same (l := _) (Sm.of sm3) (by k_asm) (by k_asm) h3' (by intro p9 hp9; first | exact hp9 | exact .tail _ hp9) ⟨rfl, ?_⟩
        rw [htk, List.map_append]
        exact IntsAre.append hzs (.cons _ _ .nil)
      case done4 =>
        rintro D3 zs led s₃ cD3 hD3 ⟨rfl, hzs⟩ sm3 F₃ N₃ h3'
        rw [List.take_of_length_le (by rw [hbl']; exact Nat.le_refl _)] at hzs
        replace F₃ : Fr gF LF s₃.heap _ := F₃
        replace N₃ : News gF LF s₃.heap ((D3, listOf zs.toArray cD3) :: (D2, listOf ys.toArray cD) :: (U, oU') :: (LF + 1 + 1, oK) :: (LF + 1, oc2) :: news) := N₃
        replace hD3 := allLt_of hD3
        simp only [AllLt] at hD3
        clear F10 N10
        k_steps
        rename_i h11 tk11 t11 F11 N11 h12 _ _ _ _ kF kN _ _
        have hUR : U < h11.objs.size := Heap.lt_size (N11 (U, oU') (.tail _ (.tail _ (.head _)))).1
        exact hret _ _ U oU' kvs _ _ _ _ ⟨sm3.1.trans (sm2.1.trans sm.1), (sm.2.trans sm2.2).trans sm3.2⟩ kF (news_sub kN keep1_4) (all_lt_of l1b.2.2) hUR loU hUd hUv
theorem walkWords19 : True := by
  w_top off
  k_with_none
  k_with "via" => first | exact Mine.viaHead _ | (refine Mine.viaTail ?_; k_extra "via") | exact Mine.viaLast _ | fail
  k_with "conj" => with_reducible first | assumption | (refine' Mine.viaLt ?zqh ?zqk; (case zqh => assumption); (case zqk => k_extra "via")) | (refine' Mine.viaNe ?zqh ?zqk; (case zqh => assumption); (case zqk => k_extra "via")) | fail
  k_with "up" => with_reducible first | exact Mine.u0 | exact Mine.u1 | exact Mine.u2 | exact Mine.u3 | exact Mine.u4 | exact Mine.u5 | exact Mine.u6 | exact Mine.u7 | exact Mine.u8 | fail
  k_with "omega" => first | (k_whole; with_reducible first | assumption | exact Mine.v0 | exact Mine.v1 | exact Mine.v2 | exact Mine.v3 | exact Mine.v4 | exact Mine.v5 | exact Mine.v6 | exact Mine.v7 | exact Mine.v8 | k_extra "conj" | (refine Mine.neGt ?_; k_extra "conj") | (refine Mine.neLt ?_; k_extra "conj") | k_extra "up" | exact Int.natCast_nonneg _ | decide | exact Mine.leCut (by assumption) | exact Mine.ltCut (by assumption) | exact Mine.leCut' (by assumption) | exact Mine.ltCut' (by assumption) | exact Mine.iCut1 (by assumption) | exact Mine.iCut2 (by assumption) | exact Mine.iCut3 (by assumption) | exact Mine.iCut4 (by assumption) | fail) | (k_whole; lia) | omega +splitDisjunctions | ((dsimp +zetaDelta only at *); omega +splitDisjunctions)
  k_with "ne" => (refine PySem.W.neN ?_; (try dsimp only); first | (refine Mine.neGt ?_; first | k_extra "conj" | k_extra "up") | (refine Mine.neLt ?_; first | k_extra "conj" | k_extra "up") | (refine Mine.neSym ?_; k_extra "conj") | omega)
  k_with "rows" => with_reducible first | show wpAny _ _ (exec (Stmt.While _ _ _ _) _) _ _ _ | show wpAny _ _ (exec (Stmt.For _ _ _ _ _) _) _ _ _ | show wpAny _ _ (eval (Expr.ListComp _ _ _ _) _) _ _ _ | show wpAny _ _ (exec (Stmt.Assign _ (Expr.ListComp _ _ _ _) _) _) _ _ _ | fail
  k_with "steps" => repeat' (first | ((fail_if_success keq_rows); (first | (k_unfold; (try dsimp only)) | (k_end; wrow_close) | ((first | walk1 | (dsimp only; walk1)); (all_goals try walk_at "tidy")) | (leave1; walk_say "STEP leave1"; try dsimp only))) | fail "no step")
  k_with "tidy" => ((try ((with_reducible show wpAny _ _ (exec _ _) _ _ _); (fail_if_success fail_if_success k_fold); refine Mine.foldQ ?_; intro _)); (try ((fail_if_success fail_if_success (first | conv in (Around.deeper _ _) => skip | conv in (ktrTop _ _ _ _ _ _ _ _ _ _) => skip)); refine Mine.foldE ?_; intro _; refine Mine.foldA ?_; intro _)); (try ((fail_if_success fail_if_success (conv in (Shared.mk _ _ _ _ _) => skip)); (with_reducible show wpAny _ _ (exec _ _) _ _ _); refine Mine.foldS ?_; intro _)))
  k_with "flat" => with_reducible first | ((refine Mine.an12 ?_; iterate 11 intro _); walk_at "flat") | ((refine Mine.an6 ?_; iterate 5 intro _); walk_at "flat") | ((refine Mine.an3 ?_; iterate 2 intro _); walk_at "flat") | ((refine Mine.an2 ?_; iterate 1 intro _); walk_at "flat") | ((refine Mine.ex15 ?_; iterate 15 intro _); walk_at "flat") | ((refine Mine.ex8 ?_; iterate 8 intro _); walk_at "flat") | ((refine Mine.ex4 ?_; iterate 4 intro _); walk_at "flat") | ((refine Mine.ex2 ?_; iterate 2 intro _); walk_at "flat") | ((refine Mine.ex1 ?_; iterate 1 intro _); walk_at "flat") | intro _
  k_with "call ref" => (k_here; refine wpAny_call ?_; k_dflt (first | (refine' code_def ?zqk1 ?zqk2 ?zqk3 ?zqk4 ?zqk5 ?zqkA ?zqkF ?zqkK ?zqk6 ?zqk7 ?zqk8 ?zqk9 ?zqkB ?_ ?zqc2 ?zqc3 ?zqc4 ?zqc5; (case zqkA => exact rfl); (case zqkF => exact rfl); (case zqkK => first | exact rfl | assumption); (case zqk1 => k_asm); (case zqk2 => k_asm); (case zqk3 => k_asm); (case zqk4 => k_asm); (case zqk5 => k_asm); (case zqk6 => k_is); (case zqk7 => k_is); (case zqk8 => ktr_room); (case zqk9 => exact BindsTo.of_eq rfl); (case zqc5 => decide); (case zqkB => exact locs rfl); (case zqc2 => exact rfl); (case zqc3 => exact rfl); (case zqc4 => exact rfl); k_whole; intro _ _ _ _ _ _; walk_at "cdA") | (refine' code_defC ?zqk1 ?zqk2 ?zqk3 ?zqk4 ?zqk5 ?zqkA ?zqkF ?zqkK ?zqk6 ?zqk7 ?zqk8 ?zqk9 ?zqkB ?zqkD ?_ ?zqc2 ?zqc3 ?zqc4; (case zqkA => exact rfl); (case zqkF => exact rfl); (case zqkK => first | exact rfl | assumption); (case zqk1 => k_asm); (case zqk2 => k_asm); (case zqk3 => k_asm); (case zqk4 => k_asm); (case zqk5 => k_asm); (case zqk6 => k_is); (case zqk7 => k_is); (case zqk8 => ktr_room); (case zqk9 => exact BindsTo.of_eq rfl); (case zqkB => exact rfl); (case zqkD => decide +kernel); (case zqc2 => exact rfl); (case zqc3 => exact rfl); (case zqc4 => exact rfl); k_whole; intro _ _ _ _ _ _ _; walk_at "cdC")))
  k_with "call type:list" => (k_here; (with_reducible show wpAny _ _ (call (Value.type "list") [Value.ref _]) _ _ _); k_dflt (refine' list_copyK ?zqF ?zqN ?zql ?_ ?zqz; (case zqF => k_asm); (case zqN => k_asm); (case zql => exact News.isList (by k_asm) (by k_mem)); (case zqz => (rw [List.size_toArray, sizeLine_eq]; omega)); k_whole); intro _ _ _ _ _; walk_at "lt0"; (try k_sweep))
  k_with "mem" => first | exact List.Mem.head _ | assumption | (refine' List.Mem.tail _ ?_; k_mem)
  k_with "call builtin:len" => (k_here; (with_reducible show wpAny _ _ (call (Value.builtin "len") [Value.ref _]) _ _ _); k_dflt (refine' len_L ?zqN ?zqm ?zqf ?_; (case zqN => k_asm); (case zqm => k_mem); (case zqf => omega); k_whole))
  k_with "eval Name" => (k_here; (with_reducible show wpAny _ _ (eval (Expr.Name _ _) (envOf _ _ _ _ _)) _ _ _); k_dflt (refine' nameX_L (cl := []) ?zqF ?zqv ?_ ?zqa ?zqb; (case zqF => k_asm); (case zqa => rfl); (case zqb => rfl); (case zqv => first | exact rfl | assumption); k_whole))
  k_with "eval Name" => (k_here; (with_reducible show wpAny _ _ (eval (Expr.Name _ _) (envOfC _ _ _ _ _)) _ _ _); k_dflt (refine' nameX_L ?zqF ?zqv ?_ ?zqa ?zqb; (case zqF => k_asm); (case zqa => rfl); (case zqb => rfl); (case zqv => first | exact rfl | assumption); k_whole))
  k_with "all" => exact all_ge (by assumption) (by omega)
  k_with "eval Name" => (k_here; (with_reducible show wpAny _ _ (eval (Expr.Name _ _) (compEnvC _ _ _ (envOfC _ _ _ _ _))) _ _ _); k_dflt (first | (refine' ce_L ?zqN ?zqC ?zqm ?zqv ?_ ?zqa; (case zqa => decide +kernel); (case zqN => k_asm); (case zqC => assumption); (case zqm => k_mem); (case zqv => assumption); k_whole) | (refine' ce_C ?zqN ?zqa ?zqc ?zqm ?zqd ?_; (case zqa => decide +kernel); (case zqN => k_asm); (case zqc => rfl); (case zqm => k_mem); (case zqd => assumption); k_whole)))
  k_with "compareOp NotIn int ref" => (k_here; k_dflt (refine' notIn_L ?zqN ?zqm ?zqi ?_; (case zqN => k_asm); (case zqm => k_mem); (case zqi => first | assumption | exact ints_drop (by assumption) _); k_whole))
  k_with "compareOp In int ref" => (k_here; k_dflt (refine' in_L ?zqN ?zqm ?zqi ?_; (case zqN => k_asm); (case zqm => k_mem); (case zqi => first | assumption | exact ints_drop (by assumption) _); k_whole))
  k_with "subscriptTail Name Slice ref ref" => (k_here; (with_reducible show wpAny _ _ (subscriptTail _ (PySem.Expr.Slice (some _) none none _) (Value.ref _) (Value.ref _)) _ _ _); k_dflt (refine' slice_K ?zqF ?zqN ?zqm (IsPart.int _ _) IsPart.none (pick_from _ ?zqe) ?_ ?zqs ?zqt ?zqz; (case zqF => k_asm); (case zqN => k_asm); (case zqm => k_mem); (case zqe => omega); (case zqs => with_unfolding_all rfl); (case zqt => (intro _; with_unfolding_all rfl)); (case zqz => omega)); intro _ _ _ _; walk_at "lt0"; (try k_sweep))
  k_with "subscriptTail" => (k_here; (with_reducible show wpAny _ _ (subscriptTail _ _ (Value.ref _) (Value.int _ _)) _ _ _); k_dflt (refine' item_L ?zqN ?zqm ?zqa ?zqb ?zqx ?_ ?zqs; (case zqN => k_asm); (case zqm => k_mem); (case zqa => omega); (case zqb => omega); (case zqx => first | exact rfl | assumption); (case zqs => with_unfolding_all rfl); k_whole))
  k_with "setItem ref int" => (k_here; k_dflt (refine' setItem_D (isI _ _) ?zqF ?zqN ?zqU ?zqd ?zqz ?_; (case zqF => k_asm); (case zqN => k_asm); (case zqU => k_updF); (case zqd => assumption); (case zqz => omega); k_whole); intro _ _ _; walk_at "ds"; intro _; (try k_sweep))
  k_with "call builtin:list.remove" => (k_here; k_dflt (refine' remove_L ?zqF ?zqN ?zqU ?zqi ?zqx ?zqz ?_; (case zqF => k_asm); (case zqN => k_asm); (case zqU => k_updF); (case zqi => assumption); (case zqx => assumption); (case zqz => omega); k_whole); intro _ _ _ _; walk_at "ds"; intro _; (try k_sweep))
  k_with "compareOp In int ref" => (k_here; k_dflt (first | (refine' in_DI0 ?zqN ?zqd ?zqm ?zqv ?zqlo ?zqz ?_; (case zqN => k_asm); (case zqz => assumption); (case zqm => k_mem); (case zqd => assumption); (case zqv => assumption); (case zqlo => assumption); k_whole) | (refine' in_DI1 ?zqN ?zqd ?zqm ?zqv ?zqlo ?zqz ?_; (case zqN => k_asm); (case zqz => assumption); (case zqm => k_mem); (case zqd => assumption); (case zqv => assumption); (case zqlo => assumption); k_whole)))
  k_with "subscriptTail" => (k_here; (with_reducible show wpAny _ _ (subscriptTail _ _ (Value.ref _) (Value.int _ _)) _ _ _); k_dflt (refine' item_DI ?zqN ?zqd ?zqm ?zqv ?zqz ?_ ?zqs; (case zqN => k_asm); (case zqz => assumption); (case zqm => k_mem); (case zqd => assumption); (case zqv => assumption); (case zqs => with_unfolding_all rfl); k_whole); intro _)
  k_with "call builtin:list.append" => (k_here; (with_reducible show wpAny _ _ (call (Value.builtin _) [Value.ref _, _]) _ _ _); k_dflt (refine' append_L ?zqF ?zqN ?zqU ?zqz ?_; (case zqF => k_asm); (case zqN => k_asm); (case zqU => k_updF); (case zqz => omega); k_whole); intro _ _; walk_at "ds"; (try k_sweep))
  k_with "setItem ref str" => (k_here; k_dflt (refine' setItem_D (isS _ _) ?zqF ?zqN ?zqU ?zqd ?zqz ?_; (case zqF => k_asm); (case zqN => k_asm); (case zqU => k_updF); (case zqd => assumption); (case zqz => omega); k_whole); intro _ _ _; walk_at "ds"; intro _; (try k_sweep))
  k_with "subscriptTail" => (k_here; (with_reducible show wpAny _ _ (subscriptTail _ _ (Value.ref _) (Value.int _ _)) _ _ _); k_dflt (refine' item_DS ?zqN ?zqd ?zqm ?zqv ?zqz ?_ ?zqs; (case zqN => k_asm); (case zqz => assumption); (case zqm => k_mem); (case zqd => assumption); (case zqv => assumption); (case zqs => with_unfolding_all rfl); k_whole); intro _)
  k_with "subscriptTail" => (k_here; (with_reducible show wpAny _ _ (subscriptTail _ _ (Value.ref _) (Value.str _ _)) _ _ _); k_dflt (refine' item_D (isS _ _) ?zqN ?zqm ?zqd ?zqv ?_ ?zqs; (case zqN => k_asm); (case zqm => k_mem); (case zqd => assumption); (case zqv => assumption); (case zqs => with_unfolding_all rfl); k_whole))
  k_with "all" => first | assumption | (refine List.forall_mem_cons.mpr ⟨?_, ?_⟩; k_ne; k_all)
  k_with "call ref" => (k_here; (with_reducible show wpAny _ _ (call (Value.ref 119) [Value.str _ _]) _ _ _); k_dflt (refine' par_ok _ ?zqB ?zqF ?zqX ?zqN ?zqT ?zqhk ?zqhdp ?zqhun _ _ ?zqhx _ ?zqhall ?_; (case zqB => k_asm); (case zqF => k_asm); (case zqX => k_asm); (case zqN => k_asm); (case zqT => k_asm); (case zqhk => rfl); (case zqhdp => (try dsimp only); omega); (case zqhun => (try dsimp only); omega); (case zqhall => assumption); (case zqhx => assumption)); intro _ _ _ _ _ _ _ _ _ _ _ _ _ _ _ _ _ _ _ _ _ _ _; walk_at "lt6"; (try k_sweep))
  k_with "newTuple" => (k_here; k_dflt (refine' kup_newTuple ?zqF ?zqN ?_ ?zqz; (case zqF => k_asm); (case zqN => k_asm); (case zqz => kmk_size)); intro _ _ _ _; walk_at "lt0"; (try k_sweep))
  k_with "subscriptTail Name Slice ref ref" => (k_here; (with_reducible show wpAny _ _ (subscriptTail _ (PySem.Expr.Slice none (some _) none _) (Value.ref _) (Value.ref _)) _ _ _); k_dflt (refine' slice_K ?zqF ?zqN ?zqm IsPart.none (IsPart.int _ _) (pick_upto _ ?zqe) ?_ ?zqs ?zqt ?zqz; (case zqF => k_asm); (case zqN => k_asm); (case zqm => k_mem); (case zqe => omega); (case zqs => with_unfolding_all rfl); (case zqt => (intro _; with_unfolding_all rfl)); (case zqz => omega)); intro _ _ _ _; walk_at "lt0"; (try k_sweep))
  k_with "rows" => with_reducible first | show wpAny _ _ (call (Value.type "list") [Value.ref _]) _ _ _ | show KEndV _ _ _ _ _ _ _ _ _ _ | show LeaveR _ _ _ | show wpAny _ _ (pyIter (Value.ref _)) _ _ _ | fail
  k_with "eval Dict" => (k_here; (with_reducible show wpAny _ _ (eval (Expr.Dict [some (Expr.Subscript _ _ _)] _ _) _) _ _ _); k_dflt (refine' kdn_eval (knd := PySem.strKind _ _) ?zqF ?zqN ?zqb ?zqa ?zql ?zqe ?zqn ?_; (case zqF => k_asm); (case zqN => first | k_asm | exact News.nil); (case zqb => exact Top.nolimit (by k_asm)); (case zqa => rfl); (case zql => rfl); (case zqe => exact List.cons_ne_nil _ _); (case zqn => exact Nat.le_of_ble_eq_true rfl)); intro _ _ _ _ _; walk_at "lt2")
  k_with "call ref" => (k_here; (with_reducible show wpAny _ _ (call (Value.ref 154) [Value.ref _, Value.ref _]) _ _ _); k_dflt (refine' dif_ok _ ?zqB ?zqF ?zqX ?zqN ?zqT ?zqhk ?zqhdp ?zqhun _ _ _ _ _ _ ?zqhc1 ?zqho1 _ _ ?zqmc ?zqmo ?zqzc ?zqzo ?_; (case zqB => k_asm); (case zqF => k_asm); (case zqX => k_asm); (case zqN => k_asm); (case zqT => k_asm); (case zqhk => rfl); (case zqhdp => (try dsimp only); omega); (case zqhun => (try dsimp only); omega); (case zqmc => k_mem); (case zqmo => k_mem); (case zqhc1 => assumption); (case zqho1 => assumption); (case zqzc => assumption); (case zqzo => assumption)); intro _ _ _ _ _ _ _ _ _ _ _ _ _; walk_at "lt4"; (try k_sweep))
  k_with "subscriptTail" => (k_here; (with_reducible show wpAny _ _ (subscriptTail _ _ (Value.ref _) (Value.int 0 _)) _ _ _); k_dflt (refine' item_LS ?zqN ?zqm ?zqS ?zqa ?zqb ?zqx ?_ ?zqs; (case zqN => k_asm); (case zqm => k_mem); (case zqS => assumption); (case zqa => omega); (case zqb => omega); (case zqx => assumption); (case zqs => with_unfolding_all rfl); k_whole); intro _)
  k_with "call ref" => (k_here; (with_reducible show wpAny _ _ (call (Value.ref 175) [Value.ref _, Value.ref _, Value.ref _]) _ _ _); k_dflt (refine' compare_ok _ ?zqB ?zqF ?zqX ?zqN ?zqT ?zqhk ?zqhdp ?zqhun _ _ _ _ _ _ _ _ _ _ _ _ _ _ _ _ _ _ _ _ _ _ ?zqhj ?zqhjd ?zqhs ?zqh0 ?zqh1 ?zqha ?zqhb ?_; (case zqB => k_asm); (case zqF => k_asm); (case zqX => k_asm); (case zqN => k_asm); (case zqT => k_asm); (case zqhk => rfl); (case zqhdp => (try dsimp only); omega); (case zqhun => (try dsimp only); omega); (case zqhj => k_mem); (case zqhjd => k_mem); (case zqhs => k_mem); (case zqh0 => k_mem); (case zqh1 => k_mem); (case zqha => k_mem); (case zqhb => k_mem)); intro _ _ _ _ _; (try k_sweep))
  k_with "inplaceOp Add ref" => (k_here; (with_reducible show wpAny _ _ (inplaceOp Operator.Add (Value.ref _) (Value.ref _)) _ _ _); k_dflt (refine' iadd_L ?zqF ?zqN ?zqU ?zqb ?zqz ?_; (case zqF => k_asm); (case zqN => k_asm); (case zqU => k_updF); (case zqb => k_mem); (case zqz => omega)); intro _ _ _; walk_at "ds"; (try k_sweep))
  k_with "subscriptTail" => (k_here; (with_reducible show wpAny _ _ (subscriptTail _ _ (Value.ref _) (Value.int (-1) _)) _ _ _); k_dflt (refine' last_LS ?zqN ?zqm ?zqS ?_ ?zqs; (case zqN => k_asm); (case zqm => k_mem); (case zqS => assumption); (case zqs => with_unfolding_all rfl); k_whole); intro _)
  k_with "call ref" => (k_here; (with_reducible show wpAny _ _ (call (Value.ref 189) [Value.ref _, Value.ref _]) _ _ _); k_dflt (refine' adds_ok _ ?zqB ?zqF ?zqX ?zqN ?zqT ?zqhk ?zqhdp ?zqhun _ _ _ _ _ _ _ _ _ _ _ _ _ _ _ _ _ _ _ _ ?zqtm ?zqum _ _ _ _ _ _ ?zqdm ?zqem ?zqlt ?zqlu ?zqtd ?zqud ?zqtv ?zquv ?zqnd ?zqll ?zqlm ?_; (case zqB => k_asm); (case zqF => k_asm); (case zqX => k_asm); (case zqN => k_asm); (case zqT => k_asm); (case zqhk => rfl); (case zqhdp => (try dsimp only); omega); (case zqhun => (try dsimp only); omega); (case zqtm => k_mem); (case zqum => k_mem); (case zqdm => k_mem); (case zqem => k_mem); (case zqtd => assumption); (case zqud => assumption); (case zqtv => assumption); (case zquv => assumption); (case zqlt => assumption); (case zqlu => assumption); (case zqnd => assumption); (case zqll => assumption); (case zqlm => assumption)); intro _ _ _ _ _ _ _ _ _ _ _ _; walk_at "lu3"; (try k_sweep))
  k_with "call ref" => (k_here; (with_reducible show wpAny _ _ (call (Value.ref 220) [Value.ref _, Value.ref _, Value.ref _]) _ _ _); refine wpAny_call ?_; k_dflt (refine' code_defCV ?zqk1 ?zqk2 ?zqk3 ?zqk4 ?zqk5 ?zqkA ?zqkF ?zqkK ?zqk6 ?zqk7 ?zqk8 ?zqk9 ?zqkB ?zqkD ?_ ?zqc2 ?zqc3 ?zqc4; (case zqkA => exact rfl); (case zqkF => exact rfl); (case zqkK => first | exact rfl | assumption); (case zqk1 => k_asm); (case zqk2 => k_asm); (case zqk3 => k_asm); (case zqk4 => k_asm); (case zqk5 => k_asm); (case zqk6 => k_is); (case zqk7 => k_is); (case zqk8 => ktr_room); (case zqk9 => exact BindsTo.of_eq rfl); (case zqkB => exact rfl); (case zqkD => decide +kernel); (case zqc2 => exact rfl); (case zqc3 => exact rfl); (case zqc4 => exact rfl); k_whole; intro _ _ _ _ _ _ _; walk_at "cdC"))
  trivial
set_option maxHeartbeats 4000000 in
set_option profiler false in
set_option profiler.threshold 4000 in
theorem tap_ok (w : World) {p : Program} {loose : List Str} {mean : ExcName → Option Value} {mg mb : Str → Option Value}
  {dp un : Nat} {gd : Option (List Code)} {cn : Str} {cs : Scope} {a : Addr} {ccd : Value} {cl : List (Str × Addr)} {outer : List Env} {A₀ : Around} {base h₀ : Heap} {L : Addr} {m : Str → Option Value} {news : List (Addr × Obj)} {s : Shared}
    {Q E : Value → Shared → Prop} 
    (B : Below A₀ base outer h₀) (F : Fr h₀ L s.heap m) (X : (K w.params).In h₀) (N : News h₀ L s.heap news) (T : Top p loose mean mg mb h₀) (hk : cs.kind = .function)
    (XB : (K w.params).In base) (TB : Top p loose mean mg mb base)
    (hdp : dp + 300 < recursionLimit) (hun : un + 900 < cLine)
    (pd fl jx : Addr) (fvs : List Value) (n kf : Nat) (f : Nat → Int) (hfl : (fl, listOf fvs.toArray kf) ∈ news) (hfi : IntsAre fvs ((List.range n).map f)) (hn : n ≤ 9) (hn1 : 2 ≤ n) (hf3 : ∀ i, i < n → 0 ≤ f i ∧ f i < 3)
    (po : Obj) (kp : List (Int × Value)) (ps : List (Int × Str)) (P : Nat → Str) (hpd : (pd, po) ∈ news) (hpo : po.IsDictOf (PySem.intKind PySem.Challenge.rw_ij0017_01.row.prog w) kp) (hpv : StrVals kp ps) (hps : ∀ i : Nat, i < n → strOf ps (i : Int) = some (P i))
    (inj : ∀ i j, i < n → j < n → P i = P j → i = j) (hPl : ∀ i, i < n → (P i).length ≤ 100000)
    (hp : Nat → Option Nat) (a0 : Nat → Str) (al : Nat → List Str) (hanc : ∀ i, i < n → Anc headOf bareOf (Txt.rstripChars (P i) slash) (a0 i :: al i)) (hal : ∀ i, i < n → (al i).length ≤ 100) (ha1 : ∀ i, i < n → (al i).take 1 = (hp i).toList.map P)
    (hpn : ∀ i, i < n → ∀ π, hp i = some π → π < n)
    (jd tsel t0 t1 : Addr) (first second : Int) (k0 k1 k2 k3 kk : Tok)
    (hj : (jx, instObj 178 jd) ∈ news) (hjd : (jd, dictOf [⟨PyData.keyHash w.params "comp_select_list", .str "comp_select_list" kk, .ref tsel⟩] 1) ∈ news)
    (hs : (tsel, tupO #[.ref t0, .ref t1]) ∈ news) (h0 : (t0, tupO #[.int 0 k0, .int first k1]) ∈ news) (h1 : (t1, tupO #[.int 1 k2, .int second k3]) ∈ news)
    (hok : ∀ t, t + 1 < n → bareT hp (runT first second f hp n t).left ≠ [] ∧ ∃ π, hp (leastT first second f (bareT hp (runT first second f hp n t).left)) = some π)
    (hret : ∀ s' RT TL S tvs cT oS kS ob' h₀', Sm s s' → KtsTurn (outer.filterMap (·.frame)) h₀ h₀' → Below A₀ base outer h₀' → Fr h₀' L s'.heap m → News h₀' L s'.heap ((RT, tupO #[.ref TL, .ref S]) :: (TL, listOf (List.toArray tvs) cT) :: (S, oS) :: (news ++ ob')) →
      (∀ p ∈ news, p.1 < TL) → (∀ p ∈ news, p.1 < S) → TL < RT → S < RT → (∀ p ∈ ob', ∀ q ∈ news, q.1 < p.1) → (S == sysModules) = false → StrsAre tvs ((runT first second f hp n (n - 1)).told.map P) →
      Obj.IsDictOf (PySem.strKind PySem.Challenge.rw_ij0017_01.row.prog w) oS kS → Tab kS P n (SumOf PySem.Challenge.rw_ij0017_01.row.prog w (news ++ ob') (runT first second f hp n (n - 1)).sums) → Q (.ref RT) s') :
    wpAny (model PySem.Challenge.rw_ij0017_01.row.prog w) (ktrTop dp un gd cn cs L a ccd cl outer) (call (.ref 220) [.ref pd, .ref fl, .ref jx]) Q E s := by
  revert X; k_fill; intro X
  try walk_at "tidy"
  have hfv0 : ∀ i, i < n → ∃ t, fvs[i]? = some (.int (f i) t) := fun i hi => hfi.get i (f i) (by simp [hi])
  have hfl2 : fvs.length = n := by rw [hfi.length]; simp
  walk_at "call ref"
  walk_at "tidy"
  k_steps
  rename_i gF LF hA1 tk1 FG BF XF TF l1 oc dc _ _ _ _ R h2 oR loR hR0 _ _ _ l2 h3 _ _ H h4 oH F0 N0 loH hH0 _ _ _ l3
  have hLn : AllLt LF news := allLt_of l1
  k_steps
  rename_i h5 oc5 dc5 _ _ S h6 oS loS hS0 _ _ _ l4 h7 F7 N7 _ _
  try clear N F
  refine for_rule ?_
  k_steps
  rename_i h8 tk8 t8 u8 v8 hr8 F8 N8 kr8
  refine range_forV (n := n) rfl hr8 (by omega) (by omega) BF F8 N8 (fun i m₁ led => m₁ "rows" = some (.ref R) ∧ m₁ "sums" = some (.ref S) ∧ m₁ "paths" = some (.ref pd) ∧ m₁ "figures" = some (.ref fl) ∧ m₁ "judge" = some (.ref jx) ∧
    ∃ oS oH oR ob kS kH kR, led = (S, oS) :: (H, oH) :: (R, oR) :: ob ∧ (∀ p ∈ ob, p.1 ≠ S) ∧ (∀ p ∈ ob, p.1 ≠ H) ∧ (∀ p ∈ ob, p.1 ≠ R) ∧ (∀ p ∈ (LF + 1, oc5) :: news, p ∈ ob) ∧ (∀ p ∈ ob, p ∈ news ∨ @LT.lt Nat _ LF p.1) ∧
      Obj.IsDictOf (PySem.strKind PySem.Challenge.rw_ij0017_01.row.prog w) oS kS ∧ Tab kS P i (SumOf PySem.Challenge.rw_ij0017_01.row.prog w ob (sv0 f)) ∧
      Obj.IsDictOf (PySem.strKind PySem.Challenge.rw_ij0017_01.row.prog w) oH kH ∧ Tab kH P i (HeadOf ob P hp) ∧
      Obj.IsDictOf (PySem.strKind PySem.Challenge.rw_ij0017_01.row.prog w) oR kR ∧ Tab kR P i (RowOf ob f)) ?h0 ?turn ?done
  case h0 => exact ⟨rfl, rfl, rfl, rfl, rfl, _, _, _, _, [], [], [], rfl, by k_all, by k_all, by k_all, fun _ h => h, List.forall_mem_cons.mpr ⟨.inr (Nat.lt_succ_self _), fun _ h => .inl h⟩, hS0, ⟨rfl, fun _ h => absurd h (Nat.not_lt_zero _)⟩, hH0, ⟨rfl, fun _ h => absurd h (Nat.not_lt_zero _)⟩, hR0, ⟨rfl, fun _ h => absurd h (Nat.not_lt_zero _)⟩⟩
  case turn =>
    rintro i ti m₁ led s₁ I oI g hi hIl
    walk_at "flat"
    rename_i m1 m2 m3 m4 m5 oS oH oR ob kS kH kR hz91 bS bH bR hsub hZ dS TS dH TH dR TR
    subst hz91
    rintro sm TT B₁ F₁ N₁ hne
    have X₁ := XB.keeps B₁.stays
    have T₁ := TB.keeps B₁.stays
    clear BF XF TF F8 N8
    have neI : ∀ p ∈ ob, p.1 ≠ I := fun p hp => hne p (by simp [hp])

    clear hne
    have lSI : @LT.lt Nat _ S I := hIl _ (.head _)
    have lHI : @LT.lt Nat _ H I := hIl _ (.tail _ (.head _))
    have lRI : @LT.lt Nat _ R I := hIl _ (.tail _ (.tail _ (.head _)))
    have hco : (LF + 1, oc5) ∈ ob := hsub _ (.head _)
    have hpdo : (pd, po) ∈ ob := hsub _ (.tail _ hpd)
    have hflo : (fl, listOf fvs.toArray kf) ∈ ob := hsub _ (.tail _ hfl)
    have hpi := hps i hi
    obtain ⟨hfa, hfb⟩ := hf3 i hi
    have hfa3 : (f i).toNat < 3 := by omega
    obtain ⟨tf, hfv⟩ := hfv0 i hi
    have lkR := TR.len
    have lkH := TH.len
    have lkS := TS.len
    have hall := hanc i hi
    have hPli := hPl i hi
    k_steps
    rename_i z1 z2 z3 _ _ t11 D1 h12 lD1 h13 h14 h15 tk15 _ _ D2 h16 lD2 h17 oR2 dR2 _ _ s9 X9 d9 G9 GL9 oGL9 gi9 nm9 qn9 q1 q2 r1 r2 r3 r4 gs9 mG9 sm9 hgs9 hsz9 hbr9 F9 N9 ll2 ll3 ll4 ll5 hfo9 hgo9 ll1
    refine pls_ok w (a0 := a0 i) (rest := al i) B₁ F9 X₁ N9 T₁ rfl XB TB ?hdp ?hun ?h1 ll2 ll3 ll4 ll5 hgs9 hfo9 ?hgo (hal i hi) ?ret
    case hdp => (try dsimp only); omega
    case hun => (try dsimp only); omega
    case h1 => exact all_lt_of ll1
    case hgo => exact fun s' hs => hgo9 900 9700 (by decide) (by decide) s' hs
    case ret =>
      intro h18 tk18 gens18 D3 vs3 c3 g2 hgs18 TT2 B2 F18 N18 l18 hvs3
      have X2 := XB.keeps B2.stays
      have T2 := TB.keeps B2.stays
      k_lt l18
      have hv3 : vs3.length ≤ 1000 := by have := hvs3.length; have := hal i hi; omega
      clear F9 N9 F₁ N₁ X₁ T₁ ll2 ll3 ll4 ll5 hfo9 hgo9 ll1
      k_steps
      rename_i D4 h20 l20 h21 oH2 dH2 tk21 _ _ d5 h22 o5a lo5 do5a l22 kxi h23 o5 do5 fo5 D6 h24 l24 h25 oS2 F25 N25 dS2
      obtain ⟨ob', N26, e1, e2, e3, e4, e5, e6, hsb, hneo⟩ := led10b N25
      have nj : ∀ j, j < i → P j ≠ P i := fun j hj e => absurd (inj j i (Nat.lt_trans hj hi) hi e) (Nat.ne_of_lt hj)
      have bI' : ∀ p ∈ ob', p.1 ≠ I := hneo (fun p => p.1 ≠ I) (by k_ne) (by k_ne) (by k_ne) (by k_ne) (by k_ne) (by k_ne) neI
      have bS' : ∀ p ∈ ob', p.1 ≠ S := hneo (fun p => p.1 ≠ S) (by k_ne) (by k_ne) (by k_ne) (by k_ne) (by k_ne) (by k_ne) bS
      have bH' : ∀ p ∈ ob', p.1 ≠ H := hneo (fun p => p.1 ≠ H) (by k_ne) (by k_ne) (by k_ne) (by k_ne) (by k_ne) (by k_ne) bH
      have bR' : ∀ p ∈ ob', p.1 ≠ R := hneo (fun p => p.1 ≠ R) (by k_ne) (by k_ne) (by k_ne) (by k_ne) (by k_ne) (by k_ne) bR
      have hst : StrsAre (vs3.take 1) ((hp i).toList.map P) := by
        rw [← ha1 i hi]
        exact hvs3.take' 1
      have TS' : Tab (stored kS (P i) (.ref D6)) P (i + 1) (SumOf PySem.Challenge.rw_ij0017_01.row.prog w ob' (sv0 f)) := (TS.mono fun j u _ x => x.mono hsb).snoc nj ⟨D6, d5, o5, _, _, _, _, _, rfl, e1, e2, lo5, do5, .cons ⟨rfl, _, rfl⟩ .nil⟩
      have TH' : Tab (stored kH (P i) (.ref D4)) P (i + 1) (HeadOf ob' P hp) := (TH.mono fun j u _ x => x.mono hsb).snoc nj ⟨D4, _, _, rfl, e3, hst⟩
      have TR' : Tab (stored kR (P i) (.ref D2)) P (i + 1) (RowOf ob' f) := (TR.mono fun j u _ x => x.mono hsb).snoc nj ⟨D2, _, _, rfl, e5⟩
      exact ⟨g2, _, _, ⟨sm9.1.trans sm.1, sm.2.trans (GR.gset sm9.2 hsz9 hgs18)⟩, TT2, B2, F25, N26, List.forall_mem_cons.mpr ⟨by k_ne, List.forall_mem_cons.mpr ⟨by k_ne, List.forall_mem_cons.mpr ⟨by k_ne, bI'⟩⟩⟩, m1, m2, m3, m4, m5, oS2, oH2, oR2, ob', _, _, _, rfl, bS', bH', bR', fun p hp => hsb p (hsub p hp), hneo (fun p => p ∈ news ∨ @LT.lt Nat _ LF p.1) (.inr (by dsimp only; omega)) (.inr (by dsimp only; omega)) (.inr (by dsimp only; omega)) (.inr (by dsimp only; omega)) (.inr (by dsimp only; omega)) (.inr (by dsimp only; omega)) hZ, dS2, TS', dH2, TH', dR2, TR'⟩
  case done =>
    rintro m₁ led s₁ g
    walk_at "flat"
    rename_i m1 m2 m3 m4 m5 oS oH oR ob kS kH kR hz92 bS bH bR hsub hZ dS TS dH TH dR TR
    subst hz92
    rintro sm TT B₁ F₁ N₁
    have X₁ := XB.keeps B₁.stays
    have T₁ := TB.keeps B₁.stays
    clear BF XF TF F8 N8 hS0 hH0 hR0
    have lkR := TR.len
    k_steps
    refine list_DStr rfl F₁ N₁ dR (by k_mem) loR (by omega) fun D1 c1 h10 tk10 lvs0 F10 N10 l10 hlv => ?_
    k_lt l10
    rw [TR.1] at hlv
    clear F₁ N₁
    k_steps
    rename_i h11 tk11 _ _ TL h12 l12 h13 F13 N13 _ _
    refine for_rule ?_
    k_steps
    refine len_D (by k_asm) (by k_mem) dR loR (by omega) fun t13 k13 => ?_
    rw [lkR]
    k_steps
    rename_i h14 tk14 t14 u14 v14 hr14 F14 N14 kr14
    have N14b : News g LF h14 ((TL, listOf (List.toArray []) 0) :: (S, oS) :: (D1, listOf lvs0.toArray c1) :: (H, oH) :: (R, oR) :: ob) := news_sub N14 mem_swap23
    have l12o : AllLt TL ob := l12.2.2.2.2
    refine range_forV (n := n - 1) rfl hr14 (by omega) (by omega) B₁ F14 N14b (fun t m₁ led => m₁ "rows" = some (.ref R) ∧ m₁ "sums" = some (.ref S) ∧ m₁ "judge" = some (.ref jx) ∧ m₁ "told" = some (.ref TL) ∧
      ∃ LL lvs cL tvs cT oS ob2 kS, m₁ "left" = some (.ref LL) ∧ led = (TL, listOf (List.toArray tvs) cT) :: (S, oS) :: ob2 ∧ (∀ p ∈ ob2, p.1 ≠ TL) ∧ (∀ p ∈ ob2, p.1 ≠ S) ∧ (LL, listOf (List.toArray lvs) cL) ∈ ob2 ∧ (∀ p ∈ (H, oH) :: (R, oR) :: ob, p ∈ ob2) ∧ (∀ p ∈ ob2, p ∈ news ∨ @LT.lt Nat _ LF p.1) ∧
        StrsAre lvs ((runT first second f hp n t).left.map P) ∧ StrsAre tvs ((runT first second f hp n t).told.map P) ∧
        Obj.IsDictOf (PySem.strKind PySem.Challenge.rw_ij0017_01.row.prog w) oS kS ∧ Tab kS P n (SumOf PySem.Challenge.rw_ij0017_01.row.prog w ob2 (runT first second f hp n t).sums)) ?g0 ?turn ?done
    case g0 =>
      refine ⟨m1, m2, m5, rfl, D1, lvs0, c1, [], 0, oS, (D1, listOf lvs0.toArray c1) :: (H, oH) :: (R, oR) :: ob, kS, rfl, rfl, ?_, ?_, .head _, fun p hp => .tail _ hp, ?_, hlv, .nil, dS, TS.mono fun j u _ x => x.mono fun p hp => .tail _ (.tail _ (.tail _ hp))⟩
      · exact List.forall_mem_cons.mpr ⟨by k_ne, List.forall_mem_cons.mpr ⟨by k_ne, List.forall_mem_cons.mpr ⟨by k_ne, fun p hp => Nat.ne_of_lt (all_lt_of l12o p hp)⟩⟩⟩
      · exact List.forall_mem_cons.mpr ⟨by k_ne, List.forall_mem_cons.mpr ⟨by k_ne, List.forall_mem_cons.mpr ⟨by k_ne, bS⟩⟩⟩
      · exact List.forall_mem_cons.mpr ⟨.inr (by dsimp only; omega), List.forall_mem_cons.mpr ⟨.inr (by dsimp only; omega), List.forall_mem_cons.mpr ⟨.inr (by dsimp only; omega), hZ⟩⟩⟩
    case done =>
      rintro m₂ led s₂ g2
      walk_at "flat"
      rename_i n1 n2 n3 n4 LL lvs cL tvs cT oS2 ob2 kS2 n5 hz93 bT bS2 hLL hsub2 hZ2 hlv2 htv2 dS2 TS2
      subst hz93
      rintro sm2 TT2 B2 F2 N2
      clear F14 N14 X₁ T₁
      have X2 := XB.keeps B2.stays
      have T2 := TB.keeps B2.stays
      try dsimp only
      k_steps
      rename_i RT h19 F19 N19 l19
      show Q (.ref RT) _
      obtain ⟨h₀', T', B', F', N'⟩ := leaveR_back B FG rfl (TT.trans TT2) F19 N19
      obtain ⟨ob', N3, hs3, hl3⟩ := led_new N' (fun p hp => hsub2 p (.tail _ (.tail _ (hsub _ (.tail _ hp))))) hZ2 l1
      have lz1 : @LT.lt Nat _ LF TL := by omega
      have lz2 : @LT.lt Nat _ LF S := by omega
      exact hret _ RT TL S tvs cT oS2 kS2 ob' h₀' ⟨sm2.1.trans sm.1, sm.2.trans sm2.2⟩ T' B' F' N3 (fun p hp => Nat.lt_trans (l1 p hp) lz1) (fun p hp => Nat.lt_trans (l1 p hp) lz2) l19.1 l19.2.1 hl3 loS htv2 dS2 (TS2.mono fun j u _ x => x.mono hs3)
    case turn =>
      rintro t tt m₂ led s₂ I oI g2 ht hIl
      walk_at "flat"
      rename_i n1 n2 n3 n4 LL lvs cL tvs cT oS2 ob2 kS2 n5 hz94 bT bS2 hLL hsub2 hZ2 hlv2 htv2 dS2 TS2
      subst hz94
      rintro sm2 TT2 B2 F2 N2 hne2
      have X2 := XB.keeps B2.stays
      have T2 := TB.keeps B2.stays
      clear X₁ T₁ F14 N14
      have neI : ∀ p ∈ ob2, p.1 ≠ I := fun p hp => hne2 p (by simp [hp])
      clear hne2
      have lTI : @LT.lt Nat _ TL I := hIl _ (.head _)
      have lSI : @LT.lt Nat _ S I := hIl _ (.tail _ (.head _))
      have hHo : (H, oH) ∈ ob2 := hsub2 _ (.head _)
      have hRo : (R, oR) ∈ ob2 := hsub2 _ (.tail _ (.head _))
      have hco : (LF + 1, oc5) ∈ ob2 := hsub2 _ (.tail _ (.tail _ (hsub _ (.head _))))
      clear TS dS hlv
      k_steps
      rename_i h15 F15 N15 _ _
      have hll : (runT first second f hp n t).left.length ≤ 9 := Nat.le_trans (runT_len t) hn
      have hlln := runT_left (first := first) (second := second) (f := f) (hp := hp) (n := n) t
      have hvl : lvs.length = (runT first second f hp n t).left.length := by rw [hlv2.length, List.length_map]
      obtain ⟨hbne, π, hπ⟩ := hok t (by omega)
      generalize hleft : (runT first second f hp n t).left = left at hll hlln hvl hlv2 hbne hπ
      refine comp2_rule (by with_unfolding_all rfl) rfl (by decide) ?_
      k_steps
      refine list_comp2 (hs := left.map fun i => (hp i).toList.map P) rfl F15 N15 (by k_mem) (by omega) rfl rfl (by decide) rfl (by rw [List.length_map, hvl]) (by rw [flat_heads, List.length_map]; exact Nat.le_trans (List.length_filterMap_le _ _) (by omega)) ?hit ?helt ?hdone
      case hit =>
        intro i v hd s₁ C oC mc led hv hhd F N hsl hC hmc
        obtain ⟨y, ty, rfl, hy⟩ := hlv2.item i v hv
        rw [List.getElem?_map] at hy hhd
        obtain ⟨x, hx, rfl⟩ := Option.map_eq_some_iff.mp hy
        rw [hx] at hhd
        simp only [Option.map_some, Option.some.injEq] at hhd
        subst hhd
        obtain ⟨u, hu, a9, vs9, c9, rfl, hm9, hs9⟩ := TH.2 x (hlln x (List.mem_of_getElem? hx))
        have q1 : (LF + 1, oc5) ∈ led := hsl _ (.tail _ (.tail _ (.tail _ hco)))
        have q2 : (H, oH) ∈ led := hsl _ (.tail _ (.tail _ (.tail _ hHo)))
        clear F15 N15 F2 N2
        refine wpAny_mono (Q := fun v s2 => v = .ref a9 ∧ ∃ tk, s2 = { s₁ with toks := tk }) ?_ (fun v s2 hq => ⟨a9, vs9, c9, hq.2.choose, hq.1, .tail _ (.tail _ (.tail _ (hsub2 _ (.tail _ (.tail _ hm9))))), hs9, hq.2.choose_spec⟩) fun _ _ e => e
        k_steps
      case helt =>
        intro v s₁ C oC mc led F N hC hmc
        clear F15 N15 F2 N2
        k_steps
      case hdone =>
        intro h16 tk16 D2 ys c2 F16 N16 l16 hys
        k_lt l16
        rw [flat_heads] at hys
        clear F15 N15 F2 N2
        have hz1 : (left.map P).length ≤ 100 := by rw [List.length_map]; omega
        have hz2 : ((left.filterMap hp).map P).length ≤ 100 := by rw [List.length_map]; exact Nat.le_trans (List.length_filterMap_le _ _) (by omega)
        k_steps
        rename_i h17 tk17 x3 d3 I3 q3 D3 so3 nn3 hso3 hn3 F17 N17 ll2 ll3 ll4 ll5 ll1
        refine dls_ok w (css := left.map P) (oss := (left.filterMap hp).map P) B2 F17 X2 N17 T2 rfl ?hdp ?hun ?h1 ll2 ll3 ll4 ll5 (.tail _ (.tail _ (.tail _ (.tail _ hLL)))) hso3 hn3 hlv2 hz1 ?ret
        case hdp => (try dsimp only); omega
        case hun => (try dsimp only); omega
        case h1 => exact all_lt_of ll1
        case ret =>
          intro h18 tk18 D4 bvs c4 g3 TT3 B3 F18 N18 l18 hbv
          have X3 := XB.keeps B3.stays
          have T3 := TB.keeps B3.stays
          k_lt l18
          rw [filter_texts inj hlln (fun j hj => by obtain ⟨y, hy, e⟩ := List.mem_filterMap.mp hj; exact hpn y (hlln y hy) j e)] at hbv
          change StrsAre bvs ((bareT hp left).map P) at hbv
          clear F17 N17 F16 N16 X2 T2 ll1 ll2 ll3 ll4 ll5 hso3
          have hbl : (bareT hp left).length ≤ left.length := List.length_filter_le _ _
          have hbs : ∀ y ∈ bareT hp left, y < n := fun y hy => hlln y (bareT_sub hy)
          have hbm : leastT first second f (bareT hp left) < n := hbs _ (leastT_mem hbne)
          have hbvl : bvs.length = (bareT hp left).length := by rw [hbv.length, List.length_map]
          obtain ⟨b0, br, hbe⟩ : ∃ b0 br, bareT hp left = b0 :: br := by
            cases e : bareT hp left with
            | nil => exact absurd e hbne
            | cons b r => exact ⟨b, r, rfl⟩
          have hb0 : ((bareT hp left).map P)[(0 : Int).toNat]? = some (P b0) := by rw [hbe]; rfl
          k_steps
          refine for_rule ?_
          k_steps
          rename_i h19 _ _ _ t19 h20 _ _ D5 h21 F21 N21 l21
          have qj : (jx, instObj 178 jd) ∈ ob2 := hsub2 _ (.tail _ (.tail _ (hsub _ (.tail _ hj))))
          have qjd := hsub2 _ (.tail _ (.tail _ (hsub _ (.tail _ hjd))))
          have qs := hsub2 _ (.tail _ (.tail _ (hsub _ (.tail _ hs))))
          have q0 := hsub2 _ (.tail _ (.tail _ (hsub _ (.tail _ h0))))
          have q1 := hsub2 _ (.tail _ (.tail _ (hsub _ (.tail _ h1))))
          have hb0n : b0 < n := hbs b0 (by rw [hbe]; exact .head _)
          refine list_for rfl F21 N21 (by k_mem) (fun i m₁ led => led = (D5, listOf (bvs.drop (1 : Int).toNat).toArray 0) :: (D4, listOf bvs.toArray c4) :: (D2, listOf ys.toArray c2) :: (I, oI) :: (TL, listOf tvs.toArray cT) :: (S, oS2) :: ob2 ∧
            m₁ "rows" = some (.ref R) ∧ m₁ "sums" = some (.ref S) ∧ m₁ "judge" = some (.ref jx) ∧ m₁ "told" = some (.ref TL) ∧ m₁ "left" = some (.ref LL) ∧ (br.take i).foldl (better first second f) b0 < n ∧ ∃ t, m₁ "least" = some (.str (P ((br.take i).foldl (better first second f) b0)) t)) ?hs3 ?h03 ?turn3 ?done3
          case hs3 => rintro i m₁ led ⟨rfl, _⟩; exact .head _
          case h03 => exact ⟨rfl, n1, n2, n3, n4, n5, hb0n, t19, rfl⟩
          case done3 =>
            rintro m₃ led s₃
            walk_at "flat"
            rename_i hz95 r1 r2 r3 r4 r5 hln tl r6
            subst hz95
            rintro sm3 F3 N3
            clear F21 N21
            have hlen3 : br.length = (bvs.drop (1 : Int).toNat).length := by
              show br.length = (bvs.drop 1).length
              rw [List.length_drop, hbvl, hbe]; rfl
            have hLe : (br.take (bvs.drop (1 : Int).toNat).length).foldl (better first second f) b0 = leastT first second f (bareT hp left) := by
              rw [← hlen3, List.take_length, hbe]; rfl
            rw [hLe] at hln r6
            generalize hLd : leastT first second f (bareT hp left) = le at hln r6 hπ hbm
            obtain ⟨u9, hu9, a9, vs9, c9, rfl, hm9, hs9⟩ := TH.2 le hln
            replace hm9 := hsub2 _ (.tail _ (.tail _ hm9))
            rw [hπ] at hs9
            have hπn : π < n := hpn le hln π hπ
            have hto : StrsAre (tvs ++ vs9) ((runT first second f hp n t).told.map P ++ [P π]) := StrsAre.append' htv2 hs9
            have htl : tvs.length ≤ 9 := by rw [htv2.length, List.length_map, runT_told]; omega
            have hv9 : vs9.length ≤ 1 := by rw [hs9.length]; exact Nat.le_refl _
            obtain ⟨v1, hv1, ta, da, oda, kva, a0', a1', a2', a3', rfl, hta, hda, loa, dda, sia⟩ := TS2.2 π hπn
            obtain ⟨v2, hv2, tb, db, odb, kvb, b0', b1', b2', b3', rfl, htb, hdb, lob, ddb, sib⟩ := TS2.2 le hln
            have ok1 := runT_ok (first := first) (second := second) (f := f) (hp := hp) (n := n) t π
            have ok2 := runT_ok (first := first) (second := second) (f := f) (hp := hp) (n := n) t le
            have h2t : 2 ^ t ≤ 2 ^ 7 := Nat.pow_le_pow_right (by decide) (by omega)
            have z1 : ((runT first second f hp n t).sums π).e.length ≤ 200 := by have := ok1.1; omega
            have z2 : ((runT first second f hp n t).sums le).e.length ≤ 200 := by have := ok2.1; omega
            have nd1 := ok1.2
            have lkS2 := TS2.len
            clear ok1 ok2 h2t
            k_steps
            refine wpAny_loadName_local rfl rfl F3.ns r4 ?_
            have hle1 : StrsAre [Value.str (P le) tl] [P le] := .cons _ _ .nil
            have hz3 : [P le].length ≤ 100 := by simp
            k_steps
            rename_i cA _ _ hB _ _ _ tB sB R7 D7 oD7 kvs7 w0 w1 w2 w3 sm7 lo7 hd7 hv7 lDR l17 t17 h17a oS7 hdS7 _ _ l7' h17b l17b h17 tk17 x3 d3 I3 q3 D3 so3 nn3 hso3 hn3 F17 N17 ll2 ll3 ll4 ll5 ll1
            refine dls_ok w (css := left.map P) (oss := [le].map P) B3 F17 X3 N17 T3 rfl ?hdp ?hun ?h1 ll2 ll3 ll4 ll5 (by k_mem) hso3 hn3 hlv2 hz1 ?ret
            case hdp => (try dsimp only); omega
            case hun => (try dsimp only); omega
            case h1 => exact all_lt_of ll1
            case ret =>
              intro h18 tk18 D9 lvs9 cc9 g4 TT4 B4 F18 N18 l18 hlv9
              k_lt l18
              rw [filter_texts inj hlln (fun j hj => by obtain rfl := List.mem_singleton.mp hj; exact hln)] at hlv9
              clear F17 N17 ll1 ll2 ll3 ll4 ll5 hso3
              k_steps
              rename_i h19 F19 N19
              have hstep : runT first second f hp n (t + 1) = ⟨left.filter fun i => decide (i ≠ le), (runT first second f hp n t).told ++ [π], fun j => if j = π then addSv ((runT first second f hp n t).sums π) ((runT first second f hp n t).sums le) else (runT first second f hp n t).sums j⟩ := by
                show stepT first second f hp (runT first second f hp n t) = _
                simp only [stepT, hleft, hLd, hπ, Option.getD_some]
              have hto' : StrsAre (tvs ++ vs9) (((runT first second f hp n t).told ++ [π]).map P) := by rw [List.map_append]; exact hto
              have hlv' : StrsAre lvs9 ((left.filter fun i => decide (i ≠ le)).map P) := by
                have e : (left.filter fun i => decide (i ≠ le)) = left.filter fun i => decide (i ∉ [le]) := List.filter_congr fun x _ => by simp
                rw [e]; exact hlv9
              have TS' : Tab (stored kS2 (P π) (.ref R7)) P n (SumOf PySem.Challenge.rw_ij0017_01.row.prog w ((D9, listOf lvs9.toArray cc9) :: (R7, tupO #[.int (((runT first second f hp n t).sums le).a + ((runT first second f hp n t).sums π).a) w0, .int (((runT first second f hp n t).sums le).b + ((runT first second f hp n t).sums π).b) w1, .int (((runT first second f hp n t).sums le).c + ((runT first second f hp n t).sums π).c) w2, .int (((runT first second f hp n t).sums le).d + ((runT first second f hp n t).sums π).d) w3, .ref D7]) :: (D7, oD7) :: ob2) (fun j => if j = π then addSv ((runT first second f hp n t).sums π) ((runT first second f hp n t).sums le) else (runT first second f hp n t).sums j)) := by
                refine TS2.upd hπn (fun j hj hne e => hne (inj j π hj hπn e)) (SumOf.congr (sv := fun _ => addSv ((runT first second f hp n t).sums π) ((runT first second f hp n t).sums le)) ⟨R7, D7, oD7, kvs7, w0, w1, w2, w3, rfl, .tail _ (.head _), .tail _ (.tail _ (.head _)), lo7, hd7, hv7⟩ (if_pos rfl)) fun j u hj hne x => (x.mono fun p hp => .tail _ (.tail _ (.tail _ hp))).congr (if_neg hne)
              refine ⟨g4, _, (TL, listOf (tvs ++ vs9).toArray cA) :: (S, oS7) :: (D9, listOf lvs9.toArray cc9) :: (R7, tupO #[.int (((runT first second f hp n t).sums le).a + ((runT first second f hp n t).sums π).a) w0, .int (((runT first second f hp n t).sums le).b + ((runT first second f hp n t).sums π).b) w1, .int (((runT first second f hp n t).sums le).c + ((runT first second f hp n t).sums π).c) w2, .int (((runT first second f hp n t).sums le).d + ((runT first second f hp n t).sums π).d) w3, .ref D7]) :: (D7, oD7) :: ob2, ⟨sm7.1.trans (sm3.1.trans sm2.1), (sm2.2.trans sm3.2).trans sm7.2⟩, TT3.trans TT4, B4, F19, news_sub N19 ?_, ?_, r1, r2, r3, rfl, D9, lvs9, cc9, tvs ++ vs9, cA, oS7, _, _, rfl, rfl, ?_, ?_, .head _, fun p hp => .tail _ (.tail _ (.tail _ (hsub2 p hp))), ?_, ?_, ?_, hdS7, ?_⟩
              · exact mem10
              · exact List.forall_mem_cons.mpr ⟨by k_ne, List.forall_mem_cons.mpr ⟨by k_ne, List.forall_mem_cons.mpr ⟨by k_ne, List.forall_mem_cons.mpr ⟨by k_ne, List.forall_mem_cons.mpr ⟨by k_ne, neI⟩⟩⟩⟩⟩
              · exact List.forall_mem_cons.mpr ⟨by k_ne, List.forall_mem_cons.mpr ⟨by k_ne, List.forall_mem_cons.mpr ⟨by k_ne, bT⟩⟩⟩
              · exact List.forall_mem_cons.mpr ⟨by k_ne, List.forall_mem_cons.mpr ⟨by k_ne, List.forall_mem_cons.mpr ⟨by k_ne, bS2⟩⟩⟩
              · exact List.forall_mem_cons.mpr ⟨.inr (by dsimp only; omega), List.forall_mem_cons.mpr ⟨.inr (by dsimp only; omega), List.forall_mem_cons.mpr ⟨.inr (by dsimp only; omega), hZ2⟩⟩⟩
              · rw [hstep]; exact hlv'
              · rw [hstep]; exact hto'
              · rw [hstep]; exact TS'
          case turn3 =>
            rintro i v m₁ led s₃ J oJ hv hJl
            walk_at "flat"
            rename_i hz96 r1 r2 r3 r4 r5 hln tl r6
            subst hz96
            rintro sm3 F3 N3 hne3
            have hbv1 := (hbv.drop' 1)
            obtain ⟨y, ty, rfl, hy⟩ := hbv1.item i v hv
            rw [hbe, List.map_cons, List.drop_one, List.tail_cons, List.getElem?_map] at hy
            obtain ⟨x, hx, rfl⟩ := Option.map_eq_some_iff.mp hy
            have hxn : x < n := hbs x (by rw [hbe]; exact .tail _ (List.mem_of_getElem? hx))
            have hst : (br.take (i + 1)).foldl (better first second f) b0 = better first second f ((br.take i).foldl (better first second f) b0) x := by rw [List.take_add_one, hx]; simp
            generalize (br.take i).foldl (better first second f) b0 = l at hln r6 hst
            obtain ⟨u1, hu1, ra, rt1, rt2, rfl, hra⟩ := TR.2 x hxn
            obtain ⟨u2, hu2, rb, rt3, rt4, rfl, hrb⟩ := TR.2 l hln
            replace hra := hsub2 _ (.tail _ (.tail _ hra))
            replace hrb := hsub2 _ (.tail _ (.tail _ hrb))
            clear F21 N21
            k_steps
            · rename_i gB1 tB1 _ _ sB tB smB aB _ _ _ gB2 FB NB
              have e1 : better first second f l x = x := if_pos aB
              exact ⟨_, _, ⟨smB.1.trans sm3.1, sm3.2.trans smB.2⟩, FB, NB, hne3, rfl, r1, r2, r3, r4, r5, by rw [hst, e1]; exact hxn, ty, by rw [hst, e1]; rfl⟩
            · rename_i gB1 tB1 _ _ sB tB smB FB NB aB
              have e1 : better first second f l x = l := if_neg aB
              exact ⟨_, _, ⟨smB.1.trans sm3.1, sm3.2.trans smB.2⟩, FB, NB, hne3, rfl, r1, r2, r3, r4, r5, by rw [hst, e1]; exact hln, tl, by rw [hst, e1]; exact r6⟩
theorem walkWords20 : True := by
  w_top off
  k_with_none
  k_with "via" => first | exact Mine.viaHead _ | (refine Mine.viaTail ?_; k_extra "via") | exact Mine.viaLast _ | fail
  k_with "conj" => with_reducible first | assumption | (refine' Mine.viaLt ?zqh ?zqk; (case zqh => assumption); (case zqk => k_extra "via")) | (refine' Mine.viaNe ?zqh ?zqk; (case zqh => assumption); (case zqk => k_extra "via")) | fail
  k_with "up" => with_reducible first | exact Mine.u0 | exact Mine.u1 | exact Mine.u2 | exact Mine.u3 | exact Mine.u4 | exact Mine.u5 | exact Mine.u6 | exact Mine.u7 | exact Mine.u8 | fail
  k_with "omega" => first | (k_whole; with_reducible first | assumption | exact Mine.v0 | exact Mine.v1 | exact Mine.v2 | exact Mine.v3 | exact Mine.v4 | exact Mine.v5 | exact Mine.v6 | exact Mine.v7 | exact Mine.v8 | k_extra "conj" | (refine Mine.neGt ?_; k_extra "conj") | (refine Mine.neLt ?_; k_extra "conj") | k_extra "up" | exact Int.natCast_nonneg _ | decide | exact Mine.leCut (by assumption) | exact Mine.ltCut (by assumption) | exact Mine.leCut' (by assumption) | exact Mine.ltCut' (by assumption) | exact Mine.iCut1 (by assumption) | exact Mine.iCut2 (by assumption) | exact Mine.iCut3 (by assumption) | exact Mine.iCut4 (by assumption) | fail) | (k_whole; lia) | omega +splitDisjunctions | ((dsimp +zetaDelta only at *); omega +splitDisjunctions)
  k_with "ne" => (refine PySem.W.neN ?_; (try dsimp only); first | (refine Mine.neGt ?_; first | k_extra "conj" | k_extra "up") | (refine Mine.neLt ?_; first | k_extra "conj" | k_extra "up") | (refine Mine.neSym ?_; k_extra "conj") | omega)
  k_with "rows" => with_reducible first | show wpAny _ _ (exec (Stmt.While _ _ _ _) _) _ _ _ | show wpAny _ _ (exec (Stmt.For _ _ _ _ _) _) _ _ _ | show wpAny _ _ (eval (Expr.ListComp _ _ _ _) _) _ _ _ | show wpAny _ _ (exec (Stmt.Assign _ (Expr.ListComp _ _ _ _) _) _) _ _ _ | fail
  k_with "steps" => repeat' (first | ((fail_if_success keq_rows); (first | (k_unfold; (try dsimp only)) | (k_end; wrow_close) | ((first | walk1 | (dsimp only; walk1)); (all_goals try walk_at "tidy")) | (leave1; walk_say "STEP leave1"; try dsimp only))) | fail "no step")
  k_with "tidy" => ((try ((with_reducible show wpAny _ _ (exec _ _) _ _ _); (fail_if_success fail_if_success k_fold); refine Mine.foldQ ?_; intro _)); (try ((fail_if_success fail_if_success (first | conv in (Around.deeper _ _) => skip | conv in (ktrTop _ _ _ _ _ _ _ _ _ _) => skip)); refine Mine.foldE ?_; intro _; refine Mine.foldA ?_; intro _)); (try ((fail_if_success fail_if_success (conv in (Shared.mk _ _ _ _ _) => skip)); (with_reducible show wpAny _ _ (exec _ _) _ _ _); refine Mine.foldS ?_; intro _)))
  k_with "flat" => with_reducible first | ((refine Mine.an12 ?_; iterate 11 intro _); walk_at "flat") | ((refine Mine.an6 ?_; iterate 5 intro _); walk_at "flat") | ((refine Mine.an3 ?_; iterate 2 intro _); walk_at "flat") | ((refine Mine.an2 ?_; iterate 1 intro _); walk_at "flat") | ((refine Mine.ex15 ?_; iterate 15 intro _); walk_at "flat") | ((refine Mine.ex8 ?_; iterate 8 intro _); walk_at "flat") | ((refine Mine.ex4 ?_; iterate 4 intro _); walk_at "flat") | ((refine Mine.ex2 ?_; iterate 2 intro _); walk_at "flat") | ((refine Mine.ex1 ?_; iterate 1 intro _); walk_at "flat") | intro _
  k_with "call ref" => (k_here; refine wpAny_call ?_; k_dflt (first | (refine' code_def ?zqk1 ?zqk2 ?zqk3 ?zqk4 ?zqk5 ?zqkA ?zqkF ?zqkK ?zqk6 ?zqk7 ?zqk8 ?zqk9 ?zqkB ?_ ?zqc2 ?zqc3 ?zqc4 ?zqc5; (case zqkA => exact rfl); (case zqkF => exact rfl); (case zqkK => first | exact rfl | assumption); (case zqk1 => k_asm); (case zqk2 => k_asm); (case zqk3 => k_asm); (case zqk4 => k_asm); (case zqk5 => k_asm); (case zqk6 => k_is); (case zqk7 => k_is); (case zqk8 => ktr_room); (case zqk9 => exact BindsTo.of_eq rfl); (case zqc5 => decide); (case zqkB => exact locs rfl); (case zqc2 => exact rfl); (case zqc3 => exact rfl); (case zqc4 => exact rfl); k_whole; intro _ _ _ _ _ _; walk_at "cdA") | (refine' code_defC ?zqk1 ?zqk2 ?zqk3 ?zqk4 ?zqk5 ?zqkA ?zqkF ?zqkK ?zqk6 ?zqk7 ?zqk8 ?zqk9 ?zqkB ?zqkD ?_ ?zqc2 ?zqc3 ?zqc4; (case zqkA => exact rfl); (case zqkF => exact rfl); (case zqkK => first | exact rfl | assumption); (case zqk1 => k_asm); (case zqk2 => k_asm); (case zqk3 => k_asm); (case zqk4 => k_asm); (case zqk5 => k_asm); (case zqk6 => k_is); (case zqk7 => k_is); (case zqk8 => ktr_room); (case zqk9 => exact BindsTo.of_eq rfl); (case zqkB => exact rfl); (case zqkD => decide +kernel); (case zqc2 => exact rfl); (case zqc3 => exact rfl); (case zqc4 => exact rfl); k_whole; intro _ _ _ _ _ _ _; walk_at "cdC")))
  k_with "call type:list" => (k_here; (with_reducible show wpAny _ _ (call (Value.type "list") [Value.ref _]) _ _ _); k_dflt (refine' list_copyK ?zqF ?zqN ?zql ?_ ?zqz; (case zqF => k_asm); (case zqN => k_asm); (case zql => exact News.isList (by k_asm) (by k_mem)); (case zqz => (rw [List.size_toArray, sizeLine_eq]; omega)); k_whole); intro _ _ _ _ _; walk_at "lt0"; (try k_sweep))
  k_with "mem" => first | exact List.Mem.head _ | assumption | (refine' List.Mem.tail _ ?_; k_mem)
  k_with "call builtin:len" => (k_here; (with_reducible show wpAny _ _ (call (Value.builtin "len") [Value.ref _]) _ _ _); k_dflt (refine' len_L ?zqN ?zqm ?zqf ?_; (case zqN => k_asm); (case zqm => k_mem); (case zqf => omega); k_whole))
  k_with "eval Name" => (k_here; (with_reducible show wpAny _ _ (eval (Expr.Name _ _) (envOf _ _ _ _ _)) _ _ _); k_dflt (refine' nameX_L (cl := []) ?zqF ?zqv ?_ ?zqa ?zqb; (case zqF => k_asm); (case zqa => rfl); (case zqb => rfl); (case zqv => first | exact rfl | assumption); k_whole))
  k_with "eval Name" => (k_here; (with_reducible show wpAny _ _ (eval (Expr.Name _ _) (envOfC _ _ _ _ _)) _ _ _); k_dflt (refine' nameX_L ?zqF ?zqv ?_ ?zqa ?zqb; (case zqF => k_asm); (case zqa => rfl); (case zqb => rfl); (case zqv => first | exact rfl | assumption); k_whole))
  k_with "all" => exact all_ge (by assumption) (by omega)
  k_with "eval Name" => (k_here; (with_reducible show wpAny _ _ (eval (Expr.Name _ _) (compEnvC _ _ _ (envOfC _ _ _ _ _))) _ _ _); k_dflt (first | (refine' ce_L ?zqN ?zqC ?zqm ?zqv ?_ ?zqa; (case zqa => decide +kernel); (case zqN => k_asm); (case zqC => assumption); (case zqm => k_mem); (case zqv => assumption); k_whole) | (refine' ce_C ?zqN ?zqa ?zqc ?zqm ?zqd ?_; (case zqa => decide +kernel); (case zqN => k_asm); (case zqc => rfl); (case zqm => k_mem); (case zqd => assumption); k_whole)))
  k_with "compareOp NotIn int ref" => (k_here; k_dflt (refine' notIn_L ?zqN ?zqm ?zqi ?_; (case zqN => k_asm); (case zqm => k_mem); (case zqi => first | assumption | exact ints_drop (by assumption) _); k_whole))
  k_with "compareOp In int ref" => (k_here; k_dflt (refine' in_L ?zqN ?zqm ?zqi ?_; (case zqN => k_asm); (case zqm => k_mem); (case zqi => first | assumption | exact ints_drop (by assumption) _); k_whole))
  k_with "subscriptTail Name Slice ref ref" => (k_here; (with_reducible show wpAny _ _ (subscriptTail _ (PySem.Expr.Slice (some _) none none _) (Value.ref _) (Value.ref _)) _ _ _); k_dflt (refine' slice_K ?zqF ?zqN ?zqm (IsPart.int _ _) IsPart.none (pick_from _ ?zqe) ?_ ?zqs ?zqt ?zqz; (case zqF => k_asm); (case zqN => k_asm); (case zqm => k_mem); (case zqe => omega); (case zqs => with_unfolding_all rfl); (case zqt => (intro _; with_unfolding_all rfl)); (case zqz => omega)); intro _ _ _ _; walk_at "lt0"; (try k_sweep))
  k_with "subscriptTail" => (k_here; (with_reducible show wpAny _ _ (subscriptTail _ _ (Value.ref _) (Value.int _ _)) _ _ _); k_dflt (refine' item_L ?zqN ?zqm ?zqa ?zqb ?zqx ?_ ?zqs; (case zqN => k_asm); (case zqm => k_mem); (case zqa => omega); (case zqb => omega); (case zqx => first | exact rfl | assumption); (case zqs => with_unfolding_all rfl); k_whole))
  k_with "setItem ref int" => (k_here; k_dflt (refine' setItem_D (isI _ _) ?zqF ?zqN ?zqU ?zqd ?zqz ?_; (case zqF => k_asm); (case zqN => k_asm); (case zqU => k_updF); (case zqd => assumption); (case zqz => omega); k_whole); intro _ _ _; walk_at "ds"; intro _; (try k_sweep))
  k_with "call builtin:list.remove" => (k_here; k_dflt (refine' remove_L ?zqF ?zqN ?zqU ?zqi ?zqx ?zqz ?_; (case zqF => k_asm); (case zqN => k_asm); (case zqU => k_updF); (case zqi => assumption); (case zqx => assumption); (case zqz => omega); k_whole); intro _ _ _ _; walk_at "ds"; intro _; (try k_sweep))
  k_with "compareOp In int ref" => (k_here; k_dflt (first | (refine' in_DI0 ?zqN ?zqd ?zqm ?zqv ?zqlo ?zqz ?_; (case zqN => k_asm); (case zqz => assumption); (case zqm => k_mem); (case zqd => assumption); (case zqv => assumption); (case zqlo => assumption); k_whole) | (refine' in_DI1 ?zqN ?zqd ?zqm ?zqv ?zqlo ?zqz ?_; (case zqN => k_asm); (case zqz => assumption); (case zqm => k_mem); (case zqd => assumption); (case zqv => assumption); (case zqlo => assumption); k_whole)))
  k_with "subscriptTail" => (k_here; (with_reducible show wpAny _ _ (subscriptTail _ _ (Value.ref _) (Value.int _ _)) _ _ _); k_dflt (refine' item_DI ?zqN ?zqd ?zqm ?zqv ?zqz ?_ ?zqs; (case zqN => k_asm); (case zqz => assumption); (case zqm => k_mem); (case zqd => assumption); (case zqv => assumption); (case zqs => with_unfolding_all rfl); k_whole); intro _)
  k_with "call builtin:list.append" => (k_here; (with_reducible show wpAny _ _ (call (Value.builtin _) [Value.ref _, _]) _ _ _); k_dflt (refine' append_L ?zqF ?zqN ?zqU ?zqz ?_; (case zqF => k_asm); (case zqN => k_asm); (case zqU => k_updF); (case zqz => omega); k_whole); intro _ _; walk_at "ds"; (try k_sweep))
  k_with "subscriptTail Name Slice ref ref" => (k_here; (with_reducible show wpAny _ _ (subscriptTail _ (PySem.Expr.Slice none (some _) none _) (Value.ref _) (Value.ref _)) _ _ _); k_dflt (refine' slice_S ?zqF ?zqN ?zqm IsPart.none (IsPart.int _ _) (pick_upto _ ?zqe) ?_ ?zqs ?zqt ?zqz; (case zqF => k_asm); (case zqN => k_asm); (case zqm => assumption); (case zqe => omega); (case zqs => with_unfolding_all rfl); (case zqt => (intro _; with_unfolding_all rfl)); (case zqz => omega)); intro _ _ _ _; walk_at "lt0"; (try k_sweep))
  k_with "binaryOp Add ref ref" => (k_here; (with_reducible show wpAny _ _ (binaryOp _ (Value.ref _) (Value.ref _)) _ _ _); k_dflt (refine' add_LL ?zqF ?zqN ?zqa ?zqb ?_ ?zqz; (case zqF => k_asm); (case zqN => k_asm); (case zqa => k_mem); (case zqb => k_mem); (case zqz => first | omega | (simp only [List.length_drop]; omega))); intro _ _ _ _; walk_at "lt0"; (try k_sweep))
  k_with "binaryOp Pow int int" => (k_here; k_dflt (refine' pow_int_small ?zqa ?zqb (by decide) ?_; (case zqa => omega); (case zqb => omega)))
  k_with "call builtin:sum" => (k_here; (with_reducible show wpAny _ _ (call (Value.builtin "sum") [Value.ref _]) _ _ _); k_dflt (refine' sum_L ?zqh ?zqF ?zqN ?zqm ?zqi ?_; (case zqh => rfl); (case zqF => k_asm); (case zqN => k_asm); (case zqm => k_mem); (case zqi => assumption); k_whole); intro _ _ _ _ _; (try k_sweep))
  k_with "rows" => with_reducible first | show wpAny _ _ (call (Value.type "list") [Value.ref _]) _ _ _ | show wpAny _ _ (pyIter (Value.ref _)) _ _ _ | fail
  k_with "call builtin:len" => (k_here; (with_reducible show wpAny _ _ (call (Value.builtin "len") [Value.ref _]) _ _ _); k_dflt (refine' len_I ?zqN ?zqm ?zqi ?zqz ?_; (case zqN => k_asm); (case zqm => k_mem); (case zqi => assumption); (case zqz => first | assumption | ((try simp only [List.length_append, List.length_map, List.length_take, List.length_cons, List.length_nil]); omega))); intro _)
  k_with "binaryOp FloorDiv int int" => (k_here; k_dflt (refine' floordiv_int ?zqa ?_ (Or.inl (PyProof.noPylong_small ?zqb)); (case zqa => first | assumption | omega); (case zqb => omega)))
  trivial
set_option maxHeartbeats 4000000 in
theorem seg1 (w : World) {p : Program} {loose : List Str} {mean : ExcName → Option Value} {mg mb : Str → Option Value}
  {dp un : Nat} {gd : Option (List Code)} {fa : Addr} {ccd : Value} {A₀ : Around} {base h₀ : Heap} {L : Addr} {m : Str → Option Value} {s : Shared}
    {Q : Flow → Shared → Prop} {E : Value → Shared → Prop} {o1 o2 o3 o4 o5 o6 o7 o8 o9 : Obj} {v1 v2 v3 v4 v5 v6 v7 v8 v9 : Option Value}
    (B : Below A₀ base [] h₀) (F : Fr h₀ L s.heap m) (X : (K w.params).In h₀) (T : Top p loose mean mg mb h₀)
    (hdp : dp + 400 < recursionLimit) (hun : un + 1200 < cLine)
    (N : News h₀ L s.heap [(L + 1 + 1 + 1 + 1 + 1 + 1 + 1 + 1 + 1, o9), (L + 1 + 1 + 1 + 1 + 1 + 1 + 1 + 1, o8), (L + 1 + 1 + 1 + 1 + 1 + 1 + 1, o7), (L + 1 + 1 + 1 + 1 + 1 + 1, o6), (L + 1 + 1 + 1 + 1 + 1, o5), (L + 1 + 1 + 1 + 1, o4), (L + 1 + 1 + 1, o3), (L + 1 + 1, o2), (L + 1, o1)]) (d1 : o1.data = .cell v1) (d2 : o2.data = .cell v2) (d3 : o3.data = .cell v3) (d4 : o4.data = .cell v4) (d5 : o5.data = .cell v5) (d6 : o6.data = .cell v6) (d7 : o7.data = .cell v7) (d8 : o8.data = .cell v8) (d9 : o9.data = .cell v9)
    (sa : Addr) (svs : List Value) (sns : List Int) (hsa : m "script" = some (.ref sa)) (hsl : h₀.IsList sa svs.toArray) (hsz : svs.length ≤ 63) (hsi : IntsAre svs sns)
    (hret : ∀ s' m' aC cvs cC aF fvs cF p1 p2 p4 p5 p6 t1 t2 t5 t6, Sm s s' → Fr h₀ L s'.heap m' → News h₀ L s'.heap [(aF, listOf (List.toArray fvs) cF), (aC, listOf (List.toArray cvs) cC), (L + 1 + 1 + 1 + 1 + 1 + 1 + 1 + 1 + 1, o9), (L + 1 + 1 + 1 + 1 + 1 + 1 + 1 + 1, o8), (L + 1 + 1 + 1 + 1 + 1 + 1 + 1, o7), (L + 1 + 1 + 1 + 1 + 1 + 1, p6), (L + 1 + 1 + 1 + 1 + 1, p5), (L + 1 + 1 + 1 + 1, p4), (L + 1 + 1 + 1, o3), (L + 1 + 1, p2), (L + 1, p1)] →
      @LT.lt Nat _ (L + 1 + 1 + 1 + 1 + 1 + 1 + 1 + 1 + 1) aC → @LT.lt Nat _ aC aF → m' "code" = some (.ref aC) → p1.data = .cell (some (.int (lawNums sns).sum t1)) → p2.data = .cell (some (.int (lawN sns : Int) t2)) → p4.data = .cell (some (.ref aF)) → p5.data = .cell (some (.int (lawFst sns) t5)) → p6.data = .cell (some (.int (lawSnd sns) t6)) →
      IntsAre cvs (lawCode sns) → IntsAre fvs (lawFig sns) → Q .next s') :
    wpAny (model PySem.Challenge.rw_ij0017_01.row.prog w) (lawTop dp un gd L fa ccd) (execs (lawB.take 7) (lawEnv L fa ccd)) Q E s := by
  revert X; k_fill; intro X
  try walk_at "tidy"
  show wpAny _ (ktrTop _ _ _ _ (Scope.mk _ _ _ _ _) _ _ _ _ _) (execs [_, _, _, _, _, _, _] (envOfC _ (Scope.mk _ _ _ _ _) _ _ _)) _ _ _
  let c1 : Addr := L + 1
  let c2 : Addr := L + 1 + 1
  let c3 : Addr := L + 1 + 1 + 1
  let c4 : Addr := L + 1 + 1 + 1 + 1
  let c5 : Addr := L + 1 + 1 + 1 + 1 + 1
  let c6 : Addr := L + 1 + 1 + 1 + 1 + 1 + 1
  let c7 : Addr := L + 1 + 1 + 1 + 1 + 1 + 1 + 1
  let c8 : Addr := L + 1 + 1 + 1 + 1 + 1 + 1 + 1 + 1
  let c9 : Addr := L + 1 + 1 + 1 + 1 + 1 + 1 + 1 + 1 + 1
  replace N : News h₀ L s.heap [(c9, o9), (c8, o8), (c7, o7), (c6, o6), (c5, o5), (c4, o4), (c3, o3), (c2, o2), (c1, o1)] := N
  k_steps
  refine comp_rule (by with_unfolding_all rfl) (by decide) rfl (by decide) rfl ?_
  k_steps
  rename_i l1 h1 lc1 D2 h2 F2 N2 lD2
  refine list_comp rfl F2 N2 (by k_mem) (fun i ys led => led = _ ∧ IntsAre ys (((sns.take 5).take i).map fun x => x.fmod 5040)) ?hs ⟨rfl, .nil⟩ rfl rfl ?hz ?turn ?done
  case hz => rw [List.length_take]; omega
  case hs => rintro i ys led ⟨rfl, _⟩; k_mem
  case turn =>
    rintro I D C i v ys led s1 oI oC oD mc hI hID hDC hv ⟨rfl, hys⟩ hyl sm F1 N1 hne hC hmc
    obtain ⟨n, t, rfl, hn⟩ := ints_at (hsi.take 5) hv
    clear F2 N2
    refine tests_nil ?_
    rw [if_pos rfl]
    k_steps
    refine CEnd.same (l := _) (Sm.of sm) (by k_asm) (by k_asm) hne (by intro p9 hp9; first | exact hp9 | exact .tail _ hp9) ⟨rfl, ?_⟩
    rw [List.take_add_one, hn, List.map_append]
    exact IntsAre.append hys (.cons _ _ .nil)
  case done =>
    rintro D ys led s1 c hD ⟨rfl, hys⟩ sm F1 N1 hne
    clear F2 N2
    k_lt hD
    rw [List.take_of_length_le (by rw [List.length_take, List.length_take, hsi.length]; omega)] at hys
    k_steps
    rename_i D3 ws3 _ _ _ hw3 l3 _ _ _ _ _ _ _ _ tT _ oT dT _ _ tS h4 oS F4 N4 dS _ _
    have hw3' : IntsAre ws3 (lawNums sns) := hw3
    have dT' : oT.data = .cell (some (.int (lawNums sns).sum tT)) := dT
    obtain ⟨tS', dS'⟩ : ∃ t, oS.data = .cell (some (.int (lawN sns : Int) t)) := ⟨_, dS⟩
    have hnl := lawNums_len sns
    have hn4 : 4 ≤ lawN sns ∧ lawN sns ≤ 9 := by unfold lawN; omega
    have hwl : ws3.length ≤ 7 := by rw [hw3'.length]; omega
    have N5 : News h₀ L h4 [(D3, listOf ws3.toArray 0), (c9, o9), (c8, o8), (c7, o7), (c6, o6), (c5, o5), (c4, o4), (c3, o3), (c2, oS), (c1, oT)] := news_sub N4 (by
      intro p9 hp9
      rcases List.mem_cons.mp hp9 with rfl | hp9
      · exact .head _
      · exact .tail _ (.tail _ (.tail _ (.tail _ hp9))))
    have l3' : AllLt D3 [(c9, o9)] := ⟨by omega, trivial⟩
    clear hne hD lD2 lc1 N4 hw3 dT dS hys
    refine comp_ruleA (by with_unfolding_all rfl) (by with_unfolding_all rfl) (by decide) rfl (by decide) rfl ?_
    k_steps
    refine list_compG rfl F4 N5 (by k_mem) (fun j ys led => led = (D3, listOf ws3.toArray 0) :: (c9, o9) :: (c8, o8) :: (c7, o7) :: (c6, o6) :: (c5, o5) :: (c4, o4) :: (c3, o3) :: (c2, oS) :: (c1, oT) :: [] ∧ IntsAre ys (((lawNums sns).take j).map fun x => x.fmod (lawN sns))) ?hs2 ⟨rfl, .nil⟩ rfl rfl (by omega) ?turn2 ?done2
    case hs2 => rintro j ys led ⟨rfl, _⟩; k_mem
    case turn2 =>
      rintro I2 D2 C2 j v ys led s₂ oI2 oC2 oD2 mc hI2 hID hDC hv ⟨rfl, hys⟩ hyl sm2 F₂ N₂ h2 hC2 hmc
      obtain ⟨n, t, rfl, hn⟩ := ints_at hw3' hv
      clear F4 N5
      refine tests_nil ?_
      rw [if_pos rfl]
      have hN0 : (lawN sns : Int) ≠ 0 := by omega
      k_steps
      refine CEnd.same (l := _) (Sm.of sm2) (by k_asm) (by k_asm) h2 (by intro p9 hp9; first | exact hp9 | exact .tail _ hp9) ⟨rfl, ?_⟩
      rw [List.take_add_one, hn, List.map_append]
      exact IntsAre.append hys (.cons _ _ .nil)
    case done2 =>
      rintro D2 C2 ys0 led s₂ cD oC2 mc hD2 hDC ⟨rfl, hys⟩ sm2 F₂ N₂ h2 hC2
      unfold UAss
      k_lt hD2
      rw [List.take_of_length_le (by rw [← hw3'.length]; exact Nat.le_refl _)] at hys
      replace hys : IntsAre ys0 (lawCode sns) := hys
      clear F4 N5
      k_steps
      rename_i h8 F8 N8
      refine free_done F8 N8 hC2 (fun p9 hp9 => ?_) fun h9 F9 N9 => ?_
      · rcases List.mem_cons.mp hp9 with rfl | hp9
        · exact Nat.ne_of_lt hDC
        · exact (h2 p9 hp9).1
      clear F8 N8
      try dsimp only
      k_steps
      walk_at "exec Assign"
      refine comp_rule (by with_unfolding_all rfl) (by decide) rfl (by decide) rfl ?_
      k_steps
      rename_i h10 tk10 t10 u10 v10 hr10 F10 N10 kr10
      refine range_comp (n := lawN sns) rfl hr10 rfl (by omega) F10 N10 (fun j ys led => led = (D2, listOf ys0.toArray cD) :: (D3, listOf ws3.toArray 0) :: (c9, o9) :: (c8, o8) :: (c7, o7) :: (c6, o6) :: (c5, o5) :: (c4, o4) :: (c3, o3) :: (c2, oS) :: (c1, oT) :: [] ∧ IntsAre ys ((List.range j).map (figAt (lawNums sns).sum))) ⟨rfl, .nil⟩ rfl rfl ?turn3 ?done3
      case turn3 =>
        rintro I3 D4 C3 j t ys led s₃ oI3 oC3 oD3 mc3 hI3 hID3 hDC3 hj ⟨rfl, hys⟩ hyl sm3 F₃ N₃ h3' hC3 hmc3
        clear F10 N10
        refine tests_nil ?_
        rw [if_pos rfl]
        have h3q := pow3 ((j : Int)).toNat (by omega)
        have h3p : (3 : Int) ^ ((j : Int)).toNat ≠ 0 := by omega
        k_steps
        refine CEnd.same (l := _) (Sm.of sm3) (by k_asm) (by k_asm) h3' (by intro p9 hp9; first | exact hp9 | exact .tail _ hp9) ⟨rfl, ?_⟩
        rw [List.range_succ, List.map_append]
        exact IntsAre.append hys (.cons _ _ .nil)
      case done3 =>
        rintro D4 ys led s₃ cD3 hD3 ⟨rfl, hys3⟩ sm3 F₃ N₃ h3'
        k_lt hD3
        replace hys3 : IntsAre ys (lawFig sns) := hys3
        clear F10 N10
        k_steps
        rename_i h11 o11 d11 _ _ h12 o12 d12 _ _ _ h13 o13 F13 N13 d13
        refine hret _ _ D2 ys0 cD D4 ys cD3 oT oS o11 o12 o13 _ _ _ _ ⟨sm3.1.trans (sm2.1.trans sm.1), (sm.2.trans sm2.2).trans sm3.2⟩ F13 (news_sub N13 ?_) (by omega) (by omega) rfl dT' dS' d11 d12 d13 hys hys3
        intro p9 hp9
        rcases List.mem_cons.mp hp9 with rfl | hp9
        · exact .head _
        rcases List.mem_cons.mp hp9 with rfl | hp9
        · exact .tail _ (.head _)
        exact .tail _ (.tail _ (.tail _ hp9))
theorem walkWords21 : True := by
  w_top off
  trivial
set_option maxHeartbeats 4000000 in
theorem seg2 (w : World) {p : Program} {loose : List Str} {mean : ExcName → Option Value} {mg mb : Str → Option Value}
  {dp un : Nat} {gd : Option (List Code)} {fa : Addr} {ccd : Value} {A₀ : Around} {base h₀ : Heap} {L : Addr} {m : Str → Option Value} {s : Shared}
    {Q : Flow → Shared → Prop} {E : Value → Shared → Prop} {o1 o2 o3 o4 o5 o6 o7 o8 o9 : Obj} {v1 v2 v3 v4 v5 v6 v7 v8 v9 : Option Value}
    (B : Below A₀ base [] h₀) (F : Fr h₀ L s.heap m) (X : (K w.params).In h₀) (T : Top p loose mean mg mb h₀)
    (hdp : dp + 400 < recursionLimit) (hun : un + 1200 < cLine)
    (sns : List Int) (aC aF : Addr) (cvs fvs : List Value) (cC cF : Nat) (t1 t2 t5 t6 : Tok)
    (N : News h₀ L s.heap [(aF, listOf (List.toArray fvs) cF), (aC, listOf (List.toArray cvs) cC), (L + 1 + 1 + 1 + 1 + 1 + 1 + 1 + 1 + 1, o9), (L + 1 + 1 + 1 + 1 + 1 + 1 + 1 + 1, o8), (L + 1 + 1 + 1 + 1 + 1 + 1 + 1, o7), (L + 1 + 1 + 1 + 1 + 1 + 1, o6), (L + 1 + 1 + 1 + 1 + 1, o5), (L + 1 + 1 + 1 + 1, o4), (L + 1 + 1 + 1, o3), (L + 1 + 1, o2), (L + 1, o1)])
    (lC : @LT.lt Nat _ (L + 1 + 1 + 1 + 1 + 1 + 1 + 1 + 1 + 1) aC) (lF : @LT.lt Nat _ aC aF)
    (hmc : m "code" = some (.ref aC)) (d1 : o1.data = .cell (some (.int (lawNums sns).sum t1))) (d2 : o2.data = .cell (some (.int (lawN sns : Int) t2))) (d3 : o3.data = .cell v3) (d4 : o4.data = .cell (some (.ref aF))) (d5 : o5.data = .cell (some (.int (lawFst sns) t5))) (d6 : o6.data = .cell (some (.int (lawSnd sns) t6)))
    (d7 : o7.data = .cell v7) (d8 : o8.data = .cell v8) (d9 : o9.data = .cell v9) (hcv : IntsAre cvs (lawCode sns)) (hfv : IntsAre fvs (lawFig sns))
    (hret : ∀ s' m' aO ovs cO p, Sm s s' → Fr h₀ L s'.heap m' → News h₀ L s'.heap ((aO, listOf (List.toArray ovs) cO) :: [(aF, listOf (List.toArray fvs) cF), (aC, listOf (List.toArray cvs) cC), (L + 1 + 1 + 1 + 1 + 1 + 1 + 1 + 1 + 1, o9), (L + 1 + 1 + 1 + 1 + 1 + 1 + 1 + 1, o8), (L + 1 + 1 + 1 + 1 + 1 + 1 + 1, o7), (L + 1 + 1 + 1 + 1 + 1 + 1, o6), (L + 1 + 1 + 1 + 1 + 1, o5), (L + 1 + 1 + 1 + 1, o4), (L + 1 + 1 + 1, o3), (L + 1 + 1, o2), (L + 1, o1)]) → @LT.lt Nat _ aF aO → m' "code" = some (.ref aC) → m' "order" = some (.ref aO) →
      Pm (lawN sns) p → Srt (fun i j => lex3 (lawKey sns i) (lawKey sns j)) p (lawN sns) → IntsAre ovs (p.toList.map fun i : Nat => (i : Int)) → Q .next s') :
    wpAny (model PySem.Challenge.rw_ij0017_01.row.prog w) (lawTop dp un gd L fa ccd) (execs ((lawB.drop 7).take 1) (lawEnv L fa ccd)) Q E s := by
  revert X; k_fill; intro X
  try walk_at "tidy"
  show wpAny _ (ktrTop _ _ _ _ (Scope.mk _ _ _ _ _) _ _ _ _ _) (execs [_] (envOfC _ (Scope.mk _ _ _ _ _) _ _ _)) _ _ _
  let c1 : Addr := L + 1
  let c2 : Addr := L + 1 + 1
  let c3 : Addr := L + 1 + 1 + 1
  let c4 : Addr := L + 1 + 1 + 1 + 1
  let c5 : Addr := L + 1 + 1 + 1 + 1 + 1
  let c6 : Addr := L + 1 + 1 + 1 + 1 + 1 + 1
  let c7 : Addr := L + 1 + 1 + 1 + 1 + 1 + 1 + 1
  let c8 : Addr := L + 1 + 1 + 1 + 1 + 1 + 1 + 1 + 1
  let c9 : Addr := L + 1 + 1 + 1 + 1 + 1 + 1 + 1 + 1 + 1
  replace N : News h₀ L s.heap [(aF, listOf (List.toArray fvs) cF), (aC, listOf (List.toArray cvs) cC), (c9, o9), (c8, o8), (c7, o7), (c6, o6), (c5, o5), (c4, o4), (c3, o3), (c2, o2), (c1, o1)] := N
  k_steps
  refine comp_ruleA (by with_unfolding_all rfl) (by with_unfolding_all rfl) (by decide) rfl (by decide) rfl ?_
  k_steps
  have hn4 := lawN_b sns
  have hfb := lawFst_b sns
  have hsb := lawSnd_b sns
  have hfl : fvs.length = lawN sns := by rw [hfv.length]; simp [lawFig]
  refine comp_rule (by with_unfolding_all rfl) (by decide) rfl (by decide) rfl ?_
  k_steps
  rename_i h10 tk10 t10 u10 v10 hr10 F10 N10 kr10
  refine range_comp (n := lawN sns) rfl hr10 rfl (by omega) F10 N10 (fun j ys led => (∀ p ∈ [(aF, listOf (List.toArray fvs) cF), (aC, listOf (List.toArray cvs) cC), (c9, o9), (c8, o8), (c7, o7), (c6, o6), (c5, o5), (c4, o4), (c3, o3), (c2, o2), (c1, o1)], p ∈ led) ∧ ys.length = j ∧ ∀ i, i < j → ∃ a t1 t2 t3, ys[i]? = some (.ref a) ∧ (a, tupO #[.int (lawKey sns i).1 t1, .int (lawKey sns i).2.1 t2, .int (lawKey sns i).2.2 t3]) ∈ led) ⟨fun _ h => h, rfl, fun _ h => absurd h (Nat.not_lt_zero _)⟩ rfl rfl ?turn1 ?done1
  case turn1 =>
    rintro I D C j t ys led s1 oI oC oD mc hI hID hDC hj ⟨hsub, hyl, htu⟩ hyl2 sm F1 N1 hne hC hmc
    clear F10 N10
    have q4 := hsub _ (show (c4, o4) ∈ [(aF, listOf (List.toArray fvs) cF), (aC, listOf (List.toArray cvs) cC), (c9, o9), (c8, o8), (c7, o7), (c6, o6), (c5, o5), (c4, o4), (c3, o3), (c2, o2), (c1, o1)] by k_mem)
    have q5 := hsub _ (show (c5, o5) ∈ [(aF, listOf (List.toArray fvs) cF), (aC, listOf (List.toArray cvs) cC), (c9, o9), (c8, o8), (c7, o7), (c6, o6), (c5, o5), (c4, o4), (c3, o3), (c2, o2), (c1, o1)] by k_mem)
    have q6 := hsub _ (show (c6, o6) ∈ [(aF, listOf (List.toArray fvs) cF), (aC, listOf (List.toArray cvs) cC), (c9, o9), (c8, o8), (c7, o7), (c6, o6), (c5, o5), (c4, o4), (c3, o3), (c2, o2), (c1, o1)] by k_mem)
    have qF := hsub _ (show (aF, listOf (List.toArray fvs) cF) ∈ [(aF, listOf (List.toArray fvs) cF), (aC, listOf (List.toArray cvs) cC), (c9, o9), (c8, o8), (c7, o7), (c6, o6), (c5, o5), (c4, o4), (c3, o3), (c2, o2), (c1, o1)] by k_mem)
    refine tests_nil ?_
    rw [if_pos rfl]
    obtain ⟨tf, hft⟩ := hfv.get j (figAt (lawNums sns).sum j) (by simp [lawFig, hj])
    have hfj := figAt_b (lawNums sns).sum j
    have hft' : fvs[((j : Int)).toNat]? = some (.int (figAt (lawNums sns).sum j) tf) := by rw [Int.toNat_natCast]; exact hft
    k_steps
    rename_i T11 h11 F11 N11 l11
    obtain ⟨x1, x2, x3, N12⟩ : ∃ x1 x2 x3, News h₀ L h11 ((T11, tupO #[.int (lawKey sns j).1 x1, .int (lawKey sns j).2.1 x2, .int (lawKey sns j).2.2 x3]) :: (I, oI) :: (C, oC) :: (D, oD) :: led) := ⟨_, _, _, N11⟩
    refine ⟨(T11, tupO #[.int (lawKey sns j).1 x1, .int (lawKey sns j).2.1 x2, .int (lawKey sns j).2.2 x3]) :: led, Sm.of sm, F11, news_sub N12 ?_, ?_, fun p hp => .tail _ (hsub p hp), by simp [hyl], fun i hi => ?_⟩
    · intro p9 hp9
      simp only [List.mem_cons] at hp9 ⊢
      rcases hp9 with h | h | h | h | h
      · exact .inr (.inl h)
      · exact .inr (.inr (.inl h))
      · exact .inr (.inr (.inr (.inl h)))
      · exact .inl h
      · exact .inr (.inr (.inr (.inr h)))
    · refine List.forall_mem_cons.mpr ⟨⟨by k_ne, by k_ne, by k_ne⟩, hne⟩
    · by_cases e : i = j
      · subst e
        exact ⟨T11, _, _, _, by rw [List.getElem?_append_right (by omega), hyl]; simp, .head _⟩
      · obtain ⟨a, t1, t2, t3, e1, e2⟩ := htu i (by omega)
        exact ⟨a, t1, t2, t3, by rw [List.getElem?_append_left (by omega)]; exact e1, .tail _ e2⟩
  case done1 =>
    rintro D ys led s1 c hD ⟨hsub, hyl, htu⟩ sm F1 N1 hne
    clear F10 N10
    k_steps
    refine sorted_tups (lawKey sns) F1 N1 (.head _) hyl (by omega) (by omega) (fun i hi => ?tu) (lex3_ord _ _ fun i j _ _ h e => h (Int.ofNat.inj e)) fun h2 D9 c9 p F9 N9 l9 hp hs => ?_
    case tu =>
      obtain ⟨a, t1, t2, t3, e1, e2⟩ := htu i hi
      exact ⟨a, t1, t2, t3, e1, .tail _ e2⟩
    have hpl : p.toList.length = lawN sns := by rw [Array.length_toList, hp.sz]
    refine list_compG rfl F9 N9 (by k_mem) (fun j zs led' => led' = (D9, listOf (List.toArray (p.toList.map fun i => ys.getD i Value.none)) c9) :: (D, listOf ys.toArray c) :: led ∧ IntsAre zs ((p.toList.take j).map fun i : Nat => (i : Int))) ?hs2 ⟨rfl, .nil⟩ rfl rfl (by rw [List.length_map]; omega) ?turn2 ?done2
    case hs2 => rintro j zs led' ⟨rfl, _⟩; k_mem
    case turn2 =>
      rintro I2 D2 C2 j v zs led' s₂ oI2 oC2 oD2 mc hI2 hID hDC hv ⟨rfl, hzs⟩ hzl sm2 F₂ N₂ h2' hC2 hmc
      clear F9 N9 F1 N1
      rw [List.getElem?_map] at hv
      obtain ⟨i, hi, rfl⟩ := Option.map_eq_some_iff.mp hv
      have hin : i < lawN sns := by
        obtain ⟨hj, e⟩ := List.getElem?_eq_some_iff.mp hi
        have := hp.lt j (by omega)
        rw [← e]
        have hj' : j < p.size := by rw [Array.length_toList] at hj; exact hj
        have e2 : at0 p j = p.toList[j] := by simp [at0, Array.getD, hj']
        rw [← e2]; exact this
      obtain ⟨a, u1, u2, u3, e1, e2⟩ := htu i hin
      have e3 : ys.getD i Value.none = .ref a := by rw [List.getD_eq_getElem?_getD, e1]; rfl
      rw [e3] at hmc
      refine tests_nil ?_
      rw [if_pos rfl]
      k_steps
      refine CEnd.same (l := _) (Sm.of sm2) (by k_asm) (by k_asm) h2' (by intro p9 hp9; first | exact hp9 | exact .tail _ hp9) ⟨rfl, ?_⟩
      rw [List.take_add_one, hi, List.map_append]
      exact IntsAre.append hzs (.cons _ _ .nil)
    case done2 =>
      rintro D2 C2 zs led' s₂ cD oC2 mc hD2 hDC ⟨rfl, hzs⟩ sm2 F₂ N₂ h2' hC2
      unfold UAss
      k_lt hD2
      clear F9 N9 F1 N1
      k_steps
      rename_i h8 F8 N8
      refine free_done F8 N8 hC2 (fun p9 hp9 => ?_) fun h9 F9 N9 => ?_
      · rcases List.mem_cons.mp hp9 with rfl | hp9
        · exact Nat.ne_of_lt hDC
        · exact (h2' p9 hp9).1
      clear F8 N8
      rw [List.take_of_length_le (by rw [List.length_map]; exact Nat.le_refl _)] at hzs
      try dsimp only
      k_steps
      have lO := all_lt_of hD2.2.2 (aF, listOf (List.toArray fvs) cF) (hsub _ (.head _))
      refine hret _ _ D2 zs cD p ⟨sm2.1.trans sm.1, sm.2.trans sm2.2⟩ F9 (news_sub N9 ?_) lO hmc rfl hp hs hzs
      intro p9 hp9
      rcases List.mem_cons.mp hp9 with rfl | hp9
      · exact .head _
      · exact .tail _ (.tail _ (.tail _ (hsub p9 hp9)))
theorem walkWords22 : True := by
  w_top off
  k_with "rows" => with_reducible first | show wpAny _ _ (call (Value.type "list") [Value.ref _]) _ _ _ | show wpAny _ _ (pyIter (Value.ref _)) _ _ _ | show wpAny _ _ (call (Value.ref 201) _) _ _ _ | show wpAny _ _ (call (Value.ref 208) _) _ _ _ | fail
  k_with "call ref" => (k_here; (with_reducible show wpAny _ _ (call (Value.ref 215) [Value.ref _, Value.int _ _]) _ _ _); k_dflt (refine' way_ok _ ?zqB ?zqF ?zqX ?zqN ?zqT ?zqhk ?zqhdp ?zqhun _ _ _ _ ?zqhu ?zqhus ?zqhU ?zqhUv _ _ _ ?zqhws ?zqhwl ?_; (case zqB => k_asm); (case zqF => k_asm); (case zqX => k_asm); (case zqN => k_asm); (case zqT => k_asm); (case zqhk => rfl); (case zqhdp => (try dsimp only); omega); (case zqhun => (try dsimp only); omega); (case zqhu => k_mem); (case zqhus => assumption); (case zqhU => assumption); (case zqhUv => assumption); (case zqhws => assumption); (case zqhwl => assumption)); intro _ _ _ _ _ _ _; walk_at "lt1"; (try k_sweep))
  k_with "subscriptTail" => (k_here; (with_reducible show wpAny _ _ (subscriptTail _ _ (Value.ref _) (Value.int (-1) _)) _ _ _); k_dflt (refine' last_L ?zqN ?zqm ?zqx ?_ ?zqs; (case zqN => k_asm); (case zqm => k_mem); (case zqx => assumption); (case zqs => with_unfolding_all rfl); k_whole))
  k_with "subscriptTail Name UnaryOp ref int" => (k_here; (with_reducible show wpAny _ _ (subscriptTail _ _ (Value.ref _) (Value.int (-1) _)) _ _ _); k_dflt (refine' last_L ?zqN ?zqm ?zqx ?_ ?zqs; (case zqN => k_asm); (case zqm => k_mem); (case zqx => assumption); (case zqs => with_unfolding_all rfl); k_whole))
  k_with "all" => first | assumption | (refine List.forall_mem_cons.mpr ⟨?_, ?_⟩; k_ne; k_all)
  trivial
set_option maxHeartbeats 4000000 in
theorem seg3 (w : World) {p : Program} {loose : List Str} {mean : ExcName → Option Value} {mg mb : Str → Option Value}
  {dp un : Nat} {gd : Option (List Code)} {fa : Addr} {ccd : Value} {A₀ : Around} {base h₀ : Heap} {L : Addr} {m : Str → Option Value} {s : Shared}
    {Q : Flow → Shared → Prop} {E : Value → Shared → Prop} {o1 o2 o3 o4 o5 o6 o7 o8 o9 : Obj} {v1 v2 v3 v4 v5 v6 v7 v8 v9 : Option Value}
    (B : Below A₀ base [] h₀) (F : Fr h₀ L s.heap m) (X : (K w.params).In h₀) (T : Top p loose mean mg mb h₀)
    (hdp : dp + 400 < recursionLimit) (hun : un + 1200 < cLine)
    (cns ons : List Int) (n : Nat) (hn4 : 4 ≤ n) (hn9 : n ≤ 9) (aC aF aO : Addr) (cvs fvs ovs : List Value) (cC cF cO : Nat) (t2 : Tok)
    (N : News h₀ L s.heap [(aO, listOf (List.toArray ovs) cO), (aF, listOf (List.toArray fvs) cF), (aC, listOf (List.toArray cvs) cC), (L + 1 + 1 + 1 + 1 + 1 + 1 + 1 + 1 + 1, o9), (L + 1 + 1 + 1 + 1 + 1 + 1 + 1 + 1, o8), (L + 1 + 1 + 1 + 1 + 1 + 1 + 1, o7), (L + 1 + 1 + 1 + 1 + 1 + 1, o6), (L + 1 + 1 + 1 + 1 + 1, o5), (L + 1 + 1 + 1 + 1, o4), (L + 1 + 1 + 1, o3), (L + 1 + 1, o2), (L + 1, o1)])
    (lC : @LT.lt Nat _ (L + 1 + 1 + 1 + 1 + 1 + 1 + 1 + 1 + 1) aC) (lF : @LT.lt Nat _ aC aF) (lO : @LT.lt Nat _ aF aO)
    (hmc : m "code" = some (.ref aC)) (hmo : m "order" = some (.ref aO)) (d1 : o1.data = .cell v1) (d2 : o2.data = .cell (some (.int (n : Int) t2))) (d3 : o3.data = .cell v3) (d4 : o4.data = .cell v4) (d5 : o5.data = .cell v5) (d6 : o6.data = .cell v6)
    (d7 : o7.data = .cell v7) (d8 : o8.data = .cell v8) (d9 : o9.data = .cell v9) (hcv : IntsAre cvs cns) (hov : IntsAre ovs ons) (hcl : cns.length ≤ 100) (hol : ons.length ≤ 100)
    (hnd : ons.Nodup) (hfil : ∀ k, k < cns.length → leafs cns k (treeSt cns ons k).1 ≠ []) (x y : Int) (hfin : (treeSt cns ons cns.length).1 = [x, y])
    (ups : List (Int × Int)) (hups : (treeSt cns ons cns.length).2 ++ [(x, y)] = ups) (hul : ups.length ≤ 100) (r : Int) (hr : ons.getLast? = some r) (hr0 : 0 ≤ r) (hr9 : r < 9)
    (PP : Nat → List (Int × Str)) (hP0 : PP 0 = [(r, nmOf r)]) (hPl : ∀ i, i ≤ ups.length → (PP i).length ≤ 1 + i)
    (hstep : ∀ i n, i < ups.length → (ups.map (·.1)).reverse[i]? = some n → ∃ par base, upOf ups n = some par ∧ strOf (PP i) par = some base ∧ 0 ≤ n ∧ n < 9 ∧ n ∉ (PP i).map (·.1) ∧ base.length ≤ 2000 ∧ PP (i + 1) = PP i ++ [(n, under base n)])
    (W : Nat → List Int) (hW : ∀ i, i < n → IsWay ups i (W i)) (hWl : ∀ i, i < n → (W i).length ≤ 100)
    (hret : ∀ s' m' aP oP kP aW wvs cW WL p7 p8 p9 tu, Sm s s' → Fr h₀ L s'.heap m' → News h₀ L s'.heap ((aW, listOf (List.toArray wvs) cW) :: (aP, oP) :: (aO, listOf (List.toArray ovs) cO) :: (aF, listOf (List.toArray fvs) cF) :: (aC, listOf (List.toArray cvs) cC) :: (L + 1 + 1 + 1 + 1 + 1 + 1 + 1 + 1 + 1, p9) :: (L + 1 + 1 + 1 + 1 + 1 + 1 + 1 + 1, p8) :: (L + 1 + 1 + 1 + 1 + 1 + 1 + 1, p7) :: (L + 1 + 1 + 1 + 1 + 1 + 1, o6) :: (L + 1 + 1 + 1 + 1 + 1, o5) :: (L + 1 + 1 + 1 + 1, o4) :: (L + 1 + 1 + 1, o3) :: (L + 1 + 1, o2) :: (L + 1, o1) :: WL) →
      @LT.lt Nat _ aO aP → @LT.lt Nat _ aP aW → (∀ p ∈ WL, @LT.lt Nat _ aP p.1) → m' "code" = some (.ref aC) → m' "order" = some (.ref aO) → p7.data = .cell (some tu) → p8.data = .cell (some (.ref aP)) → p9.data = .cell (some (.ref aW)) →
      (aP == sysModules) = false → oP.IsDictOf (PySem.intKind PySem.Challenge.rw_ij0017_01.row.prog w) kP → StrVals kP (PP ups.length) → wvs.length = n → (∀ i, i < n → ∃ a vs c, wvs[i]? = some (.ref a) ∧ (a, listOf (List.toArray vs) c) ∈ WL ∧ IntsAre vs (W i)) → Q .next s') :
    wpAny (model PySem.Challenge.rw_ij0017_01.row.prog w) (lawTop dp un gd L fa ccd) (execs ((lawB.drop 8).take 3) (lawEnv L fa ccd)) Q E s := by
  revert X; k_fill; intro X
  try walk_at "tidy"
  show wpAny _ (ktrTop _ _ _ _ (Scope.mk _ _ _ _ _) _ _ _ _ _) (execs [_, _, _] (envOfC _ (Scope.mk _ _ _ _ _) _ _ _)) _ _ _
  let c1 : Addr := L + 1
  let c2 : Addr := L + 1 + 1
  let c3 : Addr := L + 1 + 1 + 1
  let c4 : Addr := L + 1 + 1 + 1 + 1
  let c5 : Addr := L + 1 + 1 + 1 + 1 + 1
  let c6 : Addr := L + 1 + 1 + 1 + 1 + 1 + 1
  let c7 : Addr := L + 1 + 1 + 1 + 1 + 1 + 1 + 1
  let c8 : Addr := L + 1 + 1 + 1 + 1 + 1 + 1 + 1 + 1
  let c9 : Addr := L + 1 + 1 + 1 + 1 + 1 + 1 + 1 + 1 + 1
  replace N : News h₀ L s.heap [(aO, listOf (List.toArray ovs) cO), (aF, listOf (List.toArray fvs) cF), (aC, listOf (List.toArray cvs) cC), (c9, o9), (c8, o8), (c7, o7), (c6, o6), (c5, o5), (c4, o4), (c3, o3), (c2, o2), (c1, o1)] := N
  have hcl' : cvs.length ≤ 100 := by rw [hcv.length]; exact hcl
  have hol' : ovs.length ≤ 100 := by rw [hov.length]; exact hol
  obtain ⟨tr, hlast⟩ : ∃ tr, ovs.getLast? = some (.int r tr) := by
    obtain ⟨t, ht⟩ := hov.get (ons.length - 1) r (by rw [← hr, List.getLast?_eq_getElem?])
    exact ⟨t, by rw [List.getLast?_eq_getElem?, hov.length]; exact ht⟩
  k_steps
  refine tree_ok w B F X N T rfl (by omega) (by omega) _ _ _ _ _ _ hcv hov _ _ (by k_mem) (.head _) hcl' hol' hnd hfil x y [] hfin fun s1 U oU kU sm1 F1 N1 l1 loU hU hUv => ?_
  k_lt l1
  rw [hups] at hUv
  k_steps
  refine paths_ok w B (by k_asm) X (by k_asm) T rfl (by (try dsimp only); omega) (by (try dsimp only); omega) U oU kU ups (by k_mem) loU hU hUv hul r _ hr0 hr9 PP hP0 hPl hstep fun s2 D oD kD sm2 F2 N2 l2 loD hD hDv => ?_
  k_lt l2
  k_steps
  rename_i h7 p7 dp7 _ _ _ _ h8 p8 F8 N8 dp8 _ _ _ _
  walk_at "exec Assign"
  refine comp_rule (by with_unfolding_all rfl) (by decide) rfl (by decide) rfl ?_
  k_steps
  rename_i h10 tk10 t10 u10 v10 hr10 F10 N10 kr10
  refine range_comp (n := n) rfl hr10 rfl (by omega) F10 N10 (fun j ys led => (∀ p ∈ [(D, oD), (U, oU), (aO, listOf (List.toArray ovs) cO), (aF, listOf (List.toArray fvs) cF), (aC, listOf (List.toArray cvs) cC), (c9, o9), (c8, p8), (c7, p7), (c6, o6), (c5, o5), (c4, o4), (c3, o3), (c2, o2), (c1, o1)], p ∈ led) ∧ ys.length = j ∧ ∀ i, i < j → ∃ a vs c, ys[i]? = some (.ref a) ∧ (a, listOf (List.toArray vs) c) ∈ led ∧ IntsAre vs (W i) ∧ @LT.lt Nat _ D a) ⟨fun _ h => h, rfl, fun _ h => absurd h (Nat.not_lt_zero _)⟩ rfl rfl ?turn1 ?done1
  case turn1 =>
    rintro I D1 C j t ys led s3 oI oC oD1 mc hI hID hDC hj ⟨hsub, hyl, htu⟩ hyl2 sm F1 N1 hne hC hmc
    clear F10 N10
    have q7 := hsub _ (show (c7, p7) ∈ [(D, oD), (U, oU), (aO, listOf (List.toArray ovs) cO), (aF, listOf (List.toArray fvs) cF), (aC, listOf (List.toArray cvs) cC), (c9, o9), (c8, p8), (c7, p7), (c6, o6), (c5, o5), (c4, o4), (c3, o3), (c2, o2), (c1, o1)] by k_mem)
    have qU := hsub _ (show (U, oU) ∈ [(D, oD), (U, oU), (aO, listOf (List.toArray ovs) cO), (aF, listOf (List.toArray fvs) cF), (aC, listOf (List.toArray cvs) cC), (c9, o9), (c8, p8), (c7, p7), (c6, o6), (c5, o5), (c4, o4), (c3, o3), (c2, o2), (c1, o1)] by k_mem)
    have qD := hsub _ (show (D, oD) ∈ [(D, oD), (U, oU), (aO, listOf (List.toArray ovs) cO), (aF, listOf (List.toArray fvs) cF), (aC, listOf (List.toArray cvs) cC), (c9, o9), (c8, p8), (c7, p7), (c6, o6), (c5, o5), (c4, o4), (c3, o3), (c2, o2), (c1, o1)] by k_mem)
    refine tests_nil ?_
    rw [if_pos rfl]
    have hWj := hW j hj
    have hWlj := hWl j hj
    k_steps
    rename_i s4 l4 vs4 k4 sm4 F4 N4 hi4 l14
    show CEnd _ _ _ _ _ _ _ _ _ _ _ _
    refine ⟨(l4, listOf (List.toArray vs4) k4) :: led, ⟨sm4.1.trans sm.1, sm.2.trans sm4.2⟩, F4, news_sub N4 ?_, ?_, fun p hp => .tail _ (hsub p hp), by simp [hyl], fun i hi => ?_⟩
    · intro p9 hp9
      simp only [List.mem_cons] at hp9 ⊢
      rcases hp9 with h | h | h | h | h
      · exact .inr (.inl h)
      · exact .inr (.inr (.inl h))
      · exact .inr (.inr (.inr (.inl h)))
      · exact .inl h
      · exact .inr (.inr (.inr (.inr h)))
    · refine List.forall_mem_cons.mpr ⟨⟨by k_ne, by k_ne, by k_ne⟩, hne⟩
    · by_cases e : i = j
      · subst e
        exact ⟨l4, vs4, k4, by rw [List.getElem?_append_right (by omega), hyl]; simp, .head _, hi4, by have := all_lt_of l14.2.2.2 _ qD; exact this⟩
      · obtain ⟨a, vs, c, e1, e2, e3, e4⟩ := htu i (by omega)
        exact ⟨a, vs, c, by rw [List.getElem?_append_left (by omega)]; exact e1, .tail _ e2, e3, e4⟩
  case done1 =>
    rintro D1 ys led s3 c hD1 ⟨hsub, hyl, htu⟩ sm F1 N1 hne
    k_lt hD1
    clear F10 N10
    have N2 : News h₀ L s3.heap ((D1, listOf (List.toArray ys) c) :: (D, oD) :: (U, oU) :: (aO, listOf (List.toArray ovs) cO) :: (aF, listOf (List.toArray fvs) cF) :: (aC, listOf (List.toArray cvs) cC) :: (c9, o9) :: (c8, p8) :: (c7, p7) :: (c6, o6) :: (c5, o5) :: (c4, o4) :: (c3, o3) :: (c2, o2) :: (c1, o1) :: led.filter fun p => decide (@LT.lt Nat _ D p.1)) := by
      refine news_sub N1 ?_
      intro p9 hp9
      rcases List.mem_cons.mp hp9 with rfl | hp9
      · exact .head _
      · rcases List.mem_append.mp (show p9 ∈ [(D, oD), (U, oU), (aO, listOf (List.toArray ovs) cO), (aF, listOf (List.toArray fvs) cF), (aC, listOf (List.toArray cvs) cC), (c9, o9), (c8, p8), (c7, p7), (c6, o6), (c5, o5), (c4, o4), (c3, o3), (c2, o2), (c1, o1)] ++ led.filter fun p => decide (@LT.lt Nat _ D p.1) from hp9) with h | h
        · exact .tail _ (hsub p9 h)
        · exact .tail _ (List.mem_filter.mp h).1
    generalize hWL : (led.filter fun p => decide (@LT.lt Nat _ D p.1)) = WL at N2
    have hW0 : ∀ p ∈ WL, @LT.lt Nat _ D p.1 := fun p hp => by
      rw [← hWL] at hp
      simpa using (List.mem_filter.mp hp).2
    have hWa : ∀ p ∈ WL, p.1 ≠ c9 := fun p hp e => by
      have h1 := hW0 p hp
      have h2 : @Eq Nat p.1 (c9) := e
      omega
    clear N1
    k_steps
    rename_i h11 p9 F11 N11 dp9
    refine hret _ _ D oD kD D1 ys c WL p7 p8 p9 _ ⟨sm.1.trans (sm2.1.trans sm1.1), (sm1.2.trans sm2.2).trans sm.2⟩ F11 (news_sub N11 ?_) (by omega) (by omega) hW0 hmc hmo dp7 dp8 dp9 loD hD hDv hyl fun i hi => ?_
    · intro q9 hq9
      rcases List.mem_cons.mp hq9 with rfl | hq9
      · exact .head _
      rcases List.mem_cons.mp hq9 with rfl | hq9
      · exact .tail _ (.head _)
      · exact .tail _ (.tail _ (.tail _ hq9))
    · obtain ⟨a, vs, c', e1, e2, e3, e4⟩ := htu i hi
      exact ⟨a, vs, c', e1, by rw [← hWL]; exact List.mem_filter.mpr ⟨e2, by simpa using e4⟩, e3⟩
theorem walkWords23 : True := by
  w_top off
  k_with_none
  k_with "via" => first | exact Mine.viaHead _ | (refine Mine.viaTail ?_; k_extra "via") | exact Mine.viaLast _ | fail
  k_with "conj" => with_reducible first | assumption | (refine' Mine.viaLt ?zqh ?zqk; (case zqh => assumption); (case zqk => k_extra "via")) | (refine' Mine.viaNe ?zqh ?zqk; (case zqh => assumption); (case zqk => k_extra "via")) | fail
  k_with "up" => with_reducible first | exact Mine.u0 | exact Mine.u1 | exact Mine.u2 | exact Mine.u3 | exact Mine.u4 | exact Mine.u5 | exact Mine.u6 | exact Mine.u7 | exact Mine.u8 | fail
  k_with "omega" => first | (k_whole; with_reducible first | assumption | exact Mine.v0 | exact Mine.v1 | exact Mine.v2 | exact Mine.v3 | exact Mine.v4 | exact Mine.v5 | exact Mine.v6 | exact Mine.v7 | exact Mine.v8 | k_extra "conj" | (refine Mine.neGt ?_; k_extra "conj") | (refine Mine.neLt ?_; k_extra "conj") | k_extra "up" | exact Int.natCast_nonneg _ | decide | exact Mine.leCut (by assumption) | exact Mine.ltCut (by assumption) | exact Mine.leCut' (by assumption) | exact Mine.ltCut' (by assumption) | exact Mine.iCut1 (by assumption) | exact Mine.iCut2 (by assumption) | exact Mine.iCut3 (by assumption) | exact Mine.iCut4 (by assumption) | fail) | (k_whole; lia) | omega +splitDisjunctions | ((dsimp +zetaDelta only at *); omega +splitDisjunctions)
  k_with "ne" => (refine PySem.W.neN ?_; (try dsimp only); first | (refine Mine.neGt ?_; first | k_extra "conj" | k_extra "up") | (refine Mine.neLt ?_; first | k_extra "conj" | k_extra "up") | (refine Mine.neSym ?_; k_extra "conj") | omega)
  k_with "rows" => with_reducible first | show wpAny _ _ (exec (Stmt.While _ _ _ _) _) _ _ _ | show wpAny _ _ (exec (Stmt.For _ _ _ _ _) _) _ _ _ | show wpAny _ _ (eval (Expr.ListComp _ _ _ _) _) _ _ _ | show wpAny _ _ (exec (Stmt.Assign _ (Expr.ListComp _ _ _ _) _) _) _ _ _ | fail
  k_with "steps" => repeat' (first | ((fail_if_success keq_rows); (first | (k_unfold; (try dsimp only)) | (k_end; wrow_close) | ((first | walk1 | (dsimp only; walk1)); (all_goals try walk_at "tidy")) | (leave1; walk_say "STEP leave1"; try dsimp only))) | fail "no step")
  k_with "tidy" => ((try ((with_reducible show wpAny _ _ (exec _ _) _ _ _); (fail_if_success fail_if_success k_fold); refine Mine.foldQ ?_; intro _)); (try ((fail_if_success fail_if_success (first | conv in (Around.deeper _ _) => skip | conv in (ktrTop _ _ _ _ _ _ _ _ _ _) => skip)); refine Mine.foldE ?_; intro _; refine Mine.foldA ?_; intro _)); (try ((fail_if_success fail_if_success (conv in (Shared.mk _ _ _ _ _) => skip)); (with_reducible show wpAny _ _ (exec _ _) _ _ _); refine Mine.foldS ?_; intro _)))
  k_with "flat" => with_reducible first | ((refine Mine.an12 ?_; iterate 11 intro _); walk_at "flat") | ((refine Mine.an6 ?_; iterate 5 intro _); walk_at "flat") | ((refine Mine.an3 ?_; iterate 2 intro _); walk_at "flat") | ((refine Mine.an2 ?_; iterate 1 intro _); walk_at "flat") | ((refine Mine.ex15 ?_; iterate 15 intro _); walk_at "flat") | ((refine Mine.ex8 ?_; iterate 8 intro _); walk_at "flat") | ((refine Mine.ex4 ?_; iterate 4 intro _); walk_at "flat") | ((refine Mine.ex2 ?_; iterate 2 intro _); walk_at "flat") | ((refine Mine.ex1 ?_; iterate 1 intro _); walk_at "flat") | intro _
  k_with "call ref" => (k_here; refine wpAny_call ?_; k_dflt (first | (refine' code_def ?zqk1 ?zqk2 ?zqk3 ?zqk4 ?zqk5 ?zqkA ?zqkF ?zqkK ?zqk6 ?zqk7 ?zqk8 ?zqk9 ?zqkB ?_ ?zqc2 ?zqc3 ?zqc4 ?zqc5; (case zqkA => exact rfl); (case zqkF => exact rfl); (case zqkK => first | exact rfl | assumption); (case zqk1 => k_asm); (case zqk2 => k_asm); (case zqk3 => k_asm); (case zqk4 => k_asm); (case zqk5 => k_asm); (case zqk6 => k_is); (case zqk7 => k_is); (case zqk8 => ktr_room); (case zqk9 => exact BindsTo.of_eq rfl); (case zqc5 => decide); (case zqkB => exact locs rfl); (case zqc2 => exact rfl); (case zqc3 => exact rfl); (case zqc4 => exact rfl); k_whole; intro _ _ _ _ _ _; walk_at "cdA") | (refine' code_defC ?zqk1 ?zqk2 ?zqk3 ?zqk4 ?zqk5 ?zqkA ?zqkF ?zqkK ?zqk6 ?zqk7 ?zqk8 ?zqk9 ?zqkB ?zqkD ?_ ?zqc2 ?zqc3 ?zqc4; (case zqkA => exact rfl); (case zqkF => exact rfl); (case zqkK => first | exact rfl | assumption); (case zqk1 => k_asm); (case zqk2 => k_asm); (case zqk3 => k_asm); (case zqk4 => k_asm); (case zqk5 => k_asm); (case zqk6 => k_is); (case zqk7 => k_is); (case zqk8 => ktr_room); (case zqk9 => exact BindsTo.of_eq rfl); (case zqkB => exact rfl); (case zqkD => decide +kernel); (case zqc2 => exact rfl); (case zqc3 => exact rfl); (case zqc4 => exact rfl); k_whole; intro _ _ _ _ _ _ _; walk_at "cdC")))
  k_with "call type:list" => (k_here; (with_reducible show wpAny _ _ (call (Value.type "list") [Value.ref _]) _ _ _); k_dflt (refine' list_copyK ?zqF ?zqN ?zql ?_ ?zqz; (case zqF => k_asm); (case zqN => k_asm); (case zql => exact News.isList (by k_asm) (by k_mem)); (case zqz => (rw [List.size_toArray, sizeLine_eq]; omega)); k_whole); intro _ _ _ _ _; walk_at "lt0"; (try k_sweep))
  k_with "mem" => first | exact List.Mem.head _ | assumption | (refine' List.Mem.tail _ ?_; k_mem)
  k_with "call builtin:len" => (k_here; (with_reducible show wpAny _ _ (call (Value.builtin "len") [Value.ref _]) _ _ _); k_dflt (refine' len_L ?zqN ?zqm ?zqf ?_; (case zqN => k_asm); (case zqm => k_mem); (case zqf => omega); k_whole))
  k_with "eval Name" => (k_here; (with_reducible show wpAny _ _ (eval (Expr.Name _ _) (envOf _ _ _ _ _)) _ _ _); k_dflt (refine' nameX_L (cl := []) ?zqF ?zqv ?_ ?zqa ?zqb; (case zqF => k_asm); (case zqa => rfl); (case zqb => rfl); (case zqv => first | exact rfl | assumption); k_whole))
  k_with "eval Name" => (k_here; (with_reducible show wpAny _ _ (eval (Expr.Name _ _) (envOfC _ _ _ _ _)) _ _ _); k_dflt (refine' nameX_L ?zqF ?zqv ?_ ?zqa ?zqb; (case zqF => k_asm); (case zqa => rfl); (case zqb => rfl); (case zqv => first | exact rfl | assumption); k_whole))
  k_with "all" => exact all_ge (by assumption) (by omega)
  k_with "eval Name" => (k_here; (with_reducible show wpAny _ _ (eval (Expr.Name _ _) (compEnvC _ _ _ (envOfC _ _ _ _ _))) _ _ _); k_dflt (first | (refine' ce_L ?zqN ?zqC ?zqm ?zqv ?_ ?zqa; (case zqa => decide +kernel); (case zqN => k_asm); (case zqC => assumption); (case zqm => k_mem); (case zqv => assumption); k_whole) | (refine' ce_C ?zqN ?zqa ?zqc ?zqm ?zqd ?_; (case zqa => decide +kernel); (case zqN => k_asm); (case zqc => rfl); (case zqm => k_mem); (case zqd => assumption); k_whole)))
  k_with "compareOp NotIn int ref" => (k_here; k_dflt (refine' notIn_L ?zqN ?zqm ?zqi ?_; (case zqN => k_asm); (case zqm => k_mem); (case zqi => first | assumption | exact ints_drop (by assumption) _); k_whole))
  k_with "compareOp In int ref" => (k_here; k_dflt (refine' in_L ?zqN ?zqm ?zqi ?_; (case zqN => k_asm); (case zqm => k_mem); (case zqi => first | assumption | exact ints_drop (by assumption) _); k_whole))
  k_with "subscriptTail Name Slice ref ref" => (k_here; (with_reducible show wpAny _ _ (subscriptTail _ (PySem.Expr.Slice (some _) none none _) (Value.ref _) (Value.ref _)) _ _ _); k_dflt (refine' slice_K ?zqF ?zqN ?zqm (IsPart.int _ _) IsPart.none (pick_from _ ?zqe) ?_ ?zqs ?zqt ?zqz; (case zqF => k_asm); (case zqN => k_asm); (case zqm => k_mem); (case zqe => omega); (case zqs => with_unfolding_all rfl); (case zqt => (intro _; with_unfolding_all rfl)); (case zqz => omega)); intro _ _ _ _; walk_at "lt0"; (try k_sweep))
  k_with "subscriptTail" => (k_here; (with_reducible show wpAny _ _ (subscriptTail _ _ (Value.ref _) (Value.int _ _)) _ _ _); k_dflt (refine' item_L ?zqN ?zqm ?zqa ?zqb ?zqx ?_ ?zqs; (case zqN => k_asm); (case zqm => k_mem); (case zqa => omega); (case zqb => omega); (case zqx => first | exact rfl | assumption); (case zqs => with_unfolding_all rfl); k_whole))
  k_with "setItem ref int" => (k_here; k_dflt (refine' setItem_D (isI _ _) ?zqF ?zqN ?zqU ?zqd ?zqz ?_; (case zqF => k_asm); (case zqN => k_asm); (case zqU => k_updF); (case zqd => assumption); (case zqz => omega); k_whole); intro _ _ _; walk_at "ds"; intro _; (try k_sweep))
  k_with "call builtin:list.remove" => (k_here; k_dflt (refine' remove_L ?zqF ?zqN ?zqU ?zqi ?zqx ?zqz ?_; (case zqF => k_asm); (case zqN => k_asm); (case zqU => k_updF); (case zqi => assumption); (case zqx => assumption); (case zqz => omega); k_whole); intro _ _ _ _; walk_at "ds"; intro _; (try k_sweep))
  k_with "compareOp In int ref" => (k_here; k_dflt (first | (refine' in_DI0 ?zqN ?zqd ?zqm ?zqv ?zqlo ?zqz ?_; (case zqN => k_asm); (case zqz => assumption); (case zqm => k_mem); (case zqd => assumption); (case zqv => assumption); (case zqlo => assumption); k_whole) | (refine' in_DI1 ?zqN ?zqd ?zqm ?zqv ?zqlo ?zqz ?_; (case zqN => k_asm); (case zqz => assumption); (case zqm => k_mem); (case zqd => assumption); (case zqv => assumption); (case zqlo => assumption); k_whole)))
  k_with "subscriptTail" => (k_here; (with_reducible show wpAny _ _ (subscriptTail _ _ (Value.ref _) (Value.int _ _)) _ _ _); k_dflt (refine' item_DI ?zqN ?zqd ?zqm ?zqv ?zqz ?_ ?zqs; (case zqN => k_asm); (case zqz => assumption); (case zqm => k_mem); (case zqd => assumption); (case zqv => assumption); (case zqs => with_unfolding_all rfl); k_whole); intro _)
  k_with "call builtin:list.append" => (k_here; (with_reducible show wpAny _ _ (call (Value.builtin _) [Value.ref _, _]) _ _ _); k_dflt (refine' append_L ?zqF ?zqN ?zqU ?zqz ?_; (case zqF => k_asm); (case zqN => k_asm); (case zqU => k_updF); (case zqz => omega); k_whole); intro _ _; walk_at "ds"; (try k_sweep))
  k_with "subscriptTail Name Slice ref ref" => (k_here; (with_reducible show wpAny _ _ (subscriptTail _ (PySem.Expr.Slice none (some _) none _) (Value.ref _) (Value.ref _)) _ _ _); k_dflt (refine' slice_S ?zqF ?zqN ?zqm IsPart.none (IsPart.int _ _) (pick_upto _ ?zqe) ?_ ?zqs ?zqt ?zqz; (case zqF => k_asm); (case zqN => k_asm); (case zqm => assumption); (case zqe => omega); (case zqs => with_unfolding_all rfl); (case zqt => (intro _; with_unfolding_all rfl)); (case zqz => omega)); intro _ _ _ _; walk_at "lt0"; (try k_sweep))
  k_with "binaryOp Add ref ref" => (k_here; (with_reducible show wpAny _ _ (binaryOp _ (Value.ref _) (Value.ref _)) _ _ _); k_dflt (refine' add_LL ?zqF ?zqN ?zqa ?zqb ?_ ?zqz; (case zqF => k_asm); (case zqN => k_asm); (case zqa => k_mem); (case zqb => k_mem); (case zqz => first | omega | (simp only [List.length_drop]; omega))); intro _ _ _ _; walk_at "lt0"; (try k_sweep))
  k_with "binaryOp Pow int int" => (k_here; k_dflt (refine' pow_int_small ?zqa ?zqb (by decide) ?_; (case zqa => omega); (case zqb => omega)))
  k_with "call builtin:sum" => (k_here; (with_reducible show wpAny _ _ (call (Value.builtin "sum") [Value.ref _]) _ _ _); k_dflt (refine' sum_L ?zqh ?zqF ?zqN ?zqm ?zqi ?_; (case zqh => rfl); (case zqF => k_asm); (case zqN => k_asm); (case zqm => k_mem); (case zqi => assumption); k_whole); intro _ _ _ _ _; (try k_sweep))
  k_with "rows" => with_reducible first | show wpAny _ _ (call (Value.type "list") [Value.ref _]) _ _ _ | show wpAny _ _ (pyIter (Value.ref _)) _ _ _ | fail
  k_with "call builtin:len" => (k_here; (with_reducible show wpAny _ _ (call (Value.builtin "len") [Value.ref _]) _ _ _); k_dflt (refine' len_I ?zqN ?zqm ?zqi ?zqz ?_; (case zqN => k_asm); (case zqm => k_mem); (case zqi => assumption); (case zqz => first | assumption | ((try simp only [List.length_append, List.length_map, List.length_take, List.length_cons, List.length_nil]); omega))); intro _)
  k_with "binaryOp FloorDiv int int" => (k_here; k_dflt (refine' floordiv_int ?zqa ?_ (Or.inl (PyProof.noPylong_small ?zqb)); (case zqa => first | assumption | omega); (case zqb => omega)))
  k_with "rows" => with_reducible first | show wpAny _ _ (call (Value.type "list") [Value.ref _]) _ _ _ | show wpAny _ _ (pyIter (Value.ref _)) _ _ _ | show KEndV _ _ _ _ _ _ _ _ _ _ | show LeaveR _ _ _ | fail
  k_with "subscriptTail" => (k_here; (with_reducible show wpAny _ _ (subscriptTail _ _ (Value.ref _) (Value.int _ _)) _ _ _); k_dflt (refine' item_L ?zqN ?zqm ?zqa ?zqb ?zqx ?_ ?zqs; (case zqN => k_asm); (case zqm => k_mem); (case zqa => omega); (case zqb => omega); (case zqx => assumption); (case zqs => with_unfolding_all rfl); k_whole))
  k_with "subscriptTail" => (k_here; (with_reducible show wpAny _ _ (subscriptTail _ _ (Value.ref _) (Value.int _ _)) _ _ _); k_dflt (refine' item_DS ?zqN ?zqd ?zqm ?zqv ?zqz ?_ ?zqs; (case zqN => k_asm); (case zqz => assumption); (case zqm => k_mem); (case zqd => assumption); (case zqv => assumption); (case zqs => with_unfolding_all rfl); k_whole); intro _)
  k_with "call ref" => (k_here; (with_reducible show wpAny _ _ (call (Value.ref 119) [Value.str _ _]) _ _ _); k_dflt (refine' par_ok _ ?zqB ?zqF ?zqX ?zqN ?zqT ?zqhk ?zqhdp ?zqhun _ _ ?zqhx _ ?zqhall ?_; (case zqB => k_asm); (case zqF => k_asm); (case zqX => k_asm); (case zqN => k_asm); (case zqT => k_asm); (case zqhk => rfl); (case zqhdp => (try dsimp only); omega); (case zqhun => (try dsimp only); omega); (case zqhall => assumption); (case zqhx => assumption)); intro _ _ _ _ _ _ _ _ _ _ _ _ _ _ _ _ _ _ _ _ _ _ _; walk_at "lt6"; (try k_sweep))
  k_with "binaryOp Add str str" => (k_here; (with_reducible show wpAny _ _ (binaryOp Operator.Add (Value.str _ _) (Value.str _ _)) _ _ _); (refine' KXadd.add (K := 100000) (L := 100000) ?zqa ?zqb (by decide) ?_; (case zqa => omega); (case zqb => omega); intro _ _ _))
  k_with "all" => first | assumption | (refine List.forall_mem_cons.mpr ⟨?_, ?_⟩; k_ne; k_all)
  k_with "compareOp NotEq ref ref" => (k_here; k_dflt (refine' ne_LS ?zqN ?zqa ?zqb ?zqv ?zqw ?zqu ?_; (case zqN => k_asm); (case zqa => k_mem); (case zqb => k_mem); (case zqv => assumption); (case zqw => assumption); (case zqu => (try dsimp only); omega); k_whole))
  k_with "subscriptTail Name Name ref int" => (k_here; (with_reducible show wpAny _ _ (subscriptTail _ _ (Value.ref _) (Value.int _ _)) _ _ _); k_dflt (refine' item_L ?zqN ?zqm ?zqa ?zqb ?zqx ?_ ?zqs; (case zqN => k_asm); (case zqm => k_mem); (case zqa => omega); (case zqb => omega); (case zqx => assumption); (case zqs => with_unfolding_all rfl); k_whole))
  k_with "subscriptTail Name Name ref int" => (k_here; (with_reducible show wpAny _ _ (subscriptTail _ _ (Value.ref _) (Value.int _ _)) _ _ _); k_dflt (refine' item_DS ?zqN ?zqd ?zqm ?zqv ?zqz ?_ ?zqs; (case zqN => k_asm); (case zqz => assumption); (case zqm => k_mem); (case zqd => assumption); (case zqv => assumption); (case zqs => with_unfolding_all rfl); k_whole); intro _)
  trivial
set_option maxHeartbeats 4000000 in
theorem seg4 (w : World) {p : Program} {loose : List Str} {mean : ExcName → Option Value} {mg mb : Str → Option Value}
  {dp un : Nat} {gd : Option (List Code)} {fa : Addr} {ccd : Value} {A₀ : Around} {base h₀ : Heap} {L : Addr} {m : Str → Option Value} {s : Shared}
    {Q : Flow → Shared → Prop} {E : Value → Shared → Prop} {o1 o2 o3 o4 o5 o6 o7 o8 o9 : Obj} {v1 v2 v3 v4 v5 v6 v7 v8 v9 : Option Value}
    (B : Below A₀ base [] h₀) (F : Fr h₀ L s.heap m) (X : (K w.params).In h₀) (T : Top p loose mean mg mb h₀)
    (hdp : dp + 400 < recursionLimit) (hun : un + 1200 < cLine)
    (XB : (K w.params).In base) (TB : Top p loose mean mg mb base)
    (n : Nat) (hn4 : 4 ≤ n) (hn9 : n ≤ 9) (aC aF aO aP aW : Addr) (cvs fvs ovs wvs : List Value) (cC cF cO cW : Nat) (t2 : Tok) (oP : Obj) (kP : List (Int × Value)) (WL : List (Addr × Obj))
    (N : News h₀ L s.heap ((aW, listOf (List.toArray wvs) cW) :: (aP, oP) :: (aO, listOf (List.toArray ovs) cO) :: (aF, listOf (List.toArray fvs) cF) :: (aC, listOf (List.toArray cvs) cC) :: (L + 1 + 1 + 1 + 1 + 1 + 1 + 1 + 1 + 1, o9) :: (L + 1 + 1 + 1 + 1 + 1 + 1 + 1 + 1, o8) :: (L + 1 + 1 + 1 + 1 + 1 + 1 + 1, o7) :: (L + 1 + 1 + 1 + 1 + 1 + 1, o6) :: (L + 1 + 1 + 1 + 1 + 1, o5) :: (L + 1 + 1 + 1 + 1, o4) :: (L + 1 + 1 + 1, o3) :: (L + 1 + 1, o2) :: (L + 1, o1) :: WL))
    (lC : @LT.lt Nat _ (L + 1 + 1 + 1 + 1 + 1 + 1 + 1 + 1 + 1) aC) (lF : @LT.lt Nat _ aC aF) (lO : @LT.lt Nat _ aF aO) (lP : @LT.lt Nat _ aO aP) (lW : @LT.lt Nat _ aP aW) (hWL : ∀ p ∈ WL, @LT.lt Nat _ aP p.1)
    (hmc : m "code" = some (.ref aC)) (hmo : m "order" = some (.ref aO)) (d1 : o1.data = .cell v1) (d2 : o2.data = .cell (some (.int (n : Int) t2))) (d3 : o3.data = .cell v3) (d4 : o4.data = .cell v4) (d5 : o5.data = .cell v5) (d6 : o6.data = .cell v6)
    (d7 : o7.data = .cell v7) (d8 : o8.data = .cell (some (.ref aP))) (d9 : o9.data = .cell (some (.ref aW)))
    (loP : (aP == sysModules) = false) (dP : oP.IsDictOf (PySem.intKind PySem.Challenge.rw_ij0017_01.row.prog w) kP) (ps : List (Int × Str)) (hpv : StrVals kP ps) (P : Nat → Str) (hps : ∀ i : Nat, i < n → strOf ps (i : Int) = some (P i)) (hPl : ∀ i, i < n → (P i).length ≤ 2000)
    (W : Nat → List Int) (hwl : wvs.length = n) (hway : ∀ i, i < n → ∃ a vs c, wvs[i]? = some (.ref a) ∧ (a, listOf (List.toArray vs) c) ∈ WL ∧ IntsAre vs (W i)) (hWr : ∀ i, i < n → ∀ z ∈ W i, 0 ≤ z ∧ z < n) (hWl : ∀ i, i < n → (W i).length ≤ 100)
    (a0 : Nat → Str) (al : Nat → List Str) (hanc : ∀ i : Nat, i < n → Anc headOf bareOf (Txt.rstripChars (P i ++ Txt.mul (Str.ofString "/") (i : Int)) slash) (a0 i :: al i)) (hal : ∀ i, i < n → al i = ((W i).drop 1).map fun z => P z.toNat)
    (hxl : ∀ i : Nat, i < n → (P i ++ Txt.mul (Str.ofString "/") (i : Int)).length ≤ 100000)
    (hret : ∀ s' m' g p3 v3', Sm s s' → KtsTurn [] h₀ g → Below A₀ base [] g → Fr g L s'.heap m' → News g L s'.heap ((aW, listOf (List.toArray wvs) cW) :: (aP, oP) :: (aO, listOf (List.toArray ovs) cO) :: (aF, listOf (List.toArray fvs) cF) :: (aC, listOf (List.toArray cvs) cC) :: (L + 1 + 1 + 1 + 1 + 1 + 1 + 1 + 1 + 1, o9) :: (L + 1 + 1 + 1 + 1 + 1 + 1 + 1 + 1, o8) :: (L + 1 + 1 + 1 + 1 + 1 + 1 + 1, o7) :: (L + 1 + 1 + 1 + 1 + 1 + 1, o6) :: (L + 1 + 1 + 1 + 1 + 1, o5) :: (L + 1 + 1 + 1 + 1, o4) :: (L + 1 + 1 + 1, p3) :: (L + 1 + 1, o2) :: (L + 1, o1) :: WL) → m' "code" = some (.ref aC) → m' "order" = some (.ref aO) → p3.data = .cell v3' → Q .next s') :
    wpAny (model PySem.Challenge.rw_ij0017_01.row.prog w) (lawTop dp un gd L fa ccd) (execs ((lawB.drop 11).take 1) (lawEnv L fa ccd)) Q E s := by
  revert X; k_fill; intro X
  try walk_at "tidy"
  show wpAny _ (ktrTop _ _ _ _ (Scope.mk _ _ _ _ _) _ _ _ _ _) (execs [_] (envOfC _ (Scope.mk _ _ _ _ _) _ _ _)) _ _ _
  have hW3 : ∀ p ∈ WL, p.1 ≠ L + 1 + 1 + 1 := fun p hp e => by
    have h1 := hWL p hp
    have h2 : @Eq Nat p.1 (L + 1 + 1 + 1) := e
    omega
  k_steps
  refine for_rule ?_
  k_steps
  rename_i h10 tk10 t10 u10 v10 hr10 F10 N10 kr10
  refine range_forV (n := n) rfl hr10 rfl (by omega) B F10 N10 (fun i m₁ led => m₁ "code" = some (.ref aC) ∧ m₁ "order" = some (.ref aO) ∧ ∃ p3 v3', p3.data = .cell v3' ∧ led = (aW, listOf (List.toArray wvs) cW) :: (aP, oP) :: (aO, listOf (List.toArray ovs) cO) :: (aF, listOf (List.toArray fvs) cF) :: (aC, listOf (List.toArray cvs) cC) :: (L + 1 + 1 + 1 + 1 + 1 + 1 + 1 + 1 + 1, o9) :: (L + 1 + 1 + 1 + 1 + 1 + 1 + 1 + 1, o8) :: (L + 1 + 1 + 1 + 1 + 1 + 1 + 1, o7) :: (L + 1 + 1 + 1 + 1 + 1 + 1, o6) :: (L + 1 + 1 + 1 + 1 + 1, o5) :: (L + 1 + 1 + 1 + 1, o4) :: (L + 1 + 1 + 1, p3) :: (L + 1 + 1, o2) :: (L + 1, o1) :: WL) ?h0 ?turn ?done
  case h0 => exact ⟨hmc, hmo, o3, v3, d3, rfl⟩
  case done =>
    rintro m₁ led s₁ g
    walk_at "flat"
    rename_i m1 m2 p3 v3' dp3 hz91
    subst hz91
    rintro sm TT B₁ F₁ N₁
    clear F10 N10
    try dsimp only
    k_steps
    exact hret _ _ g p3 v3' sm TT B₁ F₁ N₁ m1 m2 dp3
  case turn =>
    rintro i ti m₁ led s₁ I oI g hi hIl
    walk_at "flat"
    rename_i m1 m2 p3 v3' dp3 hz92
    subst hz92
    rintro sm TT B₁ F₁ N₁ hne
    clear F10 N10
    have X₁ := XB.keeps B₁.stays
    have T₁ := TB.keeps B₁.stays
    have nI3 : I ≠ L + 1 + 1 + 1 := fun e => hne (L + 1 + 1 + 1, p3) (by k_mem) e.symm
    have lI : @LT.lt Nat _ aW I := hIl _ (.head _)
    have hps' := hps i hi
    have hPl' := hPl i hi
    have hall := hanc i hi
    have hxli := hxl i hi
    k_steps
    rename_i hA pl3 dpl _ _ _ _ _ _ _ _ _ _ s9 X9 d9 G9 GL9 oGL9 gi9 nm9 qn9 q1 q2 r1 r2 r3 r4 gs9 mG9 sm9 hgs9 hsz9 hbr9 F9 N9 ll2 ll3 ll4 ll5 hfo9 hgo9 ll1
    refine pls_ok w (a0 := a0 i) (rest := al i) B₁ F9 X₁ N9 T₁ rfl XB TB ?hdp ?hun ?h1 ll2 ll3 ll4 ll5 hgs9 hfo9 ?hgo ?hlen ?ret
    case hdp => (try dsimp only); omega
    case hun => (try dsimp only); omega
    case h1 => exact all_lt_of ll1
    case hgo => exact fun s' hs => hgo9 900 9700 (by decide) (by decide) s' hs
    case hlen => rw [hal i hi, List.length_map, List.length_drop]; have := hWl i hi; omega
    case ret =>
      intro h18 tk18 gens18 D3 vs3 c3 g2 hgs18 TT2 B2 F18 N18 l18 hvs3
      have X2 := XB.keeps B2.stays
      have T2 := TB.keeps B2.stays
      k_lt l18
      rw [hal i hi] at hvs3
      clear F9 N9 F₁ N₁ X₁ T₁ ll2 ll3 ll4 ll5 hfo9 hgo9 ll1 hall
      obtain ⟨aw, wv, wc, hwv, hwm, hwi⟩ := hway i hi
      have hwv' : wvs[((i : Int)).toNat]? = some (.ref aw) := by rw [Int.toNat_natCast]; exact hwv
      have hwvl : wv.length ≤ 100 := by rw [hwi.length]; exact hWl i hi
      k_steps
      refine comp_rule (by with_unfolding_all rfl) (by decide) rfl (by decide) rfl ?_
      k_steps
      rename_i DS hS FS NS lS
      have hsI : IntsAre (wv.drop (1 : Int).toNat) ((W i).drop 1) := hwi.drop 1
      have hsl : (wv.drop (1 : Int).toNat).length ≤ 100 := by rw [List.length_drop]; omega
      refine list_comp rfl FS NS (by k_mem) (fun j zs led' => led' = (DS, listOf (wv.drop (1 : Int).toNat).toArray 0) :: (D3, listOf vs3.toArray c3) :: (I, oI) :: (aW, listOf (List.toArray wvs) cW) :: (aP, oP) :: (aO, listOf (List.toArray ovs) cO) :: (aF, listOf (List.toArray fvs) cF) :: (aC, listOf (List.toArray cvs) cC) :: (L + 1 + 1 + 1 + 1 + 1 + 1 + 1 + 1 + 1, o9) :: (L + 1 + 1 + 1 + 1 + 1 + 1 + 1 + 1, o8) :: (L + 1 + 1 + 1 + 1 + 1 + 1 + 1, o7) :: (L + 1 + 1 + 1 + 1 + 1 + 1, o6) :: (L + 1 + 1 + 1 + 1 + 1, o5) :: (L + 1 + 1 + 1 + 1, o4) :: (L + 1 + 1 + 1, pl3) :: (L + 1 + 1, o2) :: (L + 1, o1) :: WL ∧ StrsAre zs ((((W i).drop 1).take j).map fun z => P z.toNat)) ?hs2 ⟨rfl, .nil⟩ rfl rfl (by omega) ?turn2 ?done2
      case hs2 => rintro j zs led' ⟨rfl, _⟩; k_mem
      case turn2 =>
        rintro I2 D2 C2 j v zs led' s₂ oI2 oC2 oD2 mc hI2 hID hDC hv ⟨rfl, hzs⟩ hzl sm2 F₂ N₂ h2' hC2 hmc
        obtain ⟨z, tz, rfl, hz⟩ := ints_at hsI hv
        have hzm : z ∈ W i := List.mem_of_mem_drop (List.mem_of_getElem? hz)
        obtain ⟨hz0, hz1⟩ := hWr i hi z hzm
        have hpz := hps z.toNat (by omega)
        rw [show ((z.toNat : Nat) : Int) = z by omega] at hpz
        clear FS NS hps'
        refine tests_nil ?_
        rw [if_pos rfl]
        k_steps
        refine CEnd.same (l := _) (Sm.of sm2) (by k_asm) (by k_asm) h2' (by intro p9 hp9; first | exact hp9 | exact .tail _ hp9) ⟨rfl, ?_⟩
        rw [List.take_add_one, hz, List.map_append]
        exact StrsAre.append' hzs (.cons _ _ .nil)
      case done2 =>
        rintro D2 zs led' s₂ cD hD2 ⟨rfl, hzs⟩ sm2 F₂ N₂ h2'
        rw [List.take_of_length_le (by rw [hsI.length]; exact Nat.le_refl _)] at hzs
        clear FS NS
        k_lt hD2
        k_steps
        exact ⟨g2, _, (aW, listOf (List.toArray wvs) cW) :: (aP, oP) :: (aO, listOf (List.toArray ovs) cO) :: (aF, listOf (List.toArray fvs) cF) :: (aC, listOf (List.toArray cvs) cC) :: (L + 1 + 1 + 1 + 1 + 1 + 1 + 1 + 1 + 1, o9) :: (L + 1 + 1 + 1 + 1 + 1 + 1 + 1 + 1, o8) :: (L + 1 + 1 + 1 + 1 + 1 + 1 + 1, o7) :: (L + 1 + 1 + 1 + 1 + 1 + 1, o6) :: (L + 1 + 1 + 1 + 1 + 1, o5) :: (L + 1 + 1 + 1 + 1, o4) :: (L + 1 + 1 + 1, pl3) :: (L + 1 + 1, o2) :: (L + 1, o1) :: WL, ⟨sm2.1.trans (sm9.1.trans sm.1), (sm.2.trans (GR.gset sm9.2 hsz9 hgs18)).trans sm2.2⟩, TT2, B2, F₂, news_sub N₂ fun p hp => .tail _ (.tail _ (.tail _ hp)), ne_map hne rfl, m1, m2, pl3, _, dpl, rfl⟩
theorem walkWords24 : True := by
  w_top off
  k_with_none
  k_with "via" => first | exact Mine.viaHead _ | (refine Mine.viaTail ?_; k_extra "via") | exact Mine.viaLast _ | fail
  k_with "conj" => with_reducible first | assumption | (refine' Mine.viaLt ?zqh ?zqk; (case zqh => assumption); (case zqk => k_extra "via")) | (refine' Mine.viaNe ?zqh ?zqk; (case zqh => assumption); (case zqk => k_extra "via")) | fail
  k_with "up" => with_reducible first | exact Mine.u0 | exact Mine.u1 | exact Mine.u2 | exact Mine.u3 | exact Mine.u4 | exact Mine.u5 | exact Mine.u6 | exact Mine.u7 | exact Mine.u8 | fail
  k_with "omega" => first | (k_whole; with_reducible first | assumption | exact Mine.v0 | exact Mine.v1 | exact Mine.v2 | exact Mine.v3 | exact Mine.v4 | exact Mine.v5 | exact Mine.v6 | exact Mine.v7 | exact Mine.v8 | k_extra "conj" | (refine Mine.neGt ?_; k_extra "conj") | (refine Mine.neLt ?_; k_extra "conj") | k_extra "up" | exact Int.natCast_nonneg _ | decide | exact Mine.leCut (by assumption) | exact Mine.ltCut (by assumption) | exact Mine.leCut' (by assumption) | exact Mine.ltCut' (by assumption) | exact Mine.iCut1 (by assumption) | exact Mine.iCut2 (by assumption) | exact Mine.iCut3 (by assumption) | exact Mine.iCut4 (by assumption) | fail) | (k_whole; lia) | omega +splitDisjunctions | ((dsimp +zetaDelta only at *); omega +splitDisjunctions)
  k_with "ne" => (refine PySem.W.neN ?_; (try dsimp only); first | (refine Mine.neGt ?_; first | k_extra "conj" | k_extra "up") | (refine Mine.neLt ?_; first | k_extra "conj" | k_extra "up") | (refine Mine.neSym ?_; k_extra "conj") | omega)
  k_with "rows" => with_reducible first | show wpAny _ _ (exec (Stmt.While _ _ _ _) _) _ _ _ | show wpAny _ _ (exec (Stmt.For _ _ _ _ _) _) _ _ _ | show wpAny _ _ (eval (Expr.ListComp _ _ _ _) _) _ _ _ | show wpAny _ _ (exec (Stmt.Assign _ (Expr.ListComp _ _ _ _) _) _) _ _ _ | fail
  k_with "steps" => repeat' (first | ((fail_if_success keq_rows); (first | (k_unfold; (try dsimp only)) | (k_end; wrow_close) | ((first | walk1 | (dsimp only; walk1)); (all_goals try walk_at "tidy")) | (leave1; walk_say "STEP leave1"; try dsimp only))) | fail "no step")
  k_with "tidy" => ((try ((with_reducible show wpAny _ _ (exec _ _) _ _ _); (fail_if_success fail_if_success k_fold); refine Mine.foldQ ?_; intro _)); (try ((fail_if_success fail_if_success (first | conv in (Around.deeper _ _) => skip | conv in (ktrTop _ _ _ _ _ _ _ _ _ _) => skip)); refine Mine.foldE ?_; intro _; refine Mine.foldA ?_; intro _)); (try ((fail_if_success fail_if_success (conv in (Shared.mk _ _ _ _ _) => skip)); (with_reducible show wpAny _ _ (exec _ _) _ _ _); refine Mine.foldS ?_; intro _)))
  k_with "flat" => with_reducible first | ((refine Mine.an12 ?_; iterate 11 intro _); walk_at "flat") | ((refine Mine.an6 ?_; iterate 5 intro _); walk_at "flat") | ((refine Mine.an3 ?_; iterate 2 intro _); walk_at "flat") | ((refine Mine.an2 ?_; iterate 1 intro _); walk_at "flat") | ((refine Mine.ex15 ?_; iterate 15 intro _); walk_at "flat") | ((refine Mine.ex8 ?_; iterate 8 intro _); walk_at "flat") | ((refine Mine.ex4 ?_; iterate 4 intro _); walk_at "flat") | ((refine Mine.ex2 ?_; iterate 2 intro _); walk_at "flat") | ((refine Mine.ex1 ?_; iterate 1 intro _); walk_at "flat") | intro _
  k_with "call ref" => (k_here; refine wpAny_call ?_; k_dflt (first | (refine' code_def ?zqk1 ?zqk2 ?zqk3 ?zqk4 ?zqk5 ?zqkA ?zqkF ?zqkK ?zqk6 ?zqk7 ?zqk8 ?zqk9 ?zqkB ?_ ?zqc2 ?zqc3 ?zqc4 ?zqc5; (case zqkA => exact rfl); (case zqkF => exact rfl); (case zqkK => first | exact rfl | assumption); (case zqk1 => k_asm); (case zqk2 => k_asm); (case zqk3 => k_asm); (case zqk4 => k_asm); (case zqk5 => k_asm); (case zqk6 => k_is); (case zqk7 => k_is); (case zqk8 => ktr_room); (case zqk9 => exact BindsTo.of_eq rfl); (case zqc5 => decide); (case zqkB => exact locs rfl); (case zqc2 => exact rfl); (case zqc3 => exact rfl); (case zqc4 => exact rfl); k_whole; intro _ _ _ _ _ _; walk_at "cdA") | (refine' code_defC ?zqk1 ?zqk2 ?zqk3 ?zqk4 ?zqk5 ?zqkA ?zqkF ?zqkK ?zqk6 ?zqk7 ?zqk8 ?zqk9 ?zqkB ?zqkD ?_ ?zqc2 ?zqc3 ?zqc4; (case zqkA => exact rfl); (case zqkF => exact rfl); (case zqkK => first | exact rfl | assumption); (case zqk1 => k_asm); (case zqk2 => k_asm); (case zqk3 => k_asm); (case zqk4 => k_asm); (case zqk5 => k_asm); (case zqk6 => k_is); (case zqk7 => k_is); (case zqk8 => ktr_room); (case zqk9 => exact BindsTo.of_eq rfl); (case zqkB => exact rfl); (case zqkD => decide +kernel); (case zqc2 => exact rfl); (case zqc3 => exact rfl); (case zqc4 => exact rfl); k_whole; intro _ _ _ _ _ _ _; walk_at "cdC")))
  k_with "call type:list" => (k_here; (with_reducible show wpAny _ _ (call (Value.type "list") [Value.ref _]) _ _ _); k_dflt (refine' list_copyK ?zqF ?zqN ?zql ?_ ?zqz; (case zqF => k_asm); (case zqN => k_asm); (case zql => exact News.isList (by k_asm) (by k_mem)); (case zqz => (rw [List.size_toArray, sizeLine_eq]; omega)); k_whole); intro _ _ _ _ _; walk_at "lt0"; (try k_sweep))
  k_with "mem" => first | exact List.Mem.head _ | assumption | (refine' List.Mem.tail _ ?_; k_mem)
  k_with "call builtin:len" => (k_here; (with_reducible show wpAny _ _ (call (Value.builtin "len") [Value.ref _]) _ _ _); k_dflt (refine' len_L ?zqN ?zqm ?zqf ?_; (case zqN => k_asm); (case zqm => k_mem); (case zqf => omega); k_whole))
  k_with "eval Name" => (k_here; (with_reducible show wpAny _ _ (eval (Expr.Name _ _) (envOf _ _ _ _ _)) _ _ _); k_dflt (refine' nameX_L (cl := []) ?zqF ?zqv ?_ ?zqa ?zqb; (case zqF => k_asm); (case zqa => rfl); (case zqb => rfl); (case zqv => first | exact rfl | assumption); k_whole))
  k_with "eval Name" => (k_here; (with_reducible show wpAny _ _ (eval (Expr.Name _ _) (envOfC _ _ _ _ _)) _ _ _); k_dflt (refine' nameX_L ?zqF ?zqv ?_ ?zqa ?zqb; (case zqF => k_asm); (case zqa => rfl); (case zqb => rfl); (case zqv => first | exact rfl | assumption); k_whole))
  k_with "all" => exact all_ge (by assumption) (by omega)
  k_with "eval Name" => (k_here; (with_reducible show wpAny _ _ (eval (Expr.Name _ _) (compEnvC _ _ _ (envOfC _ _ _ _ _))) _ _ _); k_dflt (first | (refine' ce_L ?zqN ?zqC ?zqm ?zqv ?_ ?zqa; (case zqa => decide +kernel); (case zqN => k_asm); (case zqC => assumption); (case zqm => k_mem); (case zqv => assumption); k_whole) | (refine' ce_C ?zqN ?zqa ?zqc ?zqm ?zqd ?_; (case zqa => decide +kernel); (case zqN => k_asm); (case zqc => rfl); (case zqm => k_mem); (case zqd => assumption); k_whole)))
  k_with "compareOp NotIn int ref" => (k_here; k_dflt (refine' notIn_L ?zqN ?zqm ?zqi ?_; (case zqN => k_asm); (case zqm => k_mem); (case zqi => first | assumption | exact ints_drop (by assumption) _); k_whole))
  k_with "compareOp In int ref" => (k_here; k_dflt (refine' in_L ?zqN ?zqm ?zqi ?_; (case zqN => k_asm); (case zqm => k_mem); (case zqi => first | assumption | exact ints_drop (by assumption) _); k_whole))
  k_with "subscriptTail Name Slice ref ref" => (k_here; (with_reducible show wpAny _ _ (subscriptTail _ (PySem.Expr.Slice (some _) none none _) (Value.ref _) (Value.ref _)) _ _ _); k_dflt (refine' slice_K ?zqF ?zqN ?zqm (IsPart.int _ _) IsPart.none (pick_from _ ?zqe) ?_ ?zqs ?zqt ?zqz; (case zqF => k_asm); (case zqN => k_asm); (case zqm => k_mem); (case zqe => omega); (case zqs => with_unfolding_all rfl); (case zqt => (intro _; with_unfolding_all rfl)); (case zqz => omega)); intro _ _ _ _; walk_at "lt0"; (try k_sweep))
  k_with "subscriptTail" => (k_here; (with_reducible show wpAny _ _ (subscriptTail _ _ (Value.ref _) (Value.int _ _)) _ _ _); k_dflt (refine' item_L ?zqN ?zqm ?zqa ?zqb ?zqx ?_ ?zqs; (case zqN => k_asm); (case zqm => k_mem); (case zqa => omega); (case zqb => omega); (case zqx => first | exact rfl | assumption); (case zqs => with_unfolding_all rfl); k_whole))
  k_with "setItem ref int" => (k_here; k_dflt (refine' setItem_D (isI _ _) ?zqF ?zqN ?zqU ?zqd ?zqz ?_; (case zqF => k_asm); (case zqN => k_asm); (case zqU => k_updF); (case zqd => assumption); (case zqz => omega); k_whole); intro _ _ _; walk_at "ds"; intro _; (try k_sweep))
  k_with "call builtin:list.remove" => (k_here; k_dflt (refine' remove_L ?zqF ?zqN ?zqU ?zqi ?zqx ?zqz ?_; (case zqF => k_asm); (case zqN => k_asm); (case zqU => k_updF); (case zqi => assumption); (case zqx => assumption); (case zqz => omega); k_whole); intro _ _ _ _; walk_at "ds"; intro _; (try k_sweep))
  k_with "compareOp In int ref" => (k_here; k_dflt (first | (refine' in_DI0 ?zqN ?zqd ?zqm ?zqv ?zqlo ?zqz ?_; (case zqN => k_asm); (case zqz => assumption); (case zqm => k_mem); (case zqd => assumption); (case zqv => assumption); (case zqlo => assumption); k_whole) | (refine' in_DI1 ?zqN ?zqd ?zqm ?zqv ?zqlo ?zqz ?_; (case zqN => k_asm); (case zqz => assumption); (case zqm => k_mem); (case zqd => assumption); (case zqv => assumption); (case zqlo => assumption); k_whole)))
  k_with "subscriptTail" => (k_here; (with_reducible show wpAny _ _ (subscriptTail _ _ (Value.ref _) (Value.int _ _)) _ _ _); k_dflt (refine' item_DI ?zqN ?zqd ?zqm ?zqv ?zqz ?_ ?zqs; (case zqN => k_asm); (case zqz => assumption); (case zqm => k_mem); (case zqd => assumption); (case zqv => assumption); (case zqs => with_unfolding_all rfl); k_whole); intro _)
  k_with "call builtin:list.append" => (k_here; (with_reducible show wpAny _ _ (call (Value.builtin _) [Value.ref _, _]) _ _ _); k_dflt (refine' append_L ?zqF ?zqN ?zqU ?zqz ?_; (case zqF => k_asm); (case zqN => k_asm); (case zqU => k_updF); (case zqz => omega); k_whole); intro _ _; walk_at "ds"; (try k_sweep))
  k_with "subscriptTail Name Slice ref ref" => (k_here; (with_reducible show wpAny _ _ (subscriptTail _ (PySem.Expr.Slice none (some _) none _) (Value.ref _) (Value.ref _)) _ _ _); k_dflt (refine' slice_S ?zqF ?zqN ?zqm IsPart.none (IsPart.int _ _) (pick_upto _ ?zqe) ?_ ?zqs ?zqt ?zqz; (case zqF => k_asm); (case zqN => k_asm); (case zqm => assumption); (case zqe => omega); (case zqs => with_unfolding_all rfl); (case zqt => (intro _; with_unfolding_all rfl)); (case zqz => omega)); intro _ _ _ _; walk_at "lt0"; (try k_sweep))
  k_with "binaryOp Add ref ref" => (k_here; (with_reducible show wpAny _ _ (binaryOp _ (Value.ref _) (Value.ref _)) _ _ _); k_dflt (refine' add_LL ?zqF ?zqN ?zqa ?zqb ?_ ?zqz; (case zqF => k_asm); (case zqN => k_asm); (case zqa => k_mem); (case zqb => k_mem); (case zqz => first | omega | (simp only [List.length_drop]; omega))); intro _ _ _ _; walk_at "lt0"; (try k_sweep))
  k_with "binaryOp Pow int int" => (k_here; k_dflt (refine' pow_int_small ?zqa ?zqb (by decide) ?_; (case zqa => omega); (case zqb => omega)))
  k_with "call builtin:sum" => (k_here; (with_reducible show wpAny _ _ (call (Value.builtin "sum") [Value.ref _]) _ _ _); k_dflt (refine' sum_L ?zqh ?zqF ?zqN ?zqm ?zqi ?_; (case zqh => rfl); (case zqF => k_asm); (case zqN => k_asm); (case zqm => k_mem); (case zqi => assumption); k_whole); intro _ _ _ _ _; (try k_sweep))
  k_with "rows" => with_reducible first | show wpAny _ _ (call (Value.type "list") [Value.ref _]) _ _ _ | show wpAny _ _ (pyIter (Value.ref _)) _ _ _ | fail
  k_with "call builtin:len" => (k_here; (with_reducible show wpAny _ _ (call (Value.builtin "len") [Value.ref _]) _ _ _); k_dflt (refine' len_I ?zqN ?zqm ?zqi ?zqz ?_; (case zqN => k_asm); (case zqm => k_mem); (case zqi => assumption); (case zqz => first | assumption | ((try simp only [List.length_append, List.length_map, List.length_take, List.length_cons, List.length_nil]); omega))); intro _)
  k_with "binaryOp FloorDiv int int" => (k_here; k_dflt (refine' floordiv_int ?zqa ?_ (Or.inl (PyProof.noPylong_small ?zqb)); (case zqa => first | assumption | omega); (case zqb => omega)))
  k_with "rows" => with_reducible first | show wpAny _ _ (call (Value.type "list") [Value.ref _]) _ _ _ | show wpAny _ _ (pyIter (Value.ref _)) _ _ _ | show wpAny _ _ (call (Value.ref 220) _) _ _ _ | show KEndV _ _ _ _ _ _ _ _ _ _ | show LeaveR _ _ _ | fail
  k_with "subscriptTail" => (k_here; (with_reducible show wpAny _ _ (subscriptTail _ _ (Value.ref _) (Value.int _ _)) _ _ _); k_dflt (refine' item_L ?zqN ?zqm ?zqa ?zqb ?zqx ?_ ?zqs; (case zqN => k_asm); (case zqm => k_mem); (case zqa => omega); (case zqb => omega); (case zqx => assumption); (case zqs => with_unfolding_all rfl); k_whole))
  k_with "subscriptTail" => (k_here; (with_reducible show wpAny _ _ (subscriptTail _ _ (Value.ref _) (Value.int _ _)) _ _ _); k_dflt (refine' item_DS ?zqN ?zqd ?zqm ?zqv ?zqz ?_ ?zqs; (case zqN => k_asm); (case zqz => assumption); (case zqm => k_mem); (case zqd => assumption); (case zqv => assumption); (case zqs => with_unfolding_all rfl); k_whole); intro _)
  k_with "call ref" => (k_here; (with_reducible show wpAny _ _ (call (Value.ref 119) [Value.str _ _]) _ _ _); k_dflt (refine' par_ok _ ?zqB ?zqF ?zqX ?zqN ?zqT ?zqhk ?zqhdp ?zqhun _ _ ?zqhx _ ?zqhall ?_; (case zqB => k_asm); (case zqF => k_asm); (case zqX => k_asm); (case zqN => k_asm); (case zqT => k_asm); (case zqhk => rfl); (case zqhdp => (try dsimp only); omega); (case zqhun => (try dsimp only); omega); (case zqhall => assumption); (case zqhx => assumption)); intro _ _ _ _ _ _ _ _ _ _ _ _ _ _ _ _ _ _ _ _ _ _ _; walk_at "lt6"; (try k_sweep))
  k_with "binaryOp Add str str" => (k_here; (with_reducible show wpAny _ _ (binaryOp Operator.Add (Value.str _ _) (Value.str _ _)) _ _ _); (refine' KXadd.add (K := 100000) (L := 100000) ?zqa ?zqb (by decide) ?_; (case zqa => omega); (case zqb => omega); intro _ _ _))
  k_with "all" => first | assumption | (refine List.forall_mem_cons.mpr ⟨?_, ?_⟩; k_ne; k_all)
  k_with "compareOp NotEq ref ref" => (k_here; k_dflt (refine' ne_LS ?zqN ?zqa ?zqb ?zqv ?zqw ?zqu ?_; (case zqN => k_asm); (case zqa => k_mem); (case zqb => k_mem); (case zqv => assumption); (case zqw => assumption); (case zqu => (try dsimp only); omega); k_whole))
  k_with "subscriptTail Name Name ref int" => (k_here; (with_reducible show wpAny _ _ (subscriptTail _ _ (Value.ref _) (Value.int _ _)) _ _ _); k_dflt (refine' item_L ?zqN ?zqm ?zqa ?zqb ?zqx ?_ ?zqs; (case zqN => k_asm); (case zqm => k_mem); (case zqa => omega); (case zqb => omega); (case zqx => assumption); (case zqs => with_unfolding_all rfl); k_whole))
  k_with "subscriptTail Name Name ref int" => (k_here; (with_reducible show wpAny _ _ (subscriptTail _ _ (Value.ref _) (Value.int _ _)) _ _ _); k_dflt (refine' item_DS ?zqN ?zqd ?zqm ?zqv ?zqz ?_ ?zqs; (case zqN => k_asm); (case zqz => assumption); (case zqm => k_mem); (case zqd => assumption); (case zqv => assumption); (case zqs => with_unfolding_all rfl); k_whole); intro _)
  k_with "newTuple" => (k_here; k_dflt (refine' kup_newTuple ?zqF ?zqN ?_ ?zqz; (case zqF => k_asm); (case zqN => k_asm); (case zqz => kmk_size)); intro _ _ _ _; walk_at "lt0"; (try k_sweep))
  k_with "subscriptTail Name Slice ref ref" => (k_here; (with_reducible show wpAny _ _ (subscriptTail _ (PySem.Expr.Slice (some (PySem.Expr.UnaryOp _ _ _)) none none _) (Value.ref _) (Value.ref _)) _ _ _); k_dflt (refine' slice_K ?zqF ?zqN ?zqm (IsPart.int _ _) IsPart.none (pick_neg _ ?zqe) ?_ ?zqs ?zqt ?zqz; (case zqF => k_asm); (case zqN => k_asm); (case zqm => k_mem); (case zqe => omega); (case zqs => with_unfolding_all rfl); (case zqt => (intro _; with_unfolding_all rfl)); (case zqz => omega)); intro _ _ _ _; walk_at "lt0"; (try k_sweep))
  k_with "call ref" => (k_here; (with_reducible show wpAny _ _ (call (Value.ref 178) [Value.ref _]) _ _ _); k_dflt (refine' tc_ok _ ?zqB ?zqF ?zqX ?zqN ?zqT ?zqhk ?zqhdp ?zqhun _ ?_; (case zqB => k_asm); (case zqF => k_asm); (case zqX => k_asm); (case zqN => k_asm); (case zqT => k_asm); (case zqhk => rfl); (case zqhdp => (try dsimp only); omega); (case zqhun => (try dsimp only); omega)); intro _ _ _ _ _ _ _; walk_at "lu0"; (try k_sweep))
  trivial
set_option maxHeartbeats 4000000 in
theorem seg5 (w : World) {p : Program} {loose : List Str} {mean : ExcName → Option Value} {mg mb : Str → Option Value}
  {dp un : Nat} {gd : Option (List Code)} {fa : Addr} {ccd : Value} {A₀ : Around} {base h₀ : Heap} {L : Addr} {m : Str → Option Value} {s : Shared}
    {Q : Flow → Shared → Prop} {E : Value → Shared → Prop} {o1 o2 o3 o4 o5 o6 o7 o8 o9 : Obj} {v1 v2 v3 v4 v5 v6 v7 v8 v9 : Option Value}
    (B : Below A₀ base [] h₀) (F : Fr h₀ L s.heap m) (X : (K w.params).In h₀) (T : Top p loose mean mg mb h₀)
    (hdp : dp + 400 < recursionLimit) (hun : un + 1200 < cLine)
    (XB : (K w.params).In base) (TB : Top p loose mean mg mb base)
    (n : Nat) (hn4 : 4 ≤ n) (hn9 : n ≤ 9) (aC aF aO aP aW : Addr) (cvs fvs ovs wvs : List Value) (cC cF cO cW : Nat) (t2 t5 t6 : Tok) (oP : Obj) (kP : List (Int × Value)) (WL : List (Addr × Obj))
    (N : News h₀ L s.heap ((aW, listOf (List.toArray wvs) cW) :: (aP, oP) :: (aO, listOf (List.toArray ovs) cO) :: (aF, listOf (List.toArray fvs) cF) :: (aC, listOf (List.toArray cvs) cC) :: (L + 1 + 1 + 1 + 1 + 1 + 1 + 1 + 1 + 1, o9) :: (L + 1 + 1 + 1 + 1 + 1 + 1 + 1 + 1, o8) :: (L + 1 + 1 + 1 + 1 + 1 + 1 + 1, o7) :: (L + 1 + 1 + 1 + 1 + 1 + 1, o6) :: (L + 1 + 1 + 1 + 1 + 1, o5) :: (L + 1 + 1 + 1 + 1, o4) :: (L + 1 + 1 + 1, o3) :: (L + 1 + 1, o2) :: (L + 1, o1) :: WL))
    (lC : @LT.lt Nat _ (L + 1 + 1 + 1 + 1 + 1 + 1 + 1 + 1 + 1) aC) (lF : @LT.lt Nat _ aC aF) (lO : @LT.lt Nat _ aF aO) (lP : @LT.lt Nat _ aO aP) (lW : @LT.lt Nat _ aP aW) (hWL : ∀ p ∈ WL, @LT.lt Nat _ aP p.1)
    (first second : Int) (f : Nat → Int) (hfv : IntsAre fvs ((List.range n).map f)) (hf3 : ∀ i, i < n → 0 ≤ f i ∧ f i < 3)
    (hmc : m "code" = some (.ref aC)) (hmo : m "order" = some (.ref aO)) (d1 : o1.data = .cell v1) (d2 : o2.data = .cell v2) (d3 : o3.data = .cell v3) (d4 : o4.data = .cell (some (.ref aF))) (d5 : o5.data = .cell (some (.int first t5))) (d6 : o6.data = .cell (some (.int second t6)))
    (d7 : o7.data = .cell v7) (d8 : o8.data = .cell (some (.ref aP))) (d9 : o9.data = .cell (some (.ref aW)))
    (loP : (aP == sysModules) = false) (dP : oP.IsDictOf (PySem.intKind PySem.Challenge.rw_ij0017_01.row.prog w) kP) (ps : List (Int × Str)) (hpv : StrVals kP ps) (P : Nat → Str) (hps : ∀ i : Nat, i < n → strOf ps (i : Int) = some (P i)) (hPl : ∀ i, i < n → (P i).length ≤ 2000)
    (inj : ∀ i j, i < n → j < n → P i = P j → i = j) (hp : Nat → Option Nat) (a0 : Nat → Str) (al : Nat → List Str) (hanc : ∀ i, i < n → Anc headOf bareOf (Txt.rstripChars (P i) slash) (a0 i :: al i)) (hal : ∀ i, i < n → (al i).length ≤ 100) (ha1 : ∀ i, i < n → (al i).take 1 = (hp i).toList.map P)
    (hpn : ∀ i, i < n → ∀ π, hp i = some π → π < n)
    (hok : ∀ t, t + 1 < n → bareT hp (runT first second f hp n t).left ≠ [] ∧ ∃ π, hp (leastT first second f (bareT hp (runT first second f hp n t).left)) = some π)
    (cns ons : List Int) (hcv : IntsAre cvs cns) (hov : IntsAre ovs ons) (hcl : cns.length ≤ 100) (hol : ons.length ≤ 100) (hcr : ∀ z ∈ cns, 0 ≤ z ∧ z < n) (hor : ∀ z ∈ ons, 0 ≤ z ∧ z < n)
    (htold : (runT first second f hp n (n - 1)).told.map P = (cns ++ ons.drop (ons.length - 1)).map fun z => P z.toNat)
    (hret : ∀ s' m' g S oS kS WL', Sm s s' → KtsTurn [] h₀ g → Below A₀ base [] g → Fr g L s'.heap m' → News g L s'.heap ((S, oS) :: (aW, listOf (List.toArray wvs) cW) :: (aP, oP) :: (aO, listOf (List.toArray ovs) cO) :: (aF, listOf (List.toArray fvs) cF) :: (aC, listOf (List.toArray cvs) cC) :: (L + 1 + 1 + 1 + 1 + 1 + 1 + 1 + 1 + 1, o9) :: (L + 1 + 1 + 1 + 1 + 1 + 1 + 1 + 1, o8) :: (L + 1 + 1 + 1 + 1 + 1 + 1 + 1, o7) :: (L + 1 + 1 + 1 + 1 + 1 + 1, o6) :: (L + 1 + 1 + 1 + 1 + 1, o5) :: (L + 1 + 1 + 1 + 1, o4) :: (L + 1 + 1 + 1, o3) :: (L + 1 + 1, o2) :: (L + 1, o1) :: WL') → @LT.lt Nat _ aW S → (∀ p ∈ WL', @LT.lt Nat _ aP p.1) → (∀ p ∈ WL, p ∈ WL') → m' "sums" = some (.ref S) →
      (S == sysModules) = false → Obj.IsDictOf (PySem.strKind PySem.Challenge.rw_ij0017_01.row.prog w) oS kS → Tab kS P n (SumOf PySem.Challenge.rw_ij0017_01.row.prog w ((aW, listOf (List.toArray wvs) cW) :: (aP, oP) :: (aO, listOf (List.toArray ovs) cO) :: (aF, listOf (List.toArray fvs) cF) :: (aC, listOf (List.toArray cvs) cC) :: (L + 1 + 1 + 1 + 1 + 1 + 1 + 1 + 1 + 1, o9) :: (L + 1 + 1 + 1 + 1 + 1 + 1 + 1 + 1, o8) :: (L + 1 + 1 + 1 + 1 + 1 + 1 + 1, o7) :: (L + 1 + 1 + 1 + 1 + 1 + 1, o6) :: (L + 1 + 1 + 1 + 1 + 1, o5) :: (L + 1 + 1 + 1 + 1, o4) :: (L + 1 + 1 + 1, o3) :: (L + 1 + 1, o2) :: (L + 1, o1) :: WL') (runT first second f hp n (n - 1)).sums) → Q .next s') :
    wpAny (model PySem.Challenge.rw_ij0017_01.row.prog w) (lawTop dp un gd L fa ccd) (execs ((lawB.drop 12).take 2) (lawEnv L fa ccd)) Q E s := by
  revert X; k_fill; intro X
  try walk_at "tidy"
  show wpAny _ (ktrTop _ _ _ _ (Scope.mk _ _ _ _ _) _ _ _ _ _) (execs [_, _] (envOfC _ (Scope.mk _ _ _ _ _) _ _ _)) _ _ _
  let c1 : Addr := L + 1
  let c2 : Addr := L + 1 + 1
  let c3 : Addr := L + 1 + 1 + 1
  let c4 : Addr := L + 1 + 1 + 1 + 1
  let c5 : Addr := L + 1 + 1 + 1 + 1 + 1
  let c6 : Addr := L + 1 + 1 + 1 + 1 + 1 + 1
  let c7 : Addr := L + 1 + 1 + 1 + 1 + 1 + 1 + 1
  let c8 : Addr := L + 1 + 1 + 1 + 1 + 1 + 1 + 1 + 1
  let c9 : Addr := L + 1 + 1 + 1 + 1 + 1 + 1 + 1 + 1 + 1
  replace N : News h₀ L s.heap ((aW, listOf (List.toArray wvs) cW) :: (aP, oP) :: (aO, listOf (List.toArray ovs) cO) :: (aF, listOf (List.toArray fvs) cF) :: (aC, listOf (List.toArray cvs) cC) :: (c9, o9) :: (c8, o8) :: (c7, o7) :: (c6, o6) :: (c5, o5) :: (c4, o4) :: (c3, o3) :: (c2, o2) :: (c1, o1) :: WL) := N
  k_steps
  rename_i Ta hTa lTa Tb hTb lTb Tc hTc lTc s9 x9 d9 kk9 sm9 F9 N9 ld9 l9
  obtain ⟨u0, u1, u2, u3, N9'⟩ : ∃ u0 u1 u2 u3, News h₀ L s9.heap ((x9, instObj 178 d9) :: (d9, dictOf [⟨PyData.keyHash w.params "comp_select_list", .str "comp_select_list" kk9, .ref Tc⟩] 1) :: (Tc, tupO #[.ref Ta, .ref Tb]) :: (Tb, tupO #[.int 1 u2, .int second u3]) :: (Ta, tupO #[.int 0 u0, .int first u1]) :: (aW, listOf (List.toArray wvs) cW) :: (aP, oP) :: (aO, listOf (List.toArray ovs) cO) :: (aF, listOf (List.toArray fvs) cF) :: (aC, listOf (List.toArray cvs) cC) :: (c9, o9) :: (c8, o8) :: (c7, o7) :: (c6, o6) :: (c5, o5) :: (c4, o4) :: (c3, o3) :: (c2, o2) :: (c1, o1) :: WL) := ⟨_, _, _, _, N9⟩
  refine tap_ok w B F9 X N9' T rfl XB TB (by (try dsimp only); omega) (by (try dsimp only); omega) aP aF x9 fvs n cF f (by k_mem) hfv hn9 (by omega) hf3 oP kP ps P (by k_mem) dP hpv hps inj (fun i hi => Nat.le_trans (hPl i hi) (by decide)) hp a0 al hanc hal ha1 hpn d9 Tc Ta Tb first second _ _ _ _ _ (by k_mem) (by k_mem) (by k_mem) (by k_mem) (by k_mem) hok fun s2 RT TL S tvs cT oS kS ob' g sm2 TT2 B2 F2 N2 lTL lS lRT lRS hob loS htv dS TS => ?_
  have X2 := XB.keeps B2.stays
  have T2 := TB.keeps B2.stays
  have hob2 : ∀ p ∈ ob', @LT.lt Nat _ aP p.1 := fun p hp => hob p hp (aP, oP) (by k_mem)
  have lTLS := lTL
  have lSS := lS
  k_lt lTL
  k_lt lS
  clear N9 N9' F9
  generalize hWL' : ((x9, instObj 178 d9) :: (d9, dictOf [⟨PyData.keyHash w.params "comp_select_list", .str "comp_select_list" kk9, .ref Tc⟩] 1) :: (Tc, tupO #[.ref Ta, .ref Tb]) :: (Tb, tupO #[.int 1 u2, .int second u3]) :: (Ta, tupO #[.int 0 u0, .int first u1]) :: (WL ++ ob')) = WL'
  have hsub : ∀ p ∈ ((x9, instObj 178 d9) :: (d9, dictOf [⟨PyData.keyHash w.params "comp_select_list", .str "comp_select_list" kk9, .ref Tc⟩] 1) :: (Tc, tupO #[.ref Ta, .ref Tb]) :: (Tb, tupO #[.int 1 u2, .int second u3]) :: (Ta, tupO #[.int 0 u0, .int first u1]) :: (aW, listOf (List.toArray wvs) cW) :: (aP, oP) :: (aO, listOf (List.toArray ovs) cO) :: (aF, listOf (List.toArray fvs) cF) :: (aC, listOf (List.toArray cvs) cC) :: (c9, o9) :: (c8, o8) :: (c7, o7) :: (c6, o6) :: (c5, o5) :: (c4, o4) :: (c3, o3) :: (c2, o2) :: (c1, o1) :: WL) ++ ob', p ∈ (aW, listOf (List.toArray wvs) cW) :: (aP, oP) :: (aO, listOf (List.toArray ovs) cO) :: (aF, listOf (List.toArray fvs) cF) :: (aC, listOf (List.toArray cvs) cC) :: (c9, o9) :: (c8, o8) :: (c7, o7) :: (c6, o6) :: (c5, o5) :: (c4, o4) :: (c3, o3) :: (c2, o2) :: (c1, o1) :: WL' := by
    rw [← hWL']
    exact fun p hp => (mem_rot (pre := [(x9, instObj 178 d9), (d9, dictOf [⟨PyData.keyHash w.params "comp_select_list", .str "comp_select_list" kk9, .ref Tc⟩] 1), (Tc, tupO #[.ref Ta, .ref Tb]), (Tb, tupO #[.int 1 u2, .int second u3]), (Ta, tupO #[.int 0 u0, .int first u1])]) (b := [(aW, listOf (List.toArray wvs) cW), (aP, oP), (aO, listOf (List.toArray ovs) cO), (aF, listOf (List.toArray fvs) cF), (aC, listOf (List.toArray cvs) cC), (c9, o9), (c8, o8), (c7, o7), (c6, o6), (c5, o5), (c4, o4), (c3, o3), (c2, o2), (c1, o1)]) (w := WL) (o := ob') p).mp hp
  have hsub2 : ∀ p ∈ (aW, listOf (List.toArray wvs) cW) :: (aP, oP) :: (aO, listOf (List.toArray ovs) cO) :: (aF, listOf (List.toArray fvs) cF) :: (aC, listOf (List.toArray cvs) cC) :: (c9, o9) :: (c8, o8) :: (c7, o7) :: (c6, o6) :: (c5, o5) :: (c4, o4) :: (c3, o3) :: (c2, o2) :: (c1, o1) :: WL', p ∈ ((x9, instObj 178 d9) :: (d9, dictOf [⟨PyData.keyHash w.params "comp_select_list", .str "comp_select_list" kk9, .ref Tc⟩] 1) :: (Tc, tupO #[.ref Ta, .ref Tb]) :: (Tb, tupO #[.int 1 u2, .int second u3]) :: (Ta, tupO #[.int 0 u0, .int first u1]) :: (aW, listOf (List.toArray wvs) cW) :: (aP, oP) :: (aO, listOf (List.toArray ovs) cO) :: (aF, listOf (List.toArray fvs) cF) :: (aC, listOf (List.toArray cvs) cC) :: (c9, o9) :: (c8, o8) :: (c7, o7) :: (c6, o6) :: (c5, o5) :: (c4, o4) :: (c3, o3) :: (c2, o2) :: (c1, o1) :: WL) ++ ob' := by
    rw [← hWL']
    exact fun p hp => (mem_rot (pre := [(x9, instObj 178 d9), (d9, dictOf [⟨PyData.keyHash w.params "comp_select_list", .str "comp_select_list" kk9, .ref Tc⟩] 1), (Tc, tupO #[.ref Ta, .ref Tb]), (Tb, tupO #[.int 1 u2, .int second u3]), (Ta, tupO #[.int 0 u0, .int first u1])]) (b := [(aW, listOf (List.toArray wvs) cW), (aP, oP), (aO, listOf (List.toArray ovs) cO), (aF, listOf (List.toArray fvs) cF), (aC, listOf (List.toArray cvs) cC), (c9, o9), (c8, o8), (c7, o7), (c6, o6), (c5, o5), (c4, o4), (c3, o3), (c2, o2), (c1, o1)]) (w := WL) (o := ob') p).mpr hp
  have TS2 := TS.mono fun j u _ x => x.mono hsub
  have N3 : News g L s2.heap ((RT, tupO #[.ref TL, .ref S]) :: (TL, listOf (List.toArray tvs) cT) :: (S, oS) :: (aW, listOf (List.toArray wvs) cW) :: (aP, oP) :: (aO, listOf (List.toArray ovs) cO) :: (aF, listOf (List.toArray fvs) cF) :: (aC, listOf (List.toArray cvs) cC) :: (c9, o9) :: (c8, o8) :: (c7, o7) :: (c6, o6) :: (c5, o5) :: (c4, o4) :: (c3, o3) :: (c2, o2) :: (c1, o1) :: WL') := news_sub N2 fun p hp => by
    rcases List.mem_cons.mp hp with rfl | hp
    · exact .head _
    rcases List.mem_cons.mp hp with rfl | hp
    · exact .tail _ (.head _)
    rcases List.mem_cons.mp hp with rfl | hp
    · exact .tail _ (.tail _ (.head _))
    · exact .tail _ (.tail _ (.tail _ (hsub2 p hp)))
  have hWL2 : ∀ p ∈ WL', @LT.lt Nat _ aP p.1 := by
    intro p hp
    rw [← hWL'] at hp
    simp only [List.mem_cons, List.mem_append] at hp
    rcases hp with rfl | rfl | rfl | rfl | rfl | h | h
    · dsimp only; omega
    · dsimp only; omega
    · dsimp only; omega
    · dsimp only; omega
    · dsimp only; omega
    · exact hWL p h
    · exact hob2 p h
  have hWW : ∀ p ∈ WL, p ∈ WL' := fun p hp => by rw [← hWL']; exact .tail _ (.tail _ (.tail _ (.tail _ (.tail _ (List.mem_append_left _ hp)))))
  clear hWL' hsub hsub2 N2 TS lTLS lSS hob
  rw [htold] at htv
  k_steps
  have hcvl : cvs.length ≤ 100 := by rw [hcv.length]; exact hcl
  have hovl : ovs.length ≤ 100 := by rw [hov.length]; exact hol
  refine comp_rule (by with_unfolding_all rfl) (by decide) rfl (by decide) rfl ?_
  k_steps
  rename_i DA hDA lDA DB hDB FB NB lDB
  have hsI : IntsAre (cvs ++ ovs.drop (ovs.length - (-(-1 : Int)).toNat)) (cns ++ ons.drop (ons.length - 1)) := by
    have := hov.drop (ons.length - 1)
    rw [← hov.length] at this ⊢
    exact hcv.append this
  have hsl : (cvs ++ ovs.drop (ovs.length - (-(-1 : Int)).toNat)).length ≤ 1000 := by rw [List.length_append, List.length_drop]; omega
  have hsr : ∀ z ∈ cns ++ ons.drop (ons.length - 1), 0 ≤ z ∧ z < n := fun z hz => by
    rcases List.mem_append.mp hz with h | h
    · exact hcr z h
    · exact hor z (List.mem_of_mem_drop h)
  refine list_comp rfl FB NB (by k_mem) (fun j zs led' => led' = (DB, listOf (List.toArray (cvs ++ ovs.drop (ovs.length - (-(-1 : Int)).toNat))) 0) :: (DA, listOf (ovs.drop (ovs.length - (-(-1 : Int)).toNat)).toArray 0) :: (RT, tupO #[.ref TL, .ref S]) :: (TL, listOf (List.toArray tvs) cT) :: (S, oS) :: (aW, listOf (List.toArray wvs) cW) :: (aP, oP) :: (aO, listOf (List.toArray ovs) cO) :: (aF, listOf (List.toArray fvs) cF) :: (aC, listOf (List.toArray cvs) cC) :: (c9, o9) :: (c8, o8) :: (c7, o7) :: (c6, o6) :: (c5, o5) :: (c4, o4) :: (c3, o3) :: (c2, o2) :: (c1, o1) :: WL' ∧ StrsAre zs (((cns ++ ons.drop (ons.length - 1)).take j).map fun z => P z.toNat)) ?hs2 ⟨rfl, .nil⟩ rfl rfl hsl ?turn2 ?done2
  case hs2 => rintro j zs led' ⟨rfl, _⟩; k_mem
  case turn2 =>
    rintro I2 D2 C2 j v zs led' s₂ oI2 oC2 oD2 mc hI2 hID hDC hv ⟨rfl, hzs⟩ hzl sm4 F₂ N₂ h2' hC2 hmc'
    obtain ⟨z, tz, rfl, hz⟩ := ints_at hsI hv
    obtain ⟨hz0, hz1⟩ := hsr z (List.mem_of_getElem? hz)
    have hpz := hps z.toNat (by omega)
    rw [show ((z.toNat : Nat) : Int) = z by omega] at hpz
    clear FB NB
    refine tests_nil ?_
    rw [if_pos rfl]
    k_steps
    refine CEnd.same (l := _) (Sm.of sm4) (by k_asm) (by k_asm) h2' (by intro p9 hp9; first | exact hp9 | exact .tail _ hp9) ⟨rfl, ?_⟩
    rw [List.take_add_one, hz, List.map_append]
    exact StrsAre.append' hzs (.cons _ _ .nil)
  case done2 =>
    rintro D2 zs led' s₂ cD hD2 ⟨rfl, hzs⟩ sm4 F₂ N₂ h2'
    rw [List.take_of_length_le (by rw [hsI.length]; exact Nat.le_refl _)] at hzs
    clear FB NB
    k_lt hD2
    k_steps
    exact hret _ _ g S oS kS WL' ⟨sm4.1.trans (sm2.1.trans sm9.1), (sm9.2.trans sm2.2).trans sm4.2⟩ TT2 B2 F₂ (news_sub N₂ fun p hp => .tail _ (.tail _ (.tail _ (.tail _ (.tail _ hp))))) (by omega) hWL2 hWW rfl loS dS TS2
theorem walkWords25 : True := by
  w_top off
  k_with_none
  k_with "via" => first | exact Mine.viaHead _ | (refine Mine.viaTail ?_; k_extra "via") | exact Mine.viaLast _ | fail
  k_with "conj" => with_reducible first | assumption | (refine' Mine.viaLt ?zqh ?zqk; (case zqh => assumption); (case zqk => k_extra "via")) | (refine' Mine.viaNe ?zqh ?zqk; (case zqh => assumption); (case zqk => k_extra "via")) | fail
  k_with "up" => with_reducible first | exact Mine.u0 | exact Mine.u1 | exact Mine.u2 | exact Mine.u3 | exact Mine.u4 | exact Mine.u5 | exact Mine.u6 | exact Mine.u7 | exact Mine.u8 | fail
  k_with "omega" => first | (k_whole; with_reducible first | assumption | exact Mine.v0 | exact Mine.v1 | exact Mine.v2 | exact Mine.v3 | exact Mine.v4 | exact Mine.v5 | exact Mine.v6 | exact Mine.v7 | exact Mine.v8 | k_extra "conj" | (refine Mine.neGt ?_; k_extra "conj") | (refine Mine.neLt ?_; k_extra "conj") | k_extra "up" | exact Int.natCast_nonneg _ | decide | exact Mine.leCut (by assumption) | exact Mine.ltCut (by assumption) | exact Mine.leCut' (by assumption) | exact Mine.ltCut' (by assumption) | exact Mine.iCut1 (by assumption) | exact Mine.iCut2 (by assumption) | exact Mine.iCut3 (by assumption) | exact Mine.iCut4 (by assumption) | fail) | (k_whole; lia) | omega +splitDisjunctions | ((dsimp +zetaDelta only at *); omega +splitDisjunctions)
  k_with "ne" => (refine PySem.W.neN ?_; (try dsimp only); first | (refine Mine.neGt ?_; first | k_extra "conj" | k_extra "up") | (refine Mine.neLt ?_; first | k_extra "conj" | k_extra "up") | (refine Mine.neSym ?_; k_extra "conj") | omega)
  k_with "rows" => with_reducible first | show wpAny _ _ (exec (Stmt.While _ _ _ _) _) _ _ _ | show wpAny _ _ (exec (Stmt.For _ _ _ _ _) _) _ _ _ | show wpAny _ _ (eval (Expr.ListComp _ _ _ _) _) _ _ _ | show wpAny _ _ (exec (Stmt.Assign _ (Expr.ListComp _ _ _ _) _) _) _ _ _ | fail
  k_with "steps" => repeat' (first | ((fail_if_success keq_rows); (first | (k_unfold; (try dsimp only)) | (k_end; wrow_close) | ((first | walk1 | (dsimp only; walk1)); (all_goals try walk_at "tidy")) | (leave1; walk_say "STEP leave1"; try dsimp only))) | fail "no step")
  k_with "tidy" => ((try ((with_reducible show wpAny _ _ (exec _ _) _ _ _); (fail_if_success fail_if_success k_fold); refine Mine.foldQ ?_; intro _)); (try ((fail_if_success fail_if_success (first | conv in (Around.deeper _ _) => skip | conv in (ktrTop _ _ _ _ _ _ _ _ _ _) => skip)); refine Mine.foldE ?_; intro _; refine Mine.foldA ?_; intro _)); (try ((fail_if_success fail_if_success (conv in (Shared.mk _ _ _ _ _) => skip)); (with_reducible show wpAny _ _ (exec _ _) _ _ _); refine Mine.foldS ?_; intro _)))
  k_with "flat" => with_reducible first | ((refine Mine.an12 ?_; iterate 11 intro _); walk_at "flat") | ((refine Mine.an6 ?_; iterate 5 intro _); walk_at "flat") | ((refine Mine.an3 ?_; iterate 2 intro _); walk_at "flat") | ((refine Mine.an2 ?_; iterate 1 intro _); walk_at "flat") | ((refine Mine.ex15 ?_; iterate 15 intro _); walk_at "flat") | ((refine Mine.ex8 ?_; iterate 8 intro _); walk_at "flat") | ((refine Mine.ex4 ?_; iterate 4 intro _); walk_at "flat") | ((refine Mine.ex2 ?_; iterate 2 intro _); walk_at "flat") | ((refine Mine.ex1 ?_; iterate 1 intro _); walk_at "flat") | intro _
  k_with "call ref" => (k_here; refine wpAny_call ?_; k_dflt (first | (refine' code_def ?zqk1 ?zqk2 ?zqk3 ?zqk4 ?zqk5 ?zqkA ?zqkF ?zqkK ?zqk6 ?zqk7 ?zqk8 ?zqk9 ?zqkB ?_ ?zqc2 ?zqc3 ?zqc4 ?zqc5; (case zqkA => exact rfl); (case zqkF => exact rfl); (case zqkK => first | exact rfl | assumption); (case zqk1 => k_asm); (case zqk2 => k_asm); (case zqk3 => k_asm); (case zqk4 => k_asm); (case zqk5 => k_asm); (case zqk6 => k_is); (case zqk7 => k_is); (case zqk8 => ktr_room); (case zqk9 => exact BindsTo.of_eq rfl); (case zqc5 => decide); (case zqkB => exact locs rfl); (case zqc2 => exact rfl); (case zqc3 => exact rfl); (case zqc4 => exact rfl); k_whole; intro _ _ _ _ _ _; walk_at "cdA") | (refine' code_defC ?zqk1 ?zqk2 ?zqk3 ?zqk4 ?zqk5 ?zqkA ?zqkF ?zqkK ?zqk6 ?zqk7 ?zqk8 ?zqk9 ?zqkB ?zqkD ?_ ?zqc2 ?zqc3 ?zqc4; (case zqkA => exact rfl); (case zqkF => exact rfl); (case zqkK => first | exact rfl | assumption); (case zqk1 => k_asm); (case zqk2 => k_asm); (case zqk3 => k_asm); (case zqk4 => k_asm); (case zqk5 => k_asm); (case zqk6 => k_is); (case zqk7 => k_is); (case zqk8 => ktr_room); (case zqk9 => exact BindsTo.of_eq rfl); (case zqkB => exact rfl); (case zqkD => decide +kernel); (case zqc2 => exact rfl); (case zqc3 => exact rfl); (case zqc4 => exact rfl); k_whole; intro _ _ _ _ _ _ _; walk_at "cdC")))
  k_with "call type:list" => (k_here; (with_reducible show wpAny _ _ (call (Value.type "list") [Value.ref _]) _ _ _); k_dflt (refine' list_copyK ?zqF ?zqN ?zql ?_ ?zqz; (case zqF => k_asm); (case zqN => k_asm); (case zql => exact News.isList (by k_asm) (by k_mem)); (case zqz => (rw [List.size_toArray, sizeLine_eq]; omega)); k_whole); intro _ _ _ _ _; walk_at "lt0"; (try k_sweep))
  k_with "mem" => first | exact List.Mem.head _ | assumption | (refine' List.Mem.tail _ ?_; k_mem)
  k_with "call builtin:len" => (k_here; (with_reducible show wpAny _ _ (call (Value.builtin "len") [Value.ref _]) _ _ _); k_dflt (refine' len_L ?zqN ?zqm ?zqf ?_; (case zqN => k_asm); (case zqm => k_mem); (case zqf => omega); k_whole))
  k_with "eval Name" => (k_here; (with_reducible show wpAny _ _ (eval (Expr.Name _ _) (envOf _ _ _ _ _)) _ _ _); k_dflt (refine' nameX_L (cl := []) ?zqF ?zqv ?_ ?zqa ?zqb; (case zqF => k_asm); (case zqa => rfl); (case zqb => rfl); (case zqv => first | exact rfl | assumption); k_whole))
  k_with "eval Name" => (k_here; (with_reducible show wpAny _ _ (eval (Expr.Name _ _) (envOfC _ _ _ _ _)) _ _ _); k_dflt (refine' nameX_L ?zqF ?zqv ?_ ?zqa ?zqb; (case zqF => k_asm); (case zqa => rfl); (case zqb => rfl); (case zqv => first | exact rfl | assumption); k_whole))
  k_with "all" => exact all_ge (by assumption) (by omega)
  k_with "eval Name" => (k_here; (with_reducible show wpAny _ _ (eval (Expr.Name _ _) (compEnvC _ _ _ (envOfC _ _ _ _ _))) _ _ _); k_dflt (first | (refine' ce_L ?zqN ?zqC ?zqm ?zqv ?_ ?zqa; (case zqa => decide +kernel); (case zqN => k_asm); (case zqC => assumption); (case zqm => k_mem); (case zqv => assumption); k_whole) | (refine' ce_C ?zqN ?zqa ?zqc ?zqm ?zqd ?_; (case zqa => decide +kernel); (case zqN => k_asm); (case zqc => rfl); (case zqm => k_mem); (case zqd => assumption); k_whole)))
  k_with "compareOp NotIn int ref" => (k_here; k_dflt (refine' notIn_L ?zqN ?zqm ?zqi ?_; (case zqN => k_asm); (case zqm => k_mem); (case zqi => first | assumption | exact ints_drop (by assumption) _); k_whole))
  k_with "compareOp In int ref" => (k_here; k_dflt (refine' in_L ?zqN ?zqm ?zqi ?_; (case zqN => k_asm); (case zqm => k_mem); (case zqi => first | assumption | exact ints_drop (by assumption) _); k_whole))
  k_with "subscriptTail Name Slice ref ref" => (k_here; (with_reducible show wpAny _ _ (subscriptTail _ (PySem.Expr.Slice (some _) none none _) (Value.ref _) (Value.ref _)) _ _ _); k_dflt (refine' slice_K ?zqF ?zqN ?zqm (IsPart.int _ _) IsPart.none (pick_from _ ?zqe) ?_ ?zqs ?zqt ?zqz; (case zqF => k_asm); (case zqN => k_asm); (case zqm => k_mem); (case zqe => omega); (case zqs => with_unfolding_all rfl); (case zqt => (intro _; with_unfolding_all rfl)); (case zqz => omega)); intro _ _ _ _; walk_at "lt0"; (try k_sweep))
  k_with "subscriptTail" => (k_here; (with_reducible show wpAny _ _ (subscriptTail _ _ (Value.ref _) (Value.int _ _)) _ _ _); k_dflt (refine' item_L ?zqN ?zqm ?zqa ?zqb ?zqx ?_ ?zqs; (case zqN => k_asm); (case zqm => k_mem); (case zqa => omega); (case zqb => omega); (case zqx => first | exact rfl | assumption); (case zqs => with_unfolding_all rfl); k_whole))
  k_with "setItem ref int" => (k_here; k_dflt (refine' setItem_D (isI _ _) ?zqF ?zqN ?zqU ?zqd ?zqz ?_; (case zqF => k_asm); (case zqN => k_asm); (case zqU => k_updF); (case zqd => assumption); (case zqz => omega); k_whole); intro _ _ _; walk_at "ds"; intro _; (try k_sweep))
  k_with "call builtin:list.remove" => (k_here; k_dflt (refine' remove_L ?zqF ?zqN ?zqU ?zqi ?zqx ?zqz ?_; (case zqF => k_asm); (case zqN => k_asm); (case zqU => k_updF); (case zqi => assumption); (case zqx => assumption); (case zqz => omega); k_whole); intro _ _ _ _; walk_at "ds"; intro _; (try k_sweep))
  k_with "compareOp In int ref" => (k_here; k_dflt (first | (refine' in_DI0 ?zqN ?zqd ?zqm ?zqv ?zqlo ?zqz ?_; (case zqN => k_asm); (case zqz => assumption); (case zqm => k_mem); (case zqd => assumption); (case zqv => assumption); (case zqlo => assumption); k_whole) | (refine' in_DI1 ?zqN ?zqd ?zqm ?zqv ?zqlo ?zqz ?_; (case zqN => k_asm); (case zqz => assumption); (case zqm => k_mem); (case zqd => assumption); (case zqv => assumption); (case zqlo => assumption); k_whole)))
  k_with "subscriptTail" => (k_here; (with_reducible show wpAny _ _ (subscriptTail _ _ (Value.ref _) (Value.int _ _)) _ _ _); k_dflt (refine' item_DI ?zqN ?zqd ?zqm ?zqv ?zqz ?_ ?zqs; (case zqN => k_asm); (case zqz => assumption); (case zqm => k_mem); (case zqd => assumption); (case zqv => assumption); (case zqs => with_unfolding_all rfl); k_whole); intro _)
  k_with "call builtin:list.append" => (k_here; (with_reducible show wpAny _ _ (call (Value.builtin _) [Value.ref _, _]) _ _ _); k_dflt (refine' append_L ?zqF ?zqN ?zqU ?zqz ?_; (case zqF => k_asm); (case zqN => k_asm); (case zqU => k_updF); (case zqz => omega); k_whole); intro _ _; walk_at "ds"; (try k_sweep))
  k_with "subscriptTail Name Slice ref ref" => (k_here; (with_reducible show wpAny _ _ (subscriptTail _ (PySem.Expr.Slice none (some _) none _) (Value.ref _) (Value.ref _)) _ _ _); k_dflt (refine' slice_S ?zqF ?zqN ?zqm IsPart.none (IsPart.int _ _) (pick_upto _ ?zqe) ?_ ?zqs ?zqt ?zqz; (case zqF => k_asm); (case zqN => k_asm); (case zqm => assumption); (case zqe => omega); (case zqs => with_unfolding_all rfl); (case zqt => (intro _; with_unfolding_all rfl)); (case zqz => omega)); intro _ _ _ _; walk_at "lt0"; (try k_sweep))
  k_with "binaryOp Add ref ref" => (k_here; (with_reducible show wpAny _ _ (binaryOp _ (Value.ref _) (Value.ref _)) _ _ _); k_dflt (refine' add_LL ?zqF ?zqN ?zqa ?zqb ?_ ?zqz; (case zqF => k_asm); (case zqN => k_asm); (case zqa => k_mem); (case zqb => k_mem); (case zqz => first | omega | (simp only [List.length_drop]; omega))); intro _ _ _ _; walk_at "lt0"; (try k_sweep))
  k_with "binaryOp Pow int int" => (k_here; k_dflt (refine' pow_int_small ?zqa ?zqb (by decide) ?_; (case zqa => omega); (case zqb => omega)))
  k_with "call builtin:sum" => (k_here; (with_reducible show wpAny _ _ (call (Value.builtin "sum") [Value.ref _]) _ _ _); k_dflt (refine' sum_L ?zqh ?zqF ?zqN ?zqm ?zqi ?_; (case zqh => rfl); (case zqF => k_asm); (case zqN => k_asm); (case zqm => k_mem); (case zqi => assumption); k_whole); intro _ _ _ _ _; (try k_sweep))
  k_with "rows" => with_reducible first | show wpAny _ _ (call (Value.type "list") [Value.ref _]) _ _ _ | show wpAny _ _ (pyIter (Value.ref _)) _ _ _ | fail
  k_with "call builtin:len" => (k_here; (with_reducible show wpAny _ _ (call (Value.builtin "len") [Value.ref _]) _ _ _); k_dflt (refine' len_I ?zqN ?zqm ?zqi ?zqz ?_; (case zqN => k_asm); (case zqm => k_mem); (case zqi => assumption); (case zqz => first | assumption | ((try simp only [List.length_append, List.length_map, List.length_take, List.length_cons, List.length_nil]); omega))); intro _)
  k_with "binaryOp FloorDiv int int" => (k_here; k_dflt (refine' floordiv_int ?zqa ?_ (Or.inl (PyProof.noPylong_small ?zqb)); (case zqa => first | assumption | omega); (case zqb => omega)))
  k_with "rows" => with_reducible first | show wpAny _ _ (call (Value.type "list") [Value.ref _]) _ _ _ | show wpAny _ _ (pyIter (Value.ref _)) _ _ _ | show wpAny _ _ (call (Value.ref 225) _) _ _ _ | show wpAny _ _ (compareOp CmpOp.NotEq (Value.ref _) (Value.ref _)) _ _ _ | show KEndV _ _ _ _ _ _ _ _ _ _ | show LeaveR _ _ _ | fail
  k_with "subscriptTail" => (k_here; (with_reducible show wpAny _ _ (subscriptTail _ _ (Value.ref _) (Value.int _ _)) _ _ _); k_dflt (refine' item_L ?zqN ?zqm ?zqa ?zqb ?zqx ?_ ?zqs; (case zqN => k_asm); (case zqm => k_mem); (case zqa => omega); (case zqb => omega); (case zqx => assumption); (case zqs => with_unfolding_all rfl); k_whole))
  k_with "subscriptTail" => (k_here; (with_reducible show wpAny _ _ (subscriptTail _ _ (Value.ref _) (Value.int _ _)) _ _ _); k_dflt (refine' item_DS ?zqN ?zqd ?zqm ?zqv ?zqz ?_ ?zqs; (case zqN => k_asm); (case zqz => assumption); (case zqm => k_mem); (case zqd => assumption); (case zqv => assumption); (case zqs => with_unfolding_all rfl); k_whole); intro _)
  k_with "binaryOp Add str str" => (k_here; (with_reducible show wpAny _ _ (binaryOp Operator.Add (Value.str _ _) (Value.str _ _)) _ _ _); (refine' KXadd.add (K := 100000) (L := 100000) ?zqa ?zqb (by decide) ?_; (case zqa => omega); (case zqb => omega); intro _ _ _))
  k_with "all" => first | assumption | (refine List.forall_mem_cons.mpr ⟨?_, ?_⟩; k_ne; k_all)
  k_with "compareOp NotEq ref ref" => (k_here; k_dflt (refine' ne_LS ?zqN ?zqa ?zqb ?zqv ?zqw ?zqu ?_; (case zqN => k_asm); (case zqa => k_mem); (case zqb => k_mem); (case zqv => assumption); (case zqw => assumption); (case zqu => (try dsimp only); omega); k_whole))
  k_with "subscriptTail Name Name ref int" => (k_here; (with_reducible show wpAny _ _ (subscriptTail _ _ (Value.ref _) (Value.int _ _)) _ _ _); k_dflt (refine' item_L ?zqN ?zqm ?zqa ?zqb ?zqx ?_ ?zqs; (case zqN => k_asm); (case zqm => k_mem); (case zqa => omega); (case zqb => omega); (case zqx => assumption); (case zqs => with_unfolding_all rfl); k_whole))
  k_with "subscriptTail Name Name ref int" => (k_here; (with_reducible show wpAny _ _ (subscriptTail _ _ (Value.ref _) (Value.int _ _)) _ _ _); k_dflt (refine' item_DS ?zqN ?zqd ?zqm ?zqv ?zqz ?_ ?zqs; (case zqN => k_asm); (case zqz => assumption); (case zqm => k_mem); (case zqd => assumption); (case zqv => assumption); (case zqs => with_unfolding_all rfl); k_whole); intro _)
  k_with "subscriptTail" => (k_here; (with_reducible show wpAny _ _ (subscriptTail _ _ (Value.ref _) (Value.str _ _)) _ _ _); k_dflt (refine' item_D (isS _ _) ?zqN ?zqm ?zqd ?zqv ?_ ?zqs; (case zqN => k_asm); (case zqm => k_mem); (case zqd => assumption); (case zqv => assumption); (case zqs => with_unfolding_all rfl); k_whole))
  k_with "subscriptTail Name Subscript ref str" => (k_here; (with_reducible show wpAny _ _ (subscriptTail _ _ (Value.ref _) (Value.str _ _)) _ _ _); k_dflt (refine' item_D (isS _ _) ?zqN ?zqm ?zqd ?zqv ?_ ?zqs; (case zqN => k_asm); (case zqm => k_mem); (case zqd => assumption); (case zqv => assumption); (case zqs => with_unfolding_all rfl); k_whole))
  trivial
set_option maxHeartbeats 4000000 in
theorem seg6 (w : World) {p : Program} {loose : List Str} {mean : ExcName → Option Value} {mg mb : Str → Option Value}
  {dp un : Nat} {gd : Option (List Code)} {fa : Addr} {ccd : Value} {A₀ : Around} {base h₀ : Heap} {L : Addr} {m : Str → Option Value} {s : Shared}
    {Q : Flow → Shared → Prop} {E : Value → Shared → Prop} {o1 o2 o3 o4 o5 o6 o7 o8 o9 : Obj} {v1 v2 v3 v4 v5 v6 v7 v8 v9 : Option Value}
    (B : Below A₀ base [] h₀) (F : Fr h₀ L s.heap m) (X : (K w.params).In h₀) (T : Top p loose mean mg mb h₀)
    (hdp : dp + 400 < recursionLimit) (hun : un + 1200 < cLine)
    (n : Nat) (hn4 : 4 ≤ n) (hn9 : n ≤ 9) (aC aF aO aP aW S : Addr) (cvs fvs ovs wvs : List Value) (cC cF cO cW : Nat) (t2 : Tok) (oP oS : Obj) (kP : List (Int × Value)) (kS : List (Str × Value)) (WL : List (Addr × Obj))
    (N : News h₀ L s.heap ((S, oS) :: (aW, listOf (List.toArray wvs) cW) :: (aP, oP) :: (aO, listOf (List.toArray ovs) cO) :: (aF, listOf (List.toArray fvs) cF) :: (aC, listOf (List.toArray cvs) cC) :: (L + 1 + 1 + 1 + 1 + 1 + 1 + 1 + 1 + 1, o9) :: (L + 1 + 1 + 1 + 1 + 1 + 1 + 1 + 1, o8) :: (L + 1 + 1 + 1 + 1 + 1 + 1 + 1, o7) :: (L + 1 + 1 + 1 + 1 + 1 + 1, o6) :: (L + 1 + 1 + 1 + 1 + 1, o5) :: (L + 1 + 1 + 1 + 1, o4) :: (L + 1 + 1 + 1, o3) :: (L + 1 + 1, o2) :: (L + 1, o1) :: WL))
    (lC : @LT.lt Nat _ (L + 1 + 1 + 1 + 1 + 1 + 1 + 1 + 1 + 1) aC) (lF : @LT.lt Nat _ aC aF) (lO : @LT.lt Nat _ aF aO) (lP : @LT.lt Nat _ aO aP) (lW : @LT.lt Nat _ aP aW) (lS : @LT.lt Nat _ aW S) (hWL : ∀ p ∈ WL, @LT.lt Nat _ aP p.1)
    (fns : List Int) (hfv : IntsAre fvs fns) (hfl : fns.length = n)
    (hms : m "sums" = some (.ref S)) (d1 : o1.data = .cell v1) (d2 : o2.data = .cell (some (.int (n : Int) t2))) (d3 : o3.data = .cell v3) (d4 : o4.data = .cell (some (.ref aF))) (d5 : o5.data = .cell v5) (d6 : o6.data = .cell v6)
    (d7 : o7.data = .cell v7) (d8 : o8.data = .cell (some (.ref aP))) (d9 : o9.data = .cell (some (.ref aW)))
    (loP : (aP == sysModules) = false) (dP : oP.IsDictOf (PySem.intKind PySem.Challenge.rw_ij0017_01.row.prog w) kP) (ps : List (Int × Str)) (hpv : StrVals kP ps) (P : Nat → Str) (hps : ∀ i : Nat, i < n → strOf ps (i : Int) = some (P i))
    (W : Nat → List Int) (hwl : wvs.length = n) (hway : ∀ i, i < n → ∃ a vs c, wvs[i]? = some (.ref a) ∧ (a, listOf (List.toArray vs) c) ∈ WL ∧ IntsAre vs (W i)) (hWl : ∀ i, i < n → (W i).length ≤ 100)
    (loS : (S == sysModules) = false) (dS : oS.IsDictOf (PySem.strKind PySem.Challenge.rw_ij0017_01.row.prog w) kS) (sv : Nat → Sv) (TS : Tab kS P n (SumOf PySem.Challenge.rw_ij0017_01.row.prog w ((aW, listOf (List.toArray wvs) cW) :: (aP, oP) :: (aO, listOf (List.toArray ovs) cO) :: (aF, listOf (List.toArray fvs) cF) :: (aC, listOf (List.toArray cvs) cC) :: (L + 1 + 1 + 1 + 1 + 1 + 1 + 1 + 1 + 1, o9) :: (L + 1 + 1 + 1 + 1 + 1 + 1 + 1 + 1, o8) :: (L + 1 + 1 + 1 + 1 + 1 + 1 + 1, o7) :: (L + 1 + 1 + 1 + 1 + 1 + 1, o6) :: (L + 1 + 1 + 1 + 1 + 1, o5) :: (L + 1 + 1 + 1 + 1, o4) :: (L + 1 + 1 + 1, o3) :: (L + 1 + 1, o2) :: (L + 1, o1) :: WL) sv))
    (below : Nat → List Int) (hbel : ∀ i, i < n → below i = ((List.range n).filter fun o => decide ((i : Int) ∈ W o)).map fun o : Nat => (o : Int))
    (hdue : ∀ i, i < n → (sv i).a = (below i).length ∧ (sv i).b = (below i).sum ∧ (sv i).c = ((below i).map fun x => fns.getD x.toNat 0).sum ∧ (sv i).d = ((below i).map fun x => fns.getD x.toNat 0 * x).sum ∧ (∀ k z, (k, z) ∈ (sv i).e → intOf (dueC fns (below i) 3) k = some z) ∧ (sv i).e.length = (dueC fns (below i) 3).length)
    (hret : ∀ s' m', Sm s s' → Fr h₀ L s'.heap m' → Q (.ret (.bool true)) s') :
    wpAny (model PySem.Challenge.rw_ij0017_01.row.prog w) (lawTop dp un gd L fa ccd) (execs ((lawB.drop 14).take 2) (lawEnv L fa ccd)) Q E s := by
  revert X; k_fill; intro X
  try walk_at "tidy"
  show wpAny _ (ktrTop _ _ _ _ (Scope.mk _ _ _ _ _) _ _ _ _ _) (execs [_, _] (envOfC _ (Scope.mk _ _ _ _ _) _ _ _)) _ _ _
  let c1 : Addr := L + 1
  let c2 : Addr := L + 1 + 1
  let c3 : Addr := L + 1 + 1 + 1
  let c4 : Addr := L + 1 + 1 + 1 + 1
  let c5 : Addr := L + 1 + 1 + 1 + 1 + 1
  let c6 : Addr := L + 1 + 1 + 1 + 1 + 1 + 1
  let c7 : Addr := L + 1 + 1 + 1 + 1 + 1 + 1 + 1
  let c8 : Addr := L + 1 + 1 + 1 + 1 + 1 + 1 + 1 + 1
  let c9 : Addr := L + 1 + 1 + 1 + 1 + 1 + 1 + 1 + 1 + 1
  replace N : News h₀ L s.heap ((S, oS) :: (aW, listOf (List.toArray wvs) cW) :: (aP, oP) :: (aO, listOf (List.toArray ovs) cO) :: (aF, listOf (List.toArray fvs) cF) :: (aC, listOf (List.toArray cvs) cC) :: (c9, o9) :: (c8, o8) :: (c7, o7) :: (c6, o6) :: (c5, o5) :: (c4, o4) :: (c3, o3) :: (c2, o2) :: (c1, o1) :: WL) := N
  have hW3 : ∀ p ∈ WL, p.1 ≠ c3 := fun p hp e => by
    have h1 := hWL p hp
    have h2 : @Eq Nat p.1 (c3) := e
    omega
  have hfvl : fvs.length = n := by rw [hfv.length]; exact hfl
  k_steps
  refine for_rule ?_
  k_steps
  rename_i h10 tk10 t10 u10 v10 hr10 F10 N10 kr10
  refine range_for (n := n) rfl hr10 rfl (by omega) F10 N10 (fun i m₁ led => m₁ "sums" = some (.ref S) ∧ ∃ p3 v3', p3.data = .cell v3' ∧ led = (S, oS) :: (aW, listOf (List.toArray wvs) cW) :: (aP, oP) :: (aO, listOf (List.toArray ovs) cO) :: (aF, listOf (List.toArray fvs) cF) :: (aC, listOf (List.toArray cvs) cC) :: (c9, o9) :: (c8, o8) :: (c7, o7) :: (c6, o6) :: (c5, o5) :: (c4, o4) :: (c3, p3) :: (c2, o2) :: (c1, o1) :: WL) ?h0 ?turn ?done
  case h0 => exact ⟨hms, o3, v3, d3, rfl⟩
  case done =>
    rintro m₁ led s₁ ⟨m1, p3, v3', dp3, rfl⟩ sm F₁ N₁
    clear F10 N10
    try dsimp only
    k_steps
    exact hret _ _ sm F₁
  case turn =>
    rintro i ti m₁ led s₁ I oI hi hIl ⟨m1, p3, v3', dp3, rfl⟩ sm F₁ N₁ hne
    clear F10 N10
    have nI3 : I ≠ c3 := fun e => hne (c3, p3) (by k_mem) e.symm
    have lI : @LT.lt Nat _ S I := hIl _ (.head _)
    have hps' := hps i hi
    obtain ⟨u, hu, a, d, o, kv, q0, q1, q2, q3, rfl, hma, hmd, lod, ddo, sio⟩ := TS.2 i hi
    k_steps
    rename_i hA pl3 FA NA dpl _ _ tA
    refine comp_rule (by with_unfolding_all rfl) (by decide) rfl (by decide) rfl ?_
    k_steps
    rename_i h11 tk11 t11 u11 v11 hr11 F11 N11 kr11
    refine range_comp (n := n) rfl hr11 rfl (by omega) F11 N11 (fun j ys led' => led' = (I, oI) :: (S, oS) :: (aW, listOf (List.toArray wvs) cW) :: (aP, oP) :: (aO, listOf (List.toArray ovs) cO) :: (aF, listOf (List.toArray fvs) cF) :: (aC, listOf (List.toArray cvs) cC) :: (c9, o9) :: (c8, o8) :: (c7, o7) :: (c6, o6) :: (c5, o5) :: (c4, o4) :: (c3, pl3) :: (c2, o2) :: (c1, o1) :: WL ∧ IntsAre ys (((List.range j).filter fun o => decide ((i : Int) ∈ W o)).map fun o : Nat => (o : Int))) ⟨rfl, .nil⟩ rfl rfl ?turn2 ?done2
    case turn2 =>
      rintro I2 D2 C2 j t ys led' s₂ oI2 oC2 oD2 mc hI2 hID hDC hj ⟨rfl, hys⟩ hyl sm2 F₂ N₂ h2' hC2 hmc
      obtain ⟨aw, wv, wc, hwv, hwm, hwi⟩ := hway j hj
      have hwv' : wvs[((j : Int)).toNat]? = some (.ref aw) := by rw [Int.toNat_natCast]; exact hwv
      clear F11 N11
      refine tests_one ?_
      have e0 : (List.range (j + 1)).filter (fun o => decide ((i : Int) ∈ W o)) = (List.range j).filter (fun o => decide ((i : Int) ∈ W o)) ++ [j].filter fun o => decide ((i : Int) ∈ W o) := by rw [List.range_succ, List.filter_append]
      k_steps
      · refine CEnd.same (l := _) (Sm.of sm2) (by k_asm) (by k_asm) h2' (by intro p9 hp9; first | exact hp9 | exact .tail _ hp9) ⟨rfl, ?_⟩
        rename_i hq
        rw [e0, List.filter_cons_of_pos (by simpa using hq), List.map_append]
        exact IntsAre.append hys (.cons _ _ .nil)
      · refine CEnd.same (l := _) (Sm.of sm2) (by k_asm) (by k_asm) h2' (by intro p9 hp9; first | exact hp9 | exact .tail _ hp9) ⟨rfl, ?_⟩
        rename_i hq
        rw [e0, List.filter_cons_of_neg (by simpa using hq), List.filter_nil, List.append_nil]
        exact hys
    case done2 =>
      rintro D2 ys led' s₂ cD hD2 ⟨rfl, hys⟩ sm2 F₂ N₂ h2'
      rw [← hbel i hi] at hys
      clear F11 N11
      k_lt hD2
      obtain ⟨e1, e2, e3, e4, e5, e6⟩ := hdue i hi
      have hbr : ∀ x ∈ below i, 0 ≤ x ∧ x < fns.length := fun x hx => by
        rw [hbel i hi] at hx
        obtain ⟨o, ho, rfl⟩ := List.mem_map.mp hx
        have := List.mem_range.mp (List.mem_filter.mp ho).1
        omega
      have hbl : (below i).length ≤ 100 := by
        rw [hbel i hi, List.length_map]
        exact Nat.le_trans (List.length_filter_le _ _) (by rw [List.length_range]; omega)
      k_steps
      refine due_ok w B F₂ X N₂ T rfl (by (try dsimp only); omega) (by (try dsimp only); omega) aF D2 fvs ys fns (below i) hfv hys cF cD (by k_mem) (.head _) (by omega) (by rw [hys.length]; exact hbl) hbr fun s5 R U oU kvs u0 u1 u2 u3 sm5 F5 N5 l5 l5' loU dU sU => ?_
      (try dsimp only)
      replace N5 : News h₀ L s5.heap ((R, tupO #[.int (ys.length : Int) u0, .int (below i).sum u1, .int ((below i).map fun x => fns.getD x.toNat 0).sum u2, .int ((below i).map fun x => fns.getD x.toNat 0 * x).sum u3, .ref U]) :: (U, oU) :: (D2, listOf ys.toArray cD) :: (I, oI) :: (S, oS) :: (aW, listOf (List.toArray wvs) cW) :: (aP, oP) :: (aO, listOf (List.toArray ovs) cO) :: (aF, listOf (List.toArray fvs) cF) :: (aC, listOf (List.toArray cvs) cC) :: (c9, o9) :: (c8, o8) :: (c7, o7) :: (c6, o6) :: (c5, o5) :: (c4, o4) :: (c3, pl3) :: (c2, o2) :: (c1, o1) :: WL) := N5
      have mv : ∀ p ∈ (aW, listOf (List.toArray wvs) cW) :: (aP, oP) :: (aO, listOf (List.toArray ovs) cO) :: (aF, listOf (List.toArray fvs) cF) :: (aC, listOf (List.toArray cvs) cC) :: (c9, o9) :: (c8, o8) :: (c7, o7) :: (c6, o6) :: (c5, o5) :: (c4, o4) :: (c3, o3) :: (c2, o2) :: (c1, o1) :: WL, p.2 ≠ o3 → p ∈ (aW, listOf (List.toArray wvs) cW) :: (aP, oP) :: (aO, listOf (List.toArray ovs) cO) :: (aF, listOf (List.toArray fvs) cF) :: (aC, listOf (List.toArray cvs) cC) :: (c9, o9) :: (c8, o8) :: (c7, o7) :: (c6, o6) :: (c5, o5) :: (c4, o4) :: (c3, pl3) :: (c2, o2) :: (c1, o1) :: WL := mem_other (b₁ := [(aW, listOf (List.toArray wvs) cW), (aP, oP), (aO, listOf (List.toArray ovs) cO), (aF, listOf (List.toArray fvs) cF), (aC, listOf (List.toArray cvs) cC), (c9, o9), (c8, o8), (c7, o7), (c6, o6), (c5, o5), (c4, o4)]) (b₂ := (c2, o2) :: (c1, o1) :: WL) (c := c3) (o := o3) (o' := pl3)
      rw [e1, e2, e3, e4, ← hys.length] at hma
      have ma : (a, _) ∈ (aW, listOf (List.toArray wvs) cW) :: (aP, oP) :: (aO, listOf (List.toArray ovs) cO) :: (aF, listOf (List.toArray fvs) cF) :: (aC, listOf (List.toArray cvs) cC) :: (c9, o9) :: (c8, o8) :: (c7, o7) :: (c6, o6) :: (c5, o5) :: (c4, o4) :: (c3, pl3) :: (c2, o2) :: (c1, o1) :: WL := mv _ hma fun e => by
        have h3 := d3
        rw [← e] at h3
        cases h3
      have md : (d, o) ∈ (aW, listOf (List.toArray wvs) cW) :: (aP, oP) :: (aO, listOf (List.toArray ovs) cO) :: (aF, listOf (List.toArray fvs) cF) :: (aC, listOf (List.toArray cvs) cC) :: (c9, o9) :: (c8, o8) :: (c7, o7) :: (c6, o6) :: (c5, o5) :: (c4, o4) :: (c3, pl3) :: (c2, o2) :: (c1, o1) :: WL := mv _ hmd fun e => by
        dsimp only at e
        subst e
        obtain ⟨es, ep, _, hda, _⟩ := ddo
        rw [d3] at hda; cases hda
      have hdU : d ≠ U := fun e => by
        have h9 : @LT.lt Nat _ d U := l5 (d, o) (.tail _ (.tail _ (.tail _ md)))
        rw [e] at h9
        exact Nat.lt_irrefl _ h9
      refine tup5_same (N5 _ (.tail _ (.tail _ (.tail _ (.tail _ (.tail _ ma)))))).1 (N5 _ (.head _)).1 (by show un + 20 < cLine; omega) (fun A E Q hu hq => dict_same N5 (.tail _ (.tail _ (.tail _ (.tail _ (.tail _ md))))) (.tail _ (.head _)) ddo dU lod loU hdU sio sU e5 e6 hu hq) ?_
      clear F₂ N₂
      k_steps
      exact ⟨_, (S, oS) :: (aW, listOf (List.toArray wvs) cW) :: (aP, oP) :: (aO, listOf (List.toArray ovs) cO) :: (aF, listOf (List.toArray fvs) cF) :: (aC, listOf (List.toArray cvs) cC) :: (c9, o9) :: (c8, o8) :: (c7, o7) :: (c6, o6) :: (c5, o5) :: (c4, o4) :: (c3, pl3) :: (c2, o2) :: (c1, o1) :: WL, ⟨sm5.1.trans (sm2.1.trans sm.1), (sm.2.trans sm2.2).trans sm5.2⟩, F5, news_sub N5 fun p hp => .tail _ (.tail _ (.tail _ hp)), ne_map hne rfl, m1, pl3, _, dpl, rfl⟩
end Mine
end
section
open PySem PySem.W PyProof.Rows
set_option maxRecDepth 100000
namespace Mine
theorem lawB_split : lawB = lawB.take 7 ++ ((lawB.drop 7).take 1 ++ ((lawB.drop 8).take 3 ++ ((lawB.drop 11).take 1 ++ ((lawB.drop 12).take 2 ++ (lawB.drop 14).take 2)))) := rfl
theorem nodup_cast {l : List Nat} (h : l.Nodup) : (l.map fun v : Nat => (v : Int)).Nodup := by
  rw [List.nodup_iff_pairwise_ne] at h ⊢
  rw [List.pairwise_map]
  exact h.imp fun hn e => hn (Int.ofNat.inj e)
set_option maxHeartbeats 4000000 in
theorem law_ok (w : World) {p : Program} {loose : List Str} {mean : ExcName → Option Value} {mg mb : Str → Option Value}
  {dp un : Nat} {gd : Option (List Code)} {fa : Addr} {ccd : Value} {A₀ : Around} {h₀ : Heap} {L : Addr} {m : Str → Option Value} {s : Shared}
    {Q : Flow → Shared → Prop} {E : Value → Shared → Prop} {o1 o2 o3 o4 o5 o6 o7 o8 o9 : Obj} {v1 v2 v3 v4 v5 v6 v7 v8 v9 : Option Value}
    (B : Below A₀ h₀ [] h₀) (F : Fr h₀ L s.heap m) (X : (K w.params).In h₀) (T : Top p loose mean mg mb h₀)
    (hdp : dp + 400 < recursionLimit) (hun : un + 1200 < cLine)
    (N : News h₀ L s.heap [(L + 1 + 1 + 1 + 1 + 1 + 1 + 1 + 1 + 1, o9), (L + 1 + 1 + 1 + 1 + 1 + 1 + 1 + 1, o8), (L + 1 + 1 + 1 + 1 + 1 + 1 + 1, o7), (L + 1 + 1 + 1 + 1 + 1 + 1, o6), (L + 1 + 1 + 1 + 1 + 1, o5), (L + 1 + 1 + 1 + 1, o4), (L + 1 + 1 + 1, o3), (L + 1 + 1, o2), (L + 1, o1)])
    (d1 : o1.data = .cell v1) (d2 : o2.data = .cell v2) (d3 : o3.data = .cell v3) (d4 : o4.data = .cell v4) (d5 : o5.data = .cell v5) (d6 : o6.data = .cell v6) (d7 : o7.data = .cell v7) (d8 : o8.data = .cell v8) (d9 : o9.data = .cell v9)
    (sa : Addr) (svs : List Value) (sns : List Int) (hsa : m "script" = some (.ref sa)) (hsl : h₀.IsList sa svs.toArray) (hsz : svs.length ≤ 63) (hsi : IntsAre svs sns)
    (hret : ∀ s', Sm s s' → (∀ b o, h₀.get? b = some o → s'.heap.get? b = some o) → Q (.ret (.bool true)) s') :
    wpAny (model PySem.Challenge.rw_ij0017_01.row.prog w) (lawTop dp un gd L fa ccd) (execs lawB (lawEnv L fa ccd)) Q E s := by
  obtain ⟨n4, n9⟩ := lawN_b sns
  rw [lawB_split]
  refine execs_app _ _ _ ?_
  refine seg1 w B F X T hdp hun N d1 d2 d3 d4 d5 d6 d7 d8 d9 sa svs sns hsa hsl hsz hsi fun s1 m1 aC cvs cC aF fvs cF p1 p2 p4 p5 p6 t1 t2 t5 t6 sm1 F1 N1 lC lF hmc1 e1 e2 e4 e5 e6 hcv hfv => ?_
  refine execs_app _ _ _ ?_
  refine seg2 (v1 := none) (v2 := none) (v4 := none) (v5 := none) (v6 := none) w B F1 X T hdp hun sns aC aF cvs fvs cC cF t1 t2 t5 t6 N1 lC lF hmc1 e1 e2 d3 e4 e5 e6 d7 d8 d9 hcv hfv fun s2 m2 aO ovs cO pm sm2 F2 N2 lO hmc2 hmo2 hPm hSrt hov => ?_
  have hq99 := plain sns pm hPm hSrt
  revert hq99
  walk_at "flat"
  rename_i mm c o root H hc ho hpw
  rw [hc] at hcv
  rw [ho] at hov
  obtain ⟨x, hx⟩ := H.last
  have J := H.rem
  have hroot := H.rootAt
  have hmn := H.mn
  generalize hR : RN mm c o root = R at J hroot
  generalize hT : TN c root = TT at J
  have hcl : (c.map fun v : Nat => (v : Int)).length = mm := by rw [List.length_map, H.cl]
  have hul : (upsOf R TT).length = lawN sns - 1 := by
    unfold upsOf; rw [List.length_map, List.length_zip]; have := J.len; have := J.tl; omega
  refine execs_app _ _ _ ?_
  refine seg3 (v2 := none) w B F2 X T hdp hun _ _ (lawN sns) n4 n9 aC aF aO cvs fvs ovs cC cF cO t2 N2 lC lF lO hmc2 hmo2 e1 e2 d3 e4 e5 e6 d7 d8 d9 hcv hov (by omega) (by rw [List.length_map, List.length_append]; have := H.len; simp; omega)
    (nodup_cast H.nd) (fun k hk => H.fil k (by rw [hcl] at hk; exact hk)) x root (by rw [hcl]; exact H.fin hx) (upsOf R TT) (by rw [hcl, ← hR, ← hT]; exact H.ups hx) (by omega) root (by simp) (by omega) (by have := J.root_lt hroot; omega)
    (PPof (lawN sns) R TT root) (J.pp_zero hroot) (fun i _ => pp_len i) (fun i z hi hz => J.pp_step n9 hroot i z hi hz) (fun i => (wayR (lawN sns) R TT i).map fun u : Nat => (u : Int)) (fun i hi => J.isWay i hi) (fun i hi => by rw [List.length_map]; have := J.way_len i hi; omega)
    fun s3 m3 aP oP kP aW wvs cW WL p7 p8 p9 tu sm3 F3 N3 lP lW hWL hmc3 hmo3 e7 e8 e9 loP dP hpv hwl hway => ?_
  rw [hul] at hpv
  have hps : ∀ i : Nat, i < lawN sns → strOf (PPof (lawN sns) R TT root (lawN sns - 1)) (i : Int) = some (pathR (lawN sns) R TT i) := fun i hi => J.pp_all hroot hi
  have hPl : ∀ i, i < lawN sns → (pathR (lawN sns) R TT i).length ≤ 2000 := fun i hi => Nat.le_trans (J.path_le n9 hi) (by decide)
  have hWl : ∀ i, i < lawN sns → ((wayR (lawN sns) R TT i).map fun u : Nat => (u : Int)).length ≤ 100 := fun i hi => by rw [List.length_map]; have := J.way_len i hi; omega
  have hWr : ∀ i, i < lawN sns → ∀ z ∈ (wayR (lawN sns) R TT i).map fun u : Nat => (u : Int), 0 ≤ z ∧ z < (lawN sns : Int) := fun i hi z hz => by
    obtain ⟨u, hu, rfl⟩ := List.mem_map.mp hz
    have := (J.way_lt i hi u hu).1
    omega
  have hal : ∀ i, i < lawN sns → ((wayR (lawN sns) R TT i).drop 1).map (pathR (lawN sns) R TT) = (((wayR (lawN sns) R TT i).map fun u : Nat => (u : Int)).drop 1).map fun z => pathR (lawN sns) R TT z.toNat := fun i hi => by
    rw [← List.map_drop, List.map_map]
    exact List.map_congr_left fun u _ => by show _ = pathR _ _ _ ((u : Int)).toNat; rw [Int.toNat_natCast]
  refine execs_app _ _ _ ?_
  refine seg4 (v2 := none) (v8 := none) (v9 := none) w B F3 X T hdp hun X T (lawN sns) n4 n9 aC aF aO aP aW cvs fvs ovs wvs cC cF cO cW t2 oP kP WL N3 lC lF lO lP lW hWL hmc3 hmo3 e1 e2 d3 e4 e5 e6 e7 e8 e9 loP dP _ hpv (pathR (lawN sns) R TT) hps hPl (fun i => (wayR (lawN sns) R TT i).map fun u : Nat => (u : Int)) hwl hway hWr hWl
    (pathR (lawN sns) R TT) (fun i => ((wayR (lawN sns) R TT i).drop 1).map (pathR (lawN sns) R TT)) (fun i hi => J.anc_mul n9 hi) hal (fun i hi => J.mul_len n9 hi)
    fun s4 m4 g4 p3 v3' sm4 TT4 B4 F4 N4 hmc4 hmo4 e3 => ?_
  have X4 := X.keeps B4.stays
  have T4 := T.keeps B4.stays
  have hf3 : ∀ i, i < lawN sns → 0 ≤ figAt (lawNums sns).sum i ∧ figAt (lawNums sns).sum i < 3 := fun i _ => figAt_b _ i
  have hrun := fun t (ht : t ≤ mm + 1) => H.run hpw t ht
  rw [hR, hT] at hrun
  refine execs_app _ _ _ ?_
  refine seg5 (v4 := none) (v5 := none) (v6 := none) (v8 := none) (v9 := none) w B4 F4 X4 T4 hdp hun X T (lawN sns) n4 n9 aC aF aO aP aW cvs fvs ovs wvs cC cF cO cW t2 t5 t6 oP kP WL N4 lC lF lO lP lW hWL (lawFst sns) (lawSnd sns) (figAt (lawNums sns).sum) hfv hf3 hmc4 hmo4 e1 e2 e3 e4 e5 e6 e7 e8 e9 loP dP _ hpv (pathR (lawN sns) R TT) hps hPl
    (fun i j hi hj e => J.path_inj n9 i j hi hj e) (hpR R TT) (pathR (lawN sns) R TT) (fun i => ((wayR (lawN sns) R TT i).drop 1).map (pathR (lawN sns) R TT)) (fun i hi => J.anc_self n9 hi) (fun i hi => by have h1 := hWl i hi; rw [List.length_map] at h1; rw [List.length_map, List.length_drop]; omega) (fun i hi => J.anc_one hi)
    (fun i hi π e => (J.hp_lt e).2) ?hok _ _ hcv hov (by omega) (by rw [List.length_map, List.length_append]; have := H.len; simp; omega) ?hcr ?hor ?htold
    fun s5 m5 g5 S oS kS WL' sm5 TT5 B5 F5 N5 lS hWL' hWW hms5 loS dS TS => ?_
  case hok =>
    intro t ht
    obtain ⟨l, hl, hln⟩ := H.Rat (t := t) (by omega)
    obtain ⟨π, hπ, _⟩ := H.Tat (t := t) (by omega)
    obtain ⟨b1, b2, b3⟩ := H.bare hpw (by omega) hl hπ
    rw [hR, hT] at b1 b2 b3
    rw [(hrun t (by omega)).1]
    refine ⟨fun e => ?_, π, by rw [b2]; exact b3⟩
    rw [e] at b1
    exact absurd b1 List.not_mem_nil
  case hcr =>
    intro z hz
    obtain ⟨u, hu, rfl⟩ := List.mem_map.mp hz
    have := H.cr u hu
    omega
  case hor =>
    intro z hz
    obtain ⟨u, hu, rfl⟩ := List.mem_map.mp hz
    have := (H.mem u).mp hu
    omega
  case htold =>
    rw [show lawN sns - 1 = mm + 1 by omega, (hrun (mm + 1) (Nat.le_refl _)).2, ← hT]
    have h1 : (TN c root).take (mm + 1) = c ++ [root] := List.take_of_length_le (by simp [TN, H.cl])
    have h2 : ((o ++ [root]).map fun v : Nat => (v : Int)).drop (((o ++ [root]).map fun v : Nat => (v : Int)).length - 1) = [(root : Int)] := by
      rw [List.length_map, List.length_append, List.map_append]
      show (_ ++ [(root : Int)]).drop (o.length + 1 - 1) = _
      rw [List.drop_left' (by simp)]
    rw [h1, h2]
    simp [List.map_append, List.map_map, Function.comp]
  have X5 := X.keeps B5.stays
  have T5 := T.keeps B5.stays
  refine seg6 (v2 := none) (v4 := none) (v8 := none) (v9 := none) w B5 F5 X5 T5 hdp hun (lawN sns) n4 n9 aC aF aO aP aW S cvs fvs ovs wvs cC cF cO cW t2 oP oS kP kS WL' N5 lC lF lO lP lW lS hWL' (lawFig sns) hfv (by simp [lawFig]) hms5 e1 e2 e3 e4 e5 e6 e7 e8 e9 loP dP _ hpv (pathR (lawN sns) R TT) hps (fun i => (wayR (lawN sns) R TT i).map fun u : Nat => (u : Int)) hwl
    (fun i hi => let ⟨a, vs, c, h1, h2, h3⟩ := hway i hi; ⟨a, vs, c, h1, hWW _ h2, h3⟩) hWl loS dS _ TS (fun i => ((List.range (lawN sns)).filter fun o => decide ((i : Int) ∈ (wayR (lawN sns) R TT o).map fun u : Nat => (u : Int))).map fun o : Nat => (o : Int)) (fun i hi => rfl) ?hdue
    fun s6 m6 sm6 F6 => ?_
  case hdue =>
    intro i hi
    have hrep := H.sums_end hpw hi
    rw [hR, hT, show mm + 1 = lawN sns - 1 by omega] at hrep
    have he : ((List.range (lawN sns)).filter fun o => decide ((i : Int) ∈ (wayR (lawN sns) R TT o).map fun u : Nat => (u : Int))) = (List.range (lawN sns)).filter fun o => decide (i ∈ wayR (lawN sns) R TT o) := List.filter_congr fun v _ => by simp only [mem_cast]
    have hd := hrep.due (n := lawN sns) (fun v hv => List.mem_range.mp (List.mem_filter.mp hv).1) (fun v _ => figAt_b _ v)
    rw [he]
    exact hd
  exact hret s6 ⟨sm6.1.trans (sm5.1.trans (sm4.1.trans (sm3.1.trans (sm2.1.trans sm1.1)))), ((((sm1.2.trans sm2.2).trans sm3.2).trans sm4.2).trans sm5.2).trans sm6.2⟩ fun b ob e => F6.keep _ _ (B5.stays _ _ e)
end Mine
end

section
open PySem PySem.W PyProof.Rows
set_option maxRecDepth 100000
namespace Mine
set_option maxHeartbeats 4000000 in
theorem main : PySem.Challenge.rw_ij0017_01.Holds := by
  refine Mine.hd rfl rfl rfl ?_
  k_fill
  intro w s₀ s₁ mg mb G Y fa o pm cd doc dV kV ho hd hcd hD hmg hg args vals as hpre hlay hrd hwl hlo
  have KX := kIn_of Y
  have X := (Ground.X G).1
  have V := (Ground.X G).2
  refine Ground.open G ?_
  intro T B D TE TW
  try (refine guard_noD D (by decide +kernel) ?_; clear D)
  have TA := at_of_top T
  try (obtain ⟨_, _, he, B0⟩ := based_of_top T rfl hmg ho hd; have he' : cd = _ := he; subst he'; clear he)
  wrow_args hpre hlay hrd hwl hlo
  rename_i sns hsh hy0 hL1 hr1 hl2 as1 as2 sa svs as3 hL ra w1 r0 hI hr2 hc1 hc2
  refine enter_call ?_
  w_top on
  have K0 := below_caller (Top.heap T)
  have he := Dflts.none hD rfl; subst he; have he := Dflts.noKw hD; subst he
  refine call_cellsN (by decide) ho (fd_plain hd) (Top.nolimit T) hcd rfl (kinds_of (by kinds_ok)) (by decide) fun h₁ tk₁ cells F N0 X0 => ?_
  have hq99 := cells9 X0
  revert hq99
  walk_at "flat"
  rename_i o1 o2 o3 o4 o5 o6 o7 o8 o9 hz91 d1 d2 d3 d4 d5 d6 d7 d8 d9
  subst hz91
  show wpAny _ (lawTop (callerA.depth + 1) (callerA.units + 3) callerA.guards _ _ _) (execs lawB (lawEnv _ _ _)) _ _ _
  refine law_ok w K0 F KX T (by decide) (by decide) N0 d9 d8 d7 d6 d5 d4 d3 d2 d1 sa svs sns rfl hL (by have := hI.length; omega) hI fun s' sm hk => ?_
  have hb : AllBare s'.gens := sm.2.bare (by
    show AllBare s₁.gens
    rw [hg]
    exact AllBare.empty)
  exact ⟨.inl ⟨.bool true, .bool true, [], rfl, fun _ => rfl, ReadsW.bool true, by first | rfl | wrow_post, fun _ => ⟨List.nodup_nil, fun _ hm => (nomatch hm)⟩⟩, .of_keep hk, sm.1, hb⟩
end Mine
end

theorem PySem.Challenge.cw_ij0017_01_holds : PySem.Challenge.rw_ij0017_01.Holds :=
  Mine.main
