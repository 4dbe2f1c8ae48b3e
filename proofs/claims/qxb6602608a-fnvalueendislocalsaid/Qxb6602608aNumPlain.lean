import Derived.Test.Qxb6602608aStrWalk
namespace Go.Proofs.Qxb6602608a
open Go.ChangeShapes Go.WideShapes Go.ChangeAt Go.RowKit

/-- A byte of a number. -/
def numc (c : Int) : Prop := (48 ≤ c ∧ c ≤ 57) ∨ c = 45 ∨ c = 43 ∨ c = 46 ∨ c = 101 ∨ c = 69
/-- Bytes of a number from p to q. -/
def NumSeg (z : Nat → Int) (n p q : Nat) : Prop := p ≤ q ∧ q ≤ n ∧ ∀ j, p ≤ j → j < q → numc (z j)
theorem NumSeg.refl {z : Nat → Int} {n p : Nat} (h : p ≤ n) : NumSeg z n p p := ⟨Nat.le_refl _, h, fun j h1 h2 => by omega⟩
theorem NumSeg.snoc {z : Nat → Int} {n p q : Nat} (h : NumSeg z n p q) (hq : q < n) (hc : numc (z q)) : NumSeg z n p (q + 1) := by
  refine ⟨by have := h.1; omega, by omega, fun j h1 h2 => ?_⟩
  by_cases e : j = q
  · subst e; exact hc
  · exact h.2.2 j h1 (by omega)
theorem num_scal {z : Nat → Int} {n p q : Nat} (h : NumSeg z n p q) (hlt : p < q) : Scal z n p q :=
  ⟨hlt, h.2.1, fun j h1 h2 => by have := h.2.2 j h1 h2; unfold numc at this; unfold scal other delim ws; omega⟩
theorem numc_dig {c : Int} (h : digB c = true) : numc c := .inl (dig_of h)

/-- A bool stands there, and where it is true p holds. -/
def IsB (s : Value) (p : Prop) : Prop := ∃ t : Bool, s = .bool t ∧ (t = true → p)
theorem isB_no {p : Prop} : IsB (.bool false) p := ⟨false, rfl, fun h => by cases h⟩
theorem isB_yes {p : Prop} (h : p) : IsB (.bool true) p := ⟨true, rfl, fun _ => h⟩

/-- The code from region k on, along the statements of the body's own level. -/
def codeFrom (k : Nat) : Code → Option Code
  | .seq a b => match codeFrom k a with
    | some c => some (.seq c b)
    | none => codeFrom k b
  | .region i ops d => if i = k then some (.region i ops d) else none
  | _ => none
end Go.Proofs.Qxb6602608a
