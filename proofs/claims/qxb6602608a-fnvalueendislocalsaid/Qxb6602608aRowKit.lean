/-
  A slice that is read: its cells, as a function of the index. And 'make' at an element of three cells. For whatever program.
-/
import Derived.WalkKit
import Derived.ProofKit
import Derived.Below
import Derived.Deep.OwnRows
import Derived.WalkSpells
namespace Go.Proofs.Qxb6602608a
open Go.RowKit

/-- The slice at 'a', n elements of one cell each, holds f 0 .. f (n - 1). -/
def HasRow (w : World) (a : Option Addr) (n : Nat) (f : Nat → Value) : Prop :=
  n = 0 ∨ ∃ x, a = some x ∧ ∀ i, i < n → w.cell? (x.add i) = some (f i)

theorem HasRow.at {w : World} {a : Option Addr} {n : Nat} {f : Nat → Value} (h : HasRow w a n f) {i : Nat} (hi : i < n) : ∃ x, a = some x ∧ w.cell? (x.add i) = some (f i) := by
  rcases h with h | ⟨x, ha, hc⟩
  · omega
  · exact ⟨x, ha, hc i hi⟩

theorem HasRow.later {w w' : World} {a : Option Addr} {n : Nat} {f : Nat → Value} (h : HasRow w a n f) (hb : Below w.heap.size w w') : HasRow w' a n f := by
  rcases h with h | ⟨x, ha, hc⟩
  · exact .inl h
  · exact .inr ⟨x, ha, fun i hi => cell_later hb (hc i hi)⟩

theorem HasRow.of_rowIs {w : World} {g t n : Nat} {f : Nat → Value} (h : w.rowIs g t n f) : HasRow w (some ⟨g, 0, none⟩) n f :=
  .inr ⟨_, rfl, fun i hi => by
    have e : (⟨g, 0, none⟩ : Addr).add i = ⟨g, i, none⟩ := by unfold Addr.add; split <;> simp_all
    rw [e]; exact h.cell hi⟩

theorem HasRow.congr {w : World} {a : Option Addr} {n : Nat} {f g : Nat → Value} (h : HasRow w a n f) (e : ∀ i, i < n → f i = g i) : HasRow w a n g := by
  rcases h with h | ⟨x, ha, hc⟩
  · exact .inl h
  · exact .inr ⟨x, ha, fun i hi => by rw [hc i hi, e i hi]⟩

/-- 'make([]T, n)', n a variable, T a struct of three cells. -/
theorem run_make3 {P : Program} (t e : TypeId) (z0 z1 z2 : Value) (bytes : Nat) (ht : P.underlying t = some (.slice e)) (hinfo : (P.info? e).map (fun i => (i.zero, i.size, i.bytes)) = some (some (.agg #[z0, z1, z2]), 3, bytes))
    (kl kc : IntKind) (n : Nat) (hbytes : bytes * n ≤ 281474976710656) (h63 : n ≤ 9223372036854775807) (w : World) :
    (Instr.makeSlice t (.int kl (n : Int)) (.int kc (n : Int))).run P w = .ok (.slice (some ⟨w.heap.size, 0, none⟩) n n) (w.alloc (.cells (madeCells #[z0, z1, z2] (n * 3)) e)) := by
  obtain ⟨i, hi, hzz⟩ := Option.map_eq_some_iff.1 hinfo
  simp only [Prod.mk.injEq] at hzz
  obtain ⟨hz, hs, hb⟩ := hzz
  have hb' : (i.bytes : Int) * (n : Int) ≤ 281474976710656 := by
    have h : ((i.bytes * n : Nat) : Int) ≤ 281474976710656 := by rw [hb]; omega
    rwa [Int.natCast_mul] at h
  have hr := run_make (P := P) w t e i _ ht hi hz kl kc n n (by omega) (Int.le_refl _) hb' (by omega)
  simp only [Int.toNat_natCast, hs, Value.cells] at hr
  exact hr

theorem rowIs_made3 (w : World) (z0 z1 z2 : Value) (n : Nat) (t : TypeId) : (w.alloc (.cells (madeCells #[z0, z1, z2] (n * 3)) t)).rowIs w.heap.size t (n * 3) (fun i => if i % 3 = 0 then z0 else if i % 3 = 1 then z1 else z2) := by
  refine ⟨_, Deep.blk_alloc_new _ _, size_madeCells _ _, fun i hi => ?_⟩
  have h3 : i % 3 = 0 ∨ i % 3 = 1 ∨ i % 3 = 2 := by omega
  rcases h3 with h | h | h <;> simp [madeCells, hi, h]
end Go.Proofs.Qxb6602608a
