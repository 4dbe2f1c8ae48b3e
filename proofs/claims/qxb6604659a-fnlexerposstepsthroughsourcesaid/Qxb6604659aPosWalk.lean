import Derived.Test.Qxb6604659aCloneWalk
import Derived.BigRegion
namespace Go.Proofs.Qxb6604659a
open Go.ChangeShapes Go.WideShapes Go.ChangeAt Go.RowKit

theorem pos_any (b : Nat) (file : ByteArray) (off line ls : Int) (w : World) (hb : b < w.heap.size)
    (h0 : w.cell? ⟨b, 0, none⟩ = some (.string file)) (h2 : w.cell? ⟨b, 2, none⟩ = some (.int .i64 off))
    (h3 : w.cell? ⟨b, 3, none⟩ = some (.int .i64 line)) (h4 : w.cell? ⟨b, 4, none⟩ = some (.int .i64 ls))
    (o0 : 0 ≤ off) (o1 : off ≤ 1048576) (l0 : 0 ≤ ls) (l1 : ls ≤ off) :
    Calls Try.prog 13 #[.pointer (some ⟨b, 0, none⟩)] w fun e w' => e = .returned (.agg #[.string file, .int .i64 line, .int .i64 (off - ls + 1)]) ∧ Below w.heap.size w w' := by
  go_enter Try.func13, Try.ntmps13
  go_wp2
  go_region
  go_wp2
  exact bodyPost_ret (v := .agg #[.string file, .int .i64 line, .int .i64 (off - ls + 1)]) (by simp [results, Try.results13, go_sem]) rfl ⟨rfl, ((Below.refl _ _).alloc (Nat.le_refl _) _).drew⟩

theorem zzPos_any (b : Nat) (file : ByteArray) (off line ls : Int) (w : World) (hb : b < w.heap.size)
    (h0 : w.cell? ⟨b, 0, none⟩ = some (.string file)) (h2 : w.cell? ⟨b, 2, none⟩ = some (.int .i64 off))
    (h3 : w.cell? ⟨b, 3, none⟩ = some (.int .i64 line)) (h4 : w.cell? ⟨b, 4, none⟩ = some (.int .i64 ls))
    (o0 : 0 ≤ off) (o1 : off ≤ 1048576) (l0 : 0 ≤ ls) (l1 : ls ≤ off) :
    Calls Try.prog 9 #[.pointer (some ⟨b, 0, none⟩)] w fun e w' => e = .returned (.agg #[.string file, .int .i64 line, .int .i64 (off - ls + 1)]) ∧ Below w.heap.size w w' := by
  go_enter Try.func9, Try.ntmps9
  go_wp2_with fail
  refine (pos_any b file off line ls _ ?_ ?_ ?_ ?_ ?_ o0 o1 l0 l1).mono ?_
  · simp; omega
  · rw [World.cell?_alloc_past _ _ _ hb]; exact h0
  · rw [World.cell?_alloc_past _ _ _ hb]; exact h2
  · rw [World.cell?_alloc_past _ _ _ hb]; exact h3
  · rw [World.cell?_alloc_past _ _ _ hb]; exact h4
  · rintro e w1 ⟨rfl, hbl⟩
    have c0 : w1.cell? ⟨w.heap.size, 0, none⟩ = some (.string ⟨#[]⟩) := (hbl.cell (by simp)).trans (by simp)
    have c1 : w1.cell? ⟨w.heap.size, 1, none⟩ = some (.int .i64 0) := (hbl.cell (by simp)).trans (by simp)
    have c2 : w1.cell? ⟨w.heap.size, 2, none⟩ = some (.int .i64 0) := (hbl.cell (by simp)).trans (by simp)
    have f0 : w1.frozen? ⟨w.heap.size, 0, none⟩ = false := (hbl.frozen (by simp)).trans (by simp)
    have f1 : w1.frozen? ⟨w.heap.size, 1, none⟩ = false := (hbl.frozen (by simp)).trans (by simp)
    have f2 : w1.frozen? ⟨w.heap.size, 2, none⟩ = false := (hbl.frozen (by simp)).trans (by simp)
    go_wp2
    refine bodyPost_ret (v := .agg #[.string file, .int .i64 line, .int .i64 (off - ls + 1)]) (by simp [results, Try.results9, go_sem, c0, c1, c2]) rfl ⟨rfl, ?_⟩
    exact (((((Below.refl _ _).alloc (Nat.le_refl _) _).trans (hbl.mono (by simp))).setCell (Nat.le_refl _) _).setCell (Nat.le_refl _) _).setCell (Nat.le_refl _) _

theorem zzNew_any (file : ByteArray) (sa : Option Addr) (sn sc : Nat) (off line ls : Int) (w : World) :
    Calls Try.prog 10 #[.string file, .slice sa sn sc, .int .i64 off, .int .i64 line, .int .i64 ls] w fun e w' => e = .returned (.pointer (some ⟨w.heap.size, 0, none⟩)) ∧
      w' = w.alloc (.cells #[.string file, .slice sa sn sc, .int .i64 off, .int .i64 line, .int .i64 ls] 35) := by
  go_enter Try.func10, Try.ntmps10
  go_wp2
  go_ret
  exact ⟨rfl, rfl⟩

/-- ZZlexerPos over the lexer that ZZnewLexer has just made. -/
theorem zzPos_new (file : ByteArray) (sa : Option Addr) (sn sc : Nat) (off line ls : Int) (w : World)
    (o0 : 0 ≤ off) (o1 : off ≤ 1048576) (l0 : 0 ≤ ls) (l1 : ls ≤ off) :
    Calls Try.prog 9 #[.pointer (some ⟨w.heap.size, 0, none⟩)] (w.alloc (.cells #[.string file, .slice sa sn sc, .int .i64 off, .int .i64 line, .int .i64 ls] 35)) fun e w' =>
      e = .returned (.agg #[.string file, .int .i64 line, .int .i64 (off - ls + 1)]) ∧ Below w.heap.size w w' := by
  refine (zzPos_any w.heap.size file off line ls _ (by simp) (by simp) (by simp) (by simp) (by simp) o0 o1 l0 l1).mono ?_
  rintro e w1 ⟨rfl, hbl⟩
  exact ⟨rfl, ((Below.refl _ _).alloc (Nat.le_refl _) _).trans (hbl.mono (by simp))⟩
end Go.Proofs.Qxb6604659a
