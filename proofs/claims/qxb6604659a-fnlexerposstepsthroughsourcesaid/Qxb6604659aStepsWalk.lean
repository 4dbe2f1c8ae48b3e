import Derived.Test.Qxb6604659aPosWalk
import Derived.Test.Qxb6604659aLinePlain
namespace Go.Proofs.Qxb6604659a
open Go.ChangeShapes Go.WideShapes Go.ChangeAt Go.RowKit

theorem fits11_yes (file : ByteArray) (a : Option Addr) (len cap : Nat) (w : World) (h : file.size + len ≤ 1048576) :
    Calls Try.prog 11 #[.string file, .slice a len cap] w fun e w' => e = .returned (.bool true) ∧ w' = w := by
  go_enter Try.func11, Try.ntmps11
  go_wp2
  go_ret
  exact ⟨rfl, rfl⟩
theorem fits11_no (file : ByteArray) (a : Option Addr) (len cap : Nat) (w : World) (hf : file.size ≤ 9223372036854775807) (hl : len ≤ 9223372036854775807) (h : 1048576 < file.size + len) :
    Calls Try.prog 11 #[.string file, .slice a len cap] w fun e w' => e = .returned (.bool false) ∧ w' = w := by
  by_cases h1 : 1048576 < file.size
  · go_enter Try.func11, Try.ntmps11
    go_wp2
    go_ret
    exact ⟨rfl, rfl⟩
  · by_cases h2 : 1048576 < len
    · go_enter Try.func11, Try.ntmps11
      go_wp2
      go_ret
      exact ⟨rfl, rfl⟩
    · go_enter Try.func11, Try.ntmps11
      go_wp2
      go_ret
      exact ⟨rfl, rfl⟩

theorem law4_no (file : ByteArray) (a : Option Addr) (len cap : Nat) (w : World) (hf : file.size ≤ 9223372036854775807) (hl : len ≤ 9223372036854775807) (h : 1048576 < file.size + len) :
    Calls Try.prog 4 #[.string file, .slice a len cap] w fun e w' => e = .returned (.bool true) ∧ w' = w := by
  go_enter Try.func4, Try.ntmps4
  go_wp2_with (go_at_call 11; refine (fits11_no _ _ _ _ _ hf hl h).mono ?_; rintro e w' ⟨rfl, rfl⟩)
  go_ret
  exact ⟨rfl, rfl⟩

/-- Three cells of an old block are written, then a new block is laid: what the three read then. -/
theorem put3 (w : World) (P : Nat) (a b c v0 v1 v2 : Value) (o : Obj) (hP : P < w.heap.size)
    (q0 : w.cell? ⟨P, 0, none⟩ = some v0) (q1 : w.cell? ⟨P, 1, none⟩ = some v1) (q2 : w.cell? ⟨P, 2, none⟩ = some v2)
    (g0 : w.frozen? ⟨P, 0, none⟩ = false) (g1 : w.frozen? ⟨P, 1, none⟩ = false) (g2 : w.frozen? ⟨P, 2, none⟩ = false) :
    P < ((((w.setCell ⟨P, 0, none⟩ a).setCell ⟨P, 1, none⟩ b).setCell ⟨P, 2, none⟩ c).alloc o).heap.size ∧
      ((((w.setCell ⟨P, 0, none⟩ a).setCell ⟨P, 1, none⟩ b).setCell ⟨P, 2, none⟩ c).alloc o).cell? ⟨P, 0, none⟩ = some a ∧
      ((((w.setCell ⟨P, 0, none⟩ a).setCell ⟨P, 1, none⟩ b).setCell ⟨P, 2, none⟩ c).alloc o).cell? ⟨P, 1, none⟩ = some b ∧
      ((((w.setCell ⟨P, 0, none⟩ a).setCell ⟨P, 1, none⟩ b).setCell ⟨P, 2, none⟩ c).alloc o).cell? ⟨P, 2, none⟩ = some c ∧
      ((((w.setCell ⟨P, 0, none⟩ a).setCell ⟨P, 1, none⟩ b).setCell ⟨P, 2, none⟩ c).alloc o).frozen? ⟨P, 0, none⟩ = false ∧
      ((((w.setCell ⟨P, 0, none⟩ a).setCell ⟨P, 1, none⟩ b).setCell ⟨P, 2, none⟩ c).alloc o).frozen? ⟨P, 1, none⟩ = false ∧
      ((((w.setCell ⟨P, 0, none⟩ a).setCell ⟨P, 1, none⟩ b).setCell ⟨P, 2, none⟩ c).alloc o).frozen? ⟨P, 2, none⟩ = false := by
  have hS : P < (((w.setCell ⟨P, 0, none⟩ a).setCell ⟨P, 1, none⟩ b).setCell ⟨P, 2, none⟩ c).heap.size := by simpa using hP
  refine ⟨by simp; omega, ?_, ?_, ?_, ?_, ?_, ?_⟩
  · rw [World.cell?_alloc_past _ _ _ hS, World.cell?_setCell_other _ _ _ _ (by simp), World.cell?_setCell_other _ _ _ _ (by simp), World.cell?_setCell_same _ _ _ q0]
  · rw [World.cell?_alloc_past _ _ _ hS, World.cell?_setCell_other _ _ _ _ (by simp)]
    exact World.cell?_setCell_same _ _ _ (u := v1) (by rw [World.cell?_setCell_other _ _ _ _ (by simp)]; exact q1)
  · rw [World.cell?_alloc_past _ _ _ hS]
    exact World.cell?_setCell_same _ _ _ (u := v2) (by rw [World.cell?_setCell_other _ _ _ _ (by simp), World.cell?_setCell_other _ _ _ _ (by simp)]; exact q2)
  · rw [World.frozen?_alloc_past _ _ _ hS]; simpa using g0
  · rw [World.frozen?_alloc_past _ _ _ hS]; simpa using g1
  · rw [World.frozen?_alloc_past _ _ _ hS]; simpa using g2

theorem law4_row (file : ByteArray) (x : Addr) (len cap : Nat) (z : Nat → Int) (w : World) (h : file.size + len ≤ 1048576)
    (hc : ∀ i, i < len → w.cell? (x.add i) = some (.int .u8 (z i))) :
    Calls Try.prog 4 #[.string file, .slice (some x) len cap] w fun e w' => e = .returned (.bool true) ∧ Below w.heap.size w w' := by
  have d1 : decide ((1048576 : Int) < (file.size : Int)) = false := decide_eq_false (by omega)
  have d2 : decide ((1048576 : Int) < (len : Int)) = false := decide_eq_false (by omega)
  have d3 : decide ((1048576 : Int) < (file.size : Int) + (len : Int)) = false := decide_eq_false (by omega)
  go_enter Try.func4, Try.ntmps4
  go_wp2_with (first
    | (go_at_call 11; refine (fits11_yes _ _ _ _ _ h).mono ?_; rintro e w' ⟨rfl, rfl⟩)
    | fail)
  clear d1 d2 d3
  refine (clone_row x len cap z _ (by omega) hc).mono ?_
  rintro e w1 ⟨rfl, hrow, hb⟩
  go_wp2_with (first
    | (go_at_call 10; refine (zzNew_any _ _ _ _ _ _ _ _).mono ?_; rintro e w2 ⟨rfl, rfl⟩)
    | (go_at_call 9; refine (zzPos_new _ _ _ _ _ _ _ _ (by omega) (by omega) (by omega) (by omega)).mono ?_; rintro e w3 ⟨rfl, hb3⟩))
  have hlt3 : w'.heap.size < w3.heap.size := Nat.lt_of_lt_of_le hrow.lt hb3.size
  go_loopw [5, 6, 8] (fun l s i wr => ∃ k : Nat, k ≤ len ∧ i = .int .i64 ((k + 1 : Nat) : Int) ∧ l = .int .i64 (1 + nlOf z k) ∧ s = .int .i64 (lsOf z k) ∧
      Below w'.heap.size w' wr ∧ wr.rowIs w'.heap.size 5 len (fun j => .int .u8 (z j)) ∧ w3.heap.size < wr.heap.size ∧
      wr.cell? ⟨w3.heap.size, 0, none⟩ = some (.string file) ∧ wr.cell? ⟨w3.heap.size, 1, none⟩ = some (.int .i64 (1 + nlOf z k)) ∧ wr.cell? ⟨w3.heap.size, 2, none⟩ = some (.int .i64 ((k : Int) - lsOf z k + 1)) ∧
      wr.frozen? ⟨w3.heap.size, 0, none⟩ = false ∧ wr.frozen? ⟨w3.heap.size, 1, none⟩ = false ∧ wr.frozen? ⟨w3.heap.size, 2, none⟩ = false)
    (fun _ _ i _ => len + 1 - (intOf i).toNat)
  case atStart =>
    refine ⟨0, Nat.zero_le _, rfl, rfl, rfl, (hb.trans (hb3.mono hb.size)).alloc (Nat.le_trans hb.size hb3.size) _, (hrow.of_block (hb3.block _ hrow.lt)).alloc _, by simp, ?_, ?_, ?_, ?_, ?_, ?_⟩
    all_goals simp [nlOf, lsOf]
  case round =>
    obtain ⟨k, hk, rfl, rfl, rfl, hbr, hrr, hPr, c0, c1, c2, f0, f1, f2⟩ := hrel
    have hnl := nlOf_le z k
    have hls := lsOf_le z k
    by_cases hlt : k < len
    · have hcell := hrr.cell hlt
      by_cases ht : (z k == 10) = true
      · go_wp2_with fail
        refine (zzNew_any _ _ _ _ _ _ _ _).mono ?_
        rintro e w4 ⟨rfl, rfl⟩
        go_wp2_with fail
        refine (zzPos_new _ _ _ _ _ _ _ _ (by omega) (by omega) (by omega) (by omega)).mono ?_
        rintro e w5 ⟨rfl, hb5⟩
        have q0 := (hb5.cell (p := ⟨w3.heap.size, 0, none⟩) hPr).trans c0
        have q1 := (hb5.cell (p := ⟨w3.heap.size, 1, none⟩) hPr).trans c1
        have q2 := (hb5.cell (p := ⟨w3.heap.size, 2, none⟩) hPr).trans c2
        have g0 := (hb5.frozen (p := ⟨w3.heap.size, 0, none⟩) hPr).trans f0
        have g1 := (hb5.frozen (p := ⟨w3.heap.size, 1, none⟩) hPr).trans f1
        have g2 := (hb5.frozen (p := ⟨w3.heap.size, 2, none⟩) hPr).trans f2
        have hP5 : w3.heap.size < w5.heap.size := Nat.lt_of_lt_of_le hPr hb5.size
        clear c0 c1 c2 f0 f1 f2
        go_wp2
        go_roundw
        case rel =>
          obtain ⟨r1, r2, r3, r4, r5, r6, r7⟩ := put3 w5 w3.heap.size _ _ _ _ _ _ _ hP5 q0 q1 q2 g0 g1 g2
          refine ⟨k + 1, by omega, by go_num, by rw [nlOf_hit ht]; go_num, by rw [lsOf_hit ht]; go_num, ?_, ?_, r1, r2, r3.trans ?_, r4.trans ?_, r5, r6, r7⟩
          · exact ((((hbr.trans (hb5.mono hbr.size)).setCell (Nat.le_of_lt hlt3) _).setCell (Nat.le_of_lt hlt3) _).setCell (Nat.le_of_lt hlt3) _).alloc (by have := hbr.size; have := hb5.size; simp; omega) _
          · exact ((((hrr.of_block (hb5.block _ hrr.lt)).setOther (Nat.ne_of_lt hlt3) _).setOther (Nat.ne_of_lt hlt3) _).setOther (Nat.ne_of_lt hlt3) _).alloc _
          · rw [nlOf_hit ht]; go_num
          · rw [lsOf_hit ht]; simp
        case measure => simp [intOf]; omega
      · have ht' : (z k == 10) = false := by simpa using ht
        go_wp2_with fail
        refine (zzNew_any _ _ _ _ _ _ _ _).mono ?_
        rintro e w4 ⟨rfl, rfl⟩
        go_wp2_with fail
        refine (zzPos_new _ _ _ _ _ _ _ _ (by omega) (by omega) (by omega) (by omega)).mono ?_
        rintro e w5 ⟨rfl, hb5⟩
        have q0 := (hb5.cell (p := ⟨w3.heap.size, 0, none⟩) hPr).trans c0
        have q1 := (hb5.cell (p := ⟨w3.heap.size, 1, none⟩) hPr).trans c1
        have q2 := (hb5.cell (p := ⟨w3.heap.size, 2, none⟩) hPr).trans c2
        have g0 := (hb5.frozen (p := ⟨w3.heap.size, 0, none⟩) hPr).trans f0
        have g1 := (hb5.frozen (p := ⟨w3.heap.size, 1, none⟩) hPr).trans f1
        have g2 := (hb5.frozen (p := ⟨w3.heap.size, 2, none⟩) hPr).trans f2
        have hP5 : w3.heap.size < w5.heap.size := Nat.lt_of_lt_of_le hPr hb5.size
        clear c0 c1 c2 f0 f1 f2
        go_wp2
        go_roundw
        case rel =>
          obtain ⟨r1, r2, r3, r4, r5, r6, r7⟩ := put3 w5 w3.heap.size _ _ _ _ _ _ _ hP5 q0 q1 q2 g0 g1 g2
          refine ⟨k + 1, by omega, by go_num, by rw [nlOf_miss ht'], by rw [lsOf_miss ht'], ?_, ?_, r1, r2, r3.trans ?_, r4.trans ?_, r5, r6, r7⟩
          · exact ((((hbr.trans (hb5.mono hbr.size)).setCell (Nat.le_of_lt hlt3) _).setCell (Nat.le_of_lt hlt3) _).setCell (Nat.le_of_lt hlt3) _).alloc (by have := hbr.size; have := hb5.size; simp; omega) _
          · exact ((((hrr.of_block (hb5.block _ hrr.lt)).setOther (Nat.ne_of_lt hlt3) _).setOther (Nat.ne_of_lt hlt3) _).setOther (Nat.ne_of_lt hlt3) _).alloc _
          · rw [nlOf_miss ht']
          · rw [lsOf_miss ht']; simp
        case measure => simp [intOf]; omega
    · go_wp2
      go_ret
      exact ⟨rfl, hbr⟩

theorem law4_nil (file : ByteArray) (w : World) (h : file.size ≤ 1048576) :
    Calls Try.prog 4 #[.string file, .slice none 0 0] w fun e w' => e = .returned (.bool true) ∧ Below w.heap.size w w' := by
  have d1 : decide ((1048576 : Int) < (file.size : Int)) = false := decide_eq_false (by omega)
  go_enter Try.func4, Try.ntmps4
  go_wp2_with (first
    | (go_at_call 11; refine (fits11_yes _ _ _ _ _ (by omega)).mono ?_; rintro e w' ⟨rfl, rfl⟩)
    | (go_at_call 8; refine (clone_nil _).mono ?_; rintro e w' ⟨rfl, rfl⟩)
    | (go_at_call 10; refine (zzNew_any _ _ _ _ _ _ _ _).mono ?_; rintro e w2 ⟨rfl, rfl⟩)
    | (go_at_call 9; refine (zzPos_new _ _ _ _ _ _ _ _ (by omega) (by omega) (by omega) (by omega)).mono ?_; rintro e w3 ⟨rfl, hb3⟩))
  refine wp_loop_rounds 1 ?_
  rw [rounds_succ]
  go_wp2
  go_ret
  exact ⟨rfl, hb3.alloc hb3.size _⟩
end Go.Proofs.Qxb6604659a
