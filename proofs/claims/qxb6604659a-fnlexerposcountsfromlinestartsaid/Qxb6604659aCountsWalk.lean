import Derived.Test.Qxb6604659aPosWalk
import Derived.Test.Qxb6604659aLinePlain
namespace Go.Proofs.Qxb6604659a
open Go.ChangeShapes Go.WideShapes Go.ChangeAt Go.RowKit

theorem fits7_yes (file : ByteArray) (a : Option Addr) (len cap : Nat) (n : Int) (w : World) (h : file.size + len ≤ 1048576) :
    Calls Try.prog 7 #[.string file, .slice a len cap, .int .i64 n] w fun e w' => e = .returned (.bool true) ∧ w' = w := by
  go_enter Try.func7, Try.ntmps7
  go_wp2
  go_ret
  exact ⟨rfl, rfl⟩
theorem fits7_no (file : ByteArray) (a : Option Addr) (len cap : Nat) (n : Int) (w : World) (hf : file.size ≤ 9223372036854775807) (hl : len ≤ 9223372036854775807) (h : 1048576 < file.size + len) :
    Calls Try.prog 7 #[.string file, .slice a len cap, .int .i64 n] w fun e w' => e = .returned (.bool false) ∧ w' = w := by
  by_cases h1 : 1048576 < file.size
  · go_enter Try.func7, Try.ntmps7
    go_wp2
    go_ret
    exact ⟨rfl, rfl⟩
  · by_cases h2 : 1048576 < len
    · go_enter Try.func7, Try.ntmps7
      go_wp2
      go_ret
      exact ⟨rfl, rfl⟩
    · go_enter Try.func7, Try.ntmps7
      go_wp2
      go_ret
      exact ⟨rfl, rfl⟩

theorem law3_no (file : ByteArray) (a : Option Addr) (len cap : Nat) (n : Int) (w : World) (hf : file.size ≤ 9223372036854775807) (hl : len ≤ 9223372036854775807) (h : 1048576 < file.size + len) :
    Calls Try.prog 3 #[.string file, .slice a len cap, .int .i64 n] w fun e w' => e = .returned (.bool true) ∧ w' = w := by
  go_enter Try.func3, Try.ntmps3
  go_wp2_with (go_at_call 7; refine (fits7_no _ _ _ _ _ _ hf hl h).mono ?_; rintro e w' ⟨rfl, rfl⟩)
  go_ret
  exact ⟨rfl, rfl⟩

theorem law3_out (file : ByteArray) (a : Option Addr) (len cap : Nat) (n : Int) (w : World) (h : file.size + len ≤ 1048576) (hn : n < 0 ∨ len < n) :
    Calls Try.prog 3 #[.string file, .slice a len cap, .int .i64 n] w fun e w' => e = .returned (.bool true) ∧ w' = w := by
  rcases hn with hn | hn
  · go_enter Try.func3, Try.ntmps3
    go_wp2_with (go_at_call 7; refine (fits7_yes _ _ _ _ _ _ h).mono ?_; rintro e w' ⟨rfl, rfl⟩)
    go_ret
    exact ⟨rfl, rfl⟩
  · go_enter Try.func3, Try.ntmps3
    go_wp2_with (go_at_call 7; refine (fits7_yes _ _ _ _ _ _ h).mono ?_; rintro e w' ⟨rfl, rfl⟩)
    go_ret
    exact ⟨rfl, rfl⟩

theorem law3_row (file : ByteArray) (x : Addr) (len cap n : Nat) (z : Nat → Int) (w : World) (h : file.size + len ≤ 1048576) (hn : n ≤ len)
    (hc : ∀ i, i < len → w.cell? (x.add i) = some (.int .u8 (z i))) :
    Calls Try.prog 3 #[.string file, .slice (some x) len cap, .int .i64 n] w fun e w' => e = .returned (.bool true) ∧ Below w.heap.size w w' := by
  have d1 : decide ((1048576 : Int) < (file.size : Int)) = false := decide_eq_false (by omega)
  have d2 : decide ((1048576 : Int) < (len : Int)) = false := decide_eq_false (by omega)
  have d3 : decide ((1048576 : Int) < (file.size : Int) + (len : Int)) = false := decide_eq_false (by omega)
  have d4 : decide ((n : Int) < 0) = false := decide_eq_false (by omega)
  have d5 : decide ((len : Int) < (n : Int)) = false := decide_eq_false (by omega)
  have d6 : decide (len < n) = false := decide_eq_false (by omega)
  go_enter Try.func3, Try.ntmps3
  go_wp2_with (first
    | (go_at_call 7; refine (fits7_yes _ _ _ _ _ _ h).mono ?_; rintro e w' ⟨rfl, rfl⟩)
    | fail)
  clear d1 d2 d3 d4 d5 d6
  refine (clone_row x len cap z _ (by omega) hc).mono ?_
  rintro e w1 ⟨rfl, hrow, hb⟩
  go_wp2
  go_loop [7, 8, 9] (fun l s i => ∃ k : Nat, k ≤ n ∧ i = .int .i64 k ∧ l = .int .i64 (1 + nlOf z k) ∧ s = .int .i64 (lsOf z k)) (fun _ _ i => n - (intOf i).toNat)
  case atStart => exact ⟨0, Nat.zero_le _, rfl, rfl, rfl⟩
  case round =>
    obtain ⟨k, hk, rfl, rfl, rfl⟩ := hrel
    have hnl := nlOf_le z k
    have hls := lsOf_le z k
    by_cases hlt : k < n
    · have hcell := hrow.cell (i := k) (by omega)
      by_cases ht : (z k == 10) = true
      · go_wp2
        go_round
        case rel => exact ⟨k + 1, by omega, by go_num, by rw [nlOf_hit ht]; go_num, by rw [lsOf_hit ht]; go_num⟩
        case measure => simp [intOf]; omega
      · have ht' : (z k == 10) = false := by simpa using ht
        go_wp2
        go_round
        case rel => exact ⟨k + 1, by omega, by go_num, by rw [nlOf_miss ht'], by rw [lsOf_miss ht']⟩
        case measure => simp [intOf]; omega
    · have hkn : k = n := by omega
      subst hkn
      go_wp2
      go_loop [10, 11] (fun c j => ∃ m : Nat, lsOf z k ≤ m ∧ m ≤ k ∧ j = .int .i64 m ∧ c = .int .i64 ((k : Int) - m + 1)) (fun _ j => (intOf j).toNat)
      case atStart => exact ⟨k, hls, Nat.le_refl _, rfl, by go_num⟩
      case round =>
        obtain ⟨m, hm1, hm2, rfl, rfl⟩ := hrel
        by_cases hgo : lsOf z k < m
        · obtain ⟨q, rfl⟩ : ∃ q, m = q + 1 := ⟨m - 1, by omega⟩
          have hz := lsOf_none z k q (by omega) (by omega)
          have hz' : (z q != 10) = true := by rw [bne, hz]; rfl
          have hcell := hrow.cell (i := q) (by omega)
          go_wp2
          go_round
          case rel => exact ⟨q, by omega, by omega, rfl, by go_num⟩
          case measure => simp [intOf]
        · have HM : Hid (m = lsOf z k) := (by omega : m = lsOf z k)
          have hex : (m = 0) ∨ ∃ q, m = q + 1 ∧ (z q == 10) = true := by
            rcases m with _ | q
            · exact .inl rfl
            · exact .inr ⟨q, rfl, lsOf_start z k q (by rw [← HM.out])⟩
          have heq : (k : Int) - (lsOf z k : Int) + 1 = (k : Int) - (m : Int) + 1 := by rw [HM.out]
          rcases hex with rfl | ⟨q, rfl, hz⟩
          · go_wp2_with (first
              | (go_at_call 10; refine (zzNew_any _ _ _ _ _ _ _ _).mono ?_; rintro e w2 ⟨rfl, rfl⟩)
              | (go_at_call 9; refine (zzPos_new _ _ _ _ _ _ _ _ (by omega) (by omega) (by omega) (by omega)).mono ?_; rintro e w3 ⟨rfl, hb3⟩))
            go_ret
            exact ⟨rfl, (hb.trans (hb3.mono hb.size)).alloc (Nat.le_trans hb.size hb3.size) _⟩
          · have hz' : (z q != 10) = false := by rw [bne, hz]; rfl
            have hcell := hrow.cell (i := q) (by omega)
            go_wp2_with (first
              | (go_at_call 10; refine (zzNew_any _ _ _ _ _ _ _ _).mono ?_; rintro e w2 ⟨rfl, rfl⟩)
              | (go_at_call 9; refine (zzPos_new _ _ _ _ _ _ _ _ (by omega) (by omega) (by omega) (by omega)).mono ?_; rintro e w3 ⟨rfl, hb3⟩))
            go_ret
            exact ⟨rfl, (hb.trans (hb3.mono hb.size)).alloc (Nat.le_trans hb.size hb3.size) _⟩

theorem law3_nil (file : ByteArray) (w : World) (h : file.size ≤ 1048576) :
    Calls Try.prog 3 #[.string file, .slice none 0 0, .int .i64 0] w fun e w' => e = .returned (.bool true) ∧ Below w.heap.size w w' := by
  have d1 : decide ((1048576 : Int) < (file.size : Int)) = false := decide_eq_false (by omega)
  go_enter Try.func3, Try.ntmps3
  go_wp2_with (first
    | (go_at_call 7; refine (fits7_yes _ _ _ _ _ _ (by omega)).mono ?_; rintro e w' ⟨rfl, rfl⟩)
    | (go_at_call 8; refine (clone_nil _).mono ?_; rintro e w' ⟨rfl, rfl⟩))
  refine wp_loop_rounds 1 ?_
  rw [rounds_succ]
  go_wp2
  refine wp_loop_rounds 1 ?_
  rw [rounds_succ]
  go_wp2_with (first
    | (go_at_call 10; refine (zzNew_any _ _ _ _ _ _ _ _).mono ?_; rintro e w2 ⟨rfl, rfl⟩)
    | (go_at_call 9; refine (zzPos_new _ _ _ _ _ _ _ _ (by omega) (by omega) (by omega) (by omega)).mono ?_; rintro e w3 ⟨rfl, hb3⟩))
  go_ret
  exact ⟨rfl, hb3.alloc hb3.size _⟩
end Go.Proofs.Qxb6604659a
