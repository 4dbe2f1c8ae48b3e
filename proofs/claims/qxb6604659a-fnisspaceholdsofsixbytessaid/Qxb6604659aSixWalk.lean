import Derived.Test.Qxb6604659aSpaceWalk
namespace Go.Proofs.Qxb6604659a
open Go.ChangeShapes Go.WideShapes Go.ChangeAt Go.RowKit

def cnt : Nat → Int
  | 0 => 0
  | k + 1 => if spB k = true then cnt k + 1 else cnt k
def sm : Nat → Int
  | 0 => 0
  | k + 1 => if spB k = true then sm k + k else sm k
def lst : Nat → Int
  | 0 => 256
  | k + 1 => if spB k = true then (if (k : Int) < lst k then (k : Int) else lst k) else lst k
def mst : Nat → Int
  | 0 => -1
  | k + 1 => if spB k = true then (if mst k < (k : Int) then (k : Int) else mst k) else mst k
theorem cnt_bd (k : Nat) : 0 ≤ cnt k ∧ cnt k ≤ k := by
  induction k with
  | zero => simp [cnt]
  | succ k ih => unfold cnt; split <;> omega
theorem sm_bd (k : Nat) (h : k ≤ 256) : 0 ≤ sm k ∧ sm k ≤ 256 * k := by
  induction k with
  | zero => simp [sm]
  | succ k ih => have := ih (by omega); unfold sm; split <;> omega
theorem ends : cnt 256 = 6 ∧ sm 256 = 87 ∧ lst 256 = 9 ∧ mst 256 = 32 := by
  refine ⟨?_, ?_, ?_, ?_⟩ <;> decide +kernel

set_option maxRecDepth 20000 in
theorem law6 (w : World) :
    Calls Try.prog 6 #[] w fun e w' => e = .returned (.bool true) ∧ w' = w := by
  go_enter Try.func6, Try.ntmps6
  go_wp2
  go_loop [1, 2, 3, 4, 5] (fun c s l m i => ∃ k : Nat, k ≤ 256 ∧ i = .int .i64 k ∧ c = .int .i64 (cnt k) ∧ s = .int .i64 (sm k) ∧ l = .int .i64 (lst k) ∧ m = .int .i64 (mst k))
      (fun _ _ _ _ i => 256 - (intOf i).toNat)
  case atStart => exact ⟨0, Nat.zero_le _, rfl, rfl, rfl, rfl, rfl⟩
  case round =>
    obtain ⟨k, hk, rfl, rfl, rfl, rfl, rfl⟩ := hrel
    have hc := cnt_bd k
    have hs := sm_bd k hk
    have HC : Hid (cnt (k + 1) = if spB k = true then cnt k + 1 else cnt k) := rfl
    have HS : Hid (sm (k + 1) = if spB k = true then sm k + k else sm k) := rfl
    have HL : Hid (lst (k + 1) = if spB k = true then (if (k : Int) < lst k then (k : Int) else lst k) else lst k) := rfl
    have HM : Hid (mst (k + 1) = if spB k = true then (if mst k < (k : Int) then (k : Int) else mst k) else mst k) := rfl
    by_cases hlt : k < 256
    · by_cases hsp : spB k = true
      · by_cases hl : (k : Int) < lst k
        all_goals by_cases hm : mst k < (k : Int)
        all_goals
          go_wp2_with (go_at_call 12; refine (zzIsSpace_any _ _).mono ?_; rintro e w' ⟨rfl, rfl⟩)
          go_round
          case rel =>
            refine ⟨k + 1, by omega, by go_num, ?_, ?_, ?_, ?_⟩
            · rw [HC.out, if_pos hsp]
            · rw [HS.out, if_pos hsp]
            · rw [HL.out, if_pos hsp]; first | rw [if_pos hl] | rw [if_neg (by omega)]
            · rw [HM.out, if_pos hsp]; first | rw [if_pos hm] | rw [if_neg (by omega)]
          case measure => simp [intOf]; omega
      · have hsf : spB k = false := by simpa using hsp
        go_wp2_with (go_at_call 12; refine (zzIsSpace_any _ _).mono ?_; rintro e w' ⟨rfl, rfl⟩)
        go_round
        case rel =>
          refine ⟨k + 1, by omega, by go_num, ?_, ?_, ?_, ?_⟩
          · rw [HC.out, if_neg hsp]
          · rw [HS.out, if_neg hsp]
          · rw [HL.out, if_neg hsp]
          · rw [HM.out, if_neg hsp]
        case measure => simp [intOf]; omega
    · have hk' : k = 256 := by omega
      subst hk'
      obtain ⟨e1, e2, e3, e4⟩ := ends
      go_wp2
      go_ret
      exact ⟨rfl, rfl⟩
end Go.Proofs.Qxb6604659a
