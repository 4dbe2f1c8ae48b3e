import Derived.Test.Qxb6602608aRows
import Derived.Test.Qxb6602608aRowKit
namespace Go.Proofs.Qxb6602608a
open Go.ChangeShapes Go.WideShapes Go.ChangeAt Go.RowKit

theorem Try.info3 : (Try.prog.info? 3).map (fun i => (i.zero, i.size, i.bytes)) = some (some (.int .i64 0), 1, 8) := by kernel_rfl
theorem Try.info39 : (Try.prog.info? 39).map (fun i => (i.zero, i.size, i.bytes)) = some (some (.agg #[.slice none 0 0, .int .i64 0, .slice none 0 0]), 3, 56) := by kernel_rfl

/-- zzCloneInts. -/
theorem cloneInts (a : Option Addr) (len cap : Nat) (v : Nat → Int) (w : World) (hlen : len ≤ 1048576) (hnil : a = none → len = 0 ∧ cap = 0)
    (hc : HasRow w a len (fun i => .int .i64 (v i))) :
    Calls Try.prog 10 #[.slice a len cap] w fun e w' => ∃ a', e = .returned (.slice a' len len) ∧ HasRow w' a' len (fun i => .int .i64 (v i)) ∧ Below w.heap.size w w' := by
  have hn := fun (wx : World) (a : Option Addr) (n c n' c' : Nat) => Lib.run_eql_slice_nil (P := Try.prog) wx 22 3 a n c n' c' Try.underlying22
  rcases a with _ | x
  · obtain ⟨rfl, rfl⟩ := hnil rfl
    go_enter Try.func10, Try.ntmps10
    go_wp2
    go_ret
    exact ⟨none, rfl, .inl rfl, Below.refl _ _⟩
  · have hmk := fun wx => run_make_row' (P := Try.prog) 22 3 (.int .i64 0) 8 Try.underlying22 Try.info3 rfl .i64 .i64 len (by omega) (by omega) wx
    go_enter Try.func10, Try.ntmps10
    go_wp2
    go_loopw [4] (fun i wr => ∃ k : Nat, k ≤ len ∧ i = .int .i64 k ∧ wr.rowIs w.heap.size 3 len (fun j => if j < k then .int .i64 (v j) else .int .i64 0) ∧ Below w.heap.size w wr)
      (fun i _ => len - (intOf i).toNat)
    case atStart => exact ⟨0, Nat.zero_le _, rfl, World.rowIs_made _ _ _ _, (Below.refl _ _).alloc (Nat.le_refl _) _⟩
    case round =>
      obtain ⟨k, hk, rfl, hrow, hb⟩ := hrel
      by_cases hlt : k < len
      · obtain ⟨y, hy, hck⟩ := (hc.later hb).at hlt
        simp only [Option.some.injEq] at hy
        subst hy
        have hcg := hrow.cell hlt
        have hfg := hrow.frozen k
        go_wp2
        go_roundw
        case rel =>
          refine ⟨k + 1, by omega, by go_num, (hrow.set k _).congr fun j hj => ?_, hb.setCell (Nat.le_refl _) _⟩
          by_cases e : j = k
          · subst e; simp
          · by_cases e2 : j < k
            · rw [if_neg e, if_pos e2, if_pos (by omega)]
            · rw [if_neg e, if_neg e2, if_neg (by omega)]
        case measure => simp [intOf]; omega
      · go_wp2
        go_ret
        exact ⟨_, rfl, HasRow.of_rowIs (hrow.congr fun j hj => by rw [if_pos (by omega)]), hb⟩

/-- r is the first index below n at which v is k; or -1, and there is none. -/
def IsFirst (v : Nat → Int) (n : Nat) (k r : Int) : Prop :=
  (r = -1 ∧ ∀ i, i < n → ¬ v i = k) ∨ ∃ j : Nat, j < n ∧ r = j ∧ v j = k ∧ ∀ i, i < j → ¬ v i = k

/-- The cells of a row of members. -/
def memCells (v : Nat → Int) (n i : Nat) : Value := if i % 3 = 1 then (if i / 3 < n then .int .i64 (v (i / 3)) else .int .i64 0) else .slice none 0 0

theorem memCells_0 (v : Nat → Int) (n j : Nat) : memCells v n (j * 3) = .slice none 0 0 := by
  unfold memCells; rw [if_neg (by omega)]
theorem memCells_1 (v : Nat → Int) (n j : Nat) (h : j < n) : memCells v n (j * 3 + 1) = .int .i64 (v j) := by
  unfold memCells; rw [if_pos (by omega), show (j * 3 + 1) / 3 = j from by omega, if_pos h]
theorem memCells_2 (v : Nat → Int) (n j : Nat) : memCells v n (j * 3 + 2) = .slice none 0 0 := by
  unfold memCells; rw [if_neg (by omega)]

theorem memberIndex_any (g n : Nat) (v : Nat → Int) (k : Int) (w : World) (hn : n ≤ 65536) (hr : w.rowIs g 39 (n * 3) (memCells v n)) :
    Calls Try.prog 24 #[.slice (some ⟨g, 0, none⟩) n n, .int .i64 k] w fun e w' => ∃ r, e = .returned (.int .i64 r) ∧ IsFirst v n k r ∧ Below w.heap.size w w' := by
  go_enter Try.func24, Try.ntmps24
  go_wp2
  go_loopw [9] (fun i wr => ∃ j : Nat, j ≤ n ∧ i = .int .i64 j ∧ (∀ i, i < j → ¬ v i = k) ∧ Below w.heap.size w wr) (fun i _ => n - (intOf i).toNat)
  case atStart => exact ⟨0, Nat.zero_le _, rfl, fun i hi => absurd hi (by omega), Below.refl _ _⟩
  case round =>
    obtain ⟨j, hj, rfl, hno, hb⟩ := hrel
    by_cases hlt : j < n
    · have hrr := hr.of_block (hb.block _ hr.lt)
      have q0 := hrr.cell (i := j * 3) (by omega)
      have q1 := hrr.cell (i := j * 3 + 1) (by omega)
      have q2 := hrr.cell (i := j * 3 + 2) (by omega)
      rw [memCells_0] at q0
      rw [memCells_1 _ _ _ hlt] at q1
      rw [memCells_2] at q2
      by_cases hv : (v j == k) = true
      · go_wp2
        go_ret
        exact ⟨j, rfl, .inr ⟨j, hlt, rfl, by simpa using hv, hno⟩, hb.alloc hb.size _⟩
      · have hv' : (v j == k) = false := by simpa using hv
        go_wp2
        go_roundw
        case rel =>
          refine ⟨j + 1, by omega, by go_num, fun i hi => ?_, hb.alloc hb.size _⟩
          by_cases e : i = j
          · subst e; simpa using hv'
          · exact hno i (by omega)
        case measure => simp [intOf]; omega
    · go_wp2
      go_ret
      exact ⟨-1, rfl, .inl ⟨rfl, fun i hi => hno i (by omega)⟩, hb⟩

theorem zzMemberIndex (a : Option Addr) (len cap : Nat) (v : Nat → Int) (k : Int) (w : World) (hlen : len ≤ 65536)
    (hc : HasRow w a len (fun i => .int .i64 (v i))) :
    Calls Try.prog 11 #[.slice a len cap, .int .i64 k] w fun e w' => ∃ r, e = .returned (.int .i64 r) ∧ IsFirst v len k r ∧ Below w.heap.size w w' := by
  have hmk := fun wx => run_make3 (P := Try.prog) 37 39 (.slice none 0 0) (.int .i64 0) (.slice none 0 0) 56 Try.underlying37 Try.info39 .i64 .i64 len (by omega) (by omega) wx
  go_enter Try.func11, Try.ntmps11
  go_wp2
  go_loopw [6] (fun i wr => ∃ j : Nat, j ≤ len ∧ i = .int .i64 j ∧ wr.rowIs w.heap.size 39 (len * 3) (memCells v j) ∧ Below w.heap.size w wr)
    (fun i _ => len - (intOf i).toNat)
  case atStart =>
    refine ⟨0, Nat.zero_le _, rfl, (rowIs_made3 _ _ _ _ _ _).congr fun i hi => ?_, (Below.refl _ _).alloc (Nat.le_refl _) _⟩
    unfold memCells
    have h3 : i % 3 = 0 ∨ i % 3 = 1 ∨ i % 3 = 2 := by omega
    rcases h3 with h | h | h <;> simp [h]
  case round =>
    obtain ⟨j, hj, rfl, hrow, hb⟩ := hrel
    by_cases hlt : j < len
    · obtain ⟨x, rfl, hck⟩ := (hc.later hb).at hlt
      have q1 := hrow.cell (i := j * 3 + 1) (by omega)
      have f1 := hrow.frozen (j * 3 + 1)
      go_wp2
      go_roundw
      case rel =>
        refine ⟨j + 1, by omega, by go_num, (hrow.set (j * 3 + 1) _).congr fun i hi => ?_, hb.setCell (Nat.le_refl _) _⟩
        by_cases e : i = j * 3 + 1
        · subst e; rw [if_pos rfl, memCells_1 _ _ _ (by omega)]
        · rw [if_neg e]
          unfold memCells
          by_cases h1 : i % 3 = 1
          · rw [if_pos h1, if_pos h1]
            by_cases h2 : i / 3 < j
            · rw [if_pos h2, if_pos (by omega)]
            · rw [if_neg h2, if_neg (by omega)]
          · rw [if_neg h1, if_neg h1]
      case measure => simp [intOf]; omega
    · have hje : j = len := by omega
      subst hje
      go_wp2_with fail
      refine (memberIndex_any _ j v k _ (by omega) hrow).mono ?_
      rintro e w2 ⟨r, rfl, hf, hb2⟩
      go_wp2
      go_ret
      exact ⟨r, rfl, hf, hb.trans (hb2.mono hb.size)⟩

theorem fits9_yes (a : Option Addr) (len cap : Nat) (k : Int) (w : World) (h : len ≤ 1048576) :
    Calls Try.prog 9 #[.slice a len cap, .int .i64 k] w fun e w' => e = .returned (.bool true) ∧ w' = w := by
  go_enter Try.func9, Try.ntmps9
  go_wp2
  go_ret
  exact ⟨rfl, rfl⟩
theorem fits9_no (a : Option Addr) (len cap : Nat) (k : Int) (w : World) (hl : len ≤ 9223372036854775807) (h : 1048576 < len) :
    Calls Try.prog 9 #[.slice a len cap, .int .i64 k] w fun e w' => e = .returned (.bool false) ∧ w' = w := by
  go_enter Try.func9, Try.ntmps9
  go_wp2
  go_ret
  exact ⟨rfl, rfl⟩

theorem law3_no (a : Option Addr) (len cap : Nat) (k : Int) (w : World) (hl : len ≤ 9223372036854775807) (h : 65536 < len) :
    Calls Try.prog 3 #[.slice a len cap, .int .i64 k] w fun e w' => e = .returned (.bool true) ∧ w' = w := by
  by_cases h2 : 1048576 < len
  · go_enter Try.func3, Try.ntmps3
    go_wp2_with (go_at_call 9; refine (fits9_no _ _ _ _ _ hl h2).mono ?_; rintro e w' ⟨rfl, rfl⟩)
    go_ret
    exact ⟨rfl, rfl⟩
  · go_enter Try.func3, Try.ntmps3
    go_wp2_with (go_at_call 9; refine (fits9_yes _ _ _ _ _ (by omega)).mono ?_; rintro e w' ⟨rfl, rfl⟩)
    go_ret
    exact ⟨rfl, rfl⟩

theorem law3_yes (a : Option Addr) (len cap : Nat) (v : Nat → Int) (k : Int) (w : World) (h : len ≤ 65536) (hnil : a = none → len = 0 ∧ cap = 0)
    (hc : HasRow w a len (fun i => .int .i64 (v i))) :
    Calls Try.prog 3 #[.slice a len cap, .int .i64 k] w fun e w' => e = .returned (.bool true) ∧ Below w.heap.size w w' := by
  have d1 : decide ((65536 : Int) < (len : Int)) = false := decide_eq_false (by omega)
  go_enter Try.func3, Try.ntmps3
  go_wp2_with (go_at_call 9; refine (fits9_yes _ _ _ _ _ (by omega)).mono ?_; rintro e w' ⟨rfl, rfl⟩)
  clear d1
  refine (cloneInts a len cap v _ (by omega) hnil hc).mono ?_
  rintro e w1 ⟨a', rfl, hc1, hb1⟩
  go_wp2_with fail
  refine (zzMemberIndex a' len len v k _ (by omega) hc1).mono ?_
  rintro e w2 ⟨r, rfl, hf, hb2⟩
  have hc2 := hc1.later hb2
  have hB := hb1.trans (hb2.mono hb1.size)
  clear hc hc1 hb1 hb2 hnil
  rcases hf with ⟨rfl, hno⟩ | ⟨j, hj, rfl, hv, hno⟩
  · have d2 : decide ((len : Int) ≤ -1) = false := decide_eq_false (by omega)
    have HN : Hid (∀ i, i < len → ¬ v i = k) := hno
    clear hno
    go_wp2
    go_loop [7] (fun s => ∃ i : Nat, i ≤ len ∧ s = .int .i64 i) (fun s => len - (intOf s).toNat)
    case atStart => exact ⟨0, Nat.zero_le _, rfl⟩
    case round =>
      obtain ⟨i, hi, rfl⟩ := hrel
      by_cases hlt : i < len
      · obtain ⟨x, rfl, hck⟩ := hc2.at hlt
        have hz : (v i == k) = false := by simpa using HN.out i hlt
        go_wp2
        go_round
        case rel => exact ⟨i + 1, by omega, by go_num⟩
        case measure => simp [intOf]; omega
      · go_wp2
        go_ret
        exact ⟨rfl, hB⟩
  · obtain ⟨x, rfl, hck⟩ := hc2.at hj
    have hz : (v j != k) = false := by simpa using hv
    have HN : Hid (∀ i, i < j → ¬ v i = k) := hno
    have HV : Hid (v j = k) := hv
    clear hno hv
    go_wp2
    go_loop [7] (fun s => ∃ i : Nat, i ≤ j ∧ s = .int .i64 i) (fun s => j - (intOf s).toNat)
    case atStart => exact ⟨0, Nat.zero_le _, rfl⟩
    case round =>
      obtain ⟨i, hi, rfl⟩ := hrel
      by_cases hlt : i < j
      · obtain ⟨y, hy, hci⟩ := hc2.at (i := i) (by omega)
        simp only [Option.some.injEq] at hy
        subst hy
        have hzi : (v i == k) = false := by simpa using HN.out i hlt
        go_wp2
        go_round
        case rel => exact ⟨i + 1, by omega, by go_num⟩
        case measure => simp [intOf]; omega
      · go_wp2
        go_ret
        exact ⟨rfl, hB⟩
end Go.Proofs.Qxb6602608a
