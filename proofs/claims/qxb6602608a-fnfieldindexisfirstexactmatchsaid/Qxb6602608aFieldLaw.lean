import Derived.Test.Qxb6602608aFieldWalk
namespace Go.Proofs.Qxb6602608a
open Go.ChangeShapes Go.WideShapes Go.ChangeAt Go.RowKit

theorem zzFieldIndex (a : Option Addr) (len cap : Nat) (ss : Nat → ByteArray) (b : Option Addr) (m c : Nat) (z : Nat → Int) (w : World) (hlen : len ≤ 65536) (hz : ∀ j, j < m → 0 ≤ z j ∧ z j ≤ 255)
    (hc : HasRow w a len (fun i => .string (ss i))) (hm : HasRow w b m (fun i => .int .u8 (z i))) :
    Calls Try.prog 17 #[.slice a len cap, .slice b m c] w fun e w' => ∃ r, e = .returned (.int .i64 r) ∧ IsFirstS ss len z m r ∧ Below w.heap.size w w' := by
  have hmk := fun wx => run_make3 (P := Try.prog) 41 44 (.string ⟨#[]⟩) (.slice none 0 0) (.int .i64 0) 48 Try.underlying41 Try.info44 .i64 .i64 len (by omega) (by omega) wx
  go_enter Try.func17, Try.ntmps17
  go_wp2
  go_loopw [6] (fun i wr => ∃ j : Nat, j ≤ len ∧ i = .int .i64 j ∧ wr.rowIs w.heap.size 44 (len * 3) (fldCells ss j) ∧ Below w.heap.size w wr)
    (fun i _ => len - (intOf i).toNat)
  case atStart =>
    refine ⟨0, Nat.zero_le _, rfl, (rowIs_made3 _ _ _ _ _ _).congr fun i hi => ?_, (Below.refl _ _).alloc (Nat.le_refl _) _⟩
    unfold fldCells
    have h3 : i % 3 = 0 ∨ i % 3 = 1 ∨ i % 3 = 2 := by omega
    rcases h3 with h | h | h <;> simp [h]
  case round =>
    obtain ⟨j, hj, rfl, hrow, hb⟩ := hrel
    by_cases hlt : j < len
    · obtain ⟨x, rfl, hck⟩ := (hc.later hb).at hlt
      have q1 := hrow.cell (i := j * 3) (by omega)
      have f1 := hrow.frozen (j * 3)
      go_wp2
      go_roundw
      case rel =>
        refine ⟨j + 1, by omega, by go_num, (hrow.set (j * 3) _).congr fun i hi => ?_, hb.setCell (Nat.le_refl _) _⟩
        by_cases e : i = j * 3
        · subst e; rw [if_pos rfl, fldCells_0 _ _ _ (by omega)]
        · rw [if_neg e]
          unfold fldCells
          by_cases h1 : i % 3 = 0
          · rw [if_pos h1, if_pos h1]
            by_cases h2 : i / 3 < j
            · rw [if_pos h2, if_pos (by omega)]
            · rw [if_neg h2, if_neg (by omega)]
          · rw [if_neg h1, if_neg h1]
      case measure => simp [intOf]; omega
    · have hje : j = len := by omega
      subst hje
      go_wp2_with fail
      refine (fieldIndex_any _ j ss b m c z _ (by omega) hz hrow (hm.later hb)).mono ?_
      rintro e w2 ⟨r, rfl, hf, hb2⟩
      go_wp2
      go_ret
      exact ⟨r, rfl, hf, hb.trans (hb2.mono hb.size)⟩

/-- A bool comes back, and where it is true p holds. -/
def Says (e : Ending) (p : Prop) : Prop := ∃ t : Bool, e = .returned (.bool t) ∧ (t = true → p)
theorem says_no {p : Prop} : Says (.returned (.bool false)) p := ⟨false, rfl, fun h => by cases h⟩
theorem says_yes {p : Prop} (h : p) : Says (.returned (.bool true)) p := ⟨true, rfl, fun _ => h⟩

/-- zzBytes_..: it answers, and writes nothing. -/
theorem fits13 (a : Option Addr) (len cap : Nat) (ss : Nat → ByteArray) (b : Option Addr) (m c : Nat) (w : World) (hlen : len ≤ 9223372036854775807) (hm : m ≤ 9223372036854775807) (hss : ∀ i, i < len → (ss i).size ≤ 9223372036854775807)
    (hc : HasRow w a len (fun i => .string (ss i))) :
    Calls Try.prog 13 #[.slice a len cap, .slice b m c] w fun e w' => Says e True ∧ w' = w := by
  by_cases h1 : 1048576 < len
  · go_enter Try.func13, Try.ntmps13
    go_wp2
    go_ret
    exact ⟨says_no, rfl⟩
  · have d1 : decide ((1048576 : Int) < (len : Int)) = false := decide_eq_false (by omega)
    go_enter Try.func13, Try.ntmps13
    go_wp2
    go_loop [5, 6] (fun n i => ∃ (k : Nat) (t : Int), k ≤ len ∧ 0 ≤ t ∧ t ≤ 1048576 ∧ i = .int .i64 k ∧ n = .int .i64 t) (fun _ i => len - (intOf i).toNat)
    case atStart => exact ⟨0, len, Nat.zero_le _, by omega, by omega, rfl, rfl⟩
    case round =>
      obtain ⟨k, t, hk, ht0, ht1, rfl, rfl⟩ := hrel
      by_cases hlt : k < len
      · obtain ⟨x, rfl, hck⟩ := hc.at hlt
        have hsk := hss k hlt
        by_cases h2 : 1048576 < (ss k).size
        · go_wp2
          go_ret
          exact ⟨says_no, rfl⟩
        · by_cases h3 : 1048576 < t + (ss k).size
          · go_wp2
            go_ret
            exact ⟨says_no, rfl⟩
          · go_wp2
            go_round
            case rel => exact ⟨k + 1, t + (ss k).size, by omega, by omega, by omega, by go_num, by go_num⟩
            case measure => simp [intOf]; omega
      · by_cases h2 : 1048576 < m
        · go_wp2
          go_ret
          exact ⟨says_no, rfl⟩
        · by_cases h3 : 1048576 < t + m
          · go_wp2
            go_ret
            exact ⟨says_no, rfl⟩
          · go_wp2
            go_ret
            exact ⟨says_yes trivial, rfl⟩

/-- zzNamesFit: it answers, and writes nothing; where it says yes the lengths are bounded. -/
theorem fits14 (a : Option Addr) (len cap : Nat) (ss : Nat → ByteArray) (b : Option Addr) (m c : Nat) (w : World) (hlen : len ≤ 9223372036854775807) (hm : m ≤ 9223372036854775807) (hss : ∀ i, i < len → (ss i).size ≤ 9223372036854775807)
    (hc : HasRow w a len (fun i => .string (ss i))) :
    Calls Try.prog 14 #[.slice a len cap, .slice b m c] w fun e w' => Says e (len ≤ 65536 ∧ m ≤ 1048576) ∧ w' = w := by
  by_cases h1 : 65536 < len
  · go_enter Try.func14, Try.ntmps14
    go_wp2
    go_ret
    exact ⟨says_no, rfl⟩
  · by_cases h2 : 1048576 < m
    · go_enter Try.func14, Try.ntmps14
      go_wp2
      go_ret
      exact ⟨says_no, rfl⟩
    · by_cases h3 : 1048576 < 16 * len + m
      · go_enter Try.func14, Try.ntmps14
        go_wp2
        go_ret
        exact ⟨says_no, rfl⟩
      · have d1 : decide ((65536 : Int) < (len : Int)) = false := decide_eq_false (by omega)
        have d2 : decide ((1048576 : Int) < (m : Int)) = false := decide_eq_false (by omega)
        have d3 : decide ((1048576 : Int) < 16 * (len : Int) + (m : Int)) = false := decide_eq_false (by omega)
        go_enter Try.func14, Try.ntmps14
        go_wp2
        go_loop [5, 6] (fun n i => ∃ (k : Nat) (t : Int), k ≤ len ∧ 0 ≤ t ∧ t ≤ 1048576 ∧ i = .int .i64 k ∧ n = .int .i64 t) (fun _ i => len - (intOf i).toNat)
        case atStart => exact ⟨0, 16 * len + m, Nat.zero_le _, by omega, by omega, rfl, rfl⟩
        case round =>
          obtain ⟨k, t, hk, ht0, ht1, rfl, rfl⟩ := hrel
          by_cases hlt : k < len
          · obtain ⟨x, rfl, hck⟩ := hc.at hlt
            have hsk := hss k hlt
            by_cases h4 : 1048576 < (ss k).size
            · go_wp2
              go_ret
              exact ⟨says_no, rfl⟩
            · by_cases h5 : 1048576 < t + (ss k).size
              · go_wp2
                go_ret
                exact ⟨says_no, rfl⟩
              · go_wp2
                go_round
                case rel => exact ⟨k + 1, t + (ss k).size, by omega, by omega, by omega, by go_num, by go_num⟩
                case measure => simp [intOf]; omega
          · go_wp2
            go_ret
            exact ⟨says_yes ⟨by omega, by omega⟩, rfl⟩

theorem law5_any (a : Option Addr) (len cap : Nat) (ss : Nat → ByteArray) (b : Option Addr) (m c : Nat) (z : Nat → Int) (w : World) (hlen : len ≤ 9223372036854775807) (hm : m ≤ 9223372036854775807)
    (hss : ∀ i, i < len → (ss i).size ≤ 9223372036854775807) (hz : ∀ j, j < m → 0 ≤ z j ∧ z j ≤ 255) (hna : a = none → len = 0 ∧ cap = 0) (hnb : b = none → m = 0 ∧ c = 0)
    (hc : HasRow w a len (fun i => .string (ss i))) (hd : HasRow w b m (fun i => .int .u8 (z i))) :
    Calls Try.prog 5 #[.slice a len cap, .slice b m c] w fun e w' => e = .returned (.bool true) ∧ Below w.heap.size w w' := by
  have HS : Hid (∀ i, i < len → (ss i).size ≤ 9223372036854775807) := hss
  have HZ : Hid (∀ j, j < m → 0 ≤ z j ∧ z j ≤ 255) := hz
  clear hss hz
  go_enter Try.func5, Try.ntmps5
  go_wp2_with fail
  refine (fits13 a len cap ss b m c _ hlen hm HS.out hc).mono ?_
  rintro e w' ⟨⟨t, rfl, -⟩, rfl⟩
  cases t
  · go_wp2
    go_ret
    exact ⟨rfl, Below.refl _ _⟩
  go_wp2_with fail
  refine (fits14 a len cap ss b m c _ hlen hm HS.out hc).mono ?_
  rintro e w' ⟨⟨t, rfl, hfit⟩, rfl⟩
  cases t
  · go_wp2
    go_ret
    exact ⟨rfl, Below.refl _ _⟩
  obtain ⟨hl, hm1⟩ := hfit rfl
  clear hfit
  go_wp2_with fail
  refine (cloneStrings a len cap ss _ (by omega) hna hc).mono ?_
  rintro e w1 ⟨a', rfl, hc1, hb1⟩
  go_wp2_with fail
  refine (cloneBytes b m c z _ (by omega) hnb (hd.later hb1)).mono ?_
  rintro e w2 ⟨b', rfl, hd2, hb2⟩
  go_wp2_with fail
  refine (zzFieldIndex a' len len ss b' m m z _ (by omega) HZ.out (hc1.later hb2) hd2).mono ?_
  rintro e w3 ⟨r, rfl, hf, hb3⟩
  have hc3 := (hc1.later hb2).later hb3
  have hd3 := hd2.later hb3
  have hB := (hb1.trans (hb2.mono hb1.size)).trans (hb3.mono (Nat.le_trans hb1.size hb2.size))
  clear hc hc1 hd hd2 hb1 hb2 hb3 hna hnb
  rcases hf with ⟨rfl, hno⟩ | ⟨j, hj, rfl, hv, hno⟩
  · have d2 : decide ((len : Int) ≤ -1) = false := decide_eq_false (by omega)
    have HN : Hid (∀ i, i < len → ¬ SameS (ss i) z m) := hno
    clear hno
    go_wp2
    go_loopw [7] (fun s wr => ∃ i : Nat, i ≤ len ∧ s = .int .i64 i ∧ Below w3.heap.size w3 wr) (fun s _ => len - (intOf s).toNat)
    case atStart => exact ⟨0, Nat.zero_le _, rfl, Below.refl _ _⟩
    case round =>
      obtain ⟨i, hi, rfl, hbr⟩ := hrel
      by_cases hlt : i < len
      · obtain ⟨x, rfl, hck⟩ := (hc3.later hbr).at hlt
        go_wp2_with fail
        refine (sameBytes_any (ss i) b' m m z _ (HS.out i hlt) hm1 (hd3.later hbr)).mono ?_
        rintro e w5 ⟨t, rfl, ht, hb5⟩
        cases t
        · go_wp2
          go_roundw
          case rel => exact ⟨i + 1, by omega, by go_num, hbr.trans (hb5.mono hbr.size)⟩
          case measure => simp [intOf]; omega
        · exact absurd (ht.1 rfl) (HN.out i hlt)
      · go_wp2
        go_ret
        exact ⟨rfl, hB.trans (hbr.mono hB.size)⟩
  · obtain ⟨x, rfl, hck⟩ := hc3.at hj
    have HN : Hid (∀ i, i < j → ¬ SameS (ss i) z m) := hno
    have HV : Hid (SameS (ss j) z m) := hv
    clear hno hv
    go_wp2_with fail
    refine (sameBytes_any (ss j) b' m m z _ (HS.out j hj) hm1 hd3).mono ?_
    rintro e w4 ⟨t, rfl, ht, hb4⟩
    obtain rfl : t = true := ht.2 HV.out
    clear ht
    go_wp2
    go_loopw [7] (fun s wr => ∃ i : Nat, i ≤ j ∧ s = .int .i64 i ∧ Below w3.heap.size w3 wr) (fun s _ => j - (intOf s).toNat)
    case atStart => exact ⟨0, Nat.zero_le _, rfl, hb4⟩
    case round =>
      obtain ⟨i, hi, rfl, hbr⟩ := hrel
      by_cases hlt : i < j
      · obtain ⟨y, hy, hci⟩ := (hc3.later hbr).at (i := i) (by omega)
        simp only [Option.some.injEq] at hy
        subst hy
        go_wp2_with fail
        refine (sameBytes_any (ss i) b' m m z _ (HS.out i (by omega)) hm1 (hd3.later hbr)).mono ?_
        rintro e w5 ⟨t, rfl, ht, hb5⟩
        cases t
        · go_wp2
          go_roundw
          case rel => exact ⟨i + 1, by omega, by go_num, hbr.trans (hb5.mono hbr.size)⟩
          case measure => simp [intOf]; omega
        · exact absurd (ht.1 rfl) (HN.out i hlt)
      · go_wp2
        go_ret
        exact ⟨rfl, hB.trans (hbr.mono hB.size)⟩
end Go.Proofs.Qxb6602608a
