import Derived.Test.Qxb6602608aCloneWalk
import Derived.Laws.BytesArg
import Derived.BigQuiet
import Derived.Deep.QuietTactic
import Derived.WalkSmall
namespace Go.Proofs.Qxb6602608a
open Go.ChangeShapes Go.WideShapes Go.ChangeAt Go.RowKit

/-- The string s is, byte for byte, the m numbers z 0 .. -/
def SameS (s : ByteArray) (z : Nat → Int) (m : Nat) : Prop := s.size = m ∧ ∀ j (h : j < s.size), (s[j].toNat : Int) = z j
/-- The bytes of a slice, as a string. -/
def strOf (z : Nat → Int) (n : Nat) : ByteArray := strOfNums ((List.range n).map z)

theorem strOf_size (z : Nat → Int) (n : Nat) : (strOf z n).size = n := by unfold strOf; rw [strOfNums_size]; simp
theorem byte_at' (s : ByteArray) (j : Nat) (h : j < s.size) : s.data.toList[j]? = some s[j] := by
  rw [List.getElem?_eq_getElem (by simpa using h)]; rfl
theorem strOf_at (z : Nat → Int) (n j : Nat) (h : j < n) : (strOf z n).data.toList[j]? = some (UInt8.ofNat (z j).toNat) := by
  unfold strOf; rw [strOfNums_data]; simp [h]

theorem same_iff (s : ByteArray) (z : Nat → Int) (m : Nat) (hz : ∀ j, j < m → 0 ≤ z j ∧ z j ≤ 255) : (s.toList == (strOf z m).toList) = true ↔ SameS s z m := by
  rw [beq_iff_eq, ByteArray.toList_eq, ByteArray.toList_eq]
  constructor
  · intro h
    have hlen : s.size = m := by
      have := congrArg List.length h
      have h2 := strOf_size z m
      simp at this
      simpa [h2] using this
    refine ⟨hlen, fun j hj => ?_⟩
    have h1 := byte_at' s j hj
    rw [h, strOf_at z m j (by omega)] at h1
    simp only [Option.some.injEq] at h1
    rw [← h1]
    have := hz j (by omega)
    simp
    omega
  · rintro ⟨hlen, hall⟩
    apply List.ext_getElem?
    intro j
    by_cases hj : j < m
    · rw [byte_at' s j (by omega), strOf_at z m j hj]
      have h1 := hall j (by omega)
      have := hz j hj
      rw [← h1]
      simp
    · rw [List.getElem?_eq_none (by simp; omega), List.getElem?_eq_none (by have := strOf_size z m; simp [this]; omega)]

theorem sameBytes_any (s : ByteArray) (a : Option Addr) (n c : Nat) (z : Nat → Int) (w : World) (hs : s.size ≤ 9223372036854775807) (hn : n ≤ 1048576)
    (hc : HasRow w a n (fun i => .int .u8 (z i))) :
    Calls Try.prog 18 #[.string s, .slice a n c] w fun e w' => ∃ b : Bool, e = .returned (.bool b) ∧ (b = true ↔ SameS s z n) ∧ Below w.heap.size w w' := by
  by_cases hsz : s.size = n
  · subst hsz
    have hne : ((s.size : Int) != (s.size : Int)) = false := by simp
    go_enter Try.func18, Try.ntmps18
    go_wp2
    go_loopw [5] (fun i wr => ∃ k : Nat, k ≤ s.size ∧ i = .int .i64 k ∧ (∀ j (h : j < s.size), j < k → (s[j].toNat : Int) = z j) ∧ Below w.heap.size w wr) (fun i _ => s.size - (intOf i).toNat)
    case atStart => exact ⟨0, Nat.zero_le _, rfl, fun j _ h => by omega, Below.refl _ _⟩
    case round =>
      obtain ⟨k, hk, rfl, hall, hb⟩ := hrel
      have HA : Hid (∀ j (h : j < s.size), j < k → (s[j].toNat : Int) = z j) := hall
      clear hall
      by_cases hlt : k < s.size
      · obtain ⟨x, rfl, hck⟩ := (hc.later hb).at hlt
        by_cases hv : ((s[k].toNat : Int) != z k) = true
        · go_wp2
          go_quiet (fail)
          go_wp2
          go_ret
          refine ⟨false, rfl, ⟨(fun h => by cases h), fun h => ?_⟩, below_drewN hb _⟩
          have := h.2 k hlt
          simp [this] at hv
        · have hv' : ((s[k].toNat : Int) != z k) = false := by simpa using hv
          go_wp2
          go_quiet (fail)
          go_wp2
          go_roundw
          case rel =>
            refine ⟨k + 1, by omega, by go_num, fun j h hj => ?_, below_drewN hb _⟩
            by_cases e : j = k
            · subst e; simpa using hv'
            · exact HA.out j h (by omega)
          case measure => simp [intOf]; omega
      · go_wp2
        go_ret
        exact ⟨true, rfl, ⟨fun _ => ⟨rfl, fun j h => HA.out j h (by omega)⟩, fun _ => rfl⟩, hb⟩
  · have hne : ((s.size : Int) != (n : Int)) = true := by simp; omega
    go_enter Try.func18, Try.ntmps18
    go_wp2
    go_ret
    exact ⟨false, rfl, ⟨(fun h => by cases h), fun h => absurd h.1 hsz⟩, Below.refl _ _⟩

theorem Try.info44 : (Try.prog.info? 44).map (fun i => (i.zero, i.size, i.bytes)) = some (some (.agg #[.string ⟨#[]⟩, .slice none 0 0, .int .i64 0]), 3, 48) := by kernel_rfl

theorem conv_row {w : World} {a : Option Addr} {n : Nat} {z : Nat → Int} (h : HasRow w a n (fun i => .int .u8 (z i))) (c : Nat) :
    (convert 27 9 (.slice a n c)).run Try.prog w = .ok (.string (strOf z n)) w := by
  rcases h with rfl | ⟨x, rfl, hc⟩
  · rw [run_convert_bytes_string w 27 9 5 _ 0 c Try.underlying27 Try.underlying5 Try.underlying9]
    cases a <;> simp [Conv.bytesToString, loadCells, strOf, strOfNums]
    all_goals rfl
  · by_cases hn : n = 0
    · subst hn
      rw [run_convert_bytes_string w 27 9 5 _ 0 c Try.underlying27 Try.underlying5 Try.underlying9]
      simp [Conv.bytesToString, loadCells, strOf, strOfNums]
      rfl
    · obtain ⟨b, off, spot⟩ := x
      have h0 := hc 0 (by omega)
      have hs : spot = none := by simpa [Addr.add] using World.cell?_spot h0
      subst hs
      refine run_convert_bytes_arg (P := Try.prog) w 27 5 Try.underlying27 Try.underlying5 b off n c _ (by simp) (fun i hi => ?_) 9 Try.underlying9
      rw [← add_plain, hc i hi]
      simp [hi]

/-- r is the first index below n at which the string is z's bytes; or -1, and there is none. -/
def IsFirstS (ss : Nat → ByteArray) (n : Nat) (z : Nat → Int) (m : Nat) (r : Int) : Prop :=
  (r = -1 ∧ ∀ i, i < n → ¬ SameS (ss i) z m) ∨ ∃ j : Nat, j < n ∧ r = j ∧ SameS (ss j) z m ∧ ∀ i, i < j → ¬ SameS (ss i) z m

/-- The cells of a row of fields. -/
def fldCells (ss : Nat → ByteArray) (n i : Nat) : Value := if i % 3 = 0 then (if i / 3 < n then .string (ss (i / 3)) else .string ⟨#[]⟩) else if i % 3 = 1 then .slice none 0 0 else .int .i64 0

theorem fldCells_0 (ss : Nat → ByteArray) (n j : Nat) (h : j < n) : fldCells ss n (j * 3) = .string (ss j) := by
  unfold fldCells; rw [if_pos (by omega), show j * 3 / 3 = j from by omega, if_pos h]
theorem fldCells_1 (ss : Nat → ByteArray) (n j : Nat) : fldCells ss n (j * 3 + 1) = .slice none 0 0 := by
  unfold fldCells; rw [if_neg (by omega), if_pos (by omega)]
theorem fldCells_2 (ss : Nat → ByteArray) (n j : Nat) : fldCells ss n (j * 3 + 2) = .int .i64 0 := by
  unfold fldCells; rw [if_neg (by omega), if_neg (by omega)]

theorem fieldIndex_any (g n : Nat) (ss : Nat → ByteArray) (a : Option Addr) (m c : Nat) (z : Nat → Int) (w : World) (hn : n ≤ 65536) (hz : ∀ j, j < m → 0 ≤ z j ∧ z j ≤ 255)
    (hr : w.rowIs g 44 (n * 3) (fldCells ss n)) (hc : HasRow w a m (fun i => .int .u8 (z i))) :
    Calls Try.prog 25 #[.slice (some ⟨g, 0, none⟩) n n, .slice a m c] w fun e w' => ∃ r, e = .returned (.int .i64 r) ∧ IsFirstS ss n z m r ∧ Below w.heap.size w w' := by
  go_enter Try.func25, Try.ntmps25
  go_wp2
  go_loopw [9] (fun i wr => ∃ j : Nat, j ≤ n ∧ i = .int .i64 j ∧ (∀ i, i < j → ¬ SameS (ss i) z m) ∧ Below w.heap.size w wr) (fun i _ => n - (intOf i).toNat)
  case atStart => exact ⟨0, Nat.zero_le _, rfl, fun i hi => absurd hi (by omega), Below.refl _ _⟩
  case round =>
    obtain ⟨j, hj, rfl, hno, hb⟩ := hrel
    have HN : Hid (∀ i, i < j → ¬ SameS (ss i) z m) := hno
    have HZ : Hid (∀ j, j < m → 0 ≤ z j ∧ z j ≤ 255) := hz
    clear hno hz
    by_cases hlt : j < n
    · have hrr := hr.of_block (hb.block _ hr.lt)
      have hcr := hc.later hb
      have q0 := hrr.cell (i := j * 3) (by omega)
      have q1 := hrr.cell (i := j * 3 + 1) (by omega)
      have q2 := hrr.cell (i := j * 3 + 2) (by omega)
      rw [fldCells_0 _ _ _ hlt] at q0
      rw [fldCells_1] at q1
      rw [fldCells_2] at q2
      have hcv := fun o => conv_row (hcr.later ((Below.refl _ _).alloc (Nat.le_refl _) o)) c
      by_cases hv : ((ss j).toList == (strOf z m).toList) = true
      · have HS : Hid (SameS (ss j) z m) := (same_iff _ _ _ HZ.out).1 hv
        go_wp2
        go_ret
        exact ⟨j, rfl, .inr ⟨j, hlt, rfl, HS.out, HN.out⟩, hb.alloc hb.size _⟩
      · have HS : Hid (¬ SameS (ss j) z m) := fun h => hv ((same_iff _ _ _ HZ.out).2 h)
        have hv' : ((ss j).toList == (strOf z m).toList) = false := by simpa using hv
        clear hv
        go_wp2
        go_roundw
        case rel =>
          refine ⟨j + 1, by omega, by go_num, fun i hi => ?_, hb.alloc hb.size _⟩
          by_cases e : i = j
          · subst e; exact HS.out
          · exact HN.out i (by omega)
        case measure => simp [intOf]; omega
    · go_wp2
      go_ret
      exact ⟨-1, rfl, .inl ⟨rfl, fun i hi => HN.out i (by omega)⟩, hb⟩
end Go.Proofs.Qxb6602608a
