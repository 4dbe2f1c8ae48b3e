import Derived.Test.Qxb6602608aDocWalk
import Derived.Test.Qxb6602608aCloneWalk
namespace Go.Proofs.Qxb6602608a
open Go.ChangeShapes Go.WideShapes Go.ChangeAt Go.RowKit

theorem fits20_yes (a : Option Addr) (len cap : Nat) (k : Int) (w : World) (h : len ≤ 1048576) :
    Calls Try.prog 20 #[.slice a len cap, .int .i64 k] w fun e w' => e = .returned (.bool true) ∧ w' = w := by
  go_enter Try.func20, Try.ntmps20
  go_wp2
  go_ret
  exact ⟨rfl, rfl⟩
theorem fits20_no (a : Option Addr) (len cap : Nat) (k : Int) (w : World) (hl : len ≤ 9223372036854775807) (h : 1048576 < len) :
    Calls Try.prog 20 #[.slice a len cap, .int .i64 k] w fun e w' => e = .returned (.bool false) ∧ w' = w := by
  go_enter Try.func20, Try.ntmps20
  go_wp2
  go_ret
  exact ⟨rfl, rfl⟩
theorem fits23_yes (a : Option Addr) (len cap : Nat) (k : Int) (w : World) (h : len ≤ 1048576) :
    Calls Try.prog 23 #[.slice a len cap, .int .i64 k] w fun e w' => e = .returned (.bool true) ∧ w' = w := by
  go_enter Try.func23, Try.ntmps23
  go_wp2
  go_ret
  exact ⟨rfl, rfl⟩
theorem fits23_no (a : Option Addr) (len cap : Nat) (k : Int) (w : World) (hl : len ≤ 9223372036854775807) (h : 1048576 < len) :
    Calls Try.prog 23 #[.slice a len cap, .int .i64 k] w fun e w' => e = .returned (.bool false) ∧ w' = w := by
  go_enter Try.func23, Try.ntmps23
  go_wp2
  go_ret
  exact ⟨rfl, rfl⟩

theorem law7_no (a : Option Addr) (len cap : Nat) (k : Int) (w : World) (hl : len ≤ 9223372036854775807) (h : 1048576 < len ∨ k < 0 ∨ len ≤ k) :
    Calls Try.prog 7 #[.slice a len cap, .int .i64 k] w fun e w' => e = .returned (.bool true) ∧ w' = w := by
  by_cases h1 : 1048576 < len
  · go_enter Try.func7, Try.ntmps7
    go_wp2_with (go_at_call 20; refine (fits20_no _ _ _ _ _ hl h1).mono ?_; rintro e w' ⟨rfl, rfl⟩)
    go_ret
    exact ⟨rfl, rfl⟩
  · by_cases h2 : k < 0
    · go_enter Try.func7, Try.ntmps7
      go_wp2_with (go_at_call 20; refine (fits20_yes _ _ _ _ _ (by omega)).mono ?_; rintro e w' ⟨rfl, rfl⟩)
      go_ret
      exact ⟨rfl, rfl⟩
    · have h3 : (len : Int) ≤ k := by omega
      clear h
      go_enter Try.func7, Try.ntmps7
      go_wp2_with (go_at_call 20; refine (fits20_yes _ _ _ _ _ (by omega)).mono ?_; rintro e w' ⟨rfl, rfl⟩)
      go_ret
      exact ⟨rfl, rfl⟩

/-- Cells of a slice of bytes, one or more, from HasRow. -/
theorem txt_of {w : World} {a : Option Addr} {n : Nat} {z : Nat → Int} (h : HasRow w a n (fun i => .int .u8 (z i))) (hn : 0 < n) : ∃ b o, a = some ⟨b, o, none⟩ ∧ Txt w b o n z := by
  rcases h with h | ⟨⟨b, o, sp⟩, rfl, hc⟩
  · omega
  · have h0 := hc 0 hn
    have hs : sp = none := by simpa [Addr.add] using World.cell?_spot h0
    subst hs
    exact ⟨b, o, rfl, fun i hi => by rw [← add_plain]; exact hc i hi⟩

theorem law7_yes (b o n c i : Nat) (z : Nat → Int) (w : World) (hn : n ≤ 1048576) (hi : i < n) (hc : Txt w b o n z) :
    Calls Try.prog 7 #[.slice (some ⟨b, o, none⟩) n c, .int .i64 i] w fun e w' => e = .returned (.bool true) ∧ Below w.heap.size w w' := by
  have d1 : decide ((1048576 : Int) < (n : Int)) = false := decide_eq_false (by omega)
  have d2 : decide ((i : Int) < 0) = false := decide_eq_false (by omega)
  have d3 : decide ((n : Int) ≤ (i : Int)) = false := decide_eq_false (by omega)
  have d4 : decide (n ≤ i) = false := decide_eq_false (by omega)
  have HR : Hid (HasRow w (some ⟨b, o, none⟩) n (fun i => .int .u8 (z i))) := .inr ⟨_, rfl, fun i hi => by rw [add_plain]; exact hc i hi⟩
  have HC : Hid (Txt w b o n z) := hc
  clear hc
  go_enter Try.func7, Try.ntmps7
  go_wp2_with (go_at_call 20; refine (fits20_yes _ _ _ _ _ hn).mono ?_; rintro e w' ⟨rfl, rfl⟩)
  clear d1 d2 d3 d4
  refine (zzDoc_any b o n c i z _ hn (by omega) HC.out).mono ?_
  rintro e w1 ⟨hres, hb1⟩
  have HB1 : Hid (Below w'.heap.size w' w1) := hb1
  clear hb1
  rcases hres with ⟨v, rfl⟩ | ⟨q, rfl, hve⟩
  · go_wp2_with fail
    go_ret
    exact ⟨rfl, HB1.out⟩
  · have HV : Hid (VEnd z n i q) := hve
    clear hve
    go_wp2_with fail
    refine (cloneBytes (some ⟨b, o, none⟩) n c z _ hn (fun h => by cases h) (HR.out.later HB1.out)).mono ?_
    rintro e w2 ⟨a', rfl, hr2, hb2⟩
    obtain ⟨b2, o2, rfl, ht2⟩ := txt_of hr2 (by omega)
    have HT2 : Hid (Txt w2 b2 o2 n z) := ht2
    have HB2 : Hid (Below w'.heap.size w' w2) := HB1.out.trans (hb2.mono HB1.out.size)
    clear ht2 hb2 hr2
    go_wp2_with fail
    refine (zzValueEnd_any b2 o2 n n z _ i q hn HT2.out HV.out).mono ?_
    rintro e w3 ⟨rfl, rfl⟩
    go_wp2_with fail
    go_ret
    exact ⟨rfl, HB2.out⟩

theorem zzValueEnd_at (b o n c : Nat) (z : Nat → Int) (w : World) (p : Nat) (pi : Int) (hpi : pi = p) (e : Nat) (hn : n ≤ 1048576) (hc : Txt w b o n z) (h : VEnd z n p e) :
    Calls Try.prog 22 #[.slice (some ⟨b, o, none⟩) n c, .int .i64 pi] w fun e' w' => e' = .returned (.int .i64 e) ∧ w' = w := by
  subst hpi
  exact zzValueEnd_any b o n c z w p e hn hc h

theorem law8_no (a : Option Addr) (len cap : Nat) (k : Int) (w : World) (hl : len ≤ 9223372036854775807) (h : 1048576 < len ∨ k < 0 ∨ len ≤ k) :
    Calls Try.prog 8 #[.slice a len cap, .int .i64 k] w fun e w' => e = .returned (.bool true) ∧ w' = w := by
  by_cases h1 : 1048576 < len
  · go_enter Try.func8, Try.ntmps8
    go_wp2_with (go_at_call 23; refine (fits23_no _ _ _ _ _ hl h1).mono ?_; rintro e w' ⟨rfl, rfl⟩)
    go_ret
    exact ⟨rfl, rfl⟩
  · by_cases h2 : k < 0
    · go_enter Try.func8, Try.ntmps8
      go_wp2_with (go_at_call 23; refine (fits23_yes _ _ _ _ _ (by omega)).mono ?_; rintro e w' ⟨rfl, rfl⟩)
      go_ret
      exact ⟨rfl, rfl⟩
    · have h3 : (len : Int) ≤ k := by omega
      clear h
      go_enter Try.func8, Try.ntmps8
      go_wp2_with (go_at_call 23; refine (fits23_yes _ _ _ _ _ (by omega)).mono ?_; rintro e w' ⟨rfl, rfl⟩)
      go_ret
      exact ⟨rfl, rfl⟩

theorem law8_yes (b o n c i : Nat) (z : Nat → Int) (w : World) (hn : n ≤ 1048576) (hi : i < n) (hc : Txt w b o n z) :
    Calls Try.prog 8 #[.slice (some ⟨b, o, none⟩) n c, .int .i64 i] w fun e w' => e = .returned (.bool true) ∧ Below w.heap.size w w' := by
  have d1 : decide ((1048576 : Int) < (n : Int)) = false := decide_eq_false (by omega)
  have d2 : decide ((i : Int) < 0) = false := decide_eq_false (by omega)
  have d3 : decide ((n : Int) ≤ (i : Int)) = false := decide_eq_false (by omega)
  have d4 : decide (n ≤ i) = false := decide_eq_false (by omega)
  have HR : Hid (HasRow w (some ⟨b, o, none⟩) n (fun i => .int .u8 (z i))) := .inr ⟨_, rfl, fun i hi => by rw [add_plain]; exact hc i hi⟩
  have HC : Hid (Txt w b o n z) := hc
  clear hc
  go_enter Try.func8, Try.ntmps8
  go_wp2_with (go_at_call 23; refine (fits23_yes _ _ _ _ _ hn).mono ?_; rintro e w' ⟨rfl, rfl⟩)
  clear d1 d2 d3 d4
  refine (zzDoc_any b o n c i z _ hn (by omega) HC.out).mono ?_
  rintro e w1 ⟨hres, hb1⟩
  have HB1 : Hid (Below w'.heap.size w' w1) := hb1
  clear hb1
  rcases hres with ⟨v, rfl⟩ | ⟨q, rfl, hve⟩
  · go_wp2_with fail
    go_ret
    exact ⟨rfl, HB1.out⟩
  · have HV : Hid (VEnd z n i q) := hve
    have hl := hve.lt
    clear hve
    go_wp2_with fail
    refine (cloneBytes (some ⟨b, o, none⟩) n c z _ hn (fun h => by cases h) (HR.out.later HB1.out)).mono ?_
    rintro e w2 ⟨a', rfl, hr2, hb2⟩
    obtain ⟨b2, o2, rfl, ht2⟩ := txt_of hr2 (by omega)
    have HT2 : Hid (Txt w2 b2 o2 n z) := ht2
    have HB2 : Hid (Below w'.heap.size w' w2) := HB1.out.trans (hb2.mono HB1.out.size)
    clear ht2 hb2 hr2
    go_wp2_with fail
    refine (zzValueEnd_any b2 o2 n n z _ i q hn HT2.out HV.out).mono ?_
    rintro e w3 ⟨rfl, rfl⟩
    go_wp2_with fail
    have HT3 : Hid (Txt w3 b2 (o2 + i) (q - i) (fun j => z (i + j))) := fun j hj => by rw [Nat.add_assoc]; exact HT2.out (i + j) (by omega)
    refine (zzValueEnd_at b2 (o2 + i) (q - i) (n - i) (fun j => z (i + j)) _ 0 _ rfl (q - i) (by omega) HT3.out HV.out.shift).mono ?_
    rintro e w4 ⟨rfl, rfl⟩
    go_wp2_with fail
    go_ret
    exact ⟨rfl, HB2.out⟩
end Go.Proofs.Qxb6602608a
