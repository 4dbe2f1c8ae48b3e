import Derived.Test.Qxb6602608aValWalk
namespace Go.Proofs.Qxb6602608a
open Go.ChangeShapes Go.WideShapes Go.ChangeAt Go.RowKit

/-- What zzDoc hands back: an end and a yes, and then valueEnd ends there; or a no. -/
def DocRes (z : Nat → Int) (n tgt : Nat) (e : Ending) : Prop :=
  (∃ v : Int, e = .returned (.tuple #[.int .i64 v, .bool false])) ∨ ∃ q : Nat, e = .returned (.tuple #[.int .i64 q, .bool true]) ∧ VEnd z n tgt q
theorem doc_no {z : Nat → Int} {n tgt : Nat} {v : Int} : DocRes z n tgt (.returned (.tuple #[.int .i64 v, .bool false])) := .inl ⟨v, rfl⟩

set_option maxRecDepth 20000 in
theorem zzDoc_any (b o n c tgt : Nat) (z : Nat → Int) (w : World) (hn : n ≤ 1048576) (hn0 : 0 < n) (hc : Txt w b o n z) :
    Calls Try.prog 21 #[.slice (some ⟨b, o, none⟩) n c, .int .i64 tgt] w fun e w' => DocRes z n tgt e ∧ Below w.heap.size w w' := by
  have hbw : b < w.heap.size := by
    have h := hc 0 hn0
    exact Nat.lt_of_not_le fun hle => by
      simp [World.cell?, Array.getElem?_eq_none hle] at h
  have HC : Hid (Txt w b o n z) := hc
  clear hc
  go_enter Try.func21, Try.ntmps21
  go_wp2_with fail
  have HS0 : Hid (SInv (w.alloc (.cells #[.int .i64 tgt, .bool false, .int .i64 0] 47)) w.heap.size tgt false 0) := ⟨by simp, by simp, by simp, by simp, by simp⟩
  have HB0 : Hid (Below w.heap.size w (w.alloc (.cells #[.int .i64 tgt, .bool false, .int .i64 0] 47))) := (Below.refl _ _).alloc (Nat.le_refl _) _
  have HT0 : Hid (Txt (w.alloc (.cells #[.int .i64 tgt, .bool false, .int .i64 0] 47)) b o n z) := HC.out.later hbw HB0.out
  refine (zzSkipWS_at b o n c z _ 0 _ rfl hn (by omega) HT0.out).mono ?_
  rintro e w1 ⟨p, rfl, hsk, hw1⟩
  rw [← hw1] at HS0 HB0 HT0
  clear hw1
  have hp := hsk.2.1
  clear hsk
  go_wp2_with fail
  refine (valueOK b o n c w.heap.size tgt z hn hbw n p _ false 0 hp (by omega) HT0.out HS0.out).mono ?_
  rintro e w2 ⟨f2, e2, hs2, hb2, hres⟩
  have HB2 : Hid (Below w.heap.size w w2) := HB0.out.trans hb2
  have HT2 : Hid (Txt w2 b o n z) := HT0.out.later hbw hb2
  have HS2 : Hid (SInv w2 w.heap.size tgt f2 e2) := hs2
  clear hb2 hs2 HS0 HT0 HB0
  rcases hres with rfl | ⟨q, rfl, hval, hg⟩
  · go_wp2_with fail
    go_ret2
    exact ⟨doc_no, HB2.out⟩
  · have hvl := hval.lt
    have HG : Hid (Follow z n q → Good z n tgt f2 e2) := hg fun h => by cases h
    clear hval hg
    go_wp2_with fail
    refine (zzSkipWS_at b o n c z _ q _ rfl hn hvl.2 HT2.out).mono ?_
    rintro e w3 ⟨r, rfl, hsk, rfl⟩
    have hr := hsk.2.1
    by_cases hrn : r = n
    · subst hrn
      have HGG : Hid (Good z r tgt f2 e2) := HG.out (hsk.follow (.inl rfl))
      obtain ⟨c0, c1, c2, -, -⟩ := HS2.out
      have y : ((r : Int) != (r : Int)) = false := by simp
      clear hsk
      cases f2
      · go_wp2_with fail
        go_ret2
        exact ⟨doc_no, HB2.out⟩
      · obtain ⟨q2, rfl, hve⟩ := HGG.out rfl
        have HVE : Hid (VEnd z r tgt q2) := hve
        clear hve
        go_wp2_with fail
        go_ret2
        exact ⟨.inr ⟨q2, rfl, HVE.out⟩, HB2.out⟩
    · have y : ((r : Int) != (n : Int)) = true := by simp; omega
      clear hsk hrn
      go_wp2_with fail
      go_ret2
      exact ⟨doc_no, HB2.out⟩
end Go.Proofs.Qxb6602608a
