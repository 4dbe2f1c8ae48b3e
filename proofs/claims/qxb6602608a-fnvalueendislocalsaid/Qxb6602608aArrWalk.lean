import Derived.Test.Qxb6602608aParsePlain
import Derived.WalkSmall
namespace Go.Proofs.Qxb6602608a
open Go.ChangeShapes Go.WideShapes Go.ChangeAt Go.RowKit

/-- zzValue's contract, for whatever is at most m bytes from the end. -/
def ValueOK (b o n c sb tgt : Nat) (z : Nat → Int) (m : Nat) : Prop := ∀ (p : Nat) (w : World) (f : Bool) (e0 : Int), p ≤ n → n - p ≤ m → Txt w b o n z → SInv w sb tgt f e0 →
  Calls Try.prog 27 #[.slice (some ⟨b, o, none⟩) n c, .int .i64 p, .pointer (some ⟨sb, 0, none⟩)] w (VPost (Val z n p) (Follow z n) z n sb tgt f e0 w)

set_option maxRecDepth 20000 in
set_option maxHeartbeats 2000000 in
theorem zzArray_of (b o n c sb tgt : Nat) (z : Nat → Int) (m : Nat) (hn : n ≤ 1048576) (hbs : b < sb) (ih : ValueOK b o n c sb tgt z m)
    (p : Nat) (w : World) (f : Bool) (e0 : Int) (hp : p < n) (hz : z p = 91) (hm : n - p ≤ m + 1) (hc : Txt w b o n z) (hs : SInv w sb tgt f e0) :
    Calls Try.prog 31 #[.slice (some ⟨b, o, none⟩) n c, .int .i64 p, .pointer (some ⟨sb, 0, none⟩)] w (VPost (Cont z n p) (fun _ => True) z n sb tgt f e0 w) := by
  have HI : Hid (ValueOK b o n c sb tgt z m) := ih
  have HO : Hid (Opened z n p (p + 1)) := Opened.start hp (.inr hz)
  have HC : Hid (Txt w b o n z) := hc
  have HV : Hid (SInv w sb tgt f e0) := hs
  clear ih hz hc hs
  go_enter Try.func31, Try.ntmps31
  go_wp2_with fail
  refine (zzSkipWS_at b o n c z _ (p + 1) _ (by omega) hn (by omega) HC.out).mono ?_
  rintro e w' ⟨q, rfl, hsk, rfl⟩
  have hq1 := hsk.1
  have hq2 := hsk.2.1
  have HQ : Hid (Opened z n p q) := HO.out.go hsk.pass
  clear hsk HO
  by_cases hqn : q < n
  · have hcq := HC.out q hqn
    by_cases h93 : z q = 93
    · have y : (z q == 93) = true := by simp [h93]
      have HK : Hid (Cont z n p (q + 1)) := HQ.out.shut hqn (.inr h93)
      clear h93
      go_wp2_with fail
      go_ret
      exact ⟨f, e0, HV.out, Below.refl _ _, res_yes (q + 1) (by omega) ⟨HK.out, fun h _ => h⟩⟩
    · have y : (z q == 93) = false := by simp [h93]
      clear h93
      go_wp2_with fail
      clear hcq y
      go_loopw [1] (fun s wr => ∃ (i : Nat) (f1 : Bool) (e1 : Int), s = .int .i64 i ∧ p < i ∧ Opened z n p i ∧ SInv wr sb tgt f1 e1 ∧ Below sb w' wr ∧ (Good z n tgt f e0 → Good z n tgt f1 e1)) (fun s _ => n - (intOf s).toNat)
      case atStart => exact ⟨q, f, e0, rfl, by omega, HQ.out, HV.out, Below.refl _ _, fun h => h⟩
      case round =>
        obtain ⟨i, f1, e1, rfl, hpi, hop, hsi, hbl, hgd⟩ := hrel
        have hin := hop.2.2.1
        have HP : Hid (Opened z n p i) := hop
        have HS : Hid (SInv wr sb tgt f1 e1) := hsi
        have HB : Hid (Below sb w' wr) := hbl
        have HG : Hid (Good z n tgt f e0 → Good z n tgt f1 e1) := hgd
        have HT : Hid (Txt wr b o n z) := HC.out.later hbs hbl
        clear hop hsi hbl hgd
        by_cases hlt : i < n
        · go_wp2_with fail
          refine (HI.out i _ f1 e1 (by omega) (by omega) HT.out HS.out).mono ?_
          rintro e w2 ⟨f2, e2, hs2, hb2, hres⟩
          have HS2 : Hid (SInv w2 sb tgt f2 e2) := hs2
          have HB2 : Hid (Below sb wr w2) := hb2
          have HT2 : Hid (Txt w2 b o n z) := HT.out.later hbs hb2
          clear hs2 hb2
          rcases hres with rfl | ⟨v, rfl, hval, hg2⟩
          · go_wp2_with fail
            go_ret
            exact ⟨f2, e2, HS2.out, HB.out.trans HB2.out, res_no⟩
          · have hvl := hval.lt
            have HVA : Hid (Val z n i v) := hval
            have HG2 : Hid (Good z n tgt f1 e1 → Follow z n v → Good z n tgt f2 e2) := hg2
            clear hval hg2
            go_wp2_with fail
            refine (zzSkipWS_at b o n c z _ v _ rfl hn hvl.2 HT2.out).mono ?_
            rintro e w3 ⟨r, rfl, hsk, rfl⟩
            have hr1 := hsk.1
            have hr2 := hsk.2.1
            have HSK : Hid (SkipTo z n v r) := hsk
            clear hsk
            by_cases hrn : r < n
            · have hcr := HT2.out r hrn
              by_cases h93 : z r = 93
              · have y : (z r == 93) = true := by simp [h93]
                have HK : Hid (Cont z n p (r + 1)) := (next_val HP.out HVA.out HSK.out).shut hrn (.inr h93)
                have HF : Hid (Follow z n v) := HSK.out.follow (.inr ⟨hrn, .inr (.inr (.inl h93))⟩)
                clear h93
                go_wp2_with fail
                go_ret
                exact ⟨f2, e2, HS2.out, HB.out.trans HB2.out, res_yes (r + 1) (by omega) ⟨HK.out, fun h _ => HG2.out (HG.out h) HF.out⟩⟩
              · have y : (z r == 93) = false := by simp [h93]
                clear h93
                by_cases h44 : z r = 44
                · have y2 : (z r != 44) = false := by simp [h44]
                  have HF : Hid (Follow z n v) := HSK.out.follow (.inr ⟨hrn, .inl h44⟩)
                  have HN : Hid (Opened z n p (r + 1)) := (next_val HP.out HVA.out HSK.out).go (Pass.other hrn (other_of h44 other_44))
                  clear h44
                  go_wp2_with fail
                  refine (zzSkipWS_at b o n c z _ (r + 1) _ (by omega) hn (by omega) HT2.out).mono ?_
                  rintro e w4 ⟨u, rfl, hsk, rfl⟩
                  have hu1 := hsk.1
                  have hu2 := hsk.2.1
                  have HSU : Hid (SkipTo z n (r + 1) u) := hsk
                  clear hsk
                  go_wp2_with fail
                  go_roundw
                  case rel => exact ⟨u, f2, e2, rfl, by omega, HN.out.go HSU.out.pass, HS2.out, HB.out.trans HB2.out, fun h => HG2.out (HG.out h) HF.out⟩
                  case measure => simp [intOf]; omega
                · have y2 : (z r != 44) = true := by simp [h44]
                  clear h44
                  go_wp2_with fail
                  go_ret
                  exact ⟨f2, e2, HS2.out, HB.out.trans HB2.out, res_no⟩
            · go_wp2_with fail
              go_ret
              exact ⟨f2, e2, HS2.out, HB.out.trans HB2.out, res_no⟩
        · go_wp2_with fail
          go_ret
          exact ⟨f1, e1, HS.out, HB.out, res_no⟩
  · go_wp2_with fail
    refine wp_loop_rounds 1 ?_
    rw [rounds_succ]
    go_wp2_with fail
    go_ret
    exact ⟨f, e0, HV.out, Below.refl _ _, res_no⟩
end Go.Proofs.Qxb6602608a
