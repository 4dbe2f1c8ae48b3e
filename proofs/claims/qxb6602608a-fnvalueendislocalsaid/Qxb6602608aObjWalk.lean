import Derived.Test.Qxb6602608aArrWalk
namespace Go.Proofs.Qxb6602608a
open Go.ChangeShapes Go.WideShapes Go.ChangeAt Go.RowKit

/-- zzNote, whatever it is handed. -/
theorem zzNote_any (z : Nat → Int) (n sb tgt start : Nat) (v : Int) (f : Bool) (e0 : Int) (w : World) (h : SInv w sb tgt f e0) (hv : v = -1 ∨ ∃ q : Nat, v = q) :
    Calls Try.prog 36 #[.pointer (some ⟨sb, 0, none⟩), .int .i64 start, .int .i64 v] w fun e w' => e = .returned (.tuple #[]) ∧
      ∃ f1 e1, SInv w' sb tgt f1 e1 ∧ Below sb w w' ∧ ∀ q : Nat, v = q → (Good z n tgt f e0 → VEnd z n start q → Good z n tgt f1 e1) := by
  by_cases hs : start = tgt
  · rcases hv with hv | ⟨q, hv⟩
    · refine (note_miss sb tgt start v f e0 w (.inl (by omega)) h).mono ?_
      rintro e w' ⟨rfl, rfl⟩
      exact ⟨rfl, f, e0, h, Below.refl _ _, fun q hq => by omega⟩
    · subst hs
      refine (note_hit sb start v f e0 w (by omega) h).mono ?_
      rintro e w' ⟨rfl, hs', hb⟩
      exact ⟨rfl, true, v, hs', hb, fun q hq _ hve _ => ⟨q, hq, hve⟩⟩
  · refine (note_miss sb tgt start v f e0 w (.inr (by omega)) h).mono ?_
    rintro e w' ⟨rfl, rfl⟩
    exact ⟨rfl, f, e0, h, Below.refl _ _, fun q _ hg _ => hg⟩

set_option maxRecDepth 20000 in
set_option maxHeartbeats 2000000 in
theorem zzObject_of (b o n c sb tgt : Nat) (z : Nat → Int) (m : Nat) (hn : n ≤ 1048576) (hbs : b < sb) (ih : ValueOK b o n c sb tgt z m)
    (p : Nat) (w : World) (f : Bool) (e0 : Int) (hp : p < n) (hz : z p = 123) (hm : n - p ≤ m + 1) (hc : Txt w b o n z) (hs : SInv w sb tgt f e0) :
    Calls Try.prog 32 #[.slice (some ⟨b, o, none⟩) n c, .int .i64 p, .pointer (some ⟨sb, 0, none⟩)] w (VPost (Cont z n p) (fun _ => True) z n sb tgt f e0 w) := by
  have HI : Hid (ValueOK b o n c sb tgt z m) := ih
  have HO : Hid (Opened z n p (p + 1)) := Opened.start hp (.inl hz)
  have HC : Hid (Txt w b o n z) := hc
  have HV : Hid (SInv w sb tgt f e0) := hs
  clear ih hz hc hs
  go_enter Try.func32, Try.ntmps32
  go_wp2_with fail
  refine (zzSkipWS_at b o n c z _ (p + 1) _ (by omega) hn (by omega) HC.out).mono ?_
  rintro e w' ⟨q, rfl, hsk, rfl⟩
  have hq1 := hsk.1
  have hq2 := hsk.2.1
  have HQ : Hid (Opened z n p q) := HO.out.go hsk.pass
  clear hsk HO
  by_cases hqn : q < n
  · have hcq := HC.out q hqn
    by_cases h125 : z q = 125
    · have y : (z q == 125) = true := by simp [h125]
      have HK : Hid (Cont z n p (q + 1)) := HQ.out.shut hqn (.inl h125)
      clear h125
      go_wp2_with fail
      go_ret
      exact ⟨f, e0, HV.out, Below.refl _ _, res_yes (q + 1) (by omega) ⟨HK.out, fun h _ => h⟩⟩
    · have y : (z q == 125) = false := by simp [h125]
      clear h125
      go_wp2_with fail
      clear hcq y
      go_loopw [1] (fun s wr => ∃ (i : Nat) (f1 : Bool) (e1 : Int), s = .int .i64 i ∧ p < i ∧ Opened z n p i ∧ SInv wr sb tgt f1 e1 ∧ Below sb w' wr ∧ (Good z n tgt f e0 → Good z n tgt f1 e1)) (fun s _ => n - (intOf s).toNat)
      case atStart => exact ⟨q, f, e0, rfl, by omega, HQ.out, HV.out, Below.refl _ _, fun h => h⟩
      case round =>
        obtain ⟨i, f1, e1, rfl, hpi, hop, hsi, hbl, hgd⟩ := hrel
        have hin := hop.2.2.1
        have HP : Hid (Opened z n p i) := hop
        have HS : Hid (SInv wr sb tgt f1 e1) := hsi
        have HB : Hid (Below sb w' wr) := hbl
        have HG : Hid (Good z n tgt f e0 → Good z n tgt f1 e1) := hgd
        have HT : Hid (Txt wr b o n z) := HC.out.later hbs hbl
        clear hop hsi hbl hgd
        by_cases hlt : i < n
        · have hci := HT.out i hlt
          by_cases h34 : z i = 34
          · have y : (z i != 34) = false := by simp [h34]
            have H34 : Hid (z i = 34) := h34
            clear h34
            go_wp2_with fail
            refine (zzString_any b o n c z _ i hn hlt H34.out HT.out).mono ?_
            rintro e w2 ⟨hres, rfl⟩
            rcases hres with rfl | ⟨v, rfl, hstr⟩
            · go_wp2_with fail
              refine (zzNote_any z n sb tgt i (-1) f1 e1 _ HS.out (.inl rfl)).mono ?_
              rintro e w3 ⟨rfl, f2, e2, hs2, hb2, -⟩
              have HS2 : Hid (SInv w3 sb tgt f2 e2) := hs2
              have HB2 : Hid (Below sb w2 w3) := hb2
              clear hs2 hb2
              go_wp2_with fail
              go_ret
              exact ⟨f2, e2, HS2.out, HB.out.trans HB2.out, res_no⟩
            · have hvl := hstr.lt
              have HST : Hid (StrEnd z n i v) := hstr
              clear hstr
              go_wp2_with fail
              refine (zzNote_any z n sb tgt i v f1 e1 _ HS.out (.inr ⟨v, rfl⟩)).mono ?_
              rintro e w3 ⟨rfl, f2, e2, hs2, hb2, hg2⟩
              have HS2 : Hid (SInv w3 sb tgt f2 e2) := hs2
              have HB2 : Hid (Below sb w2 w3) := hb2
              have HT2 : Hid (Txt w3 b o n z) := HT.out.later hbs hb2
              have HG2 : Hid (Good z n tgt f1 e1 → Good z n tgt f2 e2) := fun h => hg2 v rfl h (.inl HST.out)
              clear hs2 hb2 hg2
              go_wp2_with fail
              refine (zzSkipWS_at b o n c z _ v _ rfl hn hvl.2 HT2.out).mono ?_
              rintro e w4 ⟨r, rfl, hsk, rfl⟩
              have hr1 := hsk.1
              have hr2 := hsk.2.1
              have HN1 : Hid (Opened z n p r) := (HP.out.go (Pass.str HST.out)).go hsk.pass
              clear hsk
              by_cases hrn : r < n
              · have hcr := HT2.out r hrn
                by_cases h58 : z r = 58
                · have y2 : (z r != 58) = false := by simp [h58]
                  have HN2 : Hid (Opened z n p (r + 1)) := HN1.out.go (Pass.other hrn (other_of h58 other_58))
                  clear h58
                  go_wp2_with fail
                  refine (zzSkipWS_at b o n c z _ (r + 1) _ (by omega) hn (by omega) HT2.out).mono ?_
                  rintro e w5 ⟨t, rfl, hsk, rfl⟩
                  have ht1 := hsk.1
                  have ht2 := hsk.2.1
                  have HN3 : Hid (Opened z n p t) := HN2.out.go hsk.pass
                  clear hsk HN2 HN1
                  go_wp2_with fail
                  refine (HI.out t _ f2 e2 (by omega) (by omega) HT2.out HS2.out).mono ?_
                  rintro e w6 ⟨f3, e3, hs3, hb3, hres⟩
                  have HS3 : Hid (SInv w6 sb tgt f3 e3) := hs3
                  have HB3 : Hid (Below sb w2 w6) := HB2.out.trans hb3
                  have HT3 : Hid (Txt w6 b o n z) := HT2.out.later hbs hb3
                  clear hs3 hb3
                  rcases hres with rfl | ⟨a, rfl, hval, hg3⟩
                  · go_wp2_with fail
                    go_ret
                    exact ⟨f3, e3, HS3.out, HB.out.trans HB3.out, res_no⟩
                  · have hal := hval.lt
                    have HVA : Hid (Val z n t a) := hval
                    have HG3 : Hid (Good z n tgt f2 e2 → Follow z n a → Good z n tgt f3 e3) := hg3
                    clear hval hg3
                    go_wp2_with fail
                    refine (zzSkipWS_at b o n c z _ a _ rfl hn hal.2 HT3.out).mono ?_
                    rintro e w7 ⟨d, rfl, hsk, rfl⟩
                    have hd1 := hsk.1
                    have hd2 := hsk.2.1
                    have HSK : Hid (SkipTo z n a d) := hsk
                    clear hsk
                    by_cases hdn : d < n
                    · have hcd := HT3.out d hdn
                      by_cases h125 : z d = 125
                      · have y3 : (z d == 125) = true := by simp [h125]
                        have HK : Hid (Cont z n p (d + 1)) := (next_val HN3.out HVA.out HSK.out).shut hdn (.inl h125)
                        have HF : Hid (Follow z n a) := HSK.out.follow (.inr ⟨hdn, .inr (.inl h125)⟩)
                        clear h125
                        go_wp2_with fail
                        go_ret
                        exact ⟨f3, e3, HS3.out, HB.out.trans HB3.out, res_yes (d + 1) (by omega) ⟨HK.out, fun h _ => HG3.out (HG2.out (HG.out h)) HF.out⟩⟩
                      · have y3 : (z d == 125) = false := by simp [h125]
                        clear h125
                        by_cases h44 : z d = 44
                        · have y4 : (z d != 44) = false := by simp [h44]
                          have HF : Hid (Follow z n a) := HSK.out.follow (.inr ⟨hdn, .inl h44⟩)
                          have HN : Hid (Opened z n p (d + 1)) := (next_val HN3.out HVA.out HSK.out).go (Pass.other hdn (other_of h44 other_44))
                          clear h44
                          go_wp2_with fail
                          refine (zzSkipWS_at b o n c z _ (d + 1) _ (by omega) hn (by omega) HT3.out).mono ?_
                          rintro e w8 ⟨g, rfl, hsk, rfl⟩
                          have hg1 := hsk.1
                          have hg2 := hsk.2.1
                          have HSU : Hid (SkipTo z n (d + 1) g) := hsk
                          clear hsk
                          go_wp2_with fail
                          go_roundw
                          case rel => exact ⟨g, f3, e3, rfl, by omega, HN.out.go HSU.out.pass, HS3.out, HB.out.trans HB3.out, fun h => HG3.out (HG2.out (HG.out h)) HF.out⟩
                          case measure => simp [intOf]; omega
                        · have y4 : (z d != 44) = true := by simp [h44]
                          clear h44
                          go_wp2_with fail
                          go_ret
                          exact ⟨f3, e3, HS3.out, HB.out.trans HB3.out, res_no⟩
                    · go_wp2_with fail
                      go_ret
                      exact ⟨f3, e3, HS3.out, HB.out.trans HB3.out, res_no⟩
                · have y2 : (z r != 58) = true := by simp [h58]
                  clear h58
                  go_wp2_with fail
                  go_ret
                  exact ⟨f2, e2, HS2.out, HB.out.trans HB2.out, res_no⟩
              · go_wp2_with fail
                go_ret
                exact ⟨f2, e2, HS2.out, HB.out.trans HB2.out, res_no⟩
          · have y : (z i != 34) = true := by simp [h34]
            clear h34
            go_wp2_with fail
            go_ret
            exact ⟨f1, e1, HS.out, HB.out, res_no⟩
        · go_wp2_with fail
          go_ret
          exact ⟨f1, e1, HS.out, HB.out, res_no⟩
  · go_wp2_with fail
    refine wp_loop_rounds 1 ?_
    rw [rounds_succ]
    go_wp2_with fail
    go_ret
    exact ⟨f, e0, HV.out, Below.refl _ _, res_no⟩
end Go.Proofs.Qxb6602608a
