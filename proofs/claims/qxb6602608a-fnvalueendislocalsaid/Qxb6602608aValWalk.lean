import Derived.Test.Qxb6602608aObjWalk
import Derived.Test.Qxb6602608aWordWalk
import Derived.Test.Qxb6602608aNumPost
import Derived.Deep.DeepCutAuto
namespace Go.Proofs.Qxb6602608a
open Go.ChangeShapes Go.WideShapes Go.ChangeAt Go.RowKit

/-- What stands when a value has been read, ahead of its note. -/
def MidPost (z : Nat → Int) (n sb tgt p : Nat) (f : Bool) (e0 : Int) (w : World) (s : Value) (w' : World) : Prop :=
  ∃ (r : Int) (f1 : Bool) (e1 : Int), s = .int .i64 r ∧ SInv w' sb tgt f1 e1 ∧ Below sb w w' ∧ (r = -1 ∨ ∃ q : Nat, r = q ∧ Val z n p q ∧ (Good z n tgt f e0 → Good z n tgt f1 e1))

theorem SInv.drewN {w : World} {sb : Nat} {tgt : Int} {f : Bool} {e : Int} (h : SInv w sb tgt f e) (r : Nat) : SInv (w.drewN r) sb tgt f e := h

theorem mid_no {z : Nat → Int} {n sb tgt p : Nat} {f : Bool} {e0 : Int} {w w' : World} {f1 : Bool} {e1 : Int} (hs : SInv w' sb tgt f1 e1) (hb : Below sb w w') : MidPost z n sb tgt p f e0 w (.int .i64 (-1)) w' :=
  ⟨-1, f1, e1, rfl, hs, hb, .inl rfl⟩
theorem mid_yes {z : Nat → Int} {n sb tgt p : Nat} {f : Bool} {e0 : Int} {w w' : World} {f1 : Bool} {e1 : Int} (q : Nat) (hs : SInv w' sb tgt f1 e1) (hb : Below sb w w') (hv : Val z n p q)
    (hg : Good z n tgt f e0 → Good z n tgt f1 e1) : MidPost z n sb tgt p f e0 w (.int .i64 q) w' :=
  ⟨q, f1, e1, rfl, hs, hb, .inr ⟨q, rfl, hv, hg⟩⟩

theorem valueOK_zero (b o n c sb tgt : Nat) (z : Nat → Int) : ValueOK b o n c sb tgt z 0 := by
  intro p w f e0 hp hm hc hs
  have HV : Hid (SInv w sb tgt f e0) := hs
  clear hs hc
  go_enter Try.func27, Try.ntmps27
  go_wp2_with fail
  go_ret
  exact ⟨f, e0, HV.out, Below.refl _ _, res_no⟩

set_option maxRecDepth 20000 in
set_option maxHeartbeats 4000000 in
theorem valueOK_succ (b o n c sb tgt : Nat) (z : Nat → Int) (m : Nat) (hn : n ≤ 1048576) (hbs : b < sb) (ih : ValueOK b o n c sb tgt z m) : ValueOK b o n c sb tgt z (m + 1) := by
  intro p w f e0 hp hm hc hs
  have HI : Hid (ValueOK b o n c sb tgt z m) := ih
  have HV : Hid (SInv w sb tgt f e0) := hs
  have HC : Hid (Txt w b o n z) := hc
  clear ih hs hc
  by_cases hpn : p < n
  · have hcp := HC.out p hpn
    have d1 : decide ((n : Int) ≤ (p : Int)) = false := decide_eq_false (by omega)
    go_enter Try.func27, Try.ntmps27
    go_upto_if 18 with fail
    clear d1
    go_cut [7] (fun s wd => MidPost z n sb tgt p f e0 w s wd)
    case first =>
      by_cases h34 : z p = 34
      · have y1 : (z p == 34) = true := by simp [h34]
        have HZ : Hid (z p = 34) := h34
        clear h34
        go_wp2_with fail
        refine (zzString_any b o n c z _ p hn hpn HZ.out HC.out).mono ?_
        rintro e w2 ⟨hres, rfl⟩
        rcases hres with rfl | ⟨q, rfl, hq⟩
        · go_wp2_with fail
          go_meet
          case rel => exact mid_no HV.out (Below.refl _ _)
        · have HQ : Hid (Val z n p q) := .inl hq
          clear hq
          go_wp2_with fail
          go_meet
          case rel => exact mid_yes q HV.out (Below.refl _ _) HQ.out fun h => h
      · have y1 : (z p == 34) = false := by simp [h34]
        clear h34
        by_cases h91 : z p = 91
        · have y2 : (z p == 91) = true := by simp [h91]
          have HZ : Hid (z p = 91) := h91
          clear h91
          go_wp2_with fail
          refine (zzArray_of b o n c sb tgt z m hn hbs HI.out p _ f e0 hpn HZ.out hm HC.out HV.out).mono ?_
          rintro e w2 ⟨f1, e1, hs1, hb1, hres⟩
          have HS1 : Hid (SInv w2 sb tgt f1 e1) := hs1
          have HB1 : Hid (Below sb w w2) := hb1
          clear hs1 hb1
          rcases hres with rfl | ⟨q, rfl, hq, hg⟩
          · go_wp2_with fail
            go_meet
            case rel => exact mid_no HS1.out HB1.out
          · have HQ : Hid (Val z n p q) := .inr (.inl hq)
            have HG : Hid (Good z n tgt f e0 → Good z n tgt f1 e1) := fun h => hg h trivial
            clear hq hg
            go_wp2_with fail
            go_meet
            case rel => exact mid_yes q HS1.out HB1.out HQ.out HG.out
        · have y2 : (z p == 91) = false := by simp [h91]
          clear h91
          by_cases h123 : z p = 123
          · have y3 : (z p == 123) = true := by simp [h123]
            have HZ : Hid (z p = 123) := h123
            clear h123
            go_wp2_with fail
            refine (zzObject_of b o n c sb tgt z m hn hbs HI.out p _ f e0 hpn HZ.out hm HC.out HV.out).mono ?_
            rintro e w2 ⟨f1, e1, hs1, hb1, hres⟩
            have HS1 : Hid (SInv w2 sb tgt f1 e1) := hs1
            have HB1 : Hid (Below sb w w2) := hb1
            clear hs1 hb1
            rcases hres with rfl | ⟨q, rfl, hq, hg⟩
            · go_wp2_with fail
              go_meet
              case rel => exact mid_no HS1.out HB1.out
            · have HQ : Hid (Val z n p q) := .inr (.inl hq)
              have HG : Hid (Good z n tgt f e0 → Good z n tgt f1 e1) := fun h => hg h trivial
              clear hq hg
              go_wp2_with fail
              go_meet
              case rel => exact mid_yes q HS1.out HB1.out HQ.out HG.out
          · have y3 : (z p == 123) = false := by simp [h123]
            clear h123
            by_cases h116 : z p = 116
            · have y4 : (z p == 116) = true := by simp [h116]
              clear h116
              go_wp2_with fail
              refine (zzWord_any b o n c z _ p ⟨#[116, 114, 117, 101]⟩ (by decide) hn (by omega) HC.out).mono ?_
              rintro e w2 ⟨hres, r, rfl⟩
              rcases hres with rfl | ⟨q, rfl, hq⟩
              · go_wp2_with fail
                go_meet
                case rel => exact mid_no (HV.out.drewN _) (below_drewN (Below.refl _ _) _)
              · have HQ : Hid (Val z n p q) := .inr (.inr (word_scal _ (by decide) word_true hq))
                clear hq
                go_wp2_with fail
                go_meet
                case rel => exact mid_yes q (HV.out.drewN _) (below_drewN (Below.refl _ _) _) HQ.out fun h => h
            · have y4 : (z p == 116) = false := by simp [h116]
              clear h116
              by_cases h102 : z p = 102
              · have y5 : (z p == 102) = true := by simp [h102]
                clear h102
                go_wp2_with fail
                refine (zzWord_any b o n c z _ p ⟨#[102, 97, 108, 115, 101]⟩ (by decide) hn (by omega) HC.out).mono ?_
                rintro e w2 ⟨hres, r, rfl⟩
                rcases hres with rfl | ⟨q, rfl, hq⟩
                · go_wp2_with fail
                  go_meet
                  case rel => exact mid_no (HV.out.drewN _) (below_drewN (Below.refl _ _) _)
                · have HQ : Hid (Val z n p q) := .inr (.inr (word_scal _ (by decide) word_false hq))
                  clear hq
                  go_wp2_with fail
                  go_meet
                  case rel => exact mid_yes q (HV.out.drewN _) (below_drewN (Below.refl _ _) _) HQ.out fun h => h
              · have y5 : (z p == 102) = false := by simp [h102]
                clear h102
                by_cases h110 : z p = 110
                · have y6 : (z p == 110) = true := by simp [h110]
                  clear h110
                  go_wp2_with fail
                  refine (zzWord_any b o n c z _ p ⟨#[110, 117, 108, 108]⟩ (by decide) hn (by omega) HC.out).mono ?_
                  rintro e w2 ⟨hres, r, rfl⟩
                  rcases hres with rfl | ⟨q, rfl, hq⟩
                  · go_wp2_with fail
                    go_meet
                    case rel => exact mid_no (HV.out.drewN _) (below_drewN (Below.refl _ _) _)
                  · have HQ : Hid (Val z n p q) := .inr (.inr (word_scal _ (by decide) word_null hq))
                    clear hq
                    go_wp2_with fail
                    go_meet
                    case rel => exact mid_yes q (HV.out.drewN _) (below_drewN (Below.refl _ _) _) HQ.out fun h => h
                · have y6 : (z p == 110) = false := by simp [h110]
                  clear h110
                  by_cases h45 : z p = 45
                  · have y7 : (z p == 45) = true := by simp [h45]
                    clear h45
                    go_wp2_with fail
                    refine (zzNumber_val b o n c z _ p hn hpn HC.out).mono ?_
                    rintro e w2 ⟨hres, rfl⟩
                    rcases hres with rfl | ⟨q, rfl, hq⟩
                    · go_wp2_with fail
                      go_meet
                      case rel => exact mid_no HV.out (Below.refl _ _)
                    · have HQ : Hid (Val z n p q) := hq
                      clear hq
                      go_wp2_with fail
                      go_meet
                      case rel => exact mid_yes q HV.out (Below.refl _ _) HQ.out fun h => h
                  · have y7 : (z p == 45) = false := by simp [h45]
                    clear h45
                    by_cases hd : digB (z p) = true
                    · go_wp2_with (go_at_call 34; refine (zzDigit_any _ _).mono ?_; rintro e w' ⟨rfl, rfl⟩)
                      refine (zzNumber_val b o n c z _ p hn hpn HC.out).mono ?_
                      rintro e w2 ⟨hres, rfl⟩
                      rcases hres with rfl | ⟨q, rfl, hq⟩
                      · go_wp2_with fail
                        go_meet
                        case rel => exact mid_no HV.out (Below.refl _ _)
                      · have HQ : Hid (Val z n p q) := hq
                        clear hq
                        go_wp2_with fail
                        go_meet
                        case rel => exact mid_yes q HV.out (Below.refl _ _) HQ.out fun h => h
                    · have hd' : digB (z p) = false := by simpa using hd
                      clear hd
                      go_wp2_with (go_at_call 34; refine (zzDigit_any _ _).mono ?_; rintro e w' ⟨rfl, rfl⟩)
                      go_meet
                      case rel => exact mid_no HV.out (Below.refl _ _)
    case rest =>
      obtain ⟨r, f1, e1, rfl, hs1, hb1, hres⟩ := hcut
      have HS1 : Hid (SInv wc sb tgt f1 e1) := hs1
      have HB1 : Hid (Below sb w wc) := hb1
      clear hs1 hb1 hcp
      rcases hres with rfl | ⟨q, rfl, hq, hg⟩
      · go_wp2_with fail
        refine (zzNote_any z n sb tgt p (-1) f1 e1 _ HS1.out (.inl rfl)).mono ?_
        rintro e w3 ⟨rfl, f2, e2, hs2, hb2, -⟩
        have HS2 : Hid (SInv w3 sb tgt f2 e2) := hs2
        have HB2 : Hid (Below sb wc w3) := hb2
        clear hs2 hb2
        go_wp2_with fail
        go_ret
        exact ⟨f2, e2, HS2.out, HB1.out.trans HB2.out, res_no⟩
      · have HQ : Hid (Val z n p q) := hq
        have HG : Hid (Good z n tgt f e0 → Good z n tgt f1 e1) := hg
        clear hq hg
        go_wp2_with fail
        refine (zzNote_any z n sb tgt p q f1 e1 _ HS1.out (.inr ⟨q, rfl⟩)).mono ?_
        rintro e w3 ⟨rfl, f2, e2, hs2, hb2, hg2⟩
        have HS2 : Hid (SInv w3 sb tgt f2 e2) := hs2
        have HB2 : Hid (Below sb wc w3) := hb2
        have HG2 : Hid (Good z n tgt f1 e1 → Follow z n q → Good z n tgt f2 e2) := fun h hf => hg2 q rfl h (HQ.out.vend hf)
        clear hs2 hb2 hg2
        go_wp2_with fail
        go_ret
        exact ⟨f2, e2, HS2.out, HB1.out.trans HB2.out, res_yes q rfl ⟨HQ.out, fun h hf => HG2.out (HG.out h) hf⟩⟩
  · go_enter Try.func27, Try.ntmps27
    go_wp2_with fail
    go_ret
    exact ⟨f, e0, HV.out, Below.refl _ _, res_no⟩

theorem valueOK (b o n c sb tgt : Nat) (z : Nat → Int) (hn : n ≤ 1048576) (hbs : b < sb) (m : Nat) : ValueOK b o n c sb tgt z m := by
  induction m with
  | zero => exact valueOK_zero b o n c sb tgt z
  | succ m ih => exact valueOK_succ b o n c sb tgt z m hn hbs ih
end Go.Proofs.Qxb6602608a
