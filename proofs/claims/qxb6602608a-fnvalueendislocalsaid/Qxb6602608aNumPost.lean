import Derived.Test.Qxb6602608aNumFrac
namespace Go.Proofs.Qxb6602608a
open Go.ChangeShapes Go.WideShapes Go.ChangeAt Go.RowKit

set_option maxRecDepth 100000 in
set_option maxHeartbeats 4000000 in
theorem zzNumber_any (b o n c : Nat) (z : Nat → Int) (w : World) (p : Nat) (hn : n ≤ 1048576) (hp : p < n) (hc : Txt w b o n z) :
    Calls Try.prog 35 #[.slice (some ⟨b, o, none⟩) n c, .int .i64 p] w fun e' w' => Res e' (fun q => p < q ∧ NumSeg z n p q) ∧ w' = w := by
  have HC : Hid (Txt w b o n z) := hc
  have hcp := hc p hp
  clear hc
  go_enter Try.func35, Try.ntmps35
  go_upto_if 9 with fail
  go_cut [1] (fun s wc => ∃ i : Nat, s = .int .i64 i ∧ NumSeg z n p i ∧ wc = w)
  case first =>
    by_cases h : z p = 45
    · have y : (z p == 45) = true := by simp [h]
      have H : Hid (z p = 45) := h
      clear h
      go_wp2_with fail
      go_meet
      case rel => exact ⟨p + 1, by go_num, (NumSeg.refl (by omega)).snoc hp (.inr (.inl H.out)), rfl⟩
    · have y : (z p == 45) = false := by simp [h]
      clear h
      go_wp2_with fail
      go_meet
      case rel => exact ⟨p, rfl, NumSeg.refl (by omega), rfl⟩
  case rest =>
    obtain ⟨i, rfl, hseg, rfl⟩ := hcut
    have hi := hseg.2.1
    have HS0 : Hid (NumSeg z n p i) := hseg
    have hpi := hseg.1
    clear hseg hcp
    by_cases hin : i < n
    · have hci := HC.out i hin
      have d1 : decide ((n : Int) ≤ (i : Int)) = false := decide_eq_false (by omega)
      go_upto_if 20 with fail
      clear d1
      go_cut [1] (fun s wd => ∃ q : Nat, s = .int .i64 q ∧ p < q ∧ NumSeg z n p q ∧ wd = wc)
      case first =>
        by_cases h : z i = 48
        · have y : (z i == 48) = true := by simp [h]
          have H : Hid (z i = 48) := h
          clear h
          go_wp2_with fail
          go_meet
          case rel => exact ⟨i + 1, by go_num, by omega, HS0.out.snoc hin (.inl (by rw [H.out]; omega)), rfl⟩
        · have y : (z i == 48) = false := by simp [h]
          clear h
          by_cases hd : digB (z i) = true
          · have HD : Hid (digB (z i) = true) := hd
            have HS : Hid (NumSeg z n p i) := HS0
            go_wp2_with (go_at_call 34; refine (zzDigit_any _ _).mono ?_; rintro e w' ⟨rfl, rfl⟩)
            clear hd
            go_loop [1] (fun s => ∃ j : Nat, s = .int .i64 j ∧ i ≤ j ∧ NumSeg z n p j) (fun s => n - (intOf s).toNat)
            case atStart => exact ⟨i, by go_num, Nat.le_refl _, HS.out⟩
            case round =>
              obtain ⟨j, rfl, hj1, hj2⟩ := hrel
              have hj3 := hj2.2.1
              have HJ : Hid (NumSeg z n p j) := hj2
              clear hj2
              by_cases hjn : j < n
              · have hcj := HC.out j hjn
                by_cases hdj : digB (z j) = true
                · go_wp2_with (go_at_call 34; refine (zzDigit_any _ _).mono ?_; rintro e w' ⟨rfl, rfl⟩)
                  go_round
                  case rel => first | exact ⟨j + 1, by go_num, by omega, HJ.out.snoc hjn (numc_dig hdj)⟩ | (refine ⟨trivial, ?_⟩; (repeat apply Exists.intro); refine ⟨?_, rfl⟩; exact ⟨j + 1, by go_num, by omega, HJ.out.snoc hjn (numc_dig hdj)⟩)
                  case measure => simp [intOf]; omega
                · have hdj' : digB (z j) = false := by simpa using hdj
                  have hne : ¬ j = i := fun h => by rw [h] at hdj; exact hdj HD.out
                  clear hdj
                  go_wp2_with (go_at_call 34; refine (zzDigit_any _ _).mono ?_; rintro e w' ⟨rfl, rfl⟩)
                  go_meet
                  case rel => exact ⟨j, rfl, by omega, HJ.out, rfl⟩
              · have hne : ¬ j = i := by omega
                go_wp2_with (go_at_call 34; refine (zzDigit_any _ _).mono ?_; rintro e w' ⟨rfl, rfl⟩)
                go_meet
                case rel => exact ⟨j, rfl, by omega, HJ.out, rfl⟩
          · have hd' : digB (z i) = false := by simpa using hd
            clear hd
            go_wp2_with (go_at_call 34; refine (zzDigit_any _ _).mono ?_; rintro e w' ⟨rfl, rfl⟩)
            go_ret
            exact ⟨res_no, rfl⟩
      case rest =>
        obtain ⟨q, rfl, hpq, hsegq, rfl⟩ := hcut
        rename_i hk
        refine hk _ _ ?_
        exact num_frac b o n c z _ p q hn hpq hsegq HC.out _ _ _ _ _ _ _ _ _ _ _ _ _ _ _ _ _ _ _ _ _ _ _ _ _ _ _ _ _ _ _ _ _ _ _ _ _ _ _ _ _ _ _ _ _ _ _ _ _ _ _ _ _ _ _ _ _ _ _ _ _ _ _ _ _ _ _ _ _ _ _ _ _ _ _ _ _ _ _ _ _ _ _ _ _ _ _ _ _ _ _ _ _ _ _ _ _ _ _ _ _ _ _ _ _ _ _ _ _ _ _ _ _ _ _ _ _ _ _ _ _ _ _ _ _ _ _ _ _ _ _ _ _ _ _ _ _ _ _ _ _ _ _
    · go_wp2_with fail
      go_ret
      exact ⟨res_no, rfl⟩

theorem zzNumber_val (b o n c : Nat) (z : Nat → Int) (w : World) (p : Nat) (hn : n ≤ 1048576) (hp : p < n) (hc : Txt w b o n z) :
    Calls Try.prog 35 #[.slice (some ⟨b, o, none⟩) n c, .int .i64 p] w fun e' w' => Res e' (Val z n p) ∧ w' = w := by
  refine (zzNumber_any b o n c z w p hn hp hc).mono ?_
  rintro e w' ⟨hres, rfl⟩
  refine ⟨?_, rfl⟩
  rcases hres with rfl | ⟨q, rfl, h1, h2⟩
  · exact res_no
  · exact res_yes q rfl (.inr (.inr (num_scal h2 h1)))
end Go.Proofs.Qxb6602608a
