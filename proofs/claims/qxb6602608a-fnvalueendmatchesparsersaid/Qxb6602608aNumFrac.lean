import Derived.Test.Qxb6602608aNumExp
namespace Go.Proofs.Qxb6602608a
open Go.ChangeShapes Go.WideShapes Go.ChangeAt Go.RowKit

set_option maxRecDepth 100000 in
set_option maxHeartbeats 4000000 in
theorem num_frac (b o n c : Nat) (z : Nat → Int) (w : World) (p q : Nat) (hn : n ≤ 1048576) (hpq : p < q) (hsegq : NumSeg z n p q) (hc : Txt w b o n z) (x2 x3 x4 x5 x6 x7 x8 x9 x10 x11 x12 x13 x14 x15 x16 x17 x18 x19 x20 x21 x22 x23 x24 x25 x26 x27 x28 x29 x30 x31 x32 x33 x34 x35 x36 x37 x38 x39 x40 x41 x42 x43 x44 x45 x46 x47 x48 x49 x50 x51 x52 x53 x54 x55 x56 x57 x58 x59 x60 x61 x62 x63 x64 x65 x66 x67 x68 x69 x70 x71 x72 x73 x74 x75 x76 x77 x78 x79 x80 x81 x82 x83 x84 x85 x86 x87 x88 x89 x90 x91 x92 x93 x94 x95 x96 x97 x98 x99 x100 x101 x102 x103 x104 x105 x106 x107 x108 x109 x110 x111 x112 x113 x114 x115 x116 x117 x118 x119 x120 x121 x122 x123 x124 x125 x126 x127 x128 x129 x130 x131 x132 x133 x134 x135 x136 x137 x138 x139 x140 x141 x142 x143 x144 : Value) :
    Code.wp Try.prog ((Try.f35.body.bind (codeFrom 11)).getD .skip) (bodyPost Try.prog Try.f35 fun e' w' => Res e' (fun q => p < q ∧ NumSeg z n p q) ∧ w' = w) ⟨List.toArray (.slice (some ⟨b, o, none⟩) n c :: .int .i64 q :: x2 :: x3 :: x4 :: x5 :: x6 :: x7 :: x8 :: x9 :: x10 :: x11 :: x12 :: x13 :: x14 :: x15 :: x16 :: x17 :: x18 :: x19 :: x20 :: x21 :: x22 :: x23 :: x24 :: x25 :: x26 :: x27 :: x28 :: x29 :: x30 :: x31 :: x32 :: x33 :: x34 :: x35 :: x36 :: x37 :: x38 :: x39 :: x40 :: x41 :: x42 :: x43 :: x44 :: x45 :: x46 :: x47 :: x48 :: x49 :: x50 :: x51 :: x52 :: x53 :: x54 :: x55 :: x56 :: x57 :: x58 :: x59 :: x60 :: x61 :: x62 :: x63 :: x64 :: x65 :: x66 :: x67 :: x68 :: x69 :: x70 :: x71 :: x72 :: x73 :: x74 :: x75 :: x76 :: x77 :: x78 :: x79 :: x80 :: x81 :: x82 :: x83 :: x84 :: x85 :: x86 :: x87 :: x88 :: x89 :: x90 :: x91 :: x92 :: x93 :: x94 :: x95 :: x96 :: x97 :: x98 :: x99 :: x100 :: x101 :: x102 :: x103 :: x104 :: x105 :: x106 :: x107 :: x108 :: x109 :: x110 :: x111 :: x112 :: x113 :: x114 :: x115 :: x116 :: x117 :: x118 :: x119 :: x120 :: x121 :: x122 :: x123 :: x124 :: x125 :: x126 :: x127 :: x128 :: x129 :: x130 :: x131 :: x132 :: x133 :: x134 :: x135 :: x136 :: x137 :: x138 :: x139 :: x140 :: x141 :: x142 :: x143 :: x144 :: []), []⟩ w := by
  conv => arg 2; whnf
  have hqn := hsegq.2.1
  have HQ : Hid (NumSeg z n p q) := hsegq
  have HC : Hid (Txt w b o n z) := hc
  clear hsegq hc

  go_upto_region 11 with fail
  go_cut [51] (fun s wd => IsB s (q < n ∧ z q = 46) ∧ wd = w)
  case first =>
    by_cases hq : q < n
    · have hcq := HC.out q hq
      by_cases h : z q = 46
      · have y : (z q == 46) = true := by simp [h]
        have H : Hid (z q = 46) := h
        clear h
        go_wp2_with fail
        go_meet
        case rel => exact ⟨isB_yes ⟨hq, H.out⟩, rfl⟩
      · have y : (z q == 46) = false := by simp [h]
        clear h
        go_wp2_with fail
        go_meet
        case rel => exact ⟨isB_no, rfl⟩
    · go_wp2_with fail
      go_meet
      case rel => exact ⟨isB_no, rfl⟩
  case rest =>
    obtain ⟨⟨t, rfl, ht⟩, rfl⟩ := hcut
    go_upto_if 51 with fail
    go_cut [1] (fun s wd => ∃ r : Nat, s = .int .i64 r ∧ p < r ∧ NumSeg z n p r ∧ wd = wc)
    case first =>
      cases t
      · go_wp2_with fail
        go_meet
        case rel => exact ⟨q, rfl, hpq, HQ.out, rfl⟩
      · obtain ⟨hq, h46⟩ := ht rfl
        have HS : Hid (NumSeg z n p (q + 1)) := HQ.out.snoc hq (.inr (.inr (.inr (.inl h46))))
        clear h46 ht
        by_cases hr : q + 1 < n
        · have hcr := HC.out (q + 1) hr
          by_cases hd : digB (z (q + 1)) = true
          · have dr1 : decide ((n : Int) ≤ (q : Int) + 1) = false := decide_eq_false (by omega)
            have dr2 : decide (n ≤ q + 1) = false := decide_eq_false (by omega)
            go_wp2_with (go_at_call 34; refine (zzDigit_any _ _).mono ?_; rintro e w' ⟨rfl, rfl⟩)
            clear hd hcr dr1 dr2
            go_loop [1] (fun s => ∃ j : Nat, s = .int .i64 j ∧ q + 1 ≤ j ∧ NumSeg z n p j) (fun s => n - (intOf s).toNat)
            case atStart => exact ⟨q + 1, by go_num, Nat.le_refl _, HS.out⟩
            case round =>
              obtain ⟨j, rfl, hj1, hj2⟩ := hrel
              have hj3 := hj2.2.1
              have HJ : Hid (NumSeg z n p j) := hj2
              clear hj2
              by_cases hjn : j < n
              · have hcj := HC.out j hjn
                by_cases hdj : digB (z j) = true
                · go_wp2_with (go_at_call 34; refine (zzDigit_any _ _).mono ?_; rintro e w' ⟨rfl, rfl⟩)
                  go_round
                  case rel => first | exact ⟨j + 1, by go_num, by omega, HJ.out.snoc hjn (numc_dig hdj)⟩ | (refine ⟨trivial, ?_⟩; (repeat apply Exists.intro); refine ⟨?_, rfl⟩; exact ⟨j + 1, by go_num, by omega, HJ.out.snoc hjn (numc_dig hdj)⟩)
                  case measure => simp [intOf]; omega
                · have hdj' : digB (z j) = false := by simpa using hdj
                  clear hdj
                  go_wp2_with (go_at_call 34; refine (zzDigit_any _ _).mono ?_; rintro e w' ⟨rfl, rfl⟩)
                  go_meet
                  case rel => exact ⟨j, rfl, by omega, HJ.out, rfl⟩
              · go_wp2_with (go_at_call 34; refine (zzDigit_any _ _).mono ?_; rintro e w' ⟨rfl, rfl⟩)
                go_meet
                case rel => exact ⟨j, rfl, by omega, HJ.out, rfl⟩
          · have hd' : digB (z (q + 1)) = false := by simpa using hd
            clear hd
            go_wp2_with (go_at_call 34; refine (zzDigit_any _ _).mono ?_; rintro e w' ⟨rfl, rfl⟩)
            go_ret
            exact ⟨res_no, rfl⟩
        · go_wp2_with (go_at_call 34; refine (zzDigit_any _ _).mono ?_; rintro e w' ⟨rfl, rfl⟩)
          go_ret
          exact ⟨res_no, rfl⟩
    case rest =>
      obtain ⟨r, rfl, hpr, hsegr, rfl⟩ := hcut
      rename_i hk
      refine hk _ _ ?_
      exact num_exp b o n c z _ p r hn hpr hsegr HC.out _ _ _ _ _ _ _ _ _ _ _ _ _ _ _ _ _ _ _ _ _ _ _ _ _ _ _ _ _ _ _ _ _ _ _ _ _ _ _ _ _ _ _ _ _ _ _ _ _ _ _ _ _ _ _ _ _ _ _ _ _ _ _ _ _ _ _ _ _ _ _ _ _ _ _ _ _ _ _ _ _ _ _ _ _ _ _ _ _ _ _ _ _ _ _ _ _ _ _ _ _ _ _ _ _ _ _ _ _ _ _ _ _ _ _ _ _ _ _ _ _ _ _ _ _ _ _ _ _ _ _ _ _ _ _ _ _ _ _ _ _ _ _
end Go.Proofs.Qxb6602608a
