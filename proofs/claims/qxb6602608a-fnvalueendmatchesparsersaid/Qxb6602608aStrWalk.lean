import Derived.Test.Qxb6602608aScanWalk
namespace Go.Proofs.Qxb6602608a
open Go.ChangeShapes Go.WideShapes Go.ChangeAt Go.RowKit

/-- What a reader of the parser hands back: -1, or a place at which p holds. -/
def Res (e : Ending) (p : Nat → Prop) : Prop := e = .returned (.int .i64 (-1)) ∨ ∃ q : Nat, e = .returned (.int .i64 q) ∧ p q
theorem res_no {p : Nat → Prop} : Res (.returned (.int .i64 (-1))) p := .inl rfl
theorem res_yes {p : Nat → Prop} {v : Int} (q : Nat) (h : v = q) (hp : p q) : Res (.returned (.int .i64 v)) p := .inr ⟨q, by rw [h], hp⟩

theorem hex_step {z : Nat → Int} {n i : Nat} (hi : i < n) (h : hexB (z i) = true) : SStep z n i (i + 1) := by
  have := hex_of h
  exact ⟨hi, by omega, .inr ⟨by omega, rfl⟩⟩
theorem uesc {z : Nat → Int} {n i : Nat} (hi : i + 5 < n) (h34 : ¬ z i = 34) (h92 : z i = 92) (hx : ∀ j, 2 ≤ j → j < 6 → hexB (z (i + j)) = true) : SReach z n 5 i (i + 6) :=
  ⟨i + 2, ⟨by omega, h34, .inl ⟨h92, rfl⟩⟩, i + 3, hex_step (by omega) (hx 2 (by omega) (by omega)), i + 4, hex_step (by omega) (hx 3 (by omega) (by omega)),
    i + 5, hex_step (by omega) (hx 4 (by omega) (by omega)), i + 6, hex_step (by omega) (hx 5 (by omega) (by omega)), rfl⟩

set_option maxRecDepth 20000 in
set_option maxHeartbeats 2000000 in
theorem zzString_any (b o n c : Nat) (z : Nat → Int) (w : World) (p : Nat) (hn : n ≤ 1048576) (hp : p < n) (hz : z p = 34) (hc : Txt w b o n z) :
    Calls Try.prog 30 #[.slice (some ⟨b, o, none⟩) n c, .int .i64 p] w fun e' w' => Res e' (StrEnd z n p) ∧ w' = w := by
  have HC : Hid (Txt w b o n z) := hc
  have HZ : Hid (z p = 34) := hz
  clear hc hz
  go_enter Try.func30, Try.ntmps30
  go_wp2_with fail
  go_loop [1] (fun s => ∃ k i : Nat, s = .int .i64 i ∧ p + 1 ≤ i ∧ i ≤ n ∧ SReach z n k (p + 1) i) (fun s => n - (intOf s).toNat)
  case atStart => exact ⟨0, p + 1, by go_num, Nat.le_refl _, by omega, rfl⟩
  case round =>
    obtain ⟨k, i, rfl, hi1, hi2, hri⟩ := hrel
    have HR : Hid (SReach z n k (p + 1) i) := hri
    clear hri
    by_cases hlt : i < n
    · have hci := HC.out i hlt
      by_cases h34 : z i = 34
      · have y1 : (z i == 34) = true := by simp [h34]
        have H34 : Hid (z i = 34) := h34
        clear h34
        go_wp2_with fail
        go_ret
        exact ⟨res_yes (i + 1) (by omega) ⟨hp, HZ.out, k, i, rfl, hlt, H34.out, HR.out⟩, rfl⟩
      · have y1 : (z i == 34) = false := by simp [h34]
        have H34 : Hid (¬ z i = 34) := h34
        clear h34
        by_cases h32 : z i < 32
        · go_wp2_with fail
          go_ret
          exact ⟨res_no, rfl⟩
        · by_cases h92 : z i = 92
          · have y2 : (z i != 92) = false := by simp [h92]
            have H92 : Hid (z i = 92) := h92
            clear h92
            by_cases h1 : i + 1 < n
            · have hci1 := HC.out (i + 1) h1
              by_cases hu : z (i + 1) = 117
              · have y3 : (z (i + 1) == 117) = true := by simp [hu]
                clear hu
                by_cases h5 : i + 5 < n
                · have d1 : decide ((n : Int) ≤ (i : Int) + 1) = false := decide_eq_false (by omega)
                  have d5 : decide ((n : Int) ≤ (i : Int) + 5) = false := decide_eq_false (by omega)
                  go_wp2_with fail
                  go_loop [7] (fun t => ∃ m : Nat, t = .int .i64 m ∧ 2 ≤ m ∧ m ≤ 6 ∧ ∀ j, 2 ≤ j → j < m → hexB (z (i + j)) = true) (fun t => 6 - (intOf t).toNat)
                  case atStart => exact ⟨2, rfl, by omega, by omega, fun j h1 h2 => by omega⟩
                  case round =>
                    obtain ⟨m, rfl, hm1, hm2, hhex⟩ := hrel
                    have HH : Hid (∀ j, 2 ≤ j → j < m → hexB (z (i + j)) = true) := hhex
                    clear hhex
                    by_cases hm6 : m < 6
                    · have hcm := HC.out (i + m) (by omega)
                      by_cases hx : hexB (z (i + m)) = true
                      · go_wp2_with (go_at_call 38; refine (zzHex_any _ _).mono ?_; rintro e w' ⟨rfl, rfl⟩)
                        go_round
                        case rel =>
                          refine ⟨m + 1, by go_num, by omega, by omega, fun j h1 h2 => ?_⟩
                          by_cases e : j = m
                          · subst e; exact hx
                          · exact HH.out j h1 (by omega)
                        case measure => simp [intOf]; omega
                      · have hx' : hexB (z (i + m)) = false := by simpa using hx
                        clear hx
                        go_wp2_with (go_at_call 38; refine (zzHex_any _ _).mono ?_; rintro e w' ⟨rfl, rfl⟩)
                        go_ret
                        exact ⟨res_no, rfl⟩
                    · have hme : m = 6 := by omega
                      subst hme
                      go_wp2_with fail
                      go_round
                      case rel => exact ⟨k + 5, i + 6, by go_num, by omega, by omega, HR.out.trans (uesc h5 H34.out H92.out HH.out)⟩
                      case measure => simp [intOf]; omega
                · go_wp2_with fail
                  go_ret
                  exact ⟨res_no, rfl⟩
              · have y3 : (z (i + 1) == 117) = false := by simp [hu]
                clear hu
                go_wp2_with fail
                all_goals first
                  | (go_ret; exact ⟨res_no, rfl⟩)
                  | (go_round
                     case rel => exact ⟨k + 1, i + 2, by go_num, by omega, by omega, HR.out.trans (SReach.one ⟨hlt, H34.out, .inl ⟨H92.out, rfl⟩⟩)⟩
                     case measure => simp [intOf]; omega)
            · go_wp2_with fail
              go_ret
              exact ⟨res_no, rfl⟩
          · have y2 : (z i != 92) = true := by simp [h92]
            have H92 : Hid (¬ z i = 92) := h92
            clear h92
            go_wp2_with fail
            go_round
            case rel => exact ⟨k + 1, i + 1, by go_num, by omega, by omega, HR.out.trans (SReach.one ⟨hlt, H34.out, .inr ⟨H92.out, rfl⟩⟩)⟩
            case measure => simp [intOf]; omega
    · go_wp2_with fail
      go_ret
      exact ⟨res_no, rfl⟩
end Go.Proofs.Qxb6602608a
