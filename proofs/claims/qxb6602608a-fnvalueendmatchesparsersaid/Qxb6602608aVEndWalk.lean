import Derived.Test.Qxb6602608aRows
import Derived.Test.Qxb6602608aRowKit
import Derived.Test.Qxb6602608aValuePlain
namespace Go.Proofs.Qxb6602608a
open Go.ChangeShapes Go.WideShapes Go.ChangeAt Go.RowKit

/-- The slice at ⟨b, o⟩ holds the bytes z 0 .. z (n - 1). -/
def Txt (w : World) (b o n : Nat) (z : Nat → Int) : Prop := ∀ i, i < n → w.cell? ⟨b, o + i, none⟩ = some (.int .u8 (z i))

theorem vend_str (b o n c : Nat) (z : Nat → Int) (w : World) (p e : Nat) (hn : n ≤ 1048576) (hc : Txt w b o n z) (h : StrEnd z n p e) :
    Calls Try.prog 28 #[.slice (some ⟨b, o, none⟩) n c, .int .i64 p] w fun e' w' => e' = .returned (.int .i64 e) ∧ w' = w := by
  obtain ⟨hp, hz, k0, q, rfl, hq, hzq, hr⟩ := h
  have hp0 := hc p hp
  have hz1 : (z p == 34) = true := by simp [hz]
  have HR : Hid (SReach z n k0 (p + 1) q) := hr
  have HQ : Hid (z q = 34) := hzq
  have HC : Hid (Txt w b o n z) := hc
  clear hr hzq hz hc
  go_enter Try.func28, Try.ntmps28
  go_wp2_with fail
  go_loop [1] (fun s => ∃ k i : Nat, s = .int .i64 i ∧ SReach z n k i q) (fun s => n - (intOf s).toNat)
  case atStart => exact ⟨k0, p + 1, by go_num, HR.out⟩
  case round =>
    obtain ⟨k, i, rfl, hri⟩ := hrel
    have hle := hri.le
    have hci := HC.out i (by omega)
    rcases k with _ | k
    · have e : i = q := hri
      subst e
      have hz2 : (z i != 34) = false := by simp [HQ.out]
      clear hri
      go_wp2_with fail
      go_ret
      exact ⟨rfl, rfl⟩
    · obtain ⟨m, ⟨_, h34, h92⟩, hrm⟩ := hri
      have hle2 := hrm.le
      have HM : Hid (SReach z n k m q) := hrm
      have hz2 : (z i != 34) = true := by simp [h34]
      clear hrm h34
      rcases h92 with ⟨h92, rfl⟩ | ⟨h92, rfl⟩
      · have hz3 : (z i == 92) = true := by simp [h92]
        clear h92
        go_wp2_with fail
        go_round
        case rel => exact ⟨k, i + 2, by go_num, HM.out⟩
        case measure => simp [intOf]; omega
      · have hz3 : (z i == 92) = false := by simp [h92]
        clear h92
        go_wp2_with fail
        go_round
        case rel => exact ⟨k, i + 1, by go_num, HM.out⟩
        case measure => simp [intOf]; omega

def wsB (a : Int) : Bool := decide (a = 32 ∨ a = 9 ∨ a = 10 ∨ a = 13)
theorem ret_bool {a b : Bool} (h : a = b) : Ending.returned (.bool a) = .returned (.bool b) := by rw [h]
theorem wsB_true {a : Int} (h : a = 32 ∨ a = 9 ∨ a = 10 ∨ a = 13) : true = wsB a := (decide_eq_true h).symm
theorem wsB_last {a : Int} : (a == 32 || a == 9 || a == 10 || a == 13) = wsB a := by
  unfold wsB; rw [Bool.eq_iff_iff]; simp; omega
theorem wsB_no {a : Int} (h : ¬ ws a) : wsB a = false := decide_eq_false h
theorem wsB_yes {a : Int} (h : ws a) : wsB a = true := decide_eq_true h
theorem ws_of {a : Int} (h : wsB a = true) : ws a := of_decide_eq_true (p := a = 32 ∨ a = 9 ∨ a = 10 ∨ a = 13) h
theorem ws_not {a : Int} (h : wsB a = false) : ¬ ws a := of_decide_eq_false (p := a = 32 ∨ a = 9 ∨ a = 10 ∨ a = 13) h

theorem isSpace_any (a : Int) (w : World) :
    Calls Try.prog 37 #[.int .u8 a] w fun e w' => e = .returned (.bool (wsB a)) ∧ w' = w := by
  go_enter Try.func37, Try.ntmps37
  go_wp2
  all_goals go_ret
  all_goals first | exact ⟨ret_bool wsB_last, rfl⟩ | exact ⟨ret_bool (wsB_true (by omega)), rfl⟩

set_option maxHeartbeats 1000000 in
theorem vend_cont (b o n c : Nat) (z : Nat → Int) (w : World) (p e : Nat) (hn : n ≤ 1048576) (hc : Txt w b o n z) (h : Cont z n p e) :
    Calls Try.prog 28 #[.slice (some ⟨b, o, none⟩) n c, .int .i64 p] w fun e' w' => e' = .returned (.int .i64 e) ∧ w' = w := by
  obtain ⟨hp, hz, k0, q, rfl, hq, hzq, hr⟩ := h
  have hp0 := hc p hp
  have hz1 : (z p == 34) = false := by rcases hz with h | h <;> simp [h]
  have HR : Hid (Reach z n k0 p 0 q 1) := hr
  have HQ : Hid (closer (z q)) := hzq
  have HC : Hid (Txt w b o n z) := hc
  have hz2 : ((z p == 123) = true) ∨ ((z p == 123) = false ∧ (z p == 91) = true) := by rcases hz with h | h <;> simp [h]
  clear hr hzq hz hc
  rcases hz2 with hz2 | ⟨hz2, hz3⟩
  all_goals
    go_enter Try.func28, Try.ntmps28
    go_wp2_with fail
    go_loop [1, 5] (fun s t => ∃ k i d : Nat, s = .int .i64 i ∧ t = .int .i64 d ∧ d ≤ i ∧ Reach z n k i d q 1) (fun s _ => n - (intOf s).toNat)
    case atStart => exact ⟨k0, p, 0, rfl, rfl, by omega, HR.out⟩
    case round =>
      clear hp0 hz1 hz2
      try clear hz3
      obtain ⟨k, i, d, rfl, rfl, hd, hri⟩ := hrel
      have hle := hri.le
      have hci := HC.out i (by omega)
      rcases k with _ | k
      · obtain ⟨e1, e2⟩ := hri
        subst e1; subst e2
        have y1 : (z i == 34) = false := by rcases HQ.out with h | h <;> simp [h]
        have y2 : (z i == 123) = false := by rcases HQ.out with h | h <;> simp [h]
        have y3 : (z i == 91) = false := by rcases HQ.out with h | h <;> simp [h]
        have y4 : ((z i == 125) = true) ∨ ((z i == 125) = false ∧ (z i == 93) = true) := by rcases HQ.out with h | h <;> simp [h]
        rcases y4 with y4 | ⟨y4, y5⟩
        all_goals
          go_wp2_with fail
          go_ret
          exact ⟨rfl, rfl⟩
      · obtain ⟨i', d', ⟨_, hst⟩, hrm⟩ := hri
        have hle2 := hrm.le
        have HM : Hid (Reach z n k i' d' q 1) := hrm
        clear hrm
        rcases hst with ⟨h1, hse, rfl⟩ | ⟨h1, rfl, rfl⟩ | ⟨h1, h2, rfl, rfl⟩ | ⟨h1, rfl, rfl⟩
        · have y1 : (z i == 34) = true := by simp [h1]
          have hlt := hse.lt
          have HSE : Hid (StrEnd z n i i') := hse
          clear h1 hse
          go_wp2_with fail
          refine (vend_str b o n c z _ i i' hn HC.out HSE.out).mono ?_
          rintro e w' ⟨rfl, rfl⟩
          go_wp2_with fail
          go_round
          case rel => exact ⟨k, i', d', rfl, rfl, by omega, HM.out⟩
          case measure => simp [intOf]; omega
        · have y1 : (z i == 34) = false := by rcases h1 with h | h <;> simp [h]
          have y4 : ((z i == 123) = true) ∨ ((z i == 123) = false ∧ (z i == 91) = true) := by rcases h1 with h | h <;> simp [h]
          clear h1
          rcases y4 with y4 | ⟨y4, y5⟩
          all_goals
            go_wp2_with fail
            go_round
            case rel => exact ⟨k, i + 1, d + 1, by go_num, by go_num, by omega, HM.out⟩
            case measure => simp [intOf]; omega
        · have y1 : (z i == 34) = false := by rcases h1 with h | h <;> simp [h]
          have y2 : (z i == 123) = false := by rcases h1 with h | h <;> simp [h]
          have y3 : (z i == 91) = false := by rcases h1 with h | h <;> simp [h]
          have y4 : ((z i == 125) = true) ∨ ((z i == 125) = false ∧ (z i == 93) = true) := by rcases h1 with h | h <;> simp [h]
          clear h1
          rcases y4 with y4 | ⟨y4, y5⟩
          all_goals
            go_wp2_with fail
            go_round
            case rel => exact ⟨k, i + 1, d', by go_num, by go_num, by omega, HM.out⟩
            case measure => simp [intOf]; omega
        · obtain ⟨o1, o2, o3, o4, o5⟩ := h1
          have y1 : (z i == 34) = false := by simp [o1]
          have y2 : (z i == 123) = false := by simp [o2]
          have y3 : (z i == 91) = false := by simp [o3]
          have y4 : (z i == 125) = false := by simp [o4]
          have y5 : (z i == 93) = false := by simp [o5]
          clear o1 o2 o3 o4 o5
          go_wp2_with fail
          go_round
          case rel => exact ⟨k, i + 1, d', by go_num, by go_num, by omega, HM.out⟩
          case measure => simp [intOf]; omega

theorem vend_scal (b o n c : Nat) (z : Nat → Int) (w : World) (p e : Nat) (hn : n ≤ 1048576) (hc : Txt w b o n z) (h : Scal z n p e) (hf : Follow z n e) :
    Calls Try.prog 28 #[.slice (some ⟨b, o, none⟩) n c, .int .i64 p] w fun e' w' => e' = .returned (.int .i64 e) ∧ w' = w := by
  obtain ⟨hpe, hen, hall⟩ := h
  have hp0 := hc p (by omega)
  obtain ⟨⟨o1, o2, o3, -, -⟩, -⟩ := hall p (Nat.le_refl _) hpe
  have y1 : (z p == 34) = false := by simp [o1]
  have y2 : (z p == 123) = false := by simp [o2]
  have y3 : (z p == 91) = false := by simp [o3]
  have HA : Hid (∀ j, p ≤ j → j < e → scal (z j)) := hall
  have HF : Hid (Follow z n e) := hf
  have HC : Hid (Txt w b o n z) := hc
  clear hc hall hf o1 o2 o3
  go_enter Try.func28, Try.ntmps28
  go_wp2_with fail
  go_loop [1] (fun s => ∃ j : Nat, p ≤ j ∧ j ≤ e ∧ s = .int .i64 j) (fun s => n - (intOf s).toNat)
  case atStart => exact ⟨p, Nat.le_refl _, by omega, rfl⟩
  case round =>
    clear hp0 y1 y2 y3
    obtain ⟨j, hj1, hj2, rfl⟩ := hrel
    by_cases hlt : j < e
    · obtain ⟨-, hnd⟩ := HA.out j hj1 hlt
      unfold delim at hnd
      have y1 : (z j != 44) = true := by simp; exact fun h => hnd (.inl h)
      have y2 : (z j != 125) = true := by simp; exact fun h => hnd (.inr (.inl h))
      have y3 : (z j != 93) = true := by simp; exact fun h => hnd (.inr (.inr (.inl h)))
      have y4 : wsB (z j) = false := wsB_no fun h => hnd (.inr (.inr (.inr h)))
      have hcj := HC.out j (by omega)
      clear hnd
      go_wp2_with (go_at_call 37; refine (isSpace_any _ _).mono ?_; rintro e w' ⟨rfl, rfl⟩)
      go_round
      case rel => exact ⟨j + 1, by omega, by omega, by go_num⟩
      case measure => simp [intOf]; omega
    · have hje : j = e := by omega
      subst hje
      rcases HF.out with h | ⟨hlt2, h⟩
      · have HE : Hid (j = n) := h
        have hge : ¬ j < n := by omega
        clear h
        go_wp2_with (go_at_call 37; refine (isSpace_any _ _).mono ?_; rintro e w' ⟨rfl, rfl⟩)
        go_ret
        exact ⟨rfl, rfl⟩
      · have hcj := HC.out j hlt2
        by_cases h1 : z j = 44
        · have y1 : (z j != 44) = false := by simp [h1]
          clear h h1
          go_wp2_with (go_at_call 37; refine (isSpace_any _ _).mono ?_; rintro e w' ⟨rfl, rfl⟩)
          go_ret
          exact ⟨rfl, rfl⟩
        · have y1 : (z j != 44) = true := by simp [h1]
          by_cases h2 : z j = 125
          · have y2 : (z j != 125) = false := by simp [h2]
            clear h h1 h2
            go_wp2_with (go_at_call 37; refine (isSpace_any _ _).mono ?_; rintro e w' ⟨rfl, rfl⟩)
            go_ret
            exact ⟨rfl, rfl⟩
          · have y2 : (z j != 125) = true := by simp [h2]
            by_cases h3 : z j = 93
            · have y3 : (z j != 93) = false := by simp [h3]
              clear h h1 h2 h3
              go_wp2_with (go_at_call 37; refine (isSpace_any _ _).mono ?_; rintro e w' ⟨rfl, rfl⟩)
              go_ret
              exact ⟨rfl, rfl⟩
            · have y3 : (z j != 93) = true := by simp [h3]
              have y4 : wsB (z j) = true := wsB_yes (by rcases h with h | h | h | h; · exact absurd h h1
                                                        · exact absurd h h2
                                                        · exact absurd h h3
                                                        · exact h)
              clear h h1 h2 h3
              go_wp2_with (go_at_call 37; refine (isSpace_any _ _).mono ?_; rintro e w' ⟨rfl, rfl⟩)
              go_ret
              exact ⟨rfl, rfl⟩

theorem valueEnd_any (b o n c : Nat) (z : Nat → Int) (w : World) (p e : Nat) (hn : n ≤ 1048576) (hc : Txt w b o n z) (h : VEnd z n p e) :
    Calls Try.prog 28 #[.slice (some ⟨b, o, none⟩) n c, .int .i64 p] w fun e' w' => e' = .returned (.int .i64 e) ∧ w' = w := by
  rcases h with h | h | ⟨h, hf⟩
  · exact vend_str b o n c z w p e hn hc h
  · exact vend_cont b o n c z w p e hn hc h
  · exact vend_scal b o n c z w p e hn hc h hf

theorem zzValueEnd_any (b o n c : Nat) (z : Nat → Int) (w : World) (p e : Nat) (hn : n ≤ 1048576) (hc : Txt w b o n z) (h : VEnd z n p e) :
    Calls Try.prog 22 #[.slice (some ⟨b, o, none⟩) n c, .int .i64 p] w fun e' w' => e' = .returned (.int .i64 e) ∧ w' = w := by
  go_enter Try.func22, Try.ntmps22
  go_wp2_with fail
  refine (valueEnd_any b o n c z _ p e hn hc h).mono ?_
  rintro e' w' ⟨rfl, rfl⟩
  go_wp2_with fail
  go_ret
  exact ⟨rfl, rfl⟩
end Go.Proofs.Qxb6602608a
