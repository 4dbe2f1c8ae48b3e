import Derived.Test.Qxb6602608aVEndWalk
import Derived.BigQuiet
import Derived.Deep.QuietTactic
import Derived.Deep.DeepCutAuto
namespace Go.Proofs.Qxb6602608a
open Go.ChangeShapes Go.WideShapes Go.ChangeAt Go.RowKit

theorem zzIsWS_any (a : Int) (w : World) :
    Calls Try.prog 29 #[.int .u8 a] w fun e w' => e = .returned (.bool (wsB a)) ∧ w' = w := by
  go_enter Try.func29, Try.ntmps29
  go_wp2
  all_goals go_ret
  all_goals first | exact ⟨ret_bool wsB_last, rfl⟩ | exact ⟨ret_bool (wsB_true (by omega)), rfl⟩

def digB (a : Int) : Bool := decide (48 ≤ a ∧ a ≤ 57)
theorem dig_of {a : Int} (h : digB a = true) : 48 ≤ a ∧ a ≤ 57 := of_decide_eq_true (p := 48 ≤ a ∧ a ≤ 57) h
theorem digB_no {a : Int} (h : ¬ (48 ≤ a ∧ a ≤ 57)) : digB a = false := decide_eq_false h

theorem zzDigit_any (a : Int) (w : World) :
    Calls Try.prog 34 #[.int .u8 a] w fun e w' => e = .returned (.bool (digB a)) ∧ w' = w := by
  by_cases h1 : 48 ≤ a
  · go_enter Try.func34, Try.ntmps34
    go_wp2
    go_ret
    exact ⟨ret_bool (by unfold digB; simp [h1]), rfl⟩
  · go_enter Try.func34, Try.ntmps34
    go_wp2
    go_ret
    exact ⟨ret_bool (digB_no (by omega)).symm, rfl⟩

/-- White space from p to q. -/
def SkipTo (z : Nat → Int) (n p q : Nat) : Prop := p ≤ q ∧ q ≤ n ∧ ∀ j, p ≤ j → j < q → ws (z j)

theorem zzSkipWS_any (b o n c : Nat) (z : Nat → Int) (w : World) (p : Nat) (hn : n ≤ 1048576) (hp : p ≤ n) (hc : Txt w b o n z) :
    Calls Try.prog 26 #[.slice (some ⟨b, o, none⟩) n c, .int .i64 p] w fun e' w' => ∃ q : Nat, e' = .returned (.int .i64 q) ∧ SkipTo z n p q ∧ w' = w := by
  have HC : Hid (Txt w b o n z) := hc
  clear hc
  go_enter Try.func26, Try.ntmps26
  go_wp2_with fail
  go_loop [1] (fun s => ∃ j : Nat, s = .int .i64 j ∧ SkipTo z n p j) (fun s => n - (intOf s).toNat)
  case atStart => exact ⟨p, rfl, Nat.le_refl _, hp, fun j h1 h2 => by omega⟩
  case round =>
    obtain ⟨j, rfl, hj1, hj2, hall⟩ := hrel
    have HA : Hid (∀ i, p ≤ i → i < j → ws (z i)) := hall
    clear hall
    by_cases hlt : j < n
    · have hcj := HC.out j hlt
      by_cases hw : wsB (z j) = true
      · go_wp2_with (go_at_call 29; refine (zzIsWS_any _ _).mono ?_; rintro e w' ⟨rfl, rfl⟩)
        go_round
        case rel =>
          refine ⟨j + 1, by go_num, by omega, by omega, fun i h1 h2 => ?_⟩
          by_cases e : i = j
          · subst e; exact ws_of hw
          · exact HA.out i h1 (by omega)
        case measure => simp [intOf]; omega
      · have hw' : wsB (z j) = false := by simpa using hw
        clear hw
        go_wp2_with (go_at_call 29; refine (zzIsWS_any _ _).mono ?_; rintro e w' ⟨rfl, rfl⟩)
        go_ret
        exact ⟨j, rfl, ⟨hj1, hj2, HA.out⟩, rfl⟩
    · go_wp2_with (go_at_call 29; refine (zzIsWS_any _ _).mono ?_; rintro e w' ⟨rfl, rfl⟩)
      go_ret
      exact ⟨j, rfl, ⟨hj1, hj2, HA.out⟩, rfl⟩

def hexB (a : Int) : Bool := decide ((48 ≤ a ∧ a ≤ 57) ∨ (97 ≤ a ∧ a ≤ 102) ∨ (65 ≤ a ∧ a ≤ 70))
theorem hex_of {a : Int} (h : hexB a = true) : (48 ≤ a ∧ a ≤ 57) ∨ (97 ≤ a ∧ a ≤ 102) ∨ (65 ≤ a ∧ a ≤ 70) := of_decide_eq_true (p := (48 ≤ a ∧ a ≤ 57) ∨ (97 ≤ a ∧ a ≤ 102) ∨ (65 ≤ a ∧ a ≤ 70)) h
theorem digB_yes {a : Int} (h : 48 ≤ a ∧ a ≤ 57) : digB a = true := decide_eq_true h

theorem zzHex_any (a : Int) (w : World) :
    Calls Try.prog 38 #[.int .u8 a] w fun e w' => e = .returned (.bool (hexB a)) ∧ w' = w := by
  have hd : (digB a = true ∧ 48 ≤ a ∧ a ≤ 57) ∨ (digB a = false ∧ (a < 65 ∧ ¬ (48 ≤ a ∧ a ≤ 57) ∨ (65 ≤ a ∧ a ≤ 70) ∨ (70 < a ∧ a < 97) ∨ (97 ≤ a ∧ a ≤ 102) ∨ 102 < a)) := by
    by_cases h : 48 ≤ a ∧ a ≤ 57
    · exact .inl ⟨digB_yes h, h⟩
    · exact .inr ⟨digB_no h, by omega⟩
  rcases hd with ⟨hd, h1, h2⟩ | ⟨hd, ⟨h1, h2⟩ | ⟨h1, h2⟩ | ⟨h1, h2⟩ | ⟨h1, h2⟩ | h1⟩
  all_goals
    go_enter Try.func38, Try.ntmps38
    go_wp2_with (go_at_call 34; refine (zzDigit_any _ _).mono ?_; rintro e w' ⟨rfl, rfl⟩)
    go_ret
    refine ⟨ret_bool ?_, rfl⟩
    unfold hexB
    rw [Bool.eq_iff_iff]
    simp
    omega

/-- The scan record at block sb. -/
def SInv (w : World) (sb : Nat) (tgt : Int) (f : Bool) (e : Int) : Prop :=
  w.cell? ⟨sb, 0, none⟩ = some (.int .i64 tgt) ∧ w.cell? ⟨sb, 1, none⟩ = some (.bool f) ∧ w.cell? ⟨sb, 2, none⟩ = some (.int .i64 e) ∧
  w.frozen? ⟨sb, 1, none⟩ = false ∧ w.frozen? ⟨sb, 2, none⟩ = false

theorem note_hit (sb : Nat) (tgt r : Int) (f : Bool) (e0 : Int) (w : World) (hr : 0 ≤ r) (h : SInv w sb tgt f e0) :
    Calls Try.prog 36 #[.pointer (some ⟨sb, 0, none⟩), .int .i64 tgt, .int .i64 r] w fun e w' => e = .returned (.tuple #[]) ∧ SInv w' sb tgt true r ∧ Below sb w w' := by
  obtain ⟨c0, c1, c2, f1, f2⟩ := h
  go_enter Try.func36, Try.ntmps36
  go_wp2
  go_end0
  refine ⟨rfl, ⟨?_, ?_, ?_, ?_, ?_⟩, ((Below.refl sb w).setCell (p := ⟨sb, 1, none⟩) (Nat.le_refl sb) _).setCell (p := ⟨sb, 2, none⟩) (Nat.le_refl sb) _⟩
  · rw [World.cell?_setCell_other _ _ _ _ (by simp), World.cell?_setCell_other _ _ _ _ (by simp)]; exact c0
  · rw [World.cell?_setCell_other _ _ _ _ (by simp)]; exact World.cell?_setCell_same _ _ _ c1
  · exact World.cell?_setCell_same _ _ _ (u := .int .i64 e0) (by rw [World.cell?_setCell_other _ _ _ _ (by simp)]; exact c2)
  · simpa using f1
  · simpa using f2

theorem note_miss (sb : Nat) (tgt start r : Int) (f : Bool) (e0 : Int) (w : World) (hr : r < 0 ∨ ¬ start = tgt) (h : SInv w sb tgt f e0) :
    Calls Try.prog 36 #[.pointer (some ⟨sb, 0, none⟩), .int .i64 start, .int .i64 r] w fun e w' => e = .returned (.tuple #[]) ∧ w' = w := by
  obtain ⟨c0, c1, c2, f1, f2⟩ := h
  by_cases h0 : r < 0
  · go_enter Try.func36, Try.ntmps36
    go_wp2
    go_end0
    exact ⟨rfl, rfl⟩
  · have hne : (start == tgt) = false := by simp; omega
    go_enter Try.func36, Try.ntmps36
    go_wp2
    go_end0
    exact ⟨rfl, rfl⟩
end Go.Proofs.Qxb6602608a
