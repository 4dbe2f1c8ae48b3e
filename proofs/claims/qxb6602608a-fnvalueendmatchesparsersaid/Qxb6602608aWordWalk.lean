import Derived.Test.Qxb6602608aStrWalk
import Derived.WalkSmall
namespace Go.Proofs.Qxb6602608a
open Go.ChangeShapes Go.WideShapes Go.ChangeAt Go.RowKit

set_option maxRecDepth 20000 in
theorem zzWord_any (b o n c : Nat) (z : Nat → Int) (w : World) (p : Nat) (s : ByteArray) (hs : s.size ≤ 8) (hn : n ≤ 1048576) (hp : p ≤ n) (hc : Txt w b o n z) :
    Calls Try.prog 33 #[.slice (some ⟨b, o, none⟩) n c, .int .i64 p, .string s] w fun e' w' => Res e' (fun q => q = p + s.size ∧ q ≤ n ∧ ∀ k (h : k < s.size), z (p + k) = (s[k].toNat : Int)) ∧ ∃ r, w' = w.drewN r := by
  by_cases hfit : n - p < s.size
  · go_enter Try.func33, Try.ntmps33
    go_wp2
    go_ret
    exact ⟨res_no, 0, rfl⟩
  · have d1 : decide ((n : Int) - (p : Int) < (s.size : Int)) = false := decide_eq_false (by omega)
    have HC : Hid (Txt w b o n z) := hc
    clear hc
    go_enter Try.func33, Try.ntmps33
    go_wp2
    go_loopw [7] (fun t wr => ∃ m : Nat, t = .int .i64 m ∧ m ≤ s.size ∧ (∀ k (h : k < s.size), k < m → z (p + k) = (s[k].toNat : Int)) ∧ ∃ r, wr = w.drewN r) (fun t _ => s.size - (intOf t).toNat)
    case atStart => exact ⟨0, rfl, Nat.zero_le _, fun k _ h => by omega, 0, rfl⟩
    case round =>
      obtain ⟨m, rfl, hm, hall, r, hwr⟩ := hrel
      have HW : Hid (wr = w.drewN r) := hwr
      clear hwr
      have HA : Hid (∀ k (h : k < s.size), k < m → z (p + k) = (s[k].toNat : Int)) := hall
      clear hall
      by_cases hlt : m < s.size
      · have hcm : wr.cell? ⟨b, o + (p + m), none⟩ = some (.int .u8 (z (p + m))) := by rw [HW.out]; simpa using HC.out (p + m) (by omega)
        have e1 : (0 : Int) ≤ (p : Int) + (m : Int) := by omega
        have e2 : (p : Int) + (m : Int) < (n : Int) := by omega
        have e3 : ((p : Int) + (m : Int)).toNat = p + m := by omega
        by_cases hv : (z (p + m) != (s[m].toNat : Int)) = true
        · go_wp2
          go_quiet (fail)
          go_wp2
          go_ret
          exact ⟨res_no, _, by rw [HW.out, World.drewN_drewN]⟩
        · have hv' : (z (p + m) != (s[m].toNat : Int)) = false := by simpa using hv
          clear hv
          go_wp2
          go_quiet (fail)
          go_wp2
          go_roundw
          case rel =>
            refine ⟨m + 1, by go_num, by omega, fun k h hk => ?_, _, by rw [HW.out, World.drewN_drewN]⟩
            by_cases e : k = m
            · subst e; simpa using hv'
            · exact HA.out k h (by omega)
          case measure => simp [intOf]; omega
      · go_wp2
        go_ret
        exact ⟨res_yes (p + s.size) (by omega) ⟨rfl, by omega, fun k h => HA.out k h (by omega)⟩, r, HW.out⟩

/-- 'true', 'false', 'null'. -/
theorem scal_of {c : Int} (h : 97 ≤ c ∧ c ≤ 122) : scal c := by unfold scal other delim ws; omega
theorem word_scal {z : Nat → Int} {n p q : Nat} (s : ByteArray) (h0 : 0 < s.size) (hs : ∀ k (h : k < s.size), 97 ≤ s[k].toNat ∧ s[k].toNat ≤ 122)
    (h : q = p + s.size ∧ q ≤ n ∧ ∀ k (h : k < s.size), z (p + k) = (s[k].toNat : Int)) : Scal z n p q := by
  obtain ⟨h1, h2, h3⟩ := h
  refine ⟨by omega, h2, fun j hj1 hj2 => ?_⟩
  obtain ⟨k, rfl⟩ : ∃ k, j = p + k := ⟨j - p, by omega⟩
  have hk : k < s.size := by omega
  rw [h3 k hk]
  have := hs k hk
  exact scal_of (by omega)
theorem word_true : ∀ k (h : k < (⟨#[116, 114, 117, 101]⟩ : ByteArray).size), 97 ≤ ((⟨#[116, 114, 117, 101]⟩ : ByteArray)[k]'h).toNat ∧ ((⟨#[116, 114, 117, 101]⟩ : ByteArray)[k]'h).toNat ≤ 122 := by
  intro k h
  have h' : k < 4 := h
  match k, h, h' with
  | 0, _, _ => exact ⟨(by decide : 97 ≤ (116 : UInt8).toNat), (by decide : (116 : UInt8).toNat ≤ 122)⟩
  | 1, _, _ => exact ⟨(by decide : 97 ≤ (114 : UInt8).toNat), (by decide : (114 : UInt8).toNat ≤ 122)⟩
  | 2, _, _ => exact ⟨(by decide : 97 ≤ (117 : UInt8).toNat), (by decide : (117 : UInt8).toNat ≤ 122)⟩
  | 3, _, _ => exact ⟨(by decide : 97 ≤ (101 : UInt8).toNat), (by decide : (101 : UInt8).toNat ≤ 122)⟩
theorem word_false : ∀ k (h : k < (⟨#[102, 97, 108, 115, 101]⟩ : ByteArray).size), 97 ≤ ((⟨#[102, 97, 108, 115, 101]⟩ : ByteArray)[k]'h).toNat ∧ ((⟨#[102, 97, 108, 115, 101]⟩ : ByteArray)[k]'h).toNat ≤ 122 := by
  intro k h
  have h' : k < 5 := h
  match k, h, h' with
  | 0, _, _ => exact ⟨(by decide : 97 ≤ (102 : UInt8).toNat), (by decide : (102 : UInt8).toNat ≤ 122)⟩
  | 1, _, _ => exact ⟨(by decide : 97 ≤ (97 : UInt8).toNat), (by decide : (97 : UInt8).toNat ≤ 122)⟩
  | 2, _, _ => exact ⟨(by decide : 97 ≤ (108 : UInt8).toNat), (by decide : (108 : UInt8).toNat ≤ 122)⟩
  | 3, _, _ => exact ⟨(by decide : 97 ≤ (115 : UInt8).toNat), (by decide : (115 : UInt8).toNat ≤ 122)⟩
  | 4, _, _ => exact ⟨(by decide : 97 ≤ (101 : UInt8).toNat), (by decide : (101 : UInt8).toNat ≤ 122)⟩
theorem word_null : ∀ k (h : k < (⟨#[110, 117, 108, 108]⟩ : ByteArray).size), 97 ≤ ((⟨#[110, 117, 108, 108]⟩ : ByteArray)[k]'h).toNat ∧ ((⟨#[110, 117, 108, 108]⟩ : ByteArray)[k]'h).toNat ≤ 122 := by
  intro k h
  have h' : k < 4 := h
  match k, h, h' with
  | 0, _, _ => exact ⟨(by decide : 97 ≤ (110 : UInt8).toNat), (by decide : (110 : UInt8).toNat ≤ 122)⟩
  | 1, _, _ => exact ⟨(by decide : 97 ≤ (117 : UInt8).toNat), (by decide : (117 : UInt8).toNat ≤ 122)⟩
  | 2, _, _ => exact ⟨(by decide : 97 ≤ (108 : UInt8).toNat), (by decide : (108 : UInt8).toNat ≤ 122)⟩
  | 3, _, _ => exact ⟨(by decide : 97 ≤ (108 : UInt8).toNat), (by decide : (108 : UInt8).toNat ≤ 122)⟩
end Go.Proofs.Qxb6602608a
