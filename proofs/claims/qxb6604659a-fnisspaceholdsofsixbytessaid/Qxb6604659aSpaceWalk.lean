import Derived.Test.Qxb6604659aRows
import Derived.WalkKit
import Derived.ProofKit
import Derived.OpenShut
import Derived.ShutString
namespace Go.Proofs.Qxb6604659a
open Go.ChangeShapes Go.WideShapes Go.ChangeAt Go.RowKit

/-- The bytes that isSpace calls space. -/
def spB (a : Int) : Bool := decide (a = 32 ∨ (9 ≤ a ∧ a ≤ 13))

theorem ret_bool {a b : Bool} (h : a = b) : Ending.returned (.bool a) = .returned (.bool b) := by rw [h]

theorem sp_true {a : Int} (h : a = 32 ∨ (9 ≤ a ∧ a ≤ 13)) : true = spB a := by
  unfold spB; exact (decide_eq_true h).symm
theorem sp_last {a : Int} : (a == 32 || a == 9 || a == 10 || a == 13 || a == 12 || a == 11) = spB a := by
  unfold spB; rw [Bool.eq_iff_iff]; simp; omega

theorem isSpace_any (a : Int) (w : World) :
    Calls Try.prog 14 #[.int .u8 a] w fun e w' => e = .returned (.bool (spB a)) ∧ w' = w := by
  go_enter Try.func14, Try.ntmps14
  go_wp2
  all_goals go_ret
  all_goals first | exact ⟨ret_bool sp_last, rfl⟩ | exact ⟨ret_bool (sp_true (by omega)), rfl⟩

theorem zzIsSpace_any (a : Int) (w : World) :
    Calls Try.prog 12 #[.int .u8 a] w fun e w' => e = .returned (.bool (spB a)) ∧ w' = w := by
  go_enter Try.func12, Try.ntmps12
  go_wp2_with (go_at_call 14; refine (isSpace_any _ _).mono ?_; rintro e w' ⟨rfl, rfl⟩)
  go_ret
  exact ⟨rfl, rfl⟩

theorem sp_mid {a : Int} (_h : ¬ a = 32) (h' : 9 ≤ a) : (spB a == (a == 32 || decide (a ≤ 13))) = true := by
  unfold spB; rw [beq_iff_eq, Bool.eq_iff_iff]; simp; omega
theorem sp_low {a : Int} (_h : ¬ a = 32) (h' : a < 9) : (spB a == (a == 32)) = true := by
  unfold spB; rw [beq_iff_eq, Bool.eq_iff_iff]; simp; omega

theorem law5 (a : Int) (w : World) :
    Calls Try.prog 5 #[.int .u8 a] w fun e w' => e = .returned (.bool true) ∧ w' = w := by
  go_enter Try.func5, Try.ntmps5
  go_wp2_with (go_at_call 12; refine (zzIsSpace_any _ _).mono ?_; rintro e w' ⟨rfl, rfl⟩)
  all_goals go_ret
  · exact ⟨ret_bool (sp_true (Or.inl rfl)).symm, rfl⟩
  · exact ⟨ret_bool (sp_mid (by assumption) (by assumption)), rfl⟩
  · exact ⟨ret_bool (sp_low (by assumption) (by assumption)), rfl⟩
end Go.Proofs.Qxb6604659a
