import Derived.Test.Qxb6602608aRows
import Derived.Test.Qxb6602608aRowKit
namespace Go.Proofs.Qxb6602608a
open Go.ChangeShapes Go.WideShapes Go.ChangeAt Go.RowKit

theorem Try.info5 : (Try.prog.info? 5).map (fun i => (i.zero, i.size, i.bytes)) = some (some (.int .u8 0), 1, 1) := by kernel_rfl
theorem Try.info9 : (Try.prog.info? 9).map (fun i => (i.zero, i.size, i.bytes)) = some (some (.string ⟨#[]⟩), 1, 16) := by kernel_rfl

/-- zzCloneBytes. -/
theorem cloneBytes (a : Option Addr) (len cap : Nat) (v : Nat → Int) (w : World) (hlen : len ≤ 1048576) (hnil : a = none → len = 0 ∧ cap = 0)
    (hc : HasRow w a len (fun i => .int .u8 (v i))) :
    Calls Try.prog 16 #[.slice a len cap] w fun e w' => ∃ a', e = .returned (.slice a' len len) ∧ HasRow w' a' len (fun i => .int .u8 (v i)) ∧ Below w.heap.size w w' := by
  have hn := fun (wx : World) (a : Option Addr) (n c n' c' : Nat) => Lib.run_eql_slice_nil (P := Try.prog) wx 27 5 a n c n' c' Try.underlying27
  rcases a with _ | x
  · obtain ⟨rfl, rfl⟩ := hnil rfl
    go_enter Try.func16, Try.ntmps16
    go_wp2
    go_ret
    exact ⟨none, rfl, .inl rfl, Below.refl _ _⟩
  · have hmk := fun wx => run_make_row' (P := Try.prog) 27 5 (.int .u8 0) 1 Try.underlying27 Try.info5 rfl .i64 .i64 len (by omega) (by omega) wx
    go_enter Try.func16, Try.ntmps16
    go_wp2
    go_loopw [4] (fun i wr => ∃ k : Nat, k ≤ len ∧ i = .int .i64 k ∧ wr.rowIs w.heap.size 5 len (fun j => if j < k then .int .u8 (v j) else .int .u8 0) ∧ Below w.heap.size w wr)
      (fun i _ => len - (intOf i).toNat)
    case atStart => exact ⟨0, Nat.zero_le _, rfl, World.rowIs_made _ _ _ _, (Below.refl _ _).alloc (Nat.le_refl _) _⟩
    case round =>
      obtain ⟨k, hk, rfl, hrow, hb⟩ := hrel
      by_cases hlt : k < len
      · obtain ⟨y, hy, hck⟩ := (hc.later hb).at hlt
        simp only [Option.some.injEq] at hy
        subst hy
        have hcg := hrow.cell hlt
        have hfg := hrow.frozen k
        go_wp2
        go_roundw
        case rel =>
          refine ⟨k + 1, by omega, by go_num, (hrow.set k _).congr fun j hj => ?_, hb.setCell (Nat.le_refl _) _⟩
          by_cases e : j = k
          · subst e; simp
          · by_cases e2 : j < k
            · rw [if_neg e, if_pos e2, if_pos (by omega)]
            · rw [if_neg e, if_neg e2, if_neg (by omega)]
        case measure => simp [intOf]; omega
      · go_wp2
        go_ret
        exact ⟨_, rfl, HasRow.of_rowIs (hrow.congr fun j hj => by rw [if_pos (by omega)]), hb⟩

/-- zzCloneStrings. -/
theorem cloneStrings (a : Option Addr) (len cap : Nat) (v : Nat → ByteArray) (w : World) (hlen : len ≤ 1048576) (hnil : a = none → len = 0 ∧ cap = 0)
    (hc : HasRow w a len (fun i => .string (v i))) :
    Calls Try.prog 15 #[.slice a len cap] w fun e w' => ∃ a', e = .returned (.slice a' len len) ∧ HasRow w' a' len (fun i => .string (v i)) ∧ Below w.heap.size w w' := by
  have hn := fun (wx : World) (a : Option Addr) (n c n' c' : Nat) => Lib.run_eql_slice_nil (P := Try.prog) wx 26 9 a n c n' c' Try.underlying26
  rcases a with _ | x
  · obtain ⟨rfl, rfl⟩ := hnil rfl
    go_enter Try.func15, Try.ntmps15
    go_wp2
    go_ret
    exact ⟨none, rfl, .inl rfl, Below.refl _ _⟩
  · have hmk := fun wx => run_make_row' (P := Try.prog) 26 9 (.string ⟨#[]⟩) 16 Try.underlying26 Try.info9 rfl .i64 .i64 len (by omega) (by omega) wx
    go_enter Try.func15, Try.ntmps15
    go_wp2
    go_loopw [4] (fun i wr => ∃ k : Nat, k ≤ len ∧ i = .int .i64 k ∧ wr.rowIs w.heap.size 9 len (fun j => if j < k then .string (v j) else .string ⟨#[]⟩) ∧ Below w.heap.size w wr)
      (fun i _ => len - (intOf i).toNat)
    case atStart => exact ⟨0, Nat.zero_le _, rfl, World.rowIs_made _ _ _ _, (Below.refl _ _).alloc (Nat.le_refl _) _⟩
    case round =>
      obtain ⟨k, hk, rfl, hrow, hb⟩ := hrel
      by_cases hlt : k < len
      · obtain ⟨y, hy, hck⟩ := (hc.later hb).at hlt
        simp only [Option.some.injEq] at hy
        subst hy
        have hcg := hrow.cell hlt
        have hfg := hrow.frozen k
        go_wp2
        go_roundw
        case rel =>
          refine ⟨k + 1, by omega, by go_num, (hrow.set k _).congr fun j hj => ?_, hb.setCell (Nat.le_refl _) _⟩
          by_cases e : j = k
          · subst e; simp
          · by_cases e2 : j < k
            · rw [if_neg e, if_pos e2, if_pos (by omega)]
            · rw [if_neg e, if_neg e2, if_neg (by omega)]
        case measure => simp [intOf]; omega
      · go_wp2
        go_ret
        exact ⟨_, rfl, HasRow.of_rowIs (hrow.congr fun j hj => by rw [if_pos (by omega)]), hb⟩
end Go.Proofs.Qxb6602608a
