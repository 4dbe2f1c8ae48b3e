/-
  'Rows.FnFieldIndexIsFirstExactMatchSaid': the frame typed by hand after the seat's other shells (a slice of strings and a slice of bytes came in; both are only read).
-/
import Derived.Test.Qxb6602608aRows
import Derived.Test.Qxb6602608aFieldLaw
import Derived.WalkKit
import Derived.ProofKit
import Derived.OpenShut
import Derived.ShutString
import Derived.ChangeOld
import Derived.Below
import Derived.SliceStrings
namespace Go.Proofs.Qxb6602608a.fnFieldIndexIsFirstExactMatch
open Go.ChangeShapes Go.WideShapes Go.ChangeAt Go.RowKit
open Go.ChangeMaps (open_string shut_string)
set_option linter.unusedVariables false

theorem own : ownKnob Try.prog.godebug = none := by kernel_rfl
theorem laidOut : laidOutB Try.prog = true := by kernel_rfl

/-- What the walk is told of the slice of bytes that came in. -/
def IsBytes (w : World) (a : Option Addr) (len cap : Nat) (z : Nat → Int) : Prop :=
  len ≤ 9223372036854775807 ∧ (a = none → len = 0 ∧ cap = 0) ∧ (∀ j, j < len → 0 ≤ z j ∧ z j ≤ 255) ∧ HasRow w a len (fun i => .int .u8 (z i))
/-- What the walk is told of the slice of strings that came in. -/
def IsStrs (w : World) (a : Option Addr) (len cap : Nat) (ss : Nat → ByteArray) : Prop :=
  len ≤ 9223372036854775807 ∧ (a = none → len = 0 ∧ cap = 0) ∧ (∀ j, j < len → (ss j).size ≤ 9223372036854775807) ∧ HasRow w a len (fun i => .string (ss i))

theorem walk (a0 : Option Addr) (len0 cap0 : Nat) (ss : Nat → ByteArray) (a1 : Option Addr) (len1 cap1 : Nat) (z : Nat → Int) (w : World) (w0 : IsStrs w a0 len0 cap0 ss) (w1 : IsBytes w a1 len1 cap1 z) :
    Calls Try.prog 5 #[.slice a0 len0 cap0, .slice a1 len1 cap1] w fun e w' => e = .returned (.bool true) ∧ Below w.heap.size w w' := by
  obtain ⟨hl0, hn0, hs, hc⟩ := w0
  obtain ⟨hl1, hn1, hz, hd⟩ := w1
  exact law5_any a0 len0 cap0 ss a1 len1 cap1 z w hl0 hl1 hs hz hn0 hn1 hc hd

set_option maxRecDepth 100000 in
theorem lifted (os : Os) (started : os.Started) (H : Type) (enc : TypeId × Value → H) :
    ReturnsInHanded {} Try.checked os 5 .any (Rows.fnFieldIndexIsFirstExactMatchSpec.pre6 enc Try.prog Try.f5 Rows.fnFieldIndexIsFirstExactMatchRow.domain false) (Rows.fnFieldIndexIsFirstExactMatchSpec.post enc Try.prog Try.f5 false true false false) := by
  refine returnsInHanded_of_change (C := Try.checked) own started (by kernel_rfl) Try.func5
    (ChangeSpec.witness6 (enc := enc) (C := Try.checked) false ⟨#[], #[.slice none 0 0, .slice none 0 0], []⟩ 8 (by kernel_rfl) (by kernel_rfl) (by kernel_rfl) (by kernel_rfl)) ?_
  intro W base args ds gs before hval0 hW hcnd _
  have hval : ∀ (j : Nat) t v, Try.f5.params[j]? = some t → args[j]? = some v → Value.okWide Try.prog W .any base t v := hval0
  have hW' := hW
  obtain ⟨p, q, hA0, hV, rfl, hfz, hnd⟩ := hW
  have hA : DataW.TrodAll enc Try.prog W 0 (fun _ => true) true Try.f5.params.toList args.toList ds p := hA0
  rw [Try.params5] at hA hval
  obtain ⟨v0, vs0, d0, ds0, p0, q0, hargs, rfl, rfl, h0, r0⟩ := trodAll_cons hA
  obtain ⟨v1, vs1, d1, ds1, p1, q1, rfl, rfl, rfl, h1, r1⟩ := trodAll_cons r0
  obtain ⟨rfl, rfl, rfl⟩ := trodAll_nil r1
  obtain rfl : args = #[v0, v1] := by cases args; simp_all
  obtain ⟨rfl, rfl⟩ := trodVars_none hV
  obtain ⟨a0, len0, cap0, rfl⟩ := okWide_slice Try.underlying26 (hval 0 26 v0 rfl rfl)
  have k0 := h0
  have lt0 : ∀ x ∈ p0, x.block < W.heap.size := by obtain ⟨m, hm⟩ := k0; exact DataW.trod_lt m _ _ _ hm
  obtain ⟨ss, w0⟩ : ∃ ss, IsStrs W a0 len0 cap0 ss := by
    obtain ⟨fuel, hf⟩ := h0
    rcases open_strings Try.underlying26 Try.underlying9 (by kernel_rfl) hf with ⟨hcs, _⟩ | ⟨x, l, c, zs, hcs, _, hl, hm, hz, _, hcell, hws⟩
    · simp [Value.cells] at hcs
      obtain ⟨rfl, rfl, rfl⟩ := hcs
      exact ⟨fun _ => ByteArray.empty, by omega, fun _ => ⟨rfl, rfl⟩, fun j hj => absurd hj (by omega), .inl rfl⟩
    · simp [Value.cells] at hcs
      obtain ⟨rfl, rfl, rfl⟩ := hcs
      have hz' : zs.length = cap0 := by simpa using hz
      unfold maxLen at hm hws
      refine ⟨fun i => zs.getD i ByteArray.empty, by omega, (fun h => by cases h), fun j hj => ?_, .inr ⟨_, rfl, fun i hi => hcell i (by omega)⟩⟩
      have hj' : j < zs.length := by omega
      simp only [List.getD, List.getElem?_eq_getElem hj', Option.getD_some]
      exact hws _ (List.getElem_mem hj')
  obtain ⟨a1, len1, cap1, rfl⟩ := okWide_slice Try.underlying27 (hval 1 27 v1 rfl rfl)
  have k1 := h1
  have lt1 : ∀ x ∈ p1, x.block < W.heap.size := by obtain ⟨m, hm⟩ := k1; exact DataW.trod_lt m _ _ _ hm
  obtain ⟨z, w1⟩ : ∃ z, IsBytes W a1 len1 cap1 z := by
    obtain ⟨fuel, hf⟩ := h1
    rcases open_ints Try.underlying27 Try.underlying5 (by kernel_rfl) hf with ⟨hcs, _⟩ | ⟨x, l, c, zs, hcs, _, hl, hm, hz, _, hcell, hwz⟩
    · simp [Value.cells] at hcs
      obtain ⟨rfl, rfl, rfl⟩ := hcs
      exact ⟨fun _ => 0, by omega, fun _ => ⟨rfl, rfl⟩, fun j hj => absurd hj (by omega), .inl rfl⟩
    · simp [Value.cells] at hcs
      obtain ⟨rfl, rfl, rfl⟩ := hcs
      have hz' : zs.length = cap1 := by simpa using hz
      unfold maxLen at hm
      refine ⟨fun i => zs.getD i 0, by omega, (fun h => by cases h), fun j hj => ?_, .inr ⟨_, rfl, fun i hi => hcell i (by omega)⟩⟩
      have hr := range_u8 hwz j
      simpa [List.getD] using hr
  clear hA0 hval0
  refine (walk a0 len0 cap0 ss a1 len1 cap1 z W w0 w1).mono fun e W' ⟨he, bel⟩ => ?_
  subst he
  exact ⟨_, rfl, _, _, _, [], _, [], hW', trodAll_mk1 (shut_bool Try.underlying4 _), (trodAll_cons_mk (Below.trod laidOut (by kernel_rfl) (of_decide_eq_true (by kernel_rfl)) k0 bel lt0) (trodAll_cons_mk (Below.trod laidOut (by kernel_rfl) (of_decide_eq_true (by kernel_rfl)) k1 bel lt1) trodAll_mk0)), rfl, bel.frame _, fun h => by cases h⟩

theorem over : Rows.fnFieldIndexIsFirstExactMatchRow.holds Try.pinned (OpenSpec.ofChange Rows.fnFieldIndexIsFirstExactMatchSpec) :=
  OpenClaim.holds_of_wide 5 Try.f5 rfl rfl rfl rfl rfl rfl rfl ⟨rfl, rfl, rfl, rfl, rfl⟩ rfl rfl rfl rfl rfl (by kernel_rfl) Try.func5 (by kernel_rfl)
    (of_decide_eq_true (by kernel_rfl)) (by unfold Func.isWrapper; first | (rw [if_pos (by decide +kernel)]; kernel_rfl) | (rw [if_neg (by decide +kernel)]; exact ⟨rfl, rfl⟩))
    (fun os started H enc _ => lifted os started H enc)

/-- The statement. -/
theorem proved : Rows.FnFieldIndexIsFirstExactMatchSaid := over
end Go.Proofs.Qxb6602608a.fnFieldIndexIsFirstExactMatch
