import Derived.Test.Qxb6602608aStrWalk
namespace Go.Proofs.Qxb6602608a
open Go.RowKit

/-- What the scan record says is right: where something was found, valueEnd ends there. -/
def Good (z : Nat → Int) (n tgt : Nat) (f : Bool) (e : Int) : Prop := f = true → ∃ q : Nat, e = q ∧ VEnd z n tgt q
/-- What a reader of the parser leaves. -/
def VPost (K F : Nat → Prop) (z : Nat → Int) (n sb tgt : Nat) (f : Bool) (e0 : Int) (w : World) (e' : Ending) (w' : World) : Prop :=
  ∃ f1 e1, SInv w' sb tgt f1 e1 ∧ Below sb w w' ∧ Res e' (fun q => K q ∧ (Good z n tgt f e0 → F q → Good z n tgt f1 e1))

theorem Txt.later {w w' : World} {b o n sb : Nat} {z : Nat → Int} (h : Txt w b o n z) (hb : b < sb) (hbl : Below sb w w') : Txt w' b o n z :=
  fun i hi => (hbl.cell (p := ⟨b, o + i, none⟩) hb).trans (h i hi)

theorem zzSkipWS_at (b o n c : Nat) (z : Nat → Int) (w : World) (p : Nat) (pi : Int) (hpi : pi = p) (hn : n ≤ 1048576) (hp : p ≤ n) (hc : Txt w b o n z) :
    Calls Try.prog 26 #[.slice (some ⟨b, o, none⟩) n c, .int .i64 pi] w fun e' w' => ∃ q : Nat, e' = .returned (.int .i64 q) ∧ SkipTo z n p q ∧ w' = w := by
  subst hpi
  exact zzSkipWS_any b o n c z w p hn hp hc

theorem SkipTo.pass {z : Nat → Int} {n p q : Nat} (h : SkipTo z n p q) : Pass z n p q := Pass.others q h.2.1 h.1 fun j h1 h2 => other_ws (h.2.2 j h1 h2)
theorem SkipTo.follow {z : Nat → Int} {n p q : Nat} (h : SkipTo z n p q) (hq : q = n ∨ (q < n ∧ delim (z q))) : Follow z n p := follow_ws h.1 h.2.1 h.2.2 hq
theorem other_of {c d : Int} (h : c = d) (hd : other d) : other c := by rw [h]; exact hd
theorem other_44 : other 44 := by unfold other; omega
theorem other_58 : other 58 := by unfold other; omega

/-- The value at i is over at q; white space to r, where a ',' or a closing sign stands. -/
theorem next_val {z : Nat → Int} {n p i q r : Nat} (ho : Opened z n p i) (hv : Val z n i q) (hs : SkipTo z n q r) : Opened z n p r := (ho.go hv.pass).go hs.pass
end Go.Proofs.Qxb6602608a
