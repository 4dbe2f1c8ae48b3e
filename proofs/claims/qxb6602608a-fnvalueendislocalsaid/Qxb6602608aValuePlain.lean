/-
  Plain mathematics of JSON texts as byte rows: no Go in sight. z : the bytes as numbers; n : how many.
-/
namespace Go.Proofs.Qxb6602608a

/-- White space. -/
def ws (c : Int) : Prop := c = 32 ∨ c = 9 ∨ c = 10 ∨ c = 13
/-- What ends a number or a word. -/
def delim (c : Int) : Prop := c = 44 ∨ c = 125 ∨ c = 93 ∨ ws c
/-- A byte that the scan of a container passes over. -/
def other (c : Int) : Prop := ¬ c = 34 ∧ ¬ c = 123 ∧ ¬ c = 91 ∧ ¬ c = 125 ∧ ¬ c = 93
/-- A byte of a number or a word. -/
def scal (c : Int) : Prop := other c ∧ ¬ delim c
def closer (c : Int) : Prop := c = 125 ∨ c = 93

/-- One round of the scan of a string. -/
def SStep (z : Nat → Int) (n i j : Nat) : Prop := i < n ∧ ¬ z i = 34 ∧ ((z i = 92 ∧ j = i + 2) ∨ (¬ z i = 92 ∧ j = i + 1))
def SReach (z : Nat → Int) (n : Nat) : Nat → Nat → Nat → Prop
  | 0, i, j => i = j
  | k + 1, i, j => ∃ m, SStep z n i m ∧ SReach z n k m j
/-- A string begins at p and ends ahead of e. -/
def StrEnd (z : Nat → Int) (n p e : Nat) : Prop := p < n ∧ z p = 34 ∧ ∃ k q, e = q + 1 ∧ q < n ∧ z q = 34 ∧ SReach z n k (p + 1) q

theorem SReach.trans {z : Nat → Int} {n : Nat} : ∀ {k i j l m}, SReach z n k i j → SReach z n l j m → SReach z n (k + l) i m
  | 0, i, j, l, m, h1, h2 => by
    have e : i = j := h1
    subst e
    rw [Nat.zero_add]; exact h2
  | k + 1, i, j, l, m, h1, h2 => by
    obtain ⟨p, hp, hr⟩ := h1
    rw [show k + 1 + l = (k + l) + 1 from by omega]
    exact ⟨p, hp, hr.trans h2⟩
theorem SReach.one {z : Nat → Int} {n i j : Nat} (h : SStep z n i j) : SReach z n 1 i j := ⟨j, h, rfl⟩
theorem SReach.le {z : Nat → Int} {n : Nat} : ∀ {k i j}, SReach z n k i j → i ≤ j
  | 0, i, j, h => Nat.le_of_eq h
  | k + 1, i, j, h => by
    obtain ⟨m, hs, hr⟩ := h
    have := hr.le
    rcases hs.2.2 with ⟨_, h⟩ | ⟨_, h⟩ <;> omega
theorem StrEnd.lt {z : Nat → Int} {n p e : Nat} (h : StrEnd z n p e) : p + 1 < e ∧ e ≤ n := by
  obtain ⟨_, _, k, q, he, hq, _, hr⟩ := h
  have := hr.le
  omega

/-- One round of the scan of a container: place and depth. -/
def Step (z : Nat → Int) (n p d p' d' : Nat) : Prop := p < n ∧
  ((z p = 34 ∧ StrEnd z n p p' ∧ d' = d) ∨ ((z p = 123 ∨ z p = 91) ∧ p' = p + 1 ∧ d' = d + 1) ∨
   (closer (z p) ∧ 2 ≤ d ∧ p' = p + 1 ∧ d = d' + 1) ∨ (other (z p) ∧ p' = p + 1 ∧ d' = d))
def Reach (z : Nat → Int) (n : Nat) : Nat → Nat → Nat → Nat → Nat → Prop
  | 0, p, d, q, e => p = q ∧ d = e
  | k + 1, p, d, q, e => ∃ p' d', Step z n p d p' d' ∧ Reach z n k p' d' q e

theorem Step.lt {z : Nat → Int} {n p d p' d' : Nat} (h : Step z n p d p' d') : p < p' := by
  obtain ⟨_, h | h | h | h⟩ := h
  · have := h.2.1.lt; omega
  · omega
  · omega
  · omega
theorem Reach.le {z : Nat → Int} {n : Nat} : ∀ {k p d q e}, Reach z n k p d q e → p ≤ q
  | 0, p, d, q, e, h => Nat.le_of_eq h.1
  | k + 1, p, d, q, e, h => by
    obtain ⟨p', d', hs, hr⟩ := h
    have := hr.le
    have := hs.lt
    omega
theorem Reach.trans {z : Nat → Int} {n : Nat} : ∀ {k p d q e l r f}, Reach z n k p d q e → Reach z n l q e r f → Reach z n (k + l) p d r f
  | 0, p, d, q, e, l, r, f, h1, h2 => by
    obtain ⟨e1, e2⟩ := h1
    subst e1; subst e2
    rw [Nat.zero_add]; exact h2
  | k + 1, p, d, q, e, l, r, f, h1, h2 => by
    obtain ⟨p', d', hs, hr⟩ := h1
    rw [show k + 1 + l = (k + l) + 1 from by omega]
    exact ⟨p', d', hs, hr.trans h2⟩
theorem Reach.one {z : Nat → Int} {n p d p' d' : Nat} (h : Step z n p d p' d') : Reach z n 1 p d p' d' := ⟨p', d', h, rfl, rfl⟩
theorem Step.up {z : Nat → Int} {n p d p' d' : Nat} (h : Step z n p d p' d') (m : Nat) : Step z n p (d + m) p' (d' + m) := by
  obtain ⟨hp, h | h | h | h⟩ := h
  · exact ⟨hp, .inl ⟨h.1, h.2.1, by omega⟩⟩
  · exact ⟨hp, .inr (.inl ⟨h.1, by omega, by omega⟩)⟩
  · exact ⟨hp, .inr (.inr (.inl ⟨h.1, by omega, by omega, by omega⟩))⟩
  · exact ⟨hp, .inr (.inr (.inr ⟨h.1, by omega, by omega⟩))⟩
theorem Reach.up {z : Nat → Int} {n : Nat} (m : Nat) : ∀ {k p d q e}, Reach z n k p d q e → Reach z n k p (d + m) q (e + m)
  | 0, p, d, q, e, h => ⟨h.1, by rw [h.2]⟩
  | k + 1, p, d, q, e, h => by
    obtain ⟨p', d', hs, hr⟩ := h
    exact ⟨p', d' + m, hs.up m, hr.up m⟩

/-- The scan passes from p to q and is at the depth at which it was, whatever that is (1 or more). -/
def Pass (z : Nat → Int) (n p q : Nat) : Prop := p ≤ q ∧ q ≤ n ∧ ∀ d, 1 ≤ d → ∃ k, Reach z n k p d q d
theorem Pass.refl {z : Nat → Int} {n p : Nat} (h : p ≤ n) : Pass z n p p := ⟨Nat.le_refl _, h, fun _ _ => ⟨0, rfl, rfl⟩⟩
theorem Pass.trans {z : Nat → Int} {n p q r : Nat} (h1 : Pass z n p q) (h2 : Pass z n q r) : Pass z n p r :=
  ⟨Nat.le_trans h1.1 h2.1, h2.2.1, fun d hd => by
    obtain ⟨k, hk⟩ := h1.2.2 d hd
    obtain ⟨l, hl⟩ := h2.2.2 d hd
    exact ⟨k + l, hk.trans hl⟩⟩
theorem Pass.other {z : Nat → Int} {n p : Nat} (hp : p < n) (h : other (z p)) : Pass z n p (p + 1) :=
  ⟨by omega, by omega, fun _ _ => ⟨1, Reach.one ⟨hp, .inr (.inr (.inr ⟨h, rfl, rfl⟩))⟩⟩⟩
theorem Pass.others {z : Nat → Int} {n p : Nat} (q : Nat) (hq : q ≤ n) (hpq : p ≤ q) (h : ∀ j, p ≤ j → j < q → Qxb6602608a.other (z j)) : Pass z n p q := by
  induction q with
  | zero =>
    have : p = 0 := by omega
    subst this
    exact Pass.refl (by omega)
  | succ q ih =>
    by_cases e : p = q + 1
    · subst e; exact Pass.refl hq
    · exact (ih (by omega) (by omega) fun j h1 h2 => h j h1 (by omega)).trans (Pass.other (by omega) (h q (by omega) (by omega)))
theorem Pass.str {z : Nat → Int} {n p e : Nat} (h : StrEnd z n p e) : Pass z n p e :=
  ⟨by have := h.lt; omega, h.lt.2, fun _ _ => ⟨1, Reach.one ⟨h.1, .inl ⟨h.2.1, h, rfl⟩⟩⟩⟩

/-- A container begins at p and ends ahead of e. -/
def Cont (z : Nat → Int) (n p e : Nat) : Prop := p < n ∧ (z p = 123 ∨ z p = 91) ∧ ∃ k q, e = q + 1 ∧ q < n ∧ closer (z q) ∧ Reach z n k p 0 q 1
theorem Cont.pass {z : Nat → Int} {n p e : Nat} (h : Cont z n p e) : Pass z n p e := by
  obtain ⟨_, _, k, q, he, hq, hc, hr⟩ := h
  subst he
  refine ⟨by have := hr.le; omega, by omega, fun d hd => ⟨k + 1, ?_⟩⟩
  have h1 := hr.up d
  rw [Nat.zero_add] at h1
  refine h1.trans (Reach.one ⟨hq, .inr (.inr (.inl ⟨hc, by omega, rfl, by omega⟩))⟩)
theorem Cont.lt {z : Nat → Int} {n p e : Nat} (h : Cont z n p e) : p < e ∧ e ≤ n := by
  obtain ⟨_, _, k, q, he, hq, _, hr⟩ := h
  have := hr.le
  omega
/-- A container that has been opened at p and passed up to q. -/
def Opened (z : Nat → Int) (n p q : Nat) : Prop := p < n ∧ (z p = 123 ∨ z p = 91) ∧ q ≤ n ∧ ∃ k, Reach z n k p 0 q 1
theorem Opened.start {z : Nat → Int} {n p : Nat} (hp : p < n) (h : z p = 123 ∨ z p = 91) : Opened z n p (p + 1) :=
  ⟨hp, h, by omega, 1, Reach.one ⟨hp, .inr (.inl ⟨h, rfl, rfl⟩)⟩⟩
theorem Opened.go {z : Nat → Int} {n p q r : Nat} (h : Opened z n p q) (h2 : Pass z n q r) : Opened z n p r := by
  obtain ⟨hp, hz, _, k, hk⟩ := h
  obtain ⟨l, hl⟩ := h2.2.2 1 (Nat.le_refl _)
  exact ⟨hp, hz, h2.2.1, k + l, hk.trans hl⟩
theorem Opened.shut {z : Nat → Int} {n p q : Nat} (h : Opened z n p q) (hq : q < n) (hc : closer (z q)) : Cont z n p (q + 1) := by
  obtain ⟨hp, hz, _, k, hk⟩ := h
  exact ⟨hp, hz, k, q, rfl, hq, hc, hk⟩

/-- A number or a word begins at p and ends ahead of e; what stands at e ends it. -/
def Scal (z : Nat → Int) (n p e : Nat) : Prop := p < e ∧ e ≤ n ∧ ∀ j, p ≤ j → j < e → scal (z j)
def Follow (z : Nat → Int) (n q : Nat) : Prop := q = n ∨ (q < n ∧ delim (z q))
/-- Where valueEnd ends from i on. -/
def VEnd (z : Nat → Int) (n i e : Nat) : Prop := StrEnd z n i e ∨ Cont z n i e ∨ (Scal z n i e ∧ Follow z n e)
theorem Scal.pass {z : Nat → Int} {n p e : Nat} (h : Scal z n p e) : Pass z n p e :=
  Pass.others e h.2.1 (by have := h.1; omega) fun j h1 h2 => (h.2.2 j h1 h2).1
theorem VEnd.lt {z : Nat → Int} {n i e : Nat} (h : VEnd z n i e) : i < e ∧ e ≤ n := by
  rcases h with h | h | h
  · have := h.lt; omega
  · exact h.lt
  · exact ⟨h.1.1, h.1.2.1⟩
/-- What the parser has found from p on. -/
def Val (z : Nat → Int) (n p e : Nat) : Prop := StrEnd z n p e ∨ Cont z n p e ∨ Scal z n p e
theorem Val.pass {z : Nat → Int} {n p e : Nat} (h : Val z n p e) : Pass z n p e := by
  rcases h with h | h | h
  · exact Pass.str h
  · exact h.pass
  · exact h.pass
theorem Val.lt {z : Nat → Int} {n i e : Nat} (h : Val z n i e) : i < e ∧ e ≤ n := by
  rcases h with h | h | h
  · have := h.lt; omega
  · exact h.lt
  · exact ⟨h.1, h.2.1⟩
theorem Val.vend {z : Nat → Int} {n p e : Nat} (h : Val z n p e) (hf : Follow z n e) : VEnd z n p e := by
  rcases h with h | h | h
  · exact .inl h
  · exact .inr (.inl h)
  · exact .inr (.inr ⟨h, hf⟩)
theorem other_ws {c : Int} (h : ws c) : other c := by unfold ws at h; unfold other; omega
/-- White space from p to q, then something that ends a value, or the end. -/
theorem follow_ws {z : Nat → Int} {n p q : Nat} (hpq : p ≤ q) (hq : q ≤ n) (hw : ∀ j, p ≤ j → j < q → ws (z j)) (h : q = n ∨ (q < n ∧ delim (z q))) : Follow z n p := by
  by_cases e : p = q
  · subst e; exact h
  · exact .inr ⟨by omega, .inr (.inr (.inr (hw p (Nat.le_refl _) (by omega))))⟩

/-! ### The same text from another origin: 'text[i:e]' -/
theorem SReach.shift {z : Nat → Int} {n i m : Nat} : ∀ {k p q}, SReach z n k p q → i ≤ p → q ≤ i + m → SReach (fun j => z (i + j)) m k (p - i) (q - i)
  | 0, p, q, h, _, _ => by
    have e : p = q := h
    subst e; exact rfl
  | k + 1, p, q, h, hp, hq => by
    obtain ⟨r, hs, hr⟩ := h
    have h1 := hr.le
    have hz : i + (p - i) = p := by omega
    refine ⟨r - i, ⟨?_, ?_, ?_⟩, hr.shift ?_ hq⟩
    · rcases hs.2.2 with ⟨_, h⟩ | ⟨_, h⟩ <;> omega
    · show ¬ z (i + (p - i)) = 34
      rw [hz]; exact hs.2.1
    · show (z (i + (p - i)) = 92 ∧ _) ∨ (¬ z (i + (p - i)) = 92 ∧ _)
      rw [hz]
      rcases hs.2.2 with ⟨h, h'⟩ | ⟨h, h'⟩
      · exact .inl ⟨h, by omega⟩
      · exact .inr ⟨h, by omega⟩
    · rcases hs.2.2 with ⟨_, h⟩ | ⟨_, h⟩ <;> omega
theorem StrEnd.shift {z : Nat → Int} {n i m p e : Nat} (h : StrEnd z n p e) (hp : i ≤ p) (he : e ≤ i + m) : StrEnd (fun j => z (i + j)) m (p - i) (e - i) := by
  have hl := h.lt
  obtain ⟨_, hz, k, q, e1, hq, hzq, hr⟩ := h
  have h1 : i + (p - i) = p := by omega
  have h2 : i + (q - i) = q := by omega
  have hs := hr.shift (i := i) (m := m) (by omega) (by omega)
  refine ⟨by omega, by show z (i + (p - i)) = 34; rw [h1]; exact hz, k, q - i, by omega, by omega, by show z (i + (q - i)) = 34; rw [h2]; exact hzq, ?_⟩
  rw [show p - i + 1 = p + 1 - i from by omega]
  exact hs
theorem Reach.shift {z : Nat → Int} {n i m : Nat} : ∀ {k p d q e}, Reach z n k p d q e → i ≤ p → q ≤ i + m → Reach (fun j => z (i + j)) m k (p - i) d (q - i) e
  | 0, p, d, q, e, h, _, _ => ⟨by rw [h.1], h.2⟩
  | k + 1, p, d, q, e, h, hp, hq => by
    obtain ⟨p', d', hs, hr⟩ := h
    have h1 := hr.le
    have h2 := hs.lt
    have hz : i + (p - i) = p := by omega
    refine ⟨p' - i, d', ⟨by omega, ?_⟩, hr.shift (by omega) hq⟩
    show (z (i + (p - i)) = 34 ∧ _) ∨ ((z (i + (p - i)) = 123 ∨ z (i + (p - i)) = 91) ∧ _) ∨ (closer (z (i + (p - i))) ∧ _) ∨ (other (z (i + (p - i))) ∧ _)
    rw [hz]
    rcases hs.2 with h | h | h | h
    · exact .inl ⟨h.1, h.2.1.shift hp (by omega), h.2.2⟩
    · exact .inr (.inl ⟨h.1, by omega, h.2.2⟩)
    · exact .inr (.inr (.inl ⟨h.1, h.2.1, by omega, h.2.2.2⟩))
    · exact .inr (.inr (.inr ⟨h.1, by omega, h.2.2⟩))
theorem VEnd.shift {z : Nat → Int} {n i e : Nat} (h : VEnd z n i e) : VEnd (fun j => z (i + j)) (e - i) 0 (e - i) := by
  have hl := h.lt
  rcases h with h | h | h
  · have := h.shift (i := i) (m := e - i) (Nat.le_refl _) (by omega)
    rw [Nat.sub_self] at this
    exact .inl this
  · obtain ⟨_, hz, k, q, e1, hq, hc, hr⟩ := h
    have hlq := hr.le
    have hs := hr.shift (i := i) (m := e - i) (Nat.le_refl _) (by omega)
    rw [Nat.sub_self] at hs
    refine .inr (.inl ⟨by omega, by show z (i + 0) = 123 ∨ z (i + 0) = 91; exact hz, k, q - i, by omega, by omega, ?_, hs⟩)
    show closer (z (i + (q - i)))
    rw [show i + (q - i) = q from by omega]; exact hc
  · exact .inr (.inr ⟨⟨by omega, Nat.le_refl _, fun j _ hj => h.1.2.2 (i + j) (by omega) (by omega)⟩, .inl rfl⟩)
end Go.Proofs.Qxb6602608a
