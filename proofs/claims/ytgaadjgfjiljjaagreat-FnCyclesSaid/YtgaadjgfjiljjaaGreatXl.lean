/- Plain laws: taking functions out of a graph of dependencies; what stays (Via, GI). Over lists alone. Conditions: those that each theorem names. -/
import Derived.Test.YtgaadjgfjiljjaaGreatXk
import Derived.Test.YtgaadjgfjiljjaaGreatXi
namespace Go.Proofs.YtgaadjgfjiljjaaGreat
set_option linter.unusedVariables false

/-- A way whose inner places lie in R. -/
inductive Via (dep : Nat → Nat → Prop) (R : Nat → Prop) (i : Nat) : Nat → Prop
  | base {j : Nat} : dep i j → Via dep R i j
  | step {f j : Nat} : Via dep R i f → R f → dep f j → Via dep R i j
def Lead (dep : Nat → Nat → Prop) (i j : Nat) : Prop := Via dep (fun _ => True) i j

section
variable {dep : Nat → Nat → Prop} {R R' : Nat → Prop} {i j k f : Nat}
theorem Via.mono (h : Via dep R i j) (hR : ∀ f, R f → R' f) : Via dep R' i j := by
  induction h with
  | base h => exact .base h
  | step _ h1 h2 ih => exact .step ih (hR _ h1) h2
theorem Via.lead (h : Via dep R i j) : Lead dep i j := h.mono (fun _ _ => trivial)
theorem Lead.trans (h : Lead dep i j) (h' : Lead dep j k) : Lead dep i k := by
  induction h' with
  | base h2 => exact .step h trivial h2
  | step _ _ h2 ih => exact .step ih trivial h2
theorem Via.cons (h0 : dep i f) (hf : R f) (h : Via dep R f j) : Via dep R i j := by
  induction h with
  | base h2 => exact .step (.base h0) hf h2
  | step _ h1 h2 ih => exact .step ih h1 h2
theorem Via.split (h : Via dep (fun x => R x ∨ x = f) i j) : Via dep R i j ∨ (Via dep R i f ∧ Via dep R f j) := by
  induction h with
  | base h => exact .inl (.base h)
  | step _ h1 h2 ih =>
    rcases h1 with h1 | h1
    · rcases ih with ih | ⟨ih1, ih2⟩
      · exact .inl (.step ih h1 h2)
      · exact .inr ⟨ih1, .step ih2 h1 h2⟩
    · subst h1
      rcases ih with ih | ⟨ih1, _⟩
      · exact .inr ⟨ih, .base h2⟩
      · exact .inr ⟨ih1, .base h2⟩
/-- The first place on a way that is not in R. -/
theorem Lead.first (hR : ∀ x, R x ∨ ¬ R x) (h : Lead dep i j) (hj : ¬ R j) : ∃ d, Via dep R i d ∧ ¬ R d ∧ (d = j ∨ Lead dep d j) := by
  have key : ∀ j, Lead dep i j → (R j ∧ Via dep R i j) ∨ ∃ d, Via dep R i d ∧ ¬ R d ∧ (d = j ∨ Lead dep d j) := by
    intro j h
    induction h with
    | @base j h =>
      rcases hR j with hr | hr
      · exact .inl ⟨hr, .base h⟩
      · exact .inr ⟨j, .base h, hr, .inl rfl⟩
    | @step g j _ _ h2 ih =>
      rcases ih with ⟨hg, hv⟩ | ⟨d, h3, h4, h5⟩
      · rcases hR j with hr | hr
        · exact .inl ⟨hr, .step hv hg h2⟩
        · exact .inr ⟨j, .step hv hg h2, hr, .inl rfl⟩
      · refine .inr ⟨d, h3, h4, .inr ?_⟩
        rcases h5 with rfl | h5
        · exact .base h2
        · exact .step h5 trivial h2
  rcases key j h with ⟨h1, _⟩ | h
  · exact absurd h1 hj
  · exact h

/-- What holds of the graph when R has been taken out. -/
structure GI (n : Nat) (dep : Nat → Nat → Prop) (R : Nat → Prop) (PL SL : Nat → List Nat) : Prop where
  snd : ∀ i j, i < n → j ∈ SL i → Lead dep i j
  sndp : ∀ i j, j < n → i ∈ PL j → Lead dep i j
  cmp : ∀ i j, i < n → j < n → ¬ R i → ¬ R j → Via dep R i j → j ∈ SL i
  inv : ∀ i j, i < n → j < n → ¬ R i → ¬ R j → (j ∈ SL i ↔ i ∈ PL j)
  cls : ∀ i, i < n → ¬ R i → ∀ k ∈ SL i, ¬ R k
  clp : ∀ i, i < n → ¬ R i → ∀ k ∈ PL i, ¬ R k

/-- One function is taken out. -/
structure Took (n f : Nat) (PL SL PL' SL' : Nat → List Nat) : Prop where
  s1 : ∀ i, i < n → i ≠ f → i ∈ PL f → ∀ j, j ∈ SL' i ↔ (j ∈ SL i ∨ (j ∈ SL f ∧ j ≠ f)) ∧ j ≠ f
  s2 : ∀ i, i < n → i = f ∨ i ∉ PL f → ∀ j, j ∈ SL' i ↔ j ∈ SL i
  p1 : ∀ j, j < n → j ≠ f → j ∈ SL f → ∀ i, i ∈ PL' j ↔ (i ∈ PL j ∨ (i ∈ PL f ∧ i ≠ f)) ∧ i ≠ f
  p2 : ∀ j, j < n → j ∉ SL f → ∀ i, i ∈ PL' j ↔ i ∈ PL j
  p3 : ∀ i, i ∈ PL' f → i ∈ PL f

theorem GI.took {n : Nat} {PL SL PL' SL' : Nat → List Nat} (h : GI n dep R PL SL) (hf : f < n) (hfR : ¬ R f) (ht : Took n f PL SL PL' SL') : GI n dep (fun x => R x ∨ x = f) PL' SL' := by
  have hPL : ∀ i, i < n → i ∈ PL f → Lead dep i f := fun i _ hi => h.sndp i f hf hi
  refine ⟨fun i j hi hj => ?_, fun i j hj hi => ?_, fun i j hi hj hRi hRj hv => ?_, fun i j hi hj hRi hRj => ?_, fun i hi hRi k hk => ?_, fun i hi hRi k hk => ?_⟩
  · by_cases e : i = f ∨ i ∉ PL f
    · exact h.snd i j hi ((ht.s2 i hi e j).1 hj)
    · have e1 : i ≠ f := fun x => e (.inl x)
      have e2 : i ∈ PL f := Classical.byContradiction fun x => e (.inr x)
      rcases ((ht.s1 i hi e1 e2 j).1 hj).1 with hj | ⟨hj, _⟩
      · exact h.snd i j hi hj
      · exact (hPL i hi e2).trans (h.snd f j hf hj)
  · by_cases e : j = f
    · subst e; exact h.sndp i j hj (ht.p3 i hi)
    · by_cases e2 : j ∈ SL f
      · rcases ((ht.p1 j hj e e2 i).1 hi).1 with hi | ⟨hi, _⟩
        · exact h.sndp i j hj hi
        · exact (h.sndp i f hf hi).trans (h.snd f j hf e2)
      · exact h.sndp i j hj ((ht.p2 j hj e2 i).1 hi)
  · have hi' : ¬ R i ∧ i ≠ f := ⟨fun x => hRi (.inl x), fun x => hRi (.inr x)⟩
    have hj' : ¬ R j ∧ j ≠ f := ⟨fun x => hRj (.inl x), fun x => hRj (.inr x)⟩
    rcases hv.split with hv | ⟨h1, h2⟩
    · have hm := h.cmp i j hi hj hi'.1 hj'.1 hv
      by_cases e : i ∈ PL f
      · exact (ht.s1 i hi hi'.2 e j).2 ⟨.inl hm, hj'.2⟩
      · exact (ht.s2 i hi (.inr e) j).2 hm
    · have hm1 := h.cmp i f hi hf hi'.1 hfR h1
      have hm2 := h.cmp f j hf hj hfR hj'.1 h2
      have e : i ∈ PL f := (h.inv i f hi hf hi'.1 hfR).1 hm1
      exact (ht.s1 i hi hi'.2 e j).2 ⟨.inr ⟨hm2, hj'.2⟩, hj'.2⟩
  · have hi' : ¬ R i ∧ i ≠ f := ⟨fun x => hRi (.inl x), fun x => hRi (.inr x)⟩
    have hj' : ¬ R j ∧ j ≠ f := ⟨fun x => hRj (.inl x), fun x => hRj (.inr x)⟩
    have hS : j ∈ SL' i ↔ (j ∈ SL i ∨ (i ∈ PL f ∧ j ∈ SL f)) := by
      by_cases e : i ∈ PL f
      · rw [ht.s1 i hi hi'.2 e j]
        exact ⟨fun x => x.1.elim .inl (fun y => .inr ⟨e, y.1⟩), fun x => ⟨x.elim .inl (fun y => .inr ⟨y.2, hj'.2⟩), hj'.2⟩⟩
      · rw [ht.s2 i hi (.inr e) j]
        exact ⟨.inl, fun x => x.elim id (fun y => absurd y.1 e)⟩
    have hP : i ∈ PL' j ↔ (i ∈ PL j ∨ (i ∈ PL f ∧ j ∈ SL f)) := by
      by_cases e : j ∈ SL f
      · rw [ht.p1 j hj hj'.2 e i]
        exact ⟨fun x => x.1.elim .inl (fun y => .inr ⟨y.1, e⟩), fun x => ⟨x.elim .inl (fun y => .inr ⟨y.1, hi'.2⟩), hi'.2⟩⟩
      · rw [ht.p2 j hj e i]
        exact ⟨.inl, fun x => x.elim id (fun y => absurd y.2 e)⟩
    rw [hS, hP, h.inv i j hi hj hi'.1 hj'.1]
  · have hi' : ¬ R i ∧ i ≠ f := ⟨fun x => hRi (.inl x), fun x => hRi (.inr x)⟩
    by_cases e : i ∈ PL f
    · have hk' := (ht.s1 i hi hi'.2 e k).1 hk
      rintro (hR | hR)
      · rcases hk'.1 with hm | ⟨hm, _⟩
        · exact h.cls i hi hi'.1 k hm hR
        · exact h.cls f hf hfR k hm hR
      · exact hk'.2 hR
    · have hk' := (ht.s2 i hi (.inr e) k).1 hk
      rintro (hR | hR)
      · exact h.cls i hi hi'.1 k hk' hR
      · subst hR; exact e ((h.inv i k hi hf hi'.1 hfR).1 hk')
  · have hi' : ¬ R i ∧ i ≠ f := ⟨fun x => hRi (.inl x), fun x => hRi (.inr x)⟩
    by_cases e : i ∈ SL f
    · have hk' := (ht.p1 i hi hi'.2 e k).1 hk
      rintro (hR | hR)
      · rcases hk'.1 with hm | ⟨hm, _⟩
        · exact h.clp i hi hi'.1 k hm hR
        · exact h.clp f hf hfR k hm hR
      · exact hk'.2 hR
    · have hk' := (ht.p2 i hi e k).1 hk
      rintro (hR | hR)
      · exact h.clp i hi hi'.1 k hk' hR
      · subst hR; exact e ((h.inv k i hf hi hfR hi'.1).2 hk')

end
end Go.Proofs.YtgaadjgfjiljjaaGreat

/- Plain laws: taking one function out, loop by loop (P7: its successors to one predecessor; P6: all predecessors; P8: its successors forget it). Over lists alone. Conditions: those that each theorem names. -/
namespace Go.Proofs.YtgaadjgfjiljjaaGreat
set_option linter.unusedVariables false

section
variable {n f p : Nat} {PL SL PL1 SL1 PL2 SL2 : Nat → List Nat} {Dp Ds : List Nat}

/-- Behind the successors Ds of f, at the predecessor p. -/
def P7 (f p : Nat) (Ds : List Nat) (PL SL PL1 SL1 : Nat → List Nat) : Prop :=
  (∀ i, i ≠ p → ∀ j, j ∈ SL1 i ↔ j ∈ SL i) ∧ (∀ j, j ∈ SL1 p ↔ j ∈ SL p ∨ (j ∈ Ds ∧ j ≠ f)) ∧ (∀ s i, i ∈ PL1 s ↔ i ∈ PL s ∨ (i = p ∧ s ∈ Ds ∧ s ≠ f))
theorem P7.nil (f p : Nat) (PL SL : Nat → List Nat) : P7 f p [] PL SL PL SL := ⟨fun i _ j => Iff.rfl, fun j => by simp, fun s i => by simp⟩
theorem P7.skip (h : P7 f p Ds PL SL PL1 SL1) : P7 f p (Ds ++ [f]) PL SL PL1 SL1 := by
  refine ⟨h.1, fun j => ?_, fun s i => ?_⟩
  · rw [h.2.1 j, List.mem_append, List.mem_singleton]
    constructor
    · rintro (h1 | ⟨h1, h2⟩)
      · exact .inl h1
      · exact .inr ⟨.inl h1, h2⟩
    · rintro (h1 | ⟨h1 | h1, h2⟩)
      · exact .inl h1
      · exact .inr ⟨h1, h2⟩
      · exact absurd h1 h2
  · rw [h.2.2 s i, List.mem_append, List.mem_singleton]
    constructor
    · rintro (h1 | ⟨h1, h2, h3⟩)
      · exact .inl h1
      · exact .inr ⟨h1, .inl h2, h3⟩
    · rintro (h1 | ⟨h1, h2 | h2, h3⟩)
      · exact .inl h1
      · exact .inr ⟨h1, h2, h3⟩
      · exact absurd h2 h3
theorem P7.step (h : P7 f p Ds PL SL PL1 SL1) {s : Nat} (hs : s ≠ f) : P7 f p (Ds ++ [s]) PL SL (updL PL1 s (addL (PL1 s) p)) (updL SL1 p (addL (SL1 p) s)) := by
  refine ⟨fun i hi j => by rw [updL_ne _ _ hi]; exact h.1 i hi j, fun j => ?_, fun q i => ?_⟩
  · rw [updL_at, addL_mem, h.2.1 j, List.mem_append, List.mem_singleton]
    constructor
    · rintro ((h1 | ⟨h1, h2⟩) | h1)
      · exact .inl h1
      · exact .inr ⟨.inl h1, h2⟩
      · exact .inr ⟨.inr h1, by rw [h1]; exact hs⟩
    · rintro (h1 | ⟨h1 | h1, h2⟩)
      · exact .inl (.inl h1)
      · exact .inl (.inr ⟨h1, h2⟩)
      · exact .inr h1
  · by_cases e : q = s
    · subst e
      rw [updL_at, addL_mem, h.2.2 q i, List.mem_append, List.mem_singleton]
      constructor
      · rintro ((h1 | ⟨h1, h2, h3⟩) | h1)
        · exact .inl h1
        · exact .inr ⟨h1, .inl h2, h3⟩
        · exact .inr ⟨h1, .inr rfl, hs⟩
      · rintro (h1 | ⟨h1, h2 | h2, h3⟩)
        · exact .inl (.inl h1)
        · exact .inl (.inr ⟨h1, h2, h3⟩)
        · exact .inr h1
    · rw [updL_ne _ _ e, h.2.2 q i, List.mem_append, List.mem_singleton]
      constructor
      · rintro (h1 | ⟨h1, h2, h3⟩)
        · exact .inl h1
        · exact .inr ⟨h1, .inl h2, h3⟩
      · rintro (h1 | ⟨h1, h2 | h2, h3⟩)
        · exact .inl h1
        · exact .inr ⟨h1, h2, h3⟩
        · exact absurd h2 e

/-- Behind the predecessors Dp of f. -/
def P6 (f : Nat) (Dp : List Nat) (PL SL PL1 SL1 : Nat → List Nat) : Prop :=
  (∀ i, i = f ∨ i ∉ Dp → ∀ j, j ∈ SL1 i ↔ j ∈ SL i) ∧ (∀ i, i ≠ f → i ∈ Dp → ∀ j, j ∈ SL1 i ↔ (j ∈ SL i ∨ (j ∈ SL f ∧ j ≠ f)) ∧ j ≠ f) ∧ (∀ s i, i ∈ PL1 s ↔ i ∈ PL s ∨ (i ∈ Dp ∧ i ≠ f ∧ s ∈ SL f ∧ s ≠ f))
theorem P6.nil (f : Nat) (PL SL : Nat → List Nat) : P6 f [] PL SL PL SL := ⟨fun i _ j => Iff.rfl, fun i _ h => (by cases h), fun s i => by simp⟩
theorem P6.skip (h : P6 f Dp PL SL PL1 SL1) : P6 f (Dp ++ [f]) PL SL PL1 SL1 := by
  refine ⟨fun i hi j => ?_, fun i hi hm j => ?_, fun s i => ?_⟩
  · refine h.1 i ?_ j
    rcases hi with hi | hi
    · exact .inl hi
    · exact .inr (fun hm => hi (by simp [hm]))
  · have : i ∈ Dp := by
      rcases List.mem_append.1 hm with h | h
      · exact h
      · simp at h; exact absurd h hi
    exact h.2.1 i hi this j
  · rw [h.2.2 s i, List.mem_append, List.mem_singleton]
    constructor
    · rintro (h1 | ⟨h1, h2⟩)
      · exact .inl h1
      · exact .inr ⟨.inl h1, h2⟩
    · rintro (h1 | ⟨h1 | h1, h2, h3⟩)
      · exact .inl h1
      · exact .inr ⟨h1, h2, h3⟩
      · exact absurd h1 h2
/-- All successors of f were given to p, and p forgets f. -/
theorem P6.step (h : P6 f Dp PL SL PL1 SL1) (hp : p ≠ f) (hpD : p ∉ Dp) (h7 : P7 f p Ds PL1 SL1 PL2 SL2) (hDs : ∀ j, j ∈ Ds ↔ j ∈ SL f) {SL3 : Nat → List Nat} (h3 : ∀ i, i ≠ p → ∀ j, j ∈ SL3 i ↔ j ∈ SL2 i) (h3p : ∀ j, j ∈ SL3 p ↔ j ∈ SL2 p ∧ j ≠ f) : P6 f (Dp ++ [p]) PL SL PL2 SL3 := by
  refine ⟨fun i hi j => ?_, fun i hi hm j => ?_, fun s i => ?_⟩
  · have hip : i ≠ p := by
      rcases hi with hi | hi
      · rw [hi]; exact fun e => hp e.symm
      · exact fun e => hi (by simp [e])
    rw [h3 i hip j, h7.1 i hip j]
    refine h.1 i ?_ j
    rcases hi with hi | hi
    · exact .inl hi
    · exact .inr (fun hm => hi (by simp [hm]))
  · by_cases e : i = p
    · subst e
      rw [h3p j, h7.2.1 j, h.1 i (.inr hpD) j, hDs]
    · have : i ∈ Dp := by
        rcases List.mem_append.1 hm with h | h
        · exact h
        · simp at h; exact absurd h e
      rw [h3 i e j, h7.1 i e j]
      exact h.2.1 i hi this j
  · rw [h7.2.2 s i, h.2.2 s i, List.mem_append, List.mem_singleton, hDs]
    constructor
    · rintro ((h1 | ⟨h1, h2⟩) | ⟨h1, h2, h4⟩)
      · exact .inl h1
      · exact .inr ⟨.inl h1, h2⟩
      · exact .inr ⟨.inr h1, by rw [h1]; exact hp, h2, h4⟩
    · rintro (h1 | ⟨h1 | h1, h2, h4, h5⟩)
      · exact .inl (.inl h1)
      · exact .inl (.inr ⟨h1, h2, h4, h5⟩)
      · exact .inr ⟨h1, h4, h5⟩

/-- Behind the successors Ds, each of which forgets f. -/
def P8 (f : Nat) (Ds : List Nat) (PL PL1 : Nat → List Nat) : Prop := (∀ s, s ∉ Ds → ∀ i, i ∈ PL1 s ↔ i ∈ PL s) ∧ (∀ s, s ∈ Ds → ∀ i, i ∈ PL1 s ↔ i ∈ PL s ∧ i ≠ f)
theorem P8.nil (f : Nat) (PL : Nat → List Nat) : P8 f [] PL PL := ⟨fun s _ i => Iff.rfl, fun s h => by cases h⟩
theorem P8.step (h : P8 f Ds PL PL1) {s : Nat} (hs : s ∉ Ds) (hn : (PL1 s).Nodup) : P8 f (Ds ++ [s]) PL (updL PL1 s ((PL1 s).erase f)) := by
  refine ⟨fun q hq i => ?_, fun q hq i => ?_⟩
  · have e : q ≠ s := fun e => hq (by simp [e])
    rw [updL_ne _ _ e]
    exact h.1 q (fun hm => hq (by simp [hm])) i
  · by_cases e : q = s
    · subst e
      rw [updL_at, hn.mem_erase_iff, h.1 q hs i]
      exact ⟨fun x => ⟨x.2, x.1⟩, fun x => ⟨x.2, x.1⟩⟩
    · rw [updL_ne _ _ e]
      refine h.2 q ?_ i
      rcases List.mem_append.1 hq with h | h
      · exact h
      · simp at h; exact absurd h e

/-- The three loops take f out. -/
theorem took_of {PL3 : Nat → List Nat} (h6 : P6 f Dp PL SL PL1 SL1) (hDp : ∀ i, i ∈ Dp ↔ i ∈ PL f) (h8 : P8 f Ds PL1 PL3) (hDs : ∀ j, j ∈ Ds ↔ j ∈ SL f) : Took n f PL SL PL3 SL1 := by
  refine ⟨fun i hi hif him j => h6.2.1 i hif ((hDp i).2 him) j, fun i hi hor j => h6.1 i ?_ j, fun j hj hjf hm i => ?_, fun j hj hm i => ?_, fun i hi => ?_⟩
  · rcases hor with h | h
    · exact .inl h
    · exact .inr (fun hm => h ((hDp i).1 hm))
  · rw [h8.2 j ((hDs j).2 hm) i, h6.2.2 j i, hDp]
    constructor
    · rintro ⟨h1 | ⟨h1, h2, _⟩, h3⟩
      · exact ⟨.inl h1, h3⟩
      · exact ⟨.inr ⟨h1, h2⟩, h3⟩
    · rintro ⟨h1 | ⟨h1, h2⟩, h3⟩
      · exact ⟨.inl h1, h3⟩
      · exact ⟨.inr ⟨h1, h2, hm, hjf⟩, h3⟩
  · rw [h8.1 j (fun h => hm ((hDs j).1 h)) i, h6.2.2 j i]
    constructor
    · rintro (h1 | ⟨_, _, h3, _⟩)
      · exact h1
      · exact absurd h3 hm
    · exact .inl
  · have key : i ∈ PL1 f → i ∈ PL f := fun h => by
      rw [h6.2.2 f i] at h
      rcases h with h | ⟨_, _, _, h⟩
      · exact h
      · exact absurd rfl h
    by_cases hfD : f ∈ Ds
    · exact key ((h8.2 f hfD i).1 hi).1
    · exact key ((h8.1 f hfD i).1 hi)

end
end Go.Proofs.YtgaadjgfjiljjaaGreat

/- dependencyGraph (40): facts for the walk. Conditions: those that each theorem names. -/
namespace Go.Proofs.YtgaadjgfjiljjaaGreat
open Go.RowKit Go.Proofs.YtgaadjgfjiljjaaGreatW.PrintWords
open Go.ChangeMaps (setBlock)
set_option linter.unusedVariables false
set_option linter.unusedSimpArgs false

theorem ta90 (a : Nat) (w : World) : (Instr.typeAssert (.iface 90 (.pointer (some ⟨a, 0, none⟩))) 82 105 true).run Tryz.prog w = .ok (.tuple #[.iface 90 (.pointer (some ⟨a, 0, none⟩)), .bool true]) w := by kernel_rfl
theorem ta75 (a : Nat) (w : World) : (Instr.typeAssert (.iface 75 (.pointer (some ⟨a, 0, none⟩))) 82 105 true).run Tryz.prog w = .ok (.tuple #[.iface 75 (.pointer (some ⟨a, 0, none⟩)), .bool true]) w := by kernel_rfl
theorem ta94 (a : Nat) (w : World) : (Instr.typeAssert (.iface 94 (.pointer (some ⟨a, 0, none⟩))) 82 105 true).run Tryz.prog w = .ok (.tuple #[.iface 94 (.pointer (some ⟨a, 0, none⟩)), .bool true]) w := by kernel_rfl
theorem ta_okey (ty ob : Nat → Nat) (i : Nat) (h : OTy (ty i)) (w : World) : (Instr.typeAssert (okey ty ob i) 82 105 true).run Tryz.prog w = .ok (.tuple #[okey ty ob i, .bool true]) w := by
  unfold okey
  rcases h with h | h | h <;> rw [h]
  · exact ta90 _ w
  · exact ta75 _ w
  · exact ta94 _ w
/-- Is the object a function. -/
theorem taF_yes (ty ob : Nat → Nat) (i : Nat) (h : ty i = 94) (w : World) : (Instr.typeAssert (okey ty ob i) 105 94 true).run Tryz.prog w = .ok (.tuple #[.pointer (some ⟨ob i, 0, none⟩), .bool true]) w := by
  unfold okey; rw [h]
  exact assert_yes (xT := 105) Tryz.underlying94 (.pointer (some ⟨ob i, 0, none⟩)) w true
theorem taF_no (ty ob : Nat → Nat) (i : Nat) (h : ty i ≠ 94) (w : World) : (Instr.typeAssert (okey ty ob i) 105 94 true).run Tryz.prog w = .ok (.tuple #[.pointer none, .bool false]) w := by
  unfold okey
  exact assert_no (xT := 105) Tryz.underlying94 h zero94 (.pointer (some ⟨ob i, 0, none⟩)) w
theorem below_touch {Bd : Nat} {S : Nat → Prop} {w a b : World} (h : Below Bd w a) (hT : Touch S a b) (hS : ∀ k, S k → Bd ≤ k) (hw : Bd ≤ w.heap.size) : Below Bd w b :=
  ⟨hT.os.trans h.os, hT.tape.trans h.tape, hT.output.trans h.output, Nat.le_trans h.size hT.size, fun k hk => (hT.block k (by have := h.size; omega) (fun hs => by have := hS k hs; omega)).trans (h.block k hk)⟩

/-- Part of the graph: the nodes of a list alone, without edges. -/
structure Gn (nds : List Nd) (G0 : Nat) (ob gn : Nat → Nat) (D : List Nat) (w : World) : Prop where
  node : ∀ i ∈ D, G0 ≤ gn i ∧ w.heap[gn i]? = some (.cells #[okey (tyN nds) ob i, .map none, .map none, .int .i64 0, .int .i64 0] 109 (0, 0))
  inj : ∀ i ∈ D, ∀ j ∈ D, gn i = gn j → i = j

theorem Gn.gr {nds : List Nd} {G0 : Nat} {ob gn : Nat → Nat} {D : List Nat} {w : World} (h : Gn nds G0 ob gn D w) (n : Nat) (hn : ∀ i, i < n → i ∈ D) :
    Gr n G0 (tyN nds) ob gn (fun _ => none) (fun _ => none) (fun _ => []) (fun _ => []) (fun _ => 0) (fun _ => 0) w :=
  ⟨fun i hi => h.node i (hn i hi), fun i j hi hj => h.inj i (hn i hi) j (hn j hj), fun _ _ => rfl, fun _ _ => rfl, fun _ _ => ⟨fun _ hk => (by cases hk), List.nodup_nil⟩, fun _ _ => ⟨fun _ hk => (by cases hk), List.nodup_nil⟩,
    fun _ _ _ hb => (by cases hb), fun _ _ _ hb => (by cases hb), fun _ _ _ _ _ hb => (by cases hb), fun _ _ _ _ _ hb => (by cases hb), fun _ _ _ _ _ hb => (by cases hb)⟩


section
variable {n G0 : Nat} {ty ob gn : Nat → Nat} {pb sb : Nat → Option Nat} {PL SL : Nat → List Nat} {ix nd : Nat → Int} {w w' : World} {S : Nat → Prop}

/-- What is touched is no block of the graph, by its kind: an iterator. -/
theorem Gr.iter (h : Gr n G0 ty ob gn pb sb PL SL ix nd w) {r : Nat} (hit : ∃ m a s c, w.heap[r]? = some (.mapIter m a s c)) (hT : Touch (fun k => k = r) w w') : Gr n G0 ty ob gn pb sb PL SL ix nd w' := by
  obtain ⟨m, a, s, c, hit⟩ := hit
  refine h.touch hT (fun k hk i hi => ?_)
  subst hk
  refine ⟨fun e => ?_, fun e => ?_, fun e => ?_⟩
  · have := (h.node i hi).2
    rw [← e, hit] at this; cases this
  · have := h.pm i hi
    rw [e] at this
    obtain ⟨es, c', ho⟩ := MapL.obj this
    rw [hit] at ho; cases ho
  · have := h.sm i hi
    rw [e] at this
    obtain ⟨es, c', ho⟩ := MapL.obj this
    rw [hit] at ho; cases ho
/-- New blocks leave the graph as it is. -/
theorem Gr.new (h : Gr n G0 ty ob gn pb sb PL SL ix nd w) (hT : Touch (fun _ => False) w w') : Gr n G0 ty ob gn pb sb PL SL ix nd w' := h.touch hT (fun _ hf => hf.elim)
/-- The blocks that a change at node i's successors (predecessors) touches. -/
theorem Gr.spot_s (h : Gr n G0 ty ob gn pb sb PL SL ix nd w) {i : Nat} (hi : i < n) {k : Nat} (hk : k = gn i ∨ sb i = some k) : G0 ≤ k ∧ k < w.heap.size ∧ ∀ m a s c, w.heap[k]? ≠ some (.mapIter m a s c) := by
  rcases hk with rfl | hk
  · exact ⟨(h.node i hi).1, blk_lt (h.node i hi).2, fun m a s c e => by rw [(h.node i hi).2] at e; cases e⟩
  · have := h.sm i hi
    rw [hk] at this
    obtain ⟨es, c', ho⟩ := MapL.obj this
    exact ⟨h.sbase i k hi hk, blk_lt ho, fun m a s c e => by rw [ho] at e; cases e⟩
theorem Gr.spot_p (h : Gr n G0 ty ob gn pb sb PL SL ix nd w) {i : Nat} (hi : i < n) {k : Nat} (hk : k = gn i ∨ pb i = some k) : G0 ≤ k ∧ k < w.heap.size ∧ ∀ m a s c, w.heap[k]? ≠ some (.mapIter m a s c) := by
  rcases hk with rfl | hk
  · exact ⟨(h.node i hi).1, blk_lt (h.node i hi).2, fun m a s c e => by rw [(h.node i hi).2] at e; cases e⟩
  · have := h.pm i hi
    rw [hk] at this
    obtain ⟨es, c', ho⟩ := MapL.obj this
    exact ⟨h.pbase i k hi hk, blk_lt ho, fun m a s c e => by rw [ho] at e; cases e⟩
theorem iter_keeps {r : Nat} {m : Option Nat} {f g : Nat → Value} {L D : List Nat} (h : IterO w r m f g L D) (hT : Touch S w w') (hS : ∀ k, S k → ∀ m a s c, w.heap[k]? ≠ some (.mapIter m a s c)) (hm : ∀ b, m = some b → ¬ S b) : IterO w' r m f g L D := by
  refine h.same (hT.block _ h.lt (fun hs => ?_)) (fun b hb => ?_)
  · obtain ⟨m', a, s, c, hit⟩ := h.it
    exact hS r hs _ _ _ _ hit
  · subst hb
    obtain ⟨_, _, _, bo, cl, si, cz, hmb, _⟩ := h
    exact hT.block _ (blk_lt hmb) (hm b rfl)
end

/-- The edges behind the objects of E, and behind the first F of what j refers to. -/
def EdI (n : Nat) (DJ : Nat → List Nat) (E : List Nat) (j : Nat) (F : List Nat) (PL SL : Nat → List Nat) : Prop :=
  (∀ i, i < n → ∀ k, k ∈ SL i ↔ (i ∈ E ∧ k ∈ DJ i) ∨ (i = j ∧ k ∈ F)) ∧ (∀ k, k < n → ∀ i, i ∈ PL k ↔ (i ∈ E ∧ k ∈ DJ i) ∨ (i = j ∧ k ∈ F))
def EdO (n : Nat) (DJ : Nat → List Nat) (E : List Nat) (PL SL : Nat → List Nat) : Prop :=
  (∀ i, i < n → ∀ k, k ∈ SL i ↔ i ∈ E ∧ k ∈ DJ i) ∧ (∀ k, k < n → ∀ i, i ∈ PL k ↔ i ∈ E ∧ k ∈ DJ i)
theorem EdO.toI {n : Nat} {DJ : Nat → List Nat} {E : List Nat} {PL SL : Nat → List Nat} (h : EdO n DJ E PL SL) (j : Nat) : EdI n DJ E j [] PL SL :=
  ⟨fun i hi k => by rw [h.1 i hi k]; simp, fun k hk i => by rw [h.2 k hk i]; simp⟩
theorem EdI.toO {n : Nat} {DJ : Nat → List Nat} {E F : List Nat} {j : Nat} {PL SL : Nat → List Nat} (h : EdI n DJ E j F PL SL) (hF : ∀ k, k ∈ F ↔ k ∈ DJ j) : EdO n DJ (E ++ [j]) PL SL := by
  have key : ∀ i k, ((i ∈ E ∧ k ∈ DJ i) ∨ (i = j ∧ k ∈ F)) ↔ (i ∈ E ++ [j] ∧ k ∈ DJ i) := fun i k => by
    rw [List.mem_append, List.mem_singleton, hF]
    constructor
    · rintro (⟨h1, h2⟩ | ⟨h1, h2⟩)
      · exact ⟨.inl h1, h2⟩
      · exact ⟨.inr h1, by rw [h1]; exact h2⟩
    · rintro ⟨h1 | h1, h2⟩
      · exact .inl ⟨h1, h2⟩
      · exact .inr ⟨h1, by rw [← h1]; exact h2⟩
  exact ⟨fun i hi k => by rw [h.1 i hi k, key], fun k hk i => by rw [h.2 k hk i, key]⟩
theorem EdI.step {n : Nat} {DJ : Nat → List Nat} {E F : List Nat} {j d : Nat} {PL SL : Nat → List Nat} (h : EdI n DJ E j F PL SL) : EdI n DJ E j (F ++ [d]) (updL PL d (addL (PL d) j)) (updL SL j (addL (SL j) d)) := by
  refine ⟨fun i hi k => ?_, fun k hk i => ?_⟩
  · by_cases e : i = j
    · subst e
      rw [updL_at, addL_mem, h.1 i hi k, List.mem_append, List.mem_singleton]
      constructor
      · rintro ((h1 | h1) | h1)
        · exact .inl h1
        · exact .inr ⟨h1.1, .inl h1.2⟩
        · exact .inr ⟨rfl, .inr h1⟩
      · rintro (h1 | ⟨h1, h2 | h2⟩)
        · exact .inl (.inl h1)
        · exact .inl (.inr ⟨h1, h2⟩)
        · exact .inr h2
    · rw [updL_ne _ _ e, h.1 i hi k]
      constructor
      · rintro (h1 | h1)
        · exact .inl h1
        · exact absurd h1.1 e
      · rintro (h1 | h1)
        · exact .inl h1
        · exact absurd h1.1 e
  · by_cases e : k = d
    · subst e
      rw [updL_at, addL_mem, h.2 k hk i, List.mem_append, List.mem_singleton]
      constructor
      · rintro ((h1 | h1) | h1)
        · exact .inl h1
        · exact .inr ⟨h1.1, .inl h1.2⟩
        · exact .inr ⟨h1, .inr rfl⟩
      · rintro (h1 | ⟨h1, h2 | h2⟩)
        · exact .inl (.inl h1)
        · exact .inl (.inr ⟨h1, h2⟩)
        · exact .inr h1
    · rw [updL_ne _ _ e, h.2 k hk i, List.mem_append, List.mem_singleton]
      constructor
      · rintro (h1 | h1)
        · exact .inl h1
        · exact .inr ⟨h1.1, .inl h1.2⟩
      · rintro (h1 | ⟨h1, h2 | h2⟩)
        · exact .inl h1
        · exact .inr ⟨h1, h2⟩
        · exact absurd h2 e


/-- A row of node pointers is no block of the graph. -/
theorem Gr.row102 {n G0 : Nat} {ty ob gn : Nat → Nat} {pb sb : Nat → Option Nat} {PL SL : Nat → List Nat} {ix nd : Nat → Int} {w w' : World} {S : Nat → Prop} (h : Gr n G0 ty ob gn pb sb PL SL ix nd w) (hT : Touch S w w') (hS : ∀ k, S k → ∃ cells, w.heap[k]? = some (.cells cells 102 (0, 0))) : Gr n G0 ty ob gn pb sb PL SL ix nd w' := by
  refine h.touch hT (fun k hk i hi => ?_)
  obtain ⟨cells, hc⟩ := hS k hk
  refine ⟨fun e => ?_, fun e => ?_, fun e => ?_⟩
  · have := (h.node i hi).2
    rw [← e, hc] at this; injection this with this; injection this with _ this _; exact absurd this (by decide)
  · have := h.pm i hi
    rw [e] at this
    obtain ⟨es, c', ho⟩ := MapL.obj this
    rw [hc] at ho; cases ho
  · have := h.sm i hi
    rw [e] at this
    obtain ⟨es, c', ho⟩ := MapL.obj this
    rw [hc] at ho; cases ho


theorem sortf_any {n G0 : Nat} {ty ob gn : Nat → Nat} {pb sb : Nat → Option Nat} {PL SL : Nat → List Nat} {ix nd : Nat → Int} {w : World} (hG : Gr n G0 ty ob gn pb sb PL SL ix nd w) (hn : n ≤ 4096) (D : List Nat) (hD : ∀ k ∈ D, k < n) (hDl : D.length ≤ 4096) (b : Nat) (A : Option Addr) (c : Nat) (hR : (Kd.raw 1).R 102 w b (fun _ => True) (.slice A D.length c) (D.map fun k => [pkey gn k])) :
    Calls Tryz.prog 49 #[.slice A D.length c, .func (.func 50) #[] #[]] w fun e w' => e = .returned (.tuple #[]) ∧ ∃ D' : List Nat, D'.Perm D ∧ Touch (fun k => (Value.slice A D.length c).ownBlock = some k) w w' ∧
      ∀ t, t < D.length → ∃ g, A = some ⟨g, 0, none⟩ ∧ w'.cell? ⟨g, t, none⟩ = some (pkey gn (D'.getD t 0)) := by
  by_cases h0 : D.length = 0
  · rw [h0]
    refine (sortf_nil A c _ w).mono ?_
    rintro e w' ⟨rfl, rfl⟩
    exact ⟨rfl, D, List.Perm.refl _, Touch.refl _ _, fun t ht => by omega⟩
  · refine (sortf_some hG hn D hD (by omega) hDl b _ hR).mono ?_
    rintro e w' ⟨rfl, D', hp, hT, g, c', hv, hc⟩
    injection hv with hA _ _
    exact ⟨rfl, D', hp, hT, fun t ht => ⟨g, hA, hc t ht⟩⟩


/-- A cell that holds a pointer is none of the graph's. -/
theorem Gr.not_ptr {n G0 : Nat} {ty ob gn : Nat → Nat} {pb sb : Nat → Option Nat} {PL SL : Nat → List Nat} {ix nd : Nat → Int} {w : World} (h : Gr n G0 ty ob gn pb sb PL SL ix nd w) {g t : Nat} {a : Option Addr} (hc : w.cell? ⟨g, t, none⟩ = some (.pointer a)) (i : Nat) (hi : i < n) : g ≠ gn i ∧ pb i ≠ some g ∧ sb i ≠ some g := by
  have hmap : ∀ es c, w.heap[g]? ≠ some (.map es c) := fun es c e => by
    simp [World.cell?, e] at hc
  refine ⟨fun e => ?_, fun e => ?_, fun e => ?_⟩
  · have hn := (h.node i hi).2
    rw [← e] at hn
    rw [blk_cell hn t] at hc
    rcases t with _ | _ | _ | _ | _ | t <;> simp [okey] at hc
  · have := h.pm i hi
    rw [e] at this
    obtain ⟨es, c', ho⟩ := MapL.obj this
    exact hmap _ _ ho
  · have := h.sm i hi
    rw [e] at this
    obtain ⟨es, c', ho⟩ := MapL.obj this
    exact hmap _ _ ho
/-- The spots of a change hold no row of node pointers. -/
theorem Gr.spot_row_s {n G0 : Nat} {ty ob gn : Nat → Nat} {pb sb : Nat → Option Nat} {PL SL : Nat → List Nat} {ix nd : Nat → Int} {w : World} (h : Gr n G0 ty ob gn pb sb PL SL ix nd w) {i : Nat} (hi : i < n) {k : Nat} (hk : k = gn i ∨ sb i = some k) : ¬ ∃ cells, w.heap[k]? = some (.cells cells 102 (0, 0)) := fun ⟨cells, hc⟩ => by
  rcases hk with rfl | hk
  · rw [(h.node i hi).2] at hc; injection hc with hc; injection hc with _ hc _; exact absurd hc (by decide)
  · have := h.sm i hi
    rw [hk] at this
    obtain ⟨es, c', ho⟩ := MapL.obj this
    rw [ho] at hc; cases hc
theorem Gr.spot_row_p {n G0 : Nat} {ty ob gn : Nat → Nat} {pb sb : Nat → Option Nat} {PL SL : Nat → List Nat} {ix nd : Nat → Int} {w : World} (h : Gr n G0 ty ob gn pb sb PL SL ix nd w) {i : Nat} (hi : i < n) {k : Nat} (hk : k = gn i ∨ pb i = some k) : ¬ ∃ cells, w.heap[k]? = some (.cells cells 102 (0, 0)) := fun ⟨cells, hc⟩ => by
  rcases hk with rfl | hk
  · rw [(h.node i hi).2] at hc; injection hc with hc; injection hc with _ hc _; exact absurd hc (by decide)
  · have := h.pm i hi
    rw [hk] at this
    obtain ⟨es, c', ho⟩ := MapL.obj this
    rw [ho] at hc; cases hc

/-- The rows that stand beside the graph while functions are taken out: the list of the others, the functions' row. -/
structure Rows2 (gn : Nat → Nat) (base : Nat) (v : Value) (gl fs : List Nat) (g len : Nat) (w : World) : Prop where
  gl_ : (Kd.raw 1).R 102 w base (fun _ => True) v (gl.map fun k => [pkey gn k])
  fs_ : ∀ t, t < len → w.cell? ⟨g, t, none⟩ = some (pkey gn (fs.getD t 0))
theorem Rows2.keep {gn : Nat → Nat} {base : Nat} {v : Value} {gl fs : List Nat} {g len : Nat} {w w' : World} {S : Nat → Prop} (h : Rows2 gn base v gl fs g len w) (hT : Touch S w w') (h1 : ∀ k, S k → ¬ ∃ cells, w.heap[k]? = some (.cells cells 102 (0, 0))) (h2 : ¬ S g) : Rows2 gn base v gl fs g len w' :=
  ⟨R_touch h.gl_ rfl hT h1, fun t ht => hT.cell (h.fs_ t ht) h2⟩

theorem neq_nodes {n G0 : Nat} {ty ob gn : Nat → Nat} {pb sb : Nat → Option Nat} {PL SL : Nat → List Nat} {ix nd : Nat → Int} {w : World} (h : Gr n G0 ty ob gn pb sb PL SL ix nd w) {i j : Nat} (hi : i < n) (hj : j < n) :
    (binOp .neq 102 (.pointer (some ⟨gn i, 0, none⟩)) (.pointer (some ⟨gn j, 0, none⟩))).run Tryz.prog w = .ok (.bool (!decide (i = j))) w := by
  obtain ⟨je, h1, h2⟩ := size_of infoS109
  have h3 := neq_ptr_of (equal_ptr (K := 102) Tryz.underlying102 h1 h2 (gn i) (gn j) (h.row hi) (h.row hj))
  have e : decide (gn i = gn j) = decide (i = j) := decide_eq_decide.2 ⟨fun e => h.inj i j hi hj e, fun e => by rw [e]⟩
  rw [e] at h3
  exact h3

def updI (F : Nat → Int) (i : Nat) (v : Int) (k : Nat) : Int := if k = i then v else F k

theorem Gr.set3 {n G0 : Nat} {ty ob gn : Nat → Nat} {pb sb : Nat → Option Nat} {PL SL : Nat → List Nat} {ix nd : Nat → Int} {w : World} (h : Gr n G0 ty ob gn pb sb PL SL ix nd w) {i : Nat} (hi : i < n) (v : Int) : Gr n G0 ty ob gn pb sb PL SL (updI ix i v) nd (w.setCell ⟨gn i, 3, none⟩ (.int .i64 v)) := by
  have hT : Touch (fun k => k = gn i) w (w.setCell ⟨gn i, 3, none⟩ (.int .i64 v)) := Touch.set_ (S := fun k => k = gn i) (Touch.refl _ _) (fun _ => rfl) _
  have hmap : ∀ c, (∃ es cl, w.heap[c]? = some (.map es cl)) → c ≠ gn i := fun c ⟨es, cl, ho⟩ e => by
    have := (h.node i hi).2
    rw [← e, ho] at this; cases this
  refine ⟨fun k hk => ⟨(h.node k hk).1, ?_⟩, h.inj, fun k hk => (h.pm k hk).same (fun b hb => ?_), fun k hk => (h.sm k hk).same (fun b hb => ?_), h.pl, h.sl, h.pbase, h.sbase, h.pinj, h.sinj, h.ps⟩
  · by_cases e : k = i
    · subst e; unfold updI; rw [if_pos rfl]; exact blk_put (h.node k hk).2 3 _ rfl
    · have hne : gn k ≠ gn i := fun e' => e (h.inj k i hk hi e')
      have := hT.blk (h.node k hk).2 hne
      unfold updI; rw [if_neg e]; exact this
  · have hm := h.pm k hk
    rw [hb] at hm
    exact hT.block _ hm.lt (hmap b (MapL.obj hm))
  · have hm := h.sm k hk
    rw [hb] at hm
    exact hT.block _ hm.lt (hmap b (MapL.obj hm))

theorem Gr.set4 {n G0 : Nat} {ty ob gn : Nat → Nat} {pb sb : Nat → Option Nat} {PL SL : Nat → List Nat} {ix nd : Nat → Int} {w : World} (h : Gr n G0 ty ob gn pb sb PL SL ix nd w) {i : Nat} (hi : i < n) (v : Int) : Gr n G0 ty ob gn pb sb PL SL ix (updI nd i v) (w.setCell ⟨gn i, 4, none⟩ (.int .i64 v)) := by
  have hT : Touch (fun k => k = gn i) w (w.setCell ⟨gn i, 4, none⟩ (.int .i64 v)) := Touch.set_ (S := fun k => k = gn i) (Touch.refl _ _) (fun _ => rfl) _
  have hmap : ∀ c, (∃ es cl, w.heap[c]? = some (.map es cl)) → c ≠ gn i := fun c ⟨es, cl, ho⟩ e => by
    have := (h.node i hi).2
    rw [← e, ho] at this; cases this
  refine ⟨fun k hk => ⟨(h.node k hk).1, ?_⟩, h.inj, fun k hk => (h.pm k hk).same (fun b hb => ?_), fun k hk => (h.sm k hk).same (fun b hb => ?_), h.pl, h.sl, h.pbase, h.sbase, h.pinj, h.sinj, h.ps⟩
  · by_cases e : k = i
    · subst e; unfold updI; rw [if_pos rfl]; exact blk_put (h.node k hk).2 4 _ rfl
    · have hne : gn k ≠ gn i := fun e' => e (h.inj k i hk hi e')
      have := hT.blk (h.node k hk).2 hne
      unfold updI; rw [if_neg e]; exact this
  · have hm := h.pm k hk
    rw [hb] at hm
    exact hT.block _ hm.lt (hmap b (MapL.obj hm))
  · have hm := h.sm k hk
    rw [hb] at hm
    exact hT.block _ hm.lt (hmap b (MapL.obj hm))

theorem Gr.lower {n G0 G1 : Nat} {ty ob gn : Nat → Nat} {pb sb : Nat → Option Nat} {PL SL : Nat → List Nat} {ix nd : Nat → Int} {w : World} (h : Gr n G0 ty ob gn pb sb PL SL ix nd w) (hg : G1 ≤ G0) : Gr n G1 ty ob gn pb sb PL SL ix nd w :=
  ⟨fun i hi => ⟨Nat.le_trans hg (h.node i hi).1, (h.node i hi).2⟩, h.inj, h.pm, h.sm, h.pl, h.sl, fun i b hi hb => Nat.le_trans hg (h.pbase i b hi hb), fun i b hi hb => Nat.le_trans hg (h.sbase i b hi hb), h.pinj, h.sinj, h.ps⟩

theorem getD_mem {q : List Nat} {t : Nat} (h : t < q.length) : q.getD t 0 ∈ q := by
  rw [List.getD_eq_getElem?_getD, List.getElem?_eq_getElem h]; exact List.getElem_mem h
theorem getD_inj {q : List Nat} (hn : q.Nodup) {s t : Nat} (hs : s < q.length) (ht : t < q.length) (h : q.getD s 0 = q.getD t 0) : s = t := by
  rw [List.getD_eq_getElem?_getD, List.getElem?_eq_getElem hs, List.getD_eq_getElem?_getD, List.getElem?_eq_getElem ht] at h
  simp at h
  exact (List.getElem_inj hn).1 h
theorem mem_getD {q : List Nat} {x : Nat} (h : x ∈ q) : ∃ t, t < q.length ∧ q.getD t 0 = x := by
  obtain ⟨t, ht, e⟩ := List.getElem_of_mem h
  exact ⟨t, ht, by rw [List.getD_eq_getElem?_getD, List.getElem?_eq_getElem ht]; exact e⟩

end Go.Proofs.YtgaadjgfjiljjaaGreat
