/- Plain: a cycle is told just if some variable depends on itself, just if the steps stop short. Conditions: FitP, and what InitOrder answers (IOk). -/
import Derived.Test.YtgaadjgfjiljjaaGreatXs
import Derived.Test.YtgaadjgfjiljjaaGreatXd
import Derived.Test.YtgaadjgfjiljjaaGreatXb
import Derived.Lib.SmallJoins
namespace Go.Proofs.YtgaadjgfjiljjaaGreat
open Go.RowKit Go.Proofs.YtgaadjgfjiljjaaGreatW.PrintWords
set_option linter.unusedVariables false
set_option linter.unusedSimpArgs false

section
variable {p : List It}

theorem ref_lt (hp : PkgOk p) {k : Nat} (hk : k < p.length) {r : Nat} (h : (r : Int) ∈ refsN p k) : r < totN p := by
  have := hp.refs _ (itA_mem hk) _ h; omega
theorem reach_lt (hp : PkgOk p) {fol : Int → Bool} {k : Nat} (hk : k < p.length) {r : Nat} (h : Reach fol p k r) : r < totN p := by
  induction h with
  | base h => exact ref_lt hp hk h
  | step _ _ hm ih => exact ref_lt hp (ow_spec p _ ih).1 hm
theorem Reach.more {fol fol' : Int → Bool} {k r : Nat} (h : Reach fol p k r) (hf : ∀ x, fol x = true → fol' x = true) : Reach fol' p k r := by
  induction h with
  | base h => exact .base h
  | step _ h1 h2 ih => exact .step ih (hf _ h1) h2
/-- On from an object. -/
theorem Reach.on {fol : Int → Bool} {k r s : Nat} (h : Reach fol p k r) (hr : fol (itA p (ow p r)).f0 = true) (h' : Reach fol p (ow p r) s) : Reach fol p k s := by
  induction h' with
  | base h1 => exact .step h hr h1
  | step _ h1 h2 ih => exact .step ih h1 h2

/-- What a declaration needs at once: a variable's declaration, through functions. -/
def Need (p : List It) (k k' : Nat) : Prop := ∃ r : Nat, r < totN p ∧ Reach (fun x => x == 3) p k r ∧ isvK (itA p (ow p r)).f0 = true ∧ ow p r = k'
inductive Needs1 (p : List It) (k : Nat) : Nat → Prop
  | one {k' : Nat} : Need p k k' → Needs1 p k k'
  | more {m k' : Nat} : Needs1 p k m → Need p m k' → Needs1 p k k'
theorem isv_ne4 {x : Int} (h : isvK x = true) : (x != 4) = true := by
  unfold isvK at h
  by_cases e : x = 4
  · subst e; exact absurd h (by decide)
  · simpa using e
theorem needs1_reach (hp : PkgOk p) {k k' : Nat} (h : Needs1 p k k') : ∃ r : Nat, r < totN p ∧ Reach (fun x => x != 4) p k r ∧ isvK (itA p (ow p r)).f0 = true ∧ ow p r = k' := by
  have h3 : ∀ x : Int, (x == 3) = true → (x != 4) = true := fun x hx => by
    have : x = 3 := by simpa using hx
    subst this; decide
  induction h with
  | one h =>
    obtain ⟨r, h1, h2, h4, h5⟩ := h
    exact ⟨r, h1, h2.more h3, h4, h5⟩
  | more _ h ih =>
    obtain ⟨r, h1, h2, h4, h5⟩ := ih
    obtain ⟨s, g1, g2, g4, g5⟩ := h
    refine ⟨s, g1, h2.on (isv_ne4 h4) ?_, g4, g5⟩
    rw [h5]; exact g2.more h3
/-- What is reached without constants is needed, by way of variables. -/
theorem reach_needs1 (hp : PkgOk p) {k r : Nat} (hk : k < p.length) (h : Reach (fun x => x != 4) p k r) :
    Reach (fun x => x == 3) p k r ∨ ∃ m, Needs1 p k m ∧ (Reach (fun x => x == 3) p m r) := by
  induction h with
  | base h => exact .inl (.base h)
  | @step f s hf h1 h2 ih =>
    have hft := reach_lt hp hk hf
    have hfi := hp.items _ (itA_mem (ow_spec p f hft).1)
    by_cases e : (itA p (ow p f)).f0 = 3
    · rcases ih with ih | ⟨m, hm, ih⟩
      · exact .inl (.step ih (by simp [e]) h2)
      · exact .inr ⟨m, hm, .step ih (by simp [e]) h2⟩
    · have hv : isvK (itA p (ow p f)).f0 = true := by
        have h4 : (itA p (ow p f)).f0 ≠ 4 := by simpa using h1
        have h5 := hfi.k0
        have h6 := hfi.k5
        unfold isvK
        rcases (show (itA p (ow p f)).f0 = 0 ∨ (itA p (ow p f)).f0 = 1 ∨ (itA p (ow p f)).f0 = 2 by omega) with h | h | h <;> rw [h] <;> decide
      right
      rcases ih with ih | ⟨m, hm, ih⟩
      · exact ⟨ow p f, .one ⟨f, hft, ih, hv, rfl⟩, .base h2⟩
      · exact ⟨ow p f, .more hm ⟨f, hft, ih, hv, rfl⟩, .base h2⟩
theorem reach_self (hp : PkgOk p) {k r : Nat} (hk : k < p.length) (h : Reach (fun x => x != 4) p k r) (hr : r < totN p) (hv : isvK (itA p (ow p r)).f0 = true) : Needs1 p k (ow p r) := by
  rcases reach_needs1 hp hk h with h | ⟨m, hm, h⟩
  · exact .one ⟨r, hr, h, hv, rfl⟩
  · exact .more hm ⟨r, hr, h, hv, rfl⟩

/-- Some variable depends on itself. -/
def SelfDep (p : List It) : Prop := ∃ k r : Nat, k < p.length ∧ isvK (itA p k).f0 = true ∧ r < totN p ∧ ow p r = k ∧ Reach (fun x => x != 4) p k r

theorem rdb_set' (d : List Bool) (i j : Nat) (h : i < d.length) : rdb (d.set i true) (j : Int) = if i = j then true else rdb d (j : Int) := rdb_set d i j true h
/-- What was done step by step has no cycle in it. -/
theorem done_acyclic (hp : PkgOk p) {d : List Bool} (h : DoneSeq p d) : (∀ k k' : Nat, rdb d (k : Int) = true → Need p k k' → rdb d (k' : Int) = true) ∧ (∀ k : Nat, rdb d (k : Int) = true → ¬ Needs1 p k k) := by
  have clos : ∀ d : List Bool, (∀ k k' : Nat, rdb d (k : Int) = true → Need p k k' → rdb d (k' : Int) = true) → ∀ k k' : Nat, rdb d (k : Int) = true → Needs1 p k k' → rdb d (k' : Int) = true := fun d hd k k' hk h => by
    induction h with
    | one h => exact hd _ _ hk h
    | more _ h ih => exact hd _ _ ih h
  induction h with
  | nil =>
    have hf : ∀ k : Nat, rdb (List.replicate p.length false) (k : Int) = false := fun k => rdb_replicate _ _
    exact ⟨fun k k' hk => (by rw [hf] at hk; cases hk), fun k hk => (by rw [hf] at hk; cases hk)⟩
  | @step d k0 hd hk0 hv hnd hrd ih =>
    have hl := hd.len
    have hnew : ∀ k', Need p k0 k' → rdb d (k' : Int) = true := fun k' ⟨r, h1, h2, h3, h4⟩ => by rw [← h4]; exact hrd r h1 h2 h3
    have hstep : ∀ k k' : Nat, rdb (d.set k0 true) (k : Int) = true → Need p k k' → rdb d (k' : Int) = true := fun k k' hk hn => by
      rw [rdb_set' d k0 k (by omega)] at hk
      by_cases e : k0 = k
      · subst e; exact hnew k' hn
      · rw [if_neg e] at hk; exact ih.1 k k' hk hn
    refine ⟨fun k k' hk hn => ?_, fun k hk hc => ?_⟩
    · rw [rdb_set' d k0 k' (by omega)]
      by_cases e : k0 = k'
      · rw [if_pos e]
      · rw [if_neg e]; exact hstep k k' hk hn
    · have hall : ∀ k', Needs1 p k k' → rdb d (k' : Int) = true := fun k' h => by
        induction h with
        | one h => exact hstep _ _ hk h
        | more _ h ih' => exact ih.1 _ _ ih' h
      exact ih.2 k (hall k hc) hc

/-- Where each of finitely many has a next one, one comes back to itself. -/
theorem chain_back {n : Nat} {A : Nat → Prop} {Rl : Nat → Nat → Prop} (ht : ∀ a b c, Rl a b → Rl b c → Rl a c) (hn : ∀ a, A a → a < n ∧ ∃ b, A b ∧ Rl a b) {a : Nat} (ha : A a) : ∃ b, A b ∧ Rl b b := by
  have key : ∀ m : Nat, (∃ b, A b ∧ Rl b b) ∨ ∃ (l : List Nat) (a : Nat), l.length = m ∧ A a ∧ a ∉ l ∧ l.Nodup ∧ (∀ b ∈ l, A b ∧ Rl b a) := by
    intro m
    induction m with
    | zero => exact .inr ⟨[], a, rfl, ha, fun h => (by cases h), List.nodup_nil, fun b hb => (by cases hb)⟩
    | succ m ih =>
      rcases ih with h | ⟨l, a, h1, h2, h3, h4, h5⟩
      · exact .inl h
      · obtain ⟨_, b, hb, hab⟩ := hn a h2
        by_cases e : b ∈ a :: l
        · left
          rcases List.mem_cons.1 e with e | e
          · subst e; exact ⟨b, hb, hab⟩
          · exact ⟨b, hb, ht _ _ _ (h5 b e).2 hab⟩
        · refine .inr ⟨a :: l, b, by simp [h1], hb, e, List.nodup_cons.2 ⟨h3, h4⟩, fun c hc => ?_⟩
          rcases List.mem_cons.1 hc with hc | hc
          · subst hc; exact ⟨h2, hab⟩
          · exact ⟨(h5 c hc).1, ht _ _ _ (h5 c hc).2 hab⟩
  rcases key (n + 1) with h | ⟨l, _, h1, _, _, h4, h5⟩
  · exact h
  · have := nodup_lt_length n l h4 (fun b hb => (hn b (h5 b hb).1).1)
    omega
theorem Needs1.trans {a b c : Nat} (h : Needs1 p a b) (h' : Needs1 p b c) : Needs1 p a c := by
  induction h' with
  | one h1 => exact .more h h1
  | more _ h1 ih => exact .more ih h1

/-- The steps stop short just if some variable depends on itself. -/
theorem rest_iff (hp : PkgOk p) {d : List Bool} (hd : DoneSeq p d) (hend : ∀ k : Nat, k < p.length → isvK (itA p k).f0 = true → rdb d (k : Int) = false → ¬ ReadyP p d k) :
    (∃ k : Nat, k < p.length ∧ isvK (itA p k).f0 = true ∧ rdb d (k : Int) = false) ↔ SelfDep p := by
  constructor
  · rintro ⟨k, hk, hv, hnd⟩
    have hnx : ∀ a, (a < p.length ∧ isvK (itA p a).f0 = true ∧ rdb d (a : Int) = false) → a < p.length ∧ ∃ b, (b < p.length ∧ isvK (itA p b).f0 = true ∧ rdb d (b : Int) = false) ∧ Needs1 p a b := fun a ⟨h1, h2, h3⟩ => by
      refine ⟨h1, ?_⟩
      have hnr := hend a h1 h2 h3
      have hex : ∃ r : Nat, r < totN p ∧ Reach (fun k => k == 3) p a r ∧ isvK (itA p (ow p r)).f0 = true ∧ rdb d (ow p r : Int) = false := by
        refine Classical.byContradiction fun hno => hnr (fun r h4 h5 h6 => ?_)
        cases hb : rdb d (ow p r : Int) with
        | true => rfl
        | false => exact absurd ⟨r, h4, h5, h6, hb⟩ hno
      obtain ⟨r, h4, h5, h6, h7⟩ := hex
      exact ⟨ow p r, ⟨(ow_spec p r h4).1, h6, h7⟩, .one ⟨r, h4, h5, h6, rfl⟩⟩
    obtain ⟨b, ⟨hb1, hb2, _⟩, hb3⟩ := chain_back (A := fun a => a < p.length ∧ isvK (itA p a).f0 = true ∧ rdb d (a : Int) = false) (Rl := Needs1 p) (fun _ _ _ h h' => h.trans h') hnx ⟨hk, hv, hnd⟩
    obtain ⟨r, h1, h2, h3, h4⟩ := needs1_reach hp hb3
    exact ⟨b, r, hb1, hb2, h1, h4, h2⟩
  · rintro ⟨k, r, hk, hv, hr, ho, hR⟩
    refine ⟨k, hk, hv, ?_⟩
    cases hb : rdb d (k : Int) with
    | false => rfl
    | true =>
      have h1 := reach_self hp hk hR hr (by rw [ho]; exact hv)
      rw [ho] at h1
      exact absurd h1 ((done_acyclic hp hd).2 k hb)

theorem ty_of (r : Nat) (hr : r < totN p) : tyN (ndsL p) r = if (itA p (ow p r)).f0 = 3 then 94 else if (itA p (ow p r)).f0 = 4 then 90 else 75 := by
  unfold tyN
  rw [rd_ndsL p r hr]
  unfold ndOf
  by_cases h3 : (itA p (ow p r)).f0 = 3
  · simp [h3]
  · by_cases h4 : (itA p (ow p r)).f0 = 4
    · simp [h4]
    · simp [h3, h4]
theorem lead_reach (hp : PkgOk p) {DJ : Nat → List Nat} (hd : DJSpec (ndsL p) DJ) {i j : Nat} (hi : i < totN p) (h : Lead (fun i k => k ∈ DJ i) i j) : Reach (fun _ => true) p (ow p i) j := by
  unfold Lead at h
  induction h with
  | base h => exact .base ((dj_refs hp hd i hi _).1 h)
  | step h1 _ h2 ih => exact .step ih rfl ((dj_refs hp hd _ (reach_lt hp (ow_spec p i hi).1 ih) _).1 h2)
theorem reach_lead (hp : PkgOk p) {DJ : Nat → List Nat} (hd : DJSpec (ndsL p) DJ) {fol : Int → Bool} {i j : Nat} (hi : i < totN p) (h : Reach fol p (ow p i) j) : Lead (fun i k => k ∈ DJ i) i j := by
  unfold Lead
  induction h with
  | base h => exact .base ((dj_refs hp hd i hi _).2 h)
  | step h1 _ h2 ih => exact .step ih trivial ((dj_refs hp hd _ (reach_lt hp (ow_spec p i hi).1 h1) _).2 h2)
/-- No constant leads to itself. -/
theorem no_const (hf : FitP p) {DJ : Nat → List Nat} (hd : DJSpec (ndsL p) DJ) {i : Nat} (hi : i < totN p) (h : Lead (fun i k => k ∈ DJ i) i i) : (itA p (ow p i)).f0 ≠ 4 := fun e => by
  obtain ⟨h1, h2, h3, _⟩ := ow_spec p i hi
  have ho : objN (itA p (ow p i)) = 1 := by unfold objN; rw [e]; rfl
  have hs : startN p (ow p i) = i := by omega
  have := hf.const (ow p i) h1 e
  rw [hs] at this
  exact this (lead_reach hf.ok hd hi h)
/-- The first one of a list that is of a kind. -/
theorem first_of {A : Nat → Prop} : ∀ l : List Nat, (∃ x ∈ l, A x) → ∃ a x b, l = a ++ x :: b ∧ A x ∧ ∀ y ∈ a, ¬ A y
  | [], h => by obtain ⟨x, h, _⟩ := h; cases h
  | c :: l, h => by
    by_cases e : A c
    · exact ⟨[], c, l, rfl, e, fun y hy => (by cases hy)⟩
    · obtain ⟨x, hx, hA⟩ := h
      rcases List.mem_cons.1 hx with hx | hx
      · subst hx; exact absurd hA e
      · obtain ⟨a, y, b, h1, h2, h3⟩ := first_of l ⟨x, hx, hA⟩
        refine ⟨c :: a, y, b, by rw [h1]; rfl, h2, fun z hz => ?_⟩
        rcases List.mem_cons.1 hz with hz | hz
        · subst hz; exact e
        · exact h3 z hz
theorem path_lead {DJ : Nat → List Nat} {f t : Nat} {c : List Nat} (h0 : c ≠ []) (h : PathOk DJ f t c) : Lead (fun i k => k ∈ DJ i) f t := by
  obtain ⟨hh, hc, hl⟩ := h
  have hpos := List.length_pos_iff.2 h0
  have key : ∀ d i, i + d + 1 = c.length → Lead (fun i k => k ∈ DJ i) f (c.getD i 0) := fun d => by
    induction d with
    | zero =>
      intro i hi
      refine .base (hl _ ?_)
      rw [List.getLast?_eq_getElem?, List.getD_eq_getElem?_getD, show c.length - 1 = i by omega, List.getElem?_eq_getElem (show i < c.length by omega)]; rfl
    | succ d ih =>
      intro i hi
      exact .step (ih (i + 1) (by omega)) trivial (hc i (by omega))
  have h1 : c.getD 0 0 = t := by
    cases c with
    | nil => exact absurd rfl h0
    | cons a c => simp at hh; subst hh; rfl
  rw [← h1]; exact key (c.length - 1) 0 (by omega)

/-- A cycle is told just if some variable depends on itself. -/
theorem cycle_iff (hf : FitP p) {outs cys : List (List Nat)} {DJ : Nat → List Nat} {pops : List Nat} {SL : Nat → List Nat} {gl : List Nat} (h : IOk (ndsL p) outs cys DJ pops SL gl) : cys ≠ [] ↔ SelfDep p := by
  have hp := hf.ok
  have hlen := ndsL_length p
  obtain ⟨di, E, hPu⟩ := h.pu
  obtain ⟨PL, hGI⟩ := h.gi
  have hgl : ∀ i, i ∈ gl ↔ (i < totN p ∧ tyN (ndsL p) i ≠ 94) := fun i => by rw [h.gl_.1 i, hlen]
  constructor
  · intro hne
    obtain ⟨c, hc⟩ : ∃ c, c ∈ cys := by
      cases hcy : cys with
      | nil => exact absurd hcy hne
      | cons a l => exact ⟨a, List.mem_cons_self⟩
    obtain ⟨x, hx, h0, hcn, _, hpo⟩ := hPu.cyc c hc
    have hxn := (hgl x).1 hx
    have hL := path_lead h0 hpo
    have hx4 := no_const hf h.dj hxn.1 hL
    have hxi := hp.items _ (itA_mem (ow_spec p x hxn.1).1)
    have hx3 : (itA p (ow p x)).f0 ≠ 3 := fun e => hxn.2 (by rw [ty_of x hxn.1, if_pos e])
    have hv : isvK (itA p (ow p x)).f0 = true := by
      have h5 := hxi.k0
      have h6 := hxi.k5
      unfold isvK
      rcases (show (itA p (ow p x)).f0 = 0 ∨ (itA p (ow p x)).f0 = 1 ∨ (itA p (ow p x)).f0 = 2 by omega) with h | h | h <;> rw [h] <;> decide
    have key : ∀ m, Lead (fun i k => k ∈ DJ i) x m → (m = x ∨ Lead (fun i k => k ∈ DJ i) m x) → Reach (fun y => y != 4) p (ow p x) m := fun m hm => by
      have hmm : Via (fun i k => k ∈ DJ i) (fun _ => True) x m := hm
      induction hmm with
      | base h1 => exact fun _ => .base ((dj_refs hp h.dj x hxn.1 _).1 h1)
      | @step f m h1 _ h2 ih =>
        intro hb
        have hft : f < totN p := reach_lt hp (ow_spec p x hxn.1).1 (lead_reach hp h.dj hxn.1 h1)
        have hfx : Lead (fun i k => k ∈ DJ i) f x := by
          rcases hb with hb | hb
          · subst hb; exact .base h2
          · exact Lead.trans (.base h2) hb
        have hf4 := no_const hf h.dj hft (Lead.trans hfx h1)
        exact .step (ih h1 (.inr hfx)) (by simpa using hf4) ((dj_refs hp h.dj f hft _).1 h2)
    exact ⟨ow p x, x, (ow_spec p x hxn.1).1, hv, hxn.1, rfl, key x hL (.inl rfl)⟩
  · rintro ⟨k, x, hk, hv, hx, ho, hR⟩ hcn
    subst ho
    have hL := reach_lead hp h.dj hx hR
    have hx3 : tyN (ndsL p) x ≠ 94 := by
      rw [ty_of x hx]
      have : (itA p (ow p x)).f0 ≠ 3 := fun e => by rw [e] at hv; exact absurd hv (by decide)
      rw [if_neg this]
      split <;> decide
    have hpg : ∀ i, i ∈ pops ↔ i ∈ gl := fun i => by
      have := hPu.pm
      rw [List.append_nil] at this
      exact this.mem_iff
    obtain ⟨a, c, b, hab, ⟨hcg, hxc, hcx⟩, hfirst⟩ := first_of (A := fun c => c ∈ gl ∧ Lead (fun i k => k ∈ DJ i) x c ∧ Lead (fun i k => k ∈ DJ i) c x) pops ⟨x, (hpg x).2 ((hgl x).2 ⟨hx, hx3⟩), (hgl x).2 ⟨hx, hx3⟩, hL, hL⟩
    have hcn' := (hgl c).1 hcg
    have hR0 : ∀ y, (y < (ndsL p).length ∧ tyN (ndsL p) y = 94) ∨ ¬ (y < (ndsL p).length ∧ tyN (ndsL p) y = 94) := fun y => Classical.em _
    have hcR : ¬ (c < (ndsL p).length ∧ tyN (ndsL p) c = 94) := fun h => hcn'.2 h.2
    obtain ⟨d, hd1, hd2, hd3⟩ := Lead.first hR0 (Lead.trans hcx hxc) hcR
    have hdl : Lead (fun i k => k ∈ DJ i) c d := hd1.lead
    have hdt : d < totN p := reach_lt hp (ow_spec p c hcn'.1).1 (lead_reach hp h.dj hcn'.1 hdl)
    have hdg : d ∈ gl := (hgl d).2 ⟨hdt, fun e => hd2 ⟨by rw [hlen]; exact hdt, e⟩⟩
    have hdS : d ∈ SL c := hGI.cmp c d (by rw [hlen]; exact hcn'.1) (by rw [hlen]; exact hdt) hcR hd2 hd1
    have hda : d ∉ a := fun hm => hfirst d hm ⟨hdg, Lead.trans hxc hdl, by
      rcases hd3 with e | e
      · rw [e]; exact hcx
      · exact Lead.trans e hcx⟩
    obtain ⟨T, hT1, hT2⟩ := hPu.rep a c b hab ⟨d, hdS, hda⟩ hcn
    have hin : ∀ m, Via (fun i k => k ∈ DJ i) (fun _ => True) c m → m ≠ c ∧ m ∈ T := fun m hm => by
      induction hm with
      | base h1 => exact hT2 c hT1 _ h1
      | step _ _ h2 ih => exact hT2 _ ih.2 _ h2
    exact (hin c (Lead.trans hcx hxc)).1 rfl
end
end Go.Proofs.YtgaadjgfjiljjaaGreat

/- FnCycle (3): whatever the declarations, the answer is true. No condition but that the argument lies as a list of declarations. -/
namespace Go.Proofs.YtgaadjgfjiljjaaGreat
open Go.RowKit Go.Proofs.YtgaadjgfjiljjaaGreatW.PrintWords Go.Proofs.YtgaadjgfjiljjaaGreatW.PrintLast Go.Proofs.YtgaadjgfjiljjaaGreatW.PrintMore
set_option linter.unusedVariables false
set_option linter.unusedSimpArgs false

theorem intc' {w : World} {b : Nat} {ok : Nat → Prop} {A : Option Addr} {L c : Nat} {D : List Int} (hR : (Kd.int .i64).R 3 w b ok (.slice A L c) D) :
    L = D.length ∧ ∀ i, i < D.length → ∃ g, A = some ⟨g, 0, none⟩ ∧ w.cell? ⟨g, i, none⟩ = some (.int .i64 (D.getD i 0)) := by
  have h3 := Kd.R_reads' hR
  have hL := h3.1
  subst hL
  refine ⟨rfl, fun t ht => ?_⟩
  obtain ⟨g, cap, hv, _, _, _, _⟩ := Kd.R_form hR (by omega)
  injection hv with hA _ hc
  subst hA; subst hc
  obtain ⟨ad, he, hx⟩ := Kd.at_int h3.2.2 (t : Int) (by omega) (by omega)
  injection he with he
  subst he
  rw [Int.toNat_natCast] at hx
  refine ⟨g, rfl, ?_⟩
  rw [← add_plain]
  exact hx.trans (by unfold rd; rw [Int.toNat_natCast])
/-- .. among the first k declarations. -/
def WK (p : List It) (k : Nat) : Prop := ∃ m r : Nat, m < k ∧ isvK (itA p m).f0 = true ∧ r < totN p ∧ ow p r = m ∧ Reach (fun x => x != 4) p m r
def WJ (p : List It) (k j : Nat) : Prop := WK p k ∨ ∃ i, i < j ∧ isvK (itA p k).f0 = true ∧ Reach (fun x => x != 4) p k (startN p k + i)
theorem WK_zero (p : List It) : ¬ WK p 0 := fun ⟨m, _, h, _⟩ => by omega
theorem WJ_zero (p : List It) (k : Nat) : WJ p k 0 ↔ WK p k := ⟨fun h => by rcases h with h | ⟨i, h, _⟩; exact h; omega, .inl⟩
theorem obj_lt {p : List It} {k i : Nat} (hk : k < p.length) (hi : i < objN (itA p k)) : startN p k + i < totN p ∧ ow p (startN p k + i) = k := by
  have h1 := startN_succ p k hk
  have h2 := startN_mono p (j := k + 1) (k := p.length) (by omega) (Nat.le_refl _)
  exact ⟨by unfold totN; omega, ow_at p k i hk hi⟩
theorem WJ_end {p : List It} {k : Nat} (hk : k < p.length) : WJ p k (objN (itA p k)) ↔ WK p (k + 1) := by
  constructor
  · rintro (⟨m, r, h1, h2⟩ | ⟨i, h1, h2, h3⟩)
    · exact ⟨m, r, by omega, h2⟩
    · have := obj_lt hk h1
      exact ⟨k, _, by omega, h2, this.1, this.2, h3⟩
  · rintro ⟨m, r, h1, h2, h3, h4, h5⟩
    by_cases e : m = k
    · subst e
      obtain ⟨_, o2, o3, _⟩ := ow_spec p r h3
      rw [h4] at o2 o3
      exact .inr ⟨r - startN p m, by omega, h2, by rw [show startN p m + (r - startN p m) = r by omega]; exact h5⟩
    · exact .inl ⟨m, r, by omega, h2, h3, h4, h5⟩
theorem WJ_succ {p : List It} {k j : Nat} : WJ p k (j + 1) ↔ WJ p k j ∨ (isvK (itA p k).f0 = true ∧ Reach (fun x => x != 4) p k (startN p k + j)) := by
  constructor
  · rintro (h | ⟨i, h1, h2, h3⟩)
    · exact .inl (.inl h)
    · by_cases e : i = j
      · subst e; exact .inr ⟨h2, h3⟩
      · exact .inl (.inr ⟨i, by omega, h2, h3⟩)
  · rintro ((h | ⟨i, h1, h2⟩) | ⟨h2, h3⟩)
    · exact .inl h
    · exact .inr ⟨i, by omega, h2⟩
    · exact .inr ⟨j, by omega, h2, h3⟩
theorem WK_self (p : List It) : WK p p.length ↔ SelfDep p :=
  ⟨fun ⟨m, r, h1, h2, h3, h4, h5⟩ => ⟨m, r, h1, h2, h3, h4, h5⟩, fun ⟨m, r, h1, h2, h3, h4, h5⟩ => ⟨m, r, h1, h2, h3, h4, h5⟩⟩
theorem isvK_of {x : Int} (h0 : 0 ≤ x) (h5 : x < 5) : isvK x = true ↔ (x ≠ 3 ∧ x ≠ 4) := by
  rcases (show x = 0 ∨ x = 1 ∨ x = 2 ∨ x = 3 ∨ x = 4 by omega) with h | h | h | h | h <;> subst h <;> decide

set_option maxHeartbeats 4000000 in
set_option maxRecDepth 100000 in
theorem fnCycle_any (l : List It) (P0 : Nat → Prop) (A0 : Option Addr) (c0 : Nat) (w : World) (hv : Kd.V kIt 46 w w.heap.size P0 (.slice A0 l.length c0) l) :
    Calls Tryz.prog 3 #[.slice A0 l.length c0] w fun e w' => e = .returned (.bool true) ∧ Below w.heap.size w w' := by
  obtain ⟨kz, rz, hz, hz2⟩ := fits_f l
  have hu31 := Tryz.underlying31
  have HV := Aside0.mk hv
  have HC := Aside0.mk (Kd.V_reads' hv).2.2
  have HL := Aside0.mk (Kd.V_reads' hv).2.1
  have HZ := Aside0.mk hz
  have HZ2 := Aside0.mk hz2
  clear hv hz hz2
  go_enter Tryz.func3, Tryz.ntmps3
  go_wp2_with fail
  refine (laws_zzFits1.calls kz A0 c0 l rz w HC.out HL.out HZ.out).mono ?_
  rintro e w1 ⟨rfl, hb1⟩
  have HB1 := Aside0.mk (show Below w.heap.size w w1 by first | exact hb1 | exact hb1.below)
  clear hb1
  cases rz with
  | false =>
    go_wp2_with fail
    go_ret
    exact ⟨rfl, HB1.out⟩
  | true =>
    obtain ⟨hl, hsh⟩ := HZ2.out rfl
    obtain ⟨kr, hr⟩ := read_f l hl
    have HR := Aside0.mk hr
    have HSH := Aside0.mk hsh
    clear hr hsh hl
    go_wp2_with fail
    refine (laws_read.calls kr P0 A0 c0 l l w1 (Kd.V_below HV.out HB1.out) HR.out).mono ?_
    rintro e w2 ⟨v2, rfl, hN, hB⟩
    obtain ⟨A2, c2, hv2, hl2, hC2⟩ := Kd.N_reads hN
    subst hv2
    have HV2 := Aside0.mk (Kd.N_V (base' := w2.heap.size) hN)
    have HC2 := Aside0.mk hC2
    have HL2 := Aside0.mk hl2
    have HB2 := Aside0.mk (below_step HB1.out hB)
    clear hN hB hl2 hC2
    go_wp2_with fail
    refine (fit_of l A2 c2 w2 HC2.out HL2.out HSH.out).mono ?_
    rintro e w3 ⟨b, rfl, hfit, hB⟩
    have HFIT := Aside0.mk hfit
    have HB23 := Aside0.mk hB
    have HB3 := Aside0.mk (below_step HB2.out hB)
    have HC3 := Aside0.mk (Kd.C_below HC2.out hB)
    clear hfit hB
    cases b with
    | false =>
      go_wp2_with fail
      go_ret
      exact ⟨rfl, HB3.out⟩
    | true =>
      have HF := Aside0.mk (HFIT.out rfl)
      have HP := Aside0.mk (HFIT.out rfl).ok
      go_wp2_with fail
      go_loopg [4, 22] l.length (fun kq v4 v22 w' => ∃ (k : Nat) (b : Bool), v4 = .bool b ∧ v22 = .int .i64 (k : Int) ∧ Aside0 (kq + k = l.length) ∧ Aside0 (Below w3.heap.size w3 w') ∧ Aside0 (b = true ↔ WK l k))
      case atStart => exact ⟨0, false, rfl, rfl, ⟨by omega⟩, ⟨Below.refl _ _⟩, ⟨⟨fun h => (by cases h), fun h => absurd h (WK_zero l)⟩⟩⟩
      case round =>
        obtain ⟨k, b, rfl, rfl, HK, HB, HW⟩ := hrel
        by_cases ck : (k : Int) < (l.length : Int)
        · have hck := decide_eq_true ck
          have hkr : k < l.length := by omega
          have hckn : decide (k < l.length) = true := decide_eq_true hkr
          have hk0 : (0 : Int) ≤ (k : Int) := by omega
          obtain ⟨ko, ho⟩ := Objects_f l HP.out.len HP.out.items k hkr
          have HO := Aside0.mk ho
          have HKR := Aside0.mk hkr
          clear ho
          go_wp2_with fail
          refine (spec_Package_Objects.calls ko A2 c2 l (k : Int) (objsL l k) wr (Kd.C_below HC3.out HB.out) HL2.out HO.out).mono ?_
          rintro e w9 ⟨v9, rfl, hR9, hB9⟩
          obtain ⟨A9, c9, hv9, _, _⟩ := Kd.R_reads hR9
          subst hv9
          have HI9 := Aside0.mk (intc' hR9).2
          have HB9 := Aside0.mk (below_step HB.out hB9)
          have HOL := Aside0.mk (show (objsL l k).length = objN (itA l k) from objsL_length l k)
          have HON := Aside0.mk (show objN (itA l k) ≤ 100 from (HP.out.items _ (itA_mem hkr)).objN_le)
          clear hR9 hB9 HB
          go_wp2_with fail
          obtain ⟨n1, rfl⟩ : ∃ n1, n1 = gk := ⟨_, rfl⟩
          obtain ⟨wq, rfl⟩ : ∃ wq, wq = wr := ⟨_, rfl⟩
          go_loopg [4, 29] (objsL l k).length (fun kq v4 v29 w' => ∃ (j : Nat) (b : Bool), v4 = .bool b ∧ v29 = .int .i64 (j : Int) ∧ Aside0 (kq + j = (objsL l k).length) ∧ Aside0 (Below w9.heap.size w9 w') ∧ Aside0 (b = true ↔ WJ l k j))
          case atStart => exact ⟨0, b, rfl, rfl, ⟨by omega⟩, ⟨Below.refl _ _⟩, ⟨HW.out.trans (WJ_zero l k).symm⟩⟩
          case round =>
            clear HW
            obtain ⟨j, b, rfl, rfl, HKJ, HBJ, HW⟩ := hrel
            have HBW := Aside0.mk (show Below w3.heap.size w3 wr from below_step HB9.out HBJ.out)
            by_cases cj : (j : Int) < ((objsL l k).length : Int)
            · have hcj := decide_eq_true cj
              have hjr : j < (objsL l k).length := by omega
              have hcjn : decide (j < (objsL l k).length) = true := decide_eq_true hjr
              have hj0 : (0 : Int) ≤ (j : Int) := by omega
              obtain ⟨g9, hA9, hcell⟩ := HI9.out j hjr
              subst hA9
              have hjo : j < objN (itA l k) := by have := HOL.out; omega
              have hgd : (objsL l k).getD j 0 = ((startN l k + j : Nat) : Int) := by
                unfold objsL
                rw [List.getD_eq_getElem?_getD, List.getElem?_map, List.getElem?_range hjo]; rfl
              rw [hgd] at hcell
              obtain ⟨x, hx⟩ : ∃ x, x = startN l k + j := ⟨_, rfl⟩
              rw [← hx] at hcell
              have hcell' : wr.cell? ⟨g9, j, none⟩ = some (.int .i64 (x : Int)) := (HBJ.out.cell (World.block_lt_of_cell? _ _ hcell)).trans hcell
              have hobj := obj_lt hkr hjo
              rw [← hx] at hobj
              have HX := Aside0.mk (And.intro hobj hx)
              obtain ⟨ad, Ax, cx, e, hy0, _, _, _, _⟩ := at_It HC3.out (k : Int) hk0 ck
              subst e
              replace hy0 := (HBW.out.cell (World.block_lt_of_cell? _ _ hy0)).trans hy0
              rw [Int.toNat_natCast, rd_It_nat] at hy0
              have hit := HP.out.items _ (itA_mem hkr)
              have HIS := Aside0.mk (isvK_of hit.k0 hit.k5)
              have hx0 : (0 : Int) ≤ (x : Int) := by omega
              clear hcell hgd hjo hobj hit hx cj
              cases b with
              | true =>
                go_wp2_with fail
                go_roundg (gk - 1)
                case measure => have := HKJ.out; omega
                case rel => exact ⟨j + 1, true, rfl, congrArg (Value.int .i64) (by have := HOL.out; have := HON.out; first | omega | (unfold wrap64; omega)), ⟨by have := HKJ.out; omega⟩, HBJ, ⟨⟨fun _ => WJ_succ.2 (.inl (HW.out.1 (by first | exact rfl | exact trivial))), fun _ => rfl⟩⟩⟩
              | false =>
                by_cases c3 : (itA l k).f0 = 3
                · have hb3 := beqs c3
                  rw [c3] at hy0
                  have C3 := Aside0.mk c3
                  clear c3
                  go_wp2_with fail
                  go_roundg (gk - 1)
                  case measure => have := HKJ.out; omega
                  case rel => exact ⟨j + 1, false, rfl, congrArg (Value.int .i64) (by have := HOL.out; have := HON.out; first | omega | (unfold wrap64; omega)), ⟨by have := HKJ.out; omega⟩, HBJ, ⟨⟨fun h => (by cases h), fun h => by
                    rcases WJ_succ.1 h with h | h
                    · exact HW.out.2 h
                    · exact absurd C3.out (HIS.out.1 h.1).1⟩⟩⟩
                · by_cases c4 : (itA l k).f0 = 4
                  · rw [c4] at hy0
                    have C4 := Aside0.mk c4
                    clear c3 c4
                    go_wp2_with fail
                    go_roundg (gk - 1)
                    case measure => have := HKJ.out; omega
                    case rel => exact ⟨j + 1, false, rfl, congrArg (Value.int .i64) (by have := HOL.out; have := HON.out; first | omega | (unfold wrap64; omega)), ⟨by have := HKJ.out; omega⟩, HBJ, ⟨⟨fun h => (by cases h), fun h => by
                      rcases WJ_succ.1 h with h | h
                      · exact HW.out.2 h
                      · exact absurd C4.out (HIS.out.1 h.1).2⟩⟩⟩
                  · have HISV := Aside0.mk (HIS.out.2 ⟨c3, c4⟩)
                    have hb3 := (bnes c3).2
                    have hb4 := (bnes c4).2
                    have hb3' := (bnes c3).1
                    have hb4' := (bnes c4).1
                    clear c3 c4
                    go_wp2_with fail
                    refine (needsAll_of HP.out (some ad) c2 k HKR.out wr (Kd.C_below HC3.out HBW.out) HL2.out).mono ?_
                    rintro e w5 ⟨v5, out, rfl, hR5, hno, hB5⟩
                    obtain ⟨A5, c5, hv5, _, hC5⟩ := Kd.R_reads hR5
                    subst hv5
                    obtain ⟨a5, rfl, hx5⟩ := Kd.at_bool hC5 (x : Int) (by omega) (by rw [hno.1]; have := HX.out.1.1; omega)
                    rw [Int.toNat_natCast] at hx5
                    have hxl : (x : Int) < (out.length : Int) := by rw [hno.1]; have := HX.out.1.1; omega
                    have hxl' : x < out.length := by omega
                    have HNO := Aside0.mk (hno.2 x HX.out.1.1)
                    have HB5 := Aside0.mk (below_step HBJ.out hB5)
                    have hrd : rdOf false out (x : Int) = rdb out (x : Int) := rfl
                    rw [hrd] at hx5
                    obtain ⟨r5, hr5⟩ : ∃ r5, r5 = rdb out (x : Int) := ⟨_, rfl⟩
                    rw [← hr5] at hx5 HNO
                    clear hR5 hno hB5 hC5 hr5 hrd
                    go_wp2_with fail
                    go_roundg (gk - 1)
                    case measure => have := HKJ.out; omega
                    case rel => exact ⟨j + 1, r5, rfl, congrArg (Value.int .i64) (by have := HOL.out; have := HON.out; first | omega | (unfold wrap64; omega)), ⟨by have := HKJ.out; omega⟩, HB5, ⟨by
                      have hx := HX.out
                      rw [HNO.out, WJ_succ, hx.1.2, ← hx.2]
                      constructor
                      · intro h; exact .inr ⟨HISV.out, h.1⟩
                      · rintro (h | h)
                        · exact absurd (HW.out.2 h) (by simp)
                        · exact ⟨h.2, HISV.out⟩⟩⟩
            · have hcj := decide_eq_false cj
              have hcjn : decide (j < (objsL l k).length) = false := decide_eq_false (by omega)
              have hje : j = objN (itA l k) := by have := HKJ.out; have := HOL.out; omega
              have HJE := Aside0.mk hje
              clear cj hje
              go_wp2_with fail
              go_roundg (n1 - 1)
              case measure => have := HK.out; have := HKR.out; omega
              case rel => exact ⟨k + 1, b, rfl, congrArg (Value.int .i64) (by have := HKR.out; have := HP.out.len; first | omega | (unfold wrap64; omega)), ⟨by have := HK.out; have := HKR.out; omega⟩, HBW, ⟨by have h := HW.out; rw [HJE.out, WJ_end HKR.out] at h; exact h⟩⟩
        · have hck := decide_eq_false ck
          have hckn : decide (k < l.length) = false := decide_eq_false (by omega)
          have hke : k = l.length := by have := HK.out; omega
          have HSELF := Aside0.mk (show b = true ↔ SelfDep l by have h := HW.out; rw [hke, WK_self] at h; exact h)
          clear ck hke HW
          go_wp2_with fail
          refine (steps_of HP.out A2 c2 wr (Kd.C_below HC3.out HB.out) HL2.out).mono ?_
          rintro e w6 ⟨v6, b6, d6, rfl, hd1, hd2, hd3, hB6⟩
          have hb6 : b6 = b := by
            have h := (hd3.trans (rest_iff HP.out hd1 hd2)).trans HSELF.out.symm
            cases b6 <;> cases b <;> simp_all
          subst hb6
          have HB6 := Aside0.mk (below_step HB.out hB6)
          clear hd1 hd2 hd3 hB6
          go_wp2_with fail
          refine (order_of HP.out _ A2 c2 w6 (Kd.V_below (Kd.V_below HV2.out HB23.out) HB6.out)).mono ?_
          rintro e w7 ⟨v7, outs, cys, DJ, pops, SL, gl, rfl, hR7, hB7, hI7⟩
          have hcb : decide (cys.length = 0) = !b6 := by
            have h := (cycle_iff HF.out hI7).trans HSELF.out.symm
            cases cys with
            | nil => cases b6 with
              | false => rfl
              | true => exact absurd rfl (h.2 rfl)
            | cons a t => cases b6 with
              | true => rfl
              | false => have := h.1 (by simp); cases this
          rw [hcb]
          have HB7 := Aside0.mk (below_step (below_step HB3.out HB6.out) hB7)
          clear hR7 hB7 hI7 hcb
          cases b6 with
          | true =>
            go_wp2_with fail
            refine (works_of w7).mono ?_
            rintro e w8 ⟨rfl, hB8⟩
            have HB8 := Aside0.mk (below_step HB7.out hB8)
            clear hB8
            go_wp2_with fail
            go_ret
            exact ⟨rfl, HB8.out⟩
          | false =>
            go_wp2_with fail
            refine (works_of w7).mono ?_
            rintro e w8 ⟨rfl, hB8⟩
            have HB8 := Aside0.mk (below_step HB7.out hB8)
            clear hB8
            go_wp2_with fail
            go_ret
            exact ⟨rfl, HB8.out⟩
end Go.Proofs.YtgaadjgfjiljjaaGreat

/- A list of declarations that came in, laid open. Conditions: that it reads. -/
namespace Go.Proofs.YtgaadjgfjiljjaaGreat
open Go.ChangeShapes Go.WideShapes Go.ChangeAt Go.RowKit Go.Deep Go.Proofs.YtgaadjgfjiljjaaGreatW.PrintWords
set_option linter.unusedVariables false
set_option linter.unusedSimpArgs false

instance : Inhabited It := ⟨zIt⟩

theorem same_cell {W W' : World} (h : ∀ k, k < W.heap.size → W'.heap[k]? = W.heap[k]?) {p : Addr} {v : Value} (hc : W.cell? p = some v) : W'.cell? p = some v :=
  (World.cell?_of_block (w := W) (h p.block (World.block_lt_of_cell? W _ hc))).trans hc

set_option maxRecDepth 100000 in
theorem open_it {H : Type} {enc : TypeId × Value → H} {W : World} {n : Nat} {cs : List Value} {x : DataW H × List MemPlace} (h : DataW.trod enc Tryz.prog W 0 (fun _ => true) true n 46 cs = some x) :
    ∃ it : It, cs.length = 3 ∧ ∀ W' : World, (∀ k, k < W.heap.size → W'.heap[k]? = W.heap[k]?) → kIt.K W' it cs := by
  obtain ⟨y0, y1, y2, m, _, hl, h0, h1, h2⟩ := trod_struct3 Tryz.underlying46 h
  have hsz : Tryz.prog.cellsOf 46 = 3 := by kernel_rfl
  have hs3 : Tryz.prog.cellsOf 3 = 1 := by kernel_rfl
  have hs28 : Tryz.prog.cellsOf 28 = 1 := by kernel_rfl
  rw [hsz] at hl
  match cs, hl with
  | [u0, u1, u2], _ =>
    have h0' : DataW.trod enc Tryz.prog W 0 (fun _ => true) true m 3 [u0] = some y0 := by simpa [hs3] using h0
    have h1' : DataW.trod enc Tryz.prog W 0 (fun _ => true) true m 3 [u1] = some y1 := by simpa [hs3] using h1
    have h2' : DataW.trod enc Tryz.prog W 0 (fun _ => true) true m 28 [u2] = some y2 := by simpa [hs28] using h2
    obtain ⟨a, e0, _, _⟩ := DataW.trod_int Tryz.underlying3 h0'
    obtain ⟨b, e1, _, _⟩ := DataW.trod_int Tryz.underlying3 h1'
    simp at e0 e1
    subst e0 e1
    rcases open_ints Tryz.underlying28 Tryz.underlying3 hs3 h2' with ⟨e2, _⟩ | ⟨ad, len, cap, zs, e2, _, hlc, hcm, hz, _, hcell, _⟩
    · simp at e2
      subst e2
      refine ⟨⟨a, b, []⟩, rfl, fun W' _ => ⟨[.int .i64 a], [.int .i64 b, .slice none 0 0], rfl, rfl, [.int .i64 b], [.slice none 0 0], rfl, rfl, ⟨none, 0, rfl, Nat.le_refl _, rfl, by simp, fun h => absurd h (by simp)⟩⟩⟩
    · simp at e2
      subst e2
      have hzl : zs.length = cap := by simpa using hz
      have hmx : maxLen = 9223372036854775807 := rfl
      refine ⟨⟨a, b, zs.take len⟩, rfl, fun W' hW' => ⟨[.int .i64 a], [.int .i64 b, .slice (some ad) len cap], rfl, rfl, [.int .i64 b], [.slice (some ad) len cap], rfl, rfl, ⟨some ad, cap, ?_, ?_, rfl, ?_, fun _ => ⟨ad, rfl, fun j p hj => ⟨[.int .i64 p], rfl, rfl, fun q u hq => ?_⟩⟩⟩⟩⟩
      · show [Value.slice (some ad) len cap] = [Value.slice (some ad) (zs.take len).length cap]
        rw [List.length_take, hzl, Nat.min_eq_left hlc]
      · show (zs.take len).length ≤ cap
        rw [List.length_take]; omega
      · show (zs.take len).length ≤ 9223372036854775807
        rw [List.length_take]; omega
      · rcases q with _ | q
        · simp at hq
          subst hq
          have hj' : (zs.take len)[j]? = some p := hj
          obtain ⟨hjl, hjp⟩ := List.getElem?_eq_some_iff.1 hj'
          rw [List.length_take] at hjl
          have hc := hcell j (by omega)
          rw [List.getElem_take] at hjp
          rw [List.getD_eq_getElem?_getD, List.getElem?_eq_getElem (show j < zs.length by omega), Option.getD_some, hjp] at hc
          have h9 := same_cell hW' hc
          rw [show j * (Kd.int .i64).sz + 0 = j from by show j * 1 + 0 = j; omega]
          exact h9
        · simp at hq

set_option maxRecDepth 100000 in
theorem open_items {H : Type} {enc : TypeId × Value → H} {W : World} {fuel : Nat} {A : Option Addr} {len cap : Nat} {x : DataW H × List MemPlace} (h : DataW.trod enc Tryz.prog W 0 (fun _ => true) true fuel 22 [.slice A len cap] = some x) :
    ∃ l : List It, l.length = len ∧ len ≤ cap ∧ ∀ W' : World, (∀ k, k < W.heap.size → W'.heap[k]? = W.heap[k]?) → Kd.C kIt W' A len l := by
  rcases open_slice (t := 22) (e := 46) Tryz.underlying22 h with ⟨hcs, _⟩ | ⟨a, len', cap', m, n', D, Pl, hcs, _, hl, hm, hmm, _, hel⟩
  · simp at hcs
    obtain ⟨rfl, rfl, rfl⟩ := hcs
    exact ⟨[], rfl, Nat.le_refl _, fun W' _ => ⟨rfl, by omega, fun h => absurd h (by omega)⟩⟩
  · simp at hcs
    obtain ⟨rfl, rfl, rfl⟩ := hcs
    have hcap : m = cap := by simpa using hmm
    have hsz : Tryz.prog.cellsOf 46 = 3 := by kernel_rfl
    rw [hsz] at hel
    have hex : ∀ i, i < len → ∃ it : It, ∀ W' : World, (∀ k, k < W.heap.size → W'.heap[k]? = W.heap[k]?) → ∃ c, c.length = 3 ∧ kIt.K W' it c ∧ ∀ q u, c[q]? = some u → W'.cell? (a.add (i * 3 + q)) = some u := fun i hi => by
      obtain ⟨cs', h1, h2⟩ := hel i (by omega)
      obtain ⟨it, h3, h4⟩ := open_it h2
      obtain ⟨_, _, hcell⟩ := World.cells?_some h1
      refine ⟨it, fun W' hW' => ⟨cs', h3, h4 W' hW', fun q u hq => ?_⟩⟩
      rw [← Deep.add_add]
      exact same_cell hW' ((hcell q (by have := (List.getElem?_eq_some_iff.1 hq).1; omega)).trans hq)
    obtain ⟨f, hf⟩ := choose_lt hex
    refine ⟨(List.range len).map f, by simp, hl, fun W' hW' => ⟨by simp, by have : maxLen = 9223372036854775807 := rfl; omega, fun _ => ⟨a, rfl, fun j p hj => ?_⟩⟩⟩
    have hjl : j < len := by
      have := (List.getElem?_eq_some_iff.1 hj).1
      simpa using this
    rw [List.getElem?_map, List.getElem?_range hjl] at hj
    simp at hj
    subst hj
    obtain ⟨c, h1, h2, h3⟩ := hf j hjl W' hW'
    exact ⟨c, h1, h2, h3⟩
end Go.Proofs.YtgaadjgfjiljjaaGreat
