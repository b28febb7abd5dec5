/- Plain: a cycle is told just if some variable depends on itself, just if the steps stop short. Conditions: FitP, and what InitOrder answers (IOk). -/
import Derived.Test.YtgaadjgfjiljjaaGreatXs
import Derived.Test.YtgaadjgfjiljjaaGreatXd
import Derived.Deep.RegionWith
import Derived.Deep.QuietTactic
import Derived.Deep.CutRange
import Derived.BigQuiet
import Derived.Test.YtgaadjgfjiljjaaGreatXb
import Derived.Lib.SmallJoins
namespace Go.Proofs.YtgaadjgfjiljjaaGreat
open Go.RowKit Go.Proofs.YtgaadjgfjiljjaaGreatW.PrintWords
set_option linter.unusedVariables false
set_option linter.unusedSimpArgs false

section
variable {p : List It}

theorem ref_lt (hp : PkgOk p) {k : Nat} (hk : k < p.length) {r : Nat} (h : (r : Int) ∈ refsN p k) : r < totN p := by
  have := hp.refs _ (itA_mem hk) _ h; omega
theorem reach_lt (hp : PkgOk p) {fol : Int → Bool} {k : Nat} (hk : k < p.length) {r : Nat} (h : Reach fol p k r) : r < totN p := by
  induction h with
  | base h => exact ref_lt hp hk h
  | step _ _ hm ih => exact ref_lt hp (ow_spec p _ ih).1 hm
theorem Reach.more {fol fol' : Int → Bool} {k r : Nat} (h : Reach fol p k r) (hf : ∀ x, fol x = true → fol' x = true) : Reach fol' p k r := by
  induction h with
  | base h => exact .base h
  | step _ h1 h2 ih => exact .step ih (hf _ h1) h2
/-- On from an object. -/
theorem Reach.on {fol : Int → Bool} {k r s : Nat} (h : Reach fol p k r) (hr : fol (itA p (ow p r)).f0 = true) (h' : Reach fol p (ow p r) s) : Reach fol p k s := by
  induction h' with
  | base h1 => exact .step h hr h1
  | step _ h1 h2 ih => exact .step ih h1 h2

/-- What a declaration needs at once: a variable's declaration, through functions. -/
def Need (p : List It) (k k' : Nat) : Prop := ∃ r : Nat, r < totN p ∧ Reach (fun x => x == 3) p k r ∧ isvK (itA p (ow p r)).f0 = true ∧ ow p r = k'
inductive Needs1 (p : List It) (k : Nat) : Nat → Prop
  | one {k' : Nat} : Need p k k' → Needs1 p k k'
  | more {m k' : Nat} : Needs1 p k m → Need p m k' → Needs1 p k k'
theorem isv_ne4 {x : Int} (h : isvK x = true) : (x != 4) = true := by
  unfold isvK at h
  by_cases e : x = 4
  · subst e; exact absurd h (by decide)
  · simpa using e
theorem needs1_reach (hp : PkgOk p) {k k' : Nat} (h : Needs1 p k k') : ∃ r : Nat, r < totN p ∧ Reach (fun x => x != 4) p k r ∧ isvK (itA p (ow p r)).f0 = true ∧ ow p r = k' := by
  have h3 : ∀ x : Int, (x == 3) = true → (x != 4) = true := fun x hx => by
    have : x = 3 := by simpa using hx
    subst this; decide
  induction h with
  | one h =>
    obtain ⟨r, h1, h2, h4, h5⟩ := h
    exact ⟨r, h1, h2.more h3, h4, h5⟩
  | more _ h ih =>
    obtain ⟨r, h1, h2, h4, h5⟩ := ih
    obtain ⟨s, g1, g2, g4, g5⟩ := h
    refine ⟨s, g1, h2.on (isv_ne4 h4) ?_, g4, g5⟩
    rw [h5]; exact g2.more h3
/-- What is reached without constants is needed, by way of variables. -/
theorem reach_needs1 (hp : PkgOk p) {k r : Nat} (hk : k < p.length) (h : Reach (fun x => x != 4) p k r) :
    Reach (fun x => x == 3) p k r ∨ ∃ m, Needs1 p k m ∧ (Reach (fun x => x == 3) p m r) := by
  induction h with
  | base h => exact .inl (.base h)
  | @step f s hf h1 h2 ih =>
    have hft := reach_lt hp hk hf
    have hfi := hp.items _ (itA_mem (ow_spec p f hft).1)
    by_cases e : (itA p (ow p f)).f0 = 3
    · rcases ih with ih | ⟨m, hm, ih⟩
      · exact .inl (.step ih (by simp [e]) h2)
      · exact .inr ⟨m, hm, .step ih (by simp [e]) h2⟩
    · have hv : isvK (itA p (ow p f)).f0 = true := by
        have h4 : (itA p (ow p f)).f0 ≠ 4 := by simpa using h1
        have h5 := hfi.k0
        have h6 := hfi.k5
        unfold isvK
        rcases (show (itA p (ow p f)).f0 = 0 ∨ (itA p (ow p f)).f0 = 1 ∨ (itA p (ow p f)).f0 = 2 by omega) with h | h | h <;> rw [h] <;> decide
      right
      rcases ih with ih | ⟨m, hm, ih⟩
      · exact ⟨ow p f, .one ⟨f, hft, ih, hv, rfl⟩, .base h2⟩
      · exact ⟨ow p f, .more hm ⟨f, hft, ih, hv, rfl⟩, .base h2⟩
theorem reach_self (hp : PkgOk p) {k r : Nat} (hk : k < p.length) (h : Reach (fun x => x != 4) p k r) (hr : r < totN p) (hv : isvK (itA p (ow p r)).f0 = true) : Needs1 p k (ow p r) := by
  rcases reach_needs1 hp hk h with h | ⟨m, hm, h⟩
  · exact .one ⟨r, hr, h, hv, rfl⟩
  · exact .more hm ⟨r, hr, h, hv, rfl⟩

/-- Some variable depends on itself. -/
def SelfDep (p : List It) : Prop := ∃ k r : Nat, k < p.length ∧ isvK (itA p k).f0 = true ∧ r < totN p ∧ ow p r = k ∧ Reach (fun x => x != 4) p k r

theorem rdb_set' (d : List Bool) (i j : Nat) (h : i < d.length) : rdb (d.set i true) (j : Int) = if i = j then true else rdb d (j : Int) := rdb_set d i j true h
/-- What was done step by step has no cycle in it. -/
theorem done_acyclic (hp : PkgOk p) {d : List Bool} (h : DoneSeq p d) : (∀ k k' : Nat, rdb d (k : Int) = true → Need p k k' → rdb d (k' : Int) = true) ∧ (∀ k : Nat, rdb d (k : Int) = true → ¬ Needs1 p k k) := by
  have clos : ∀ d : List Bool, (∀ k k' : Nat, rdb d (k : Int) = true → Need p k k' → rdb d (k' : Int) = true) → ∀ k k' : Nat, rdb d (k : Int) = true → Needs1 p k k' → rdb d (k' : Int) = true := fun d hd k k' hk h => by
    induction h with
    | one h => exact hd _ _ hk h
    | more _ h ih => exact hd _ _ ih h
  induction h with
  | nil =>
    have hf : ∀ k : Nat, rdb (List.replicate p.length false) (k : Int) = false := fun k => rdb_replicate _ _
    exact ⟨fun k k' hk => (by rw [hf] at hk; cases hk), fun k hk => (by rw [hf] at hk; cases hk)⟩
  | @step d k0 hd hk0 hv hnd hrd ih =>
    have hl := hd.len
    have hnew : ∀ k', Need p k0 k' → rdb d (k' : Int) = true := fun k' ⟨r, h1, h2, h3, h4⟩ => by rw [← h4]; exact hrd r h1 h2 h3
    have hstep : ∀ k k' : Nat, rdb (d.set k0 true) (k : Int) = true → Need p k k' → rdb d (k' : Int) = true := fun k k' hk hn => by
      rw [rdb_set' d k0 k (by omega)] at hk
      by_cases e : k0 = k
      · subst e; exact hnew k' hn
      · rw [if_neg e] at hk; exact ih.1 k k' hk hn
    refine ⟨fun k k' hk hn => ?_, fun k hk hc => ?_⟩
    · rw [rdb_set' d k0 k' (by omega)]
      by_cases e : k0 = k'
      · rw [if_pos e]
      · rw [if_neg e]; exact hstep k k' hk hn
    · have hall : ∀ k', Needs1 p k k' → rdb d (k' : Int) = true := fun k' h => by
        induction h with
        | one h => exact hstep _ _ hk h
        | more _ h ih' => exact ih.1 _ _ ih' h
      exact ih.2 k (hall k hc) hc

/-- Where each of finitely many has a next one, one comes back to itself. -/
theorem chain_back {n : Nat} {A : Nat → Prop} {Rl : Nat → Nat → Prop} (ht : ∀ a b c, Rl a b → Rl b c → Rl a c) (hn : ∀ a, A a → a < n ∧ ∃ b, A b ∧ Rl a b) {a : Nat} (ha : A a) : ∃ b, A b ∧ Rl b b := by
  have key : ∀ m : Nat, (∃ b, A b ∧ Rl b b) ∨ ∃ (l : List Nat) (a : Nat), l.length = m ∧ A a ∧ a ∉ l ∧ l.Nodup ∧ (∀ b ∈ l, A b ∧ Rl b a) := by
    intro m
    induction m with
    | zero => exact .inr ⟨[], a, rfl, ha, fun h => (by cases h), List.nodup_nil, fun b hb => (by cases hb)⟩
    | succ m ih =>
      rcases ih with h | ⟨l, a, h1, h2, h3, h4, h5⟩
      · exact .inl h
      · obtain ⟨_, b, hb, hab⟩ := hn a h2
        by_cases e : b ∈ a :: l
        · left
          rcases List.mem_cons.1 e with e | e
          · subst e; exact ⟨b, hb, hab⟩
          · exact ⟨b, hb, ht _ _ _ (h5 b e).2 hab⟩
        · refine .inr ⟨a :: l, b, by simp [h1], hb, e, List.nodup_cons.2 ⟨h3, h4⟩, fun c hc => ?_⟩
          rcases List.mem_cons.1 hc with hc | hc
          · subst hc; exact ⟨h2, hab⟩
          · exact ⟨(h5 c hc).1, ht _ _ _ (h5 c hc).2 hab⟩
  rcases key (n + 1) with h | ⟨l, _, h1, _, _, h4, h5⟩
  · exact h
  · have := nodup_lt_length n l h4 (fun b hb => (hn b (h5 b hb).1).1)
    omega
theorem Needs1.trans {a b c : Nat} (h : Needs1 p a b) (h' : Needs1 p b c) : Needs1 p a c := by
  induction h' with
  | one h1 => exact .more h h1
  | more _ h1 ih => exact .more ih h1

/-- The steps stop short just if some variable depends on itself. -/
theorem rest_iff (hp : PkgOk p) {d : List Bool} (hd : DoneSeq p d) (hend : ∀ k : Nat, k < p.length → isvK (itA p k).f0 = true → rdb d (k : Int) = false → ¬ ReadyP p d k) :
    (∃ k : Nat, k < p.length ∧ isvK (itA p k).f0 = true ∧ rdb d (k : Int) = false) ↔ SelfDep p := by
  constructor
  · rintro ⟨k, hk, hv, hnd⟩
    have hnx : ∀ a, (a < p.length ∧ isvK (itA p a).f0 = true ∧ rdb d (a : Int) = false) → a < p.length ∧ ∃ b, (b < p.length ∧ isvK (itA p b).f0 = true ∧ rdb d (b : Int) = false) ∧ Needs1 p a b := fun a ⟨h1, h2, h3⟩ => by
      refine ⟨h1, ?_⟩
      have hnr := hend a h1 h2 h3
      have hex : ∃ r : Nat, r < totN p ∧ Reach (fun k => k == 3) p a r ∧ isvK (itA p (ow p r)).f0 = true ∧ rdb d (ow p r : Int) = false := by
        refine Classical.byContradiction fun hno => hnr (fun r h4 h5 h6 => ?_)
        cases hb : rdb d (ow p r : Int) with
        | true => rfl
        | false => exact absurd ⟨r, h4, h5, h6, hb⟩ hno
      obtain ⟨r, h4, h5, h6, h7⟩ := hex
      exact ⟨ow p r, ⟨(ow_spec p r h4).1, h6, h7⟩, .one ⟨r, h4, h5, h6, rfl⟩⟩
    obtain ⟨b, ⟨hb1, hb2, _⟩, hb3⟩ := chain_back (A := fun a => a < p.length ∧ isvK (itA p a).f0 = true ∧ rdb d (a : Int) = false) (Rl := Needs1 p) (fun _ _ _ h h' => h.trans h') hnx ⟨hk, hv, hnd⟩
    obtain ⟨r, h1, h2, h3, h4⟩ := needs1_reach hp hb3
    exact ⟨b, r, hb1, hb2, h1, h4, h2⟩
  · rintro ⟨k, r, hk, hv, hr, ho, hR⟩
    refine ⟨k, hk, hv, ?_⟩
    cases hb : rdb d (k : Int) with
    | false => rfl
    | true =>
      have h1 := reach_self hp hk hR hr (by rw [ho]; exact hv)
      rw [ho] at h1
      exact absurd h1 ((done_acyclic hp hd).2 k hb)

theorem ty_of (r : Nat) (hr : r < totN p) : tyN (ndsL p) r = if (itA p (ow p r)).f0 = 3 then 94 else if (itA p (ow p r)).f0 = 4 then 90 else 75 := by
  unfold tyN
  rw [rd_ndsL p r hr]
  unfold ndOf
  by_cases h3 : (itA p (ow p r)).f0 = 3
  · simp [h3]
  · by_cases h4 : (itA p (ow p r)).f0 = 4
    · simp [h4]
    · simp [h3, h4]
theorem lead_reach (hp : PkgOk p) {DJ : Nat → List Nat} (hd : DJSpec (ndsL p) DJ) {i j : Nat} (hi : i < totN p) (h : Lead (fun i k => k ∈ DJ i) i j) : Reach (fun _ => true) p (ow p i) j := by
  unfold Lead at h
  induction h with
  | base h => exact .base ((dj_refs hp hd i hi _).1 h)
  | step h1 _ h2 ih => exact .step ih rfl ((dj_refs hp hd _ (reach_lt hp (ow_spec p i hi).1 ih) _).1 h2)
theorem reach_lead (hp : PkgOk p) {DJ : Nat → List Nat} (hd : DJSpec (ndsL p) DJ) {fol : Int → Bool} {i j : Nat} (hi : i < totN p) (h : Reach fol p (ow p i) j) : Lead (fun i k => k ∈ DJ i) i j := by
  unfold Lead
  induction h with
  | base h => exact .base ((dj_refs hp hd i hi _).2 h)
  | step h1 _ h2 ih => exact .step ih trivial ((dj_refs hp hd _ (reach_lt hp (ow_spec p i hi).1 h1) _).2 h2)
/-- No constant leads to itself. -/
theorem no_const (hf : FitP p) {DJ : Nat → List Nat} (hd : DJSpec (ndsL p) DJ) {i : Nat} (hi : i < totN p) (h : Lead (fun i k => k ∈ DJ i) i i) : (itA p (ow p i)).f0 ≠ 4 := fun e => by
  obtain ⟨h1, h2, h3, _⟩ := ow_spec p i hi
  have ho : objN (itA p (ow p i)) = 1 := by unfold objN; rw [e]; rfl
  have hs : startN p (ow p i) = i := by omega
  have := hf.const (ow p i) h1 e
  rw [hs] at this
  exact this (lead_reach hf.ok hd hi h)
/-- The first one of a list that is of a kind. -/
theorem first_of {A : Nat → Prop} : ∀ l : List Nat, (∃ x ∈ l, A x) → ∃ a x b, l = a ++ x :: b ∧ A x ∧ ∀ y ∈ a, ¬ A y
  | [], h => by obtain ⟨x, h, _⟩ := h; cases h
  | c :: l, h => by
    by_cases e : A c
    · exact ⟨[], c, l, rfl, e, fun y hy => (by cases hy)⟩
    · obtain ⟨x, hx, hA⟩ := h
      rcases List.mem_cons.1 hx with hx | hx
      · subst hx; exact absurd hA e
      · obtain ⟨a, y, b, h1, h2, h3⟩ := first_of l ⟨x, hx, hA⟩
        refine ⟨c :: a, y, b, by rw [h1]; rfl, h2, fun z hz => ?_⟩
        rcases List.mem_cons.1 hz with hz | hz
        · subst hz; exact e
        · exact h3 z hz
theorem path_lead {DJ : Nat → List Nat} {f t : Nat} {c : List Nat} (h0 : c ≠ []) (h : PathOk DJ f t c) : Lead (fun i k => k ∈ DJ i) f t := by
  obtain ⟨hh, hc, hl⟩ := h
  have hpos := List.length_pos_iff.2 h0
  have key : ∀ d i, i + d + 1 = c.length → Lead (fun i k => k ∈ DJ i) f (c.getD i 0) := fun d => by
    induction d with
    | zero =>
      intro i hi
      refine .base (hl _ ?_)
      rw [List.getLast?_eq_getElem?, List.getD_eq_getElem?_getD, show c.length - 1 = i by omega, List.getElem?_eq_getElem (show i < c.length by omega)]; rfl
    | succ d ih =>
      intro i hi
      exact .step (ih (i + 1) (by omega)) trivial (hc i (by omega))
  have h1 : c.getD 0 0 = t := by
    cases c with
    | nil => exact absurd rfl h0
    | cons a c => simp at hh; subst hh; rfl
  rw [← h1]; exact key (c.length - 1) 0 (by omega)

/-- A cycle is told just if some variable depends on itself. -/
theorem cycle_iff (hf : FitP p) {outs cys : List (List Nat)} {DJ : Nat → List Nat} {pops : List Nat} {SL : Nat → List Nat} {gl : List Nat} (h : IOk (ndsL p) outs cys DJ pops SL gl) : cys ≠ [] ↔ SelfDep p := by
  have hp := hf.ok
  have hlen := ndsL_length p
  obtain ⟨di, E, hPu⟩ := h.pu
  obtain ⟨PL, hGI⟩ := h.gi
  have hgl : ∀ i, i ∈ gl ↔ (i < totN p ∧ tyN (ndsL p) i ≠ 94) := fun i => by rw [h.gl_.1 i, hlen]
  constructor
  · intro hne
    obtain ⟨c, hc⟩ : ∃ c, c ∈ cys := by
      cases hcy : cys with
      | nil => exact absurd hcy hne
      | cons a l => exact ⟨a, List.mem_cons_self⟩
    obtain ⟨x, hx, h0, hcn, _, hpo⟩ := hPu.cyc c hc
    have hxn := (hgl x).1 hx
    have hL := path_lead h0 hpo
    have hx4 := no_const hf h.dj hxn.1 hL
    have hxi := hp.items _ (itA_mem (ow_spec p x hxn.1).1)
    have hx3 : (itA p (ow p x)).f0 ≠ 3 := fun e => hxn.2 (by rw [ty_of x hxn.1, if_pos e])
    have hv : isvK (itA p (ow p x)).f0 = true := by
      have h5 := hxi.k0
      have h6 := hxi.k5
      unfold isvK
      rcases (show (itA p (ow p x)).f0 = 0 ∨ (itA p (ow p x)).f0 = 1 ∨ (itA p (ow p x)).f0 = 2 by omega) with h | h | h <;> rw [h] <;> decide
    have key : ∀ m, Lead (fun i k => k ∈ DJ i) x m → (m = x ∨ Lead (fun i k => k ∈ DJ i) m x) → Reach (fun y => y != 4) p (ow p x) m := fun m hm => by
      have hmm : Via (fun i k => k ∈ DJ i) (fun _ => True) x m := hm
      induction hmm with
      | base h1 => exact fun _ => .base ((dj_refs hp h.dj x hxn.1 _).1 h1)
      | @step f m h1 _ h2 ih =>
        intro hb
        have hft : f < totN p := reach_lt hp (ow_spec p x hxn.1).1 (lead_reach hp h.dj hxn.1 h1)
        have hfx : Lead (fun i k => k ∈ DJ i) f x := by
          rcases hb with hb | hb
          · subst hb; exact .base h2
          · exact Lead.trans (.base h2) hb
        have hf4 := no_const hf h.dj hft (Lead.trans hfx h1)
        exact .step (ih h1 (.inr hfx)) (by simpa using hf4) ((dj_refs hp h.dj f hft _).1 h2)
    exact ⟨ow p x, x, (ow_spec p x hxn.1).1, hv, hxn.1, rfl, key x hL (.inl rfl)⟩
  · rintro ⟨k, x, hk, hv, hx, ho, hR⟩ hcn
    subst ho
    have hL := reach_lead hp h.dj hx hR
    have hx3 : tyN (ndsL p) x ≠ 94 := by
      rw [ty_of x hx]
      have : (itA p (ow p x)).f0 ≠ 3 := fun e => by rw [e] at hv; exact absurd hv (by decide)
      rw [if_neg this]
      split <;> decide
    have hpg : ∀ i, i ∈ pops ↔ i ∈ gl := fun i => by
      have := hPu.pm
      rw [List.append_nil] at this
      exact this.mem_iff
    obtain ⟨a, c, b, hab, ⟨hcg, hxc, hcx⟩, hfirst⟩ := first_of (A := fun c => c ∈ gl ∧ Lead (fun i k => k ∈ DJ i) x c ∧ Lead (fun i k => k ∈ DJ i) c x) pops ⟨x, (hpg x).2 ((hgl x).2 ⟨hx, hx3⟩), (hgl x).2 ⟨hx, hx3⟩, hL, hL⟩
    have hcn' := (hgl c).1 hcg
    have hR0 : ∀ y, (y < (ndsL p).length ∧ tyN (ndsL p) y = 94) ∨ ¬ (y < (ndsL p).length ∧ tyN (ndsL p) y = 94) := fun y => Classical.em _
    have hcR : ¬ (c < (ndsL p).length ∧ tyN (ndsL p) c = 94) := fun h => hcn'.2 h.2
    obtain ⟨d, hd1, hd2, hd3⟩ := Lead.first hR0 (Lead.trans hcx hxc) hcR
    have hdl : Lead (fun i k => k ∈ DJ i) c d := hd1.lead
    have hdt : d < totN p := reach_lt hp (ow_spec p c hcn'.1).1 (lead_reach hp h.dj hcn'.1 hdl)
    have hdg : d ∈ gl := (hgl d).2 ⟨hdt, fun e => hd2 ⟨by rw [hlen]; exact hdt, e⟩⟩
    have hdS : d ∈ SL c := hGI.cmp c d (by rw [hlen]; exact hcn'.1) (by rw [hlen]; exact hdt) hcR hd2 hd1
    have hda : d ∉ a := fun hm => hfirst d hm ⟨hdg, Lead.trans hxc hdl, by
      rcases hd3 with e | e
      · rw [e]; exact hcx
      · exact Lead.trans e hcx⟩
    obtain ⟨T, hT1, hT2⟩ := hPu.rep a c b hab ⟨d, hdS, hda⟩ hcn
    have hin : ∀ m, Via (fun i k => k ∈ DJ i) (fun _ => True) c m → m ≠ c ∧ m ∈ T := fun m hm => by
      induction hm with
      | base h1 => exact hT2 c hT1 _ h1
      | step _ _ h2 ih => exact hT2 _ ih.2 _ h2
    exact (hin c (Lead.trans hcx hxc)).1 rfl
end
end Go.Proofs.YtgaadjgfjiljjaaGreat

/- FnCycles (4): whatever the declarations, the answer is true. No condition but that the argument lies as a list of declarations. -/
namespace Go.Proofs.YtgaadjgfjiljjaaGreat
open Go.RowKit Go.Proofs.YtgaadjgfjiljjaaGreatW.PrintWords Go.Proofs.YtgaadjgfjiljjaaGreatW.PrintLast Go.Proofs.YtgaadjgfjiljjaaGreatW.PrintMore
set_option linter.unusedVariables false
set_option linter.unusedSimpArgs false

theorem intc2 {w : World} {b : Nat} {ok : Nat → Prop} {A : Option Addr} {L c : Nat} {D : List Int} (hR : (Kd.int .i64).R 3 w b ok (.slice A L c) D) :
    L = D.length ∧ ∀ i, i < D.length → ∃ g, A = some ⟨g, 0, none⟩ ∧ w.cell? ⟨g, i, none⟩ = some (.int .i64 (D.getD i 0)) := by
  have h3 := Kd.R_reads' hR
  have hL := h3.1
  subst hL
  refine ⟨rfl, fun t ht => ?_⟩
  obtain ⟨g, cap, hv, _, _, _, _⟩ := Kd.R_form hR (by omega)
  injection hv with hA _ hc
  subst hA; subst hc
  obtain ⟨ad, he, hx⟩ := Kd.at_int h3.2.2 (t : Int) (by omega) (by omega)
  injection he with he
  subst he
  rw [Int.toNat_natCast] at hx
  refine ⟨g, rfl, ?_⟩
  rw [← add_plain]
  exact hx.trans (by unfold rd; rw [Int.toNat_natCast])
theorem rows2 {w : World} {b : Nat} {ok : Nat → Prop} {A : Option Addr} {L c : Nat} {D : List (List Nat)} (hR : (Kd.slice 3 (Kd.int .i64)).R 28 w b ok (.slice A L c) (nat2 D)) :
    L = D.length ∧ ∀ i, i < D.length → ∃ g A' c', A = some ⟨g, 0, none⟩ ∧ w.cell? ⟨g, i, none⟩ = some (.slice A' (D.getD i []).length c') ∧
      ∀ j, j < (D.getD i []).length → ∃ g', A' = some ⟨g', 0, none⟩ ∧ w.cell? ⟨g', j, none⟩ = some (.int .i64 (((D.getD i []).getD j 0 : Nat) : Int)) := by
  have hnl : (nat2 D).length = D.length := List.length_map ..
  have hL := (Kd.R_reads' hR).1
  rw [hnl] at hL
  subst hL
  refine ⟨rfl, fun t ht => ?_⟩
  obtain ⟨g, cap, hv, hg, hlt, cel, hcel⟩ := Kd.R_form hR (by rw [hnl]; omega)
  injection hv with hA _ hc
  subst hA; subst hc
  obtain ⟨c, hcl, hM, hcc, hfr⟩ := Kd.R_elem hR [] (t : Int) (by omega) (by omega)
  obtain ⟨v, rfl, hRv⟩ := hM
  have hx : (nat2 D).getD t [] = (D.getD t []).map Int.ofNat := by
    unfold nat2
    rw [List.getD_eq_getElem?_getD, List.getElem?_map, List.getElem?_eq_getElem ht, List.getD_eq_getElem?_getD, List.getElem?_eq_getElem ht]; rfl
  rw [Int.toNat_natCast, hx] at hRv
  obtain ⟨A', c', hv', _, _⟩ := Kd.R_reads hRv
  rw [List.length_map] at hv'
  subst hv'
  have h1 := hcc 0 _ rfl
  rw [Int.toNat_natCast, show t * (Kd.slice 3 (Kd.int .i64)).sz + 0 = t from by show t * 1 + 0 = t; omega] at h1
  refine ⟨g, A', c', rfl, h1, fun j hj => ?_⟩
  obtain ⟨g', h2, h3⟩ := (intc2 hRv).2 j (by rw [List.length_map]; exact hj)
  refine ⟨g', h2, h3.trans (congrArg (fun z => some (Value.int .i64 z)) ?_)⟩
  generalize D.getD t [] = y at hj
  rw [List.getD_eq_getElem?_getD, List.getElem?_map, List.getElem?_eq_getElem hj, List.getD_eq_getElem?_getD, List.getElem?_eq_getElem hj]; rfl

theorem below_drewN {B : Nat} {w w' : World} (h : Below B w w') (n : Nat) : Below B w (w'.drewN n) := ⟨h.os, h.tape, h.output, h.size, h.block⟩
theorem isvK_of2 {x : Int} (h0 : 0 ≤ x) (h5 : x < 5) : isvK x = true ↔ (x ≠ 3 ∧ x ≠ 4) := by
  rcases (show x = 0 ∨ x = 1 ∨ x = 2 ∨ x = 3 ∨ x = 4 by omega) with h | h | h | h | h <;> subst h <;> decide

/-- Objects: the first number, how many. -/
theorem objs_first {p : List It} (hp : PkgOk p) {A0 : Option Addr} {c0 k : Nat} {w : World} (hC : Kd.C kIt w A0 p.length p) (hc : p.length ≤ c0) (hk : k < p.length) :
    Calls Tryz.prog 9 #[.slice A0 p.length c0, .int .i64 (k : Int)] w fun e w' => ∃ g c : Nat, e = .returned (.slice (some ⟨g, 0, none⟩) (objN (itA p k)) c) ∧ w'.cell? ⟨g, 0, none⟩ = some (.int .i64 (startN p k : Int)) ∧ Below w.heap.size w w' := by
  obtain ⟨ko, ho⟩ := Objects_f p hp.len hp.items k hk
  refine (spec_Package_Objects.calls ko A0 c0 p (k : Int) (objsL p k) w hC hc ho).mono ?_
  rintro e w' ⟨v, rfl, hR, hB⟩
  obtain ⟨A, c, rfl, _, _⟩ := Kd.R_reads hR
  have hpos := (hp.items _ (itA_mem hk)).objN_pos
  have hol : (objsL p k).length = objN (itA p k) := objsL_length p k
  obtain ⟨g, rfl, hc⟩ := (intc2 hR).2 0 (by omega)
  refine ⟨g, c, by rw [hol], ?_, hB⟩
  rw [hc]
  unfold objsL
  rw [List.getD_eq_getElem?_getD, List.getElem?_map, List.getElem?_range (show 0 < objN (itA p k) by omega)]; rfl
/-- What is told of a cycle: each is referred to by the next one; its first one is a variable. -/
def CycOk (p : List It) (c : List Nat) : Prop := c ≠ [] ∧ c.length ≤ 4096 ∧ (∀ k ∈ c, k < totN p) ∧ (∀ i, i < c.length → ((c.getD i 0 : Nat) : Int) ∈ refsN p (ow p (c.getD ((i + 1) % c.length) 0))) ∧ isvK (itA p (ow p (c.getD 0 0))).f0 = true
theorem cyc_ok {p : List It} (hf : FitP p) {outs cys : List (List Nat)} {DJ : Nat → List Nat} {pops : List Nat} {SL : Nat → List Nat} {gl : List Nat} (h : IOk (ndsL p) outs cys DJ pops SL gl) : ∀ c ∈ cys, CycOk p c := fun c hc => by
  have hp := hf.ok
  have hlen := ndsL_length p
  obtain ⟨di, E, hPu⟩ := h.pu
  obtain ⟨x, hx, h0, hcn, hcl, hpo⟩ := hPu.cyc c hc
  have hL := path_lead h0 hpo
  obtain ⟨hh, hcc, hlast⟩ := hpo
  have hxn := (h.gl_.1 x).1 hx
  rw [hlen] at hxn hcn hcl
  have hpos := List.length_pos_iff.2 h0
  have hc0 : c.getD 0 0 = x := by
    cases c with
    | nil => exact absurd rfl h0
    | cons a t => simp at hh; subst hh; rfl
  have hmem : ∀ i, i < c.length → c.getD i 0 < totN p := fun i hi => by
    rw [List.getD_eq_getElem?_getD, List.getElem?_eq_getElem hi]; exact hcn _ (List.getElem_mem hi)
  refine ⟨h0, by have := hp.tot; omega, hcn, fun i hi => ?_, ?_⟩
  · by_cases e : i + 1 < c.length
    · rw [Nat.mod_eq_of_lt e]
      exact (dj_refs hp h.dj _ (hmem _ e) _).1 (hcc i e)
    · have e' : i + 1 = c.length := by omega
      rw [e', Nat.mod_self, hc0]
      refine (dj_refs hp h.dj x hxn.1 _).1 (hlast _ ?_)
      rw [List.getLast?_eq_getElem?, List.getD_eq_getElem?_getD, show c.length - 1 = i by omega, List.getElem?_eq_getElem hi]; rfl
  · rw [hc0]
    have hx4 := no_const hf h.dj hxn.1 hL
    have hxi := hp.items _ (itA_mem (ow_spec p x hxn.1).1)
    have hx3 : (itA p (ow p x)).f0 ≠ 3 := fun e => hxn.2 (by rw [ty_of x hxn.1, if_pos e])
    exact (isvK_of2 hxi.k0 hxi.k5).2 ⟨hx3, hx4⟩

/-! ### Region 19's walk: each operation in the order of ord19 -/
section Rg
open Go.Proofs.YtgaadjgfjiljjaaGreatW.PrintLast
variable {P : Program} {ops : Array Oper} {Q : Exit → Act → World → Prop} {S : World → Prop} {i k m : Nat} {oi : Oper} {v : Value} {fuel : Nat} {a a' : Act} {w : World}
def ord19 : List Nat := [0, 1, 2, 3, 4, 5, 6, 7, 8, 9, 10, 11, 12, 13, 14, 15, 16, 17, 18, 22, 19, 20, 21, 23, 24, 25, 26, 27, 28, 32, 33, 29, 30, 31, 34, 35, 36, 37, 38, 39, 40]
def pf (k : Nat) : Array Bool := ((List.range 41).map fun j => (ord19.take k).contains j).toArray
theorem pu19 (hk : ord19[k]? = some i) (hi : ops[i]? = some oi) (hN : oi.dst = some m) (hc : anyB .any ops (pf k) (pf (k + 1)) i = true) (hQ : ∀ c a w, Q (.panic c) (a.put oi.dst v) w → Q (.panic c) a w) (hy : Yields P ops oi v a)
    (ha : a.put (some m) v = a') (h : wpAnyLast P .any ops Q S [] fuel (pf (k + 1)) a' w) : wpAnyLast P .any ops Q S [] (fuel + 1) (pf k) a w := pure_ _ hi hN hc hQ hy ha h
theorem tk19 (hk : ord19[k]? = some i) (hi : ops[i]? = some oi) (hN : oi.dst = some m) (hc : takeB .any ops [] (pf k) (pf (k + 1)) i = true) (hQ : ∀ c a w, Q (.panic c) (a.put oi.dst v) w → Q (.panic c) a w) (hy : YieldsIf P ops S oi v a) (hS : S w)
    (ha : a.put (some m) v = a') (h : wpAnyLast P .any ops Q S [] fuel (pf (k + 1)) a' w) : wpAnyLast P .any ops Q S [] (fuel + 1) (pf k) a w := take_ _ hi hN hc hQ hy hS ha h
theorem on19 (hk : ord19[k]? = some i) (hi : ops[i]? = some oi) (hN : oi.dst = some m) (hc : readyB .any ops (pf k) (pf (k + 1)) i = true)
    (h : ∀ K : Act → World → Prop, Shut (∀ a' w', S w' → (S w' → wpAnyLast P .any ops Q S [] fuel (pf (k + 1)) a' w') → K a' w') → if Region.wanted oi (yielded ops a.tmps) = true then Oper.wp P oi a w K Q else K (a.put (some m) undef) w) :
    wpAnyLast P .any ops Q S [] (fuel + 1) (pf k) a w := one_ _ hi hN hc (by simp) h
/-- From here on more is held. -/
theorem more_ {md : Region.Mode} {S' : World → Prop} (hi : ∀ w, S' w → S w) : ∀ (n : Nat) (l : Array Bool) (a : Act) (w : World), S' w → wpAnyLast P md ops Q S' [] n l a w → wpAnyLast P md ops Q S [] n l a w
  | 0, _, _, _, _, h => h
  | n + 1, l, _, _, hs, h => ⟨h.1, fun i hir => wpOp_mono (fun a' w' h' => ⟨fun _ _ => hi _ (h'.1 (by simp) hs), more_ hi n (l.setIfInBounds i true) a' w' (h'.1 (by simp) hs) h'.2⟩) (h.2 i hir)⟩
end Rg

/-- Is n one of the variables of the first k declarations. -/
def VK (p : List It) (k n : Nat) : Prop := ∃ m, m < k ∧ isvK (itA p m).f0 = true ∧ startN p m ≤ n ∧ n < startN p m + objN (itA p m)
theorem VK_succ {p : List It} {k n : Nat} : VK p (k + 1) n ↔ VK p k n ∨ (isvK (itA p k).f0 = true ∧ startN p k ≤ n ∧ n < startN p k + objN (itA p k)) := by
  constructor
  · rintro ⟨m, h1, h2⟩
    by_cases e : m = k
    · subst e; exact .inr h2
    · exact .inl ⟨m, by omega, h2⟩
  · rintro (⟨m, h1, h2⟩ | h)
    · exact ⟨m, by omega, h2⟩
    · exact ⟨k, by omega, h⟩
theorem VK_at {p : List It} {n : Nat} (hn : n < totN p) (h : isvK (itA p (ow p n)).f0 = true) : VK p p.length n := by
  obtain ⟨h1, h2, h3, _⟩ := ow_spec p n hn
  exact ⟨ow p n, h1, h, h2, h3⟩

set_option maxHeartbeats 4000000 in
set_option maxRecDepth 100000 in
theorem fnCycles_any (l : List It) (P0 : Nat → Prop) (A0 : Option Addr) (c0 : Nat) (w : World) (hv : Kd.V kIt 46 w w.heap.size P0 (.slice A0 l.length c0) l) :
    Calls Tryz.prog 4 #[.slice A0 l.length c0] w fun e w' => e = .returned (.bool true) ∧ Below w.heap.size w w' := by
  obtain ⟨kz, rz, hz, hz2⟩ := fits_f l
  have hu31 := Tryz.underlying31
  have HV := Aside0.mk hv
  have HC := Aside0.mk (Kd.V_reads' hv).2.2
  have HL := Aside0.mk (Kd.V_reads' hv).2.1
  have HZ := Aside0.mk hz
  have HZ2 := Aside0.mk hz2
  clear hv hz hz2
  go_enter Tryz.func4, Tryz.ntmps4
  go_wp2_with fail
  refine (laws_zzFits1.calls kz A0 c0 l rz w HC.out HL.out HZ.out).mono ?_
  rintro e w1 ⟨rfl, hb1⟩
  have HB1 := Aside0.mk (show Below w.heap.size w w1 by first | exact hb1 | exact hb1.below)
  clear hb1
  cases rz with
  | false =>
    go_wp2_with fail
    go_ret
    exact ⟨rfl, HB1.out⟩
  | true =>
    obtain ⟨hl, hsh⟩ := HZ2.out rfl
    obtain ⟨kr, hr⟩ := read_f l hl
    have HR := Aside0.mk hr
    have HSH := Aside0.mk hsh
    clear hr hsh hl
    go_wp2_with fail
    refine (laws_read.calls kr P0 A0 c0 l l w1 (Kd.V_below HV.out HB1.out) HR.out).mono ?_
    rintro e w2 ⟨v2, rfl, hN, hB⟩
    obtain ⟨A2, c2, hv2, hl2, hC2⟩ := Kd.N_reads hN
    subst hv2
    have HC2 := Aside0.mk hC2
    have HL2 := Aside0.mk hl2
    have HB2 := Aside0.mk (below_step HB1.out hB)
    clear hN hB hl2 hC2
    go_wp2_with fail
    refine (fit_of l A2 c2 w2 HC2.out HL2.out HSH.out).mono ?_
    rintro e w3 ⟨b, rfl, hfit, hB⟩
    have HFIT := Aside0.mk hfit
    have HB3 := Aside0.mk (below_step HB2.out hB)
    have HC3 := Aside0.mk (Kd.C_below HC2.out hB)
    clear hfit hB
    cases b with
    | false =>
      go_wp2_with fail
      go_ret
      exact ⟨rfl, HB3.out⟩
    | true =>
      have HF := Aside0.mk (HFIT.out rfl)
      have HP := Aside0.mk (HFIT.out rfl).ok
      go_wp2_with fail
      refine (Order_of HP.out A0 c0 w3 (Kd.C_below HC.out HB3.out) HL.out).mono ?_
      rintro e w5 ⟨v1, v2, outs, cys, DJ, pops, SL, gl, rfl, hR1, hR2, hB5, hI5⟩
      obtain ⟨Aa, ca, hva, _, _⟩ := Kd.R_reads hR1
      obtain ⟨Ab, cb, hvb, _, _⟩ := Kd.R_reads hR2
      have hcl : (nat2 cys).length = cys.length := List.length_map ..
      rw [hcl] at hvb
      subst hva hvb
      have HROW := Aside0.mk (rows2 hR2).2
      have HCYC := Aside0.mk (cyc_ok HF.out hI5)
      have HITER := Aside0.mk (cycle_iff HF.out hI5)
      have HCYL := Aside0.mk (show cys.length ≤ 4096 by
        obtain ⟨di, E, hPu⟩ := hI5.pu
        have h1 := hPu.pm.length_eq
        have h2 := nodup_lt_length _ _ hI5.gl_.2 (fun i hi => ((hI5.gl_.1 i).1 hi).1)
        have h3 := HP.out.tot
        have h4 := hPu.ol
        rw [ndsL_length] at h2
        simp at h1; omega)
      have HB5 := Aside0.mk (below_step HB3.out hB5)
      have HC5 := Aside0.mk (Kd.C_below HC3.out hB5)
      clear hR1 hR2 hB5 hI5 hcl
      go_wp2_with fail
      go_loopg [29] cys.length (fun kq v29 w' => ∃ (i : Nat), v29 = .int .i64 (i : Int) ∧ Aside0 (kq + i = cys.length) ∧ Aside0 (Below w5.heap.size w5 w'))
      case atStart => exact ⟨0, rfl, ⟨by omega⟩, ⟨Below.refl _ _⟩⟩
      case round =>
        obtain ⟨i, rfl, HK, HB⟩ := hrel
        by_cases ci : (i : Int) < (cys.length : Int)
        · have hci := decide_eq_true ci
          have hir : i < cys.length := by omega
          have hcin : decide (i < cys.length) = true := decide_eq_true hir
          have hi0 : (0 : Int) ≤ (i : Int) := by omega
          obtain ⟨g, A', c', hA, hcg, hcj⟩ := HROW.out i hir
          subst hA
          obtain ⟨c, hc⟩ : ∃ c, c = cys.getD i [] := ⟨_, rfl⟩
          rw [← hc] at hcg hcj
          have hcm : c ∈ cys := by rw [hc, List.getD_eq_getElem?_getD, List.getElem?_eq_getElem hir]; exact List.getElem_mem hir
          have HCO := Aside0.mk (HCYC.out c hcm)
          have hcg' : wr.cell? ⟨g, i, none⟩ = some (.slice A' c.length c') := (HB.out.cell (World.block_lt_of_cell? _ _ hcg)).trans hcg
          have HCJ := Aside0.mk hcj
          have HIR := Aside0.mk hir
          clear hcg hcj hcm hc ci
          go_wp2_with fail
          clear hcg'
          obtain ⟨n1, rfl⟩ : ∃ n1, n1 = gk := ⟨_, rfl⟩
          obtain ⟨wq, rfl⟩ : ∃ wq, wq = wr := ⟨_, rfl⟩
          go_loopg [8, 35] c.length (fun kq v8 v35 w' => ∃ (j : Nat) (b : Bool), v8 = .bool b ∧ v35 = .int .i64 (j : Int) ∧ Aside0 (kq + j = c.length) ∧ Aside0 (Below w5.heap.size w5 w') ∧ Aside0 (0 < j → b = true))
          case atStart => exact ⟨0, false, rfl, rfl, ⟨by omega⟩, HB, ⟨fun h => absurd h (by omega)⟩⟩
          case round =>
            obtain ⟨j, b, rfl, rfl, HKJ, HBJ, HW⟩ := hrel
            by_cases cj : (j : Int) < (c.length : Int)
            · have hcj := decide_eq_true cj
              have hjr : j < c.length := by omega
              have hcjn : decide (j < c.length) = true := decide_eq_true hjr
              have hj0 : (0 : Int) ≤ (j : Int) := by omega
              obtain ⟨g', hA', hcell⟩ := HCJ.out j hjr
              subst hA'
              have hpos : 0 < c.length := by omega
              have hco := HCO.out
              have hcl4 := hco.2.1
              have hw : wrap64 ((j : Int) + 1) = (j : Int) + 1 := by unfold wrap64; omega
              have hcz : ((c.length : Int) == 0) = false := beq_false_of_ne (by omega)
              have hcz2 : (c.length : Int) ≠ 0 := by omega
              obtain ⟨m, hml, HREM, href⟩ : ∃ m : Nat, m < c.length ∧ Aside0 (m = (j + 1) % c.length) ∧ ((c.getD j 0 : Nat) : Int) ∈ refsN l (ow l (c.getD m 0)) := ⟨(j + 1) % c.length, Nat.mod_lt _ hpos, ⟨rfl⟩, hco.2.2.2.1 j hjr⟩
              obtain ⟨g2, hg2, hcell2⟩ := HCJ.out m hml
              injection hg2 with hg2
              injection hg2 with hg2 _ _
              subst hg2
              obtain ⟨kf, r, hf, hr⟩ := refers_f HP.out (c.getD m 0) (hco.2.2.1 _ (getD_mem hml)) ((c.getD j 0 : Nat) : Int)
              have hrt : r = true := hr.2 href
              subst hrt
              have HFR := Aside0.mk hf
              have hce : wr.cell? ⟨g', j, none⟩ = some (.int .i64 ((c.getD j 0 : Nat) : Int)) := (HBJ.out.cell (World.block_lt_of_cell? _ _ hcell)).trans hcell
              have hce2 : wr.cell? ⟨g', m, none⟩ = some (.int .i64 ((c.getD m 0 : Nat) : Int)) := (HBJ.out.cell (World.block_lt_of_cell? _ _ hcell2)).trans hcell2
              have hwm : wrap64 (m : Int) = (m : Int) := by unfold wrap64; omega
              have hm1 : (m : Int) < (c.length : Int) := Int.ofNat_lt.2 hml
              have hm0 : (0 : Int) ≤ (m : Int) := Int.natCast_nonneg m
              obtain ⟨na, hna⟩ : ∃ na, na = c.getD j 0 := ⟨_, rfl⟩
              obtain ⟨nb, hnb⟩ : ∃ nb, nb = c.getD m 0 := ⟨_, rfl⟩
              rw [← hna] at hce HFR
              rw [← hnb] at hce2 HFR
              have HNA := Aside0.mk hna
              have HJR := Aside0.mk hjr
              rw [HREM.out] at hce2 hm1 hm0
              have he := (Int.natCast_emod (j + 1) c.length).symm
              have he1 : ((j : Int) + 1) % (c.length : Int) < (c.length : Int) := by have h := hm1; rw [Int.natCast_emod] at h; exact h
              have he0 : (0 : Int) ≤ ((j : Int) + 1) % (c.length : Int) := by have h := hm0; rw [Int.natCast_emod] at h; exact h
              clear hcell hcell2 hf hr hco hna hnb cj href hm1 hm0 hwm hml HREM he hcz hcz2
              go_wp2_with fail
              refine (laws_refers.calls kf A2 c2 l (nb : Int) (na : Int) true wr (Kd.C_below HC5.out HBJ.out) HL2.out HFR.out).mono ?_
              rintro e w6 ⟨rfl, hB6⟩
              have HB6 := Aside0.mk (below_step HBJ.out hB6)
              clear hB6 he1 he0 hce hce2 HBJ
              go_wp2_with fail
              obtain ⟨n2, rfl⟩ : ∃ n2, n2 = gk := ⟨_, rfl⟩
              obtain ⟨wp, rfl⟩ : ∃ wp, wp = wr := ⟨_, rfl⟩
              go_loopg [8, 54] l.length (fun kq v8 v54 w' => ∃ (k : Nat) (b' : Bool), v8 = .bool b' ∧ v54 = .int .i64 (k : Int) ∧ Aside0 (kq + k = l.length) ∧ Aside0 (Below w5.heap.size w5 w') ∧ Aside0 (b' = true ↔ b = true ∨ VK l k na))
              case atStart => exact ⟨0, b, rfl, rfl, ⟨by omega⟩, HB6, ⟨⟨fun h => .inl h, fun h => by rcases h with h | ⟨m, h, _⟩; exact h; omega⟩⟩⟩
              case round =>
                clear HB6
                obtain ⟨k, b', rfl, rfl, HKK, HBK, HWK⟩ := hrel
                by_cases ck : (k : Int) < (l.length : Int)
                · have hck := decide_eq_true ck
                  have hkr : k < l.length := by omega
                  have hckn : decide (k < l.length) = true := decide_eq_true hkr
                  have hk0 : (0 : Int) ≤ (k : Int) := by omega
                  obtain ⟨ad, Ax, cx, e, hy0, _, _, _, _⟩ := at_It HC5.out (k : Int) hk0 ck
                  subst e
                  replace hy0 := (HBK.out.cell (World.block_lt_of_cell? _ _ hy0)).trans hy0
                  rw [Int.toNat_natCast, rd_It_nat] at hy0
                  have hit := HP.out.items _ (itA_mem hkr)
                  have HIS := Aside0.mk (isvK_of2 hit.k0 hit.k5)
                  have HKR := Aside0.mk hkr
                  clear hit ck
                  cases b' with
                  | true =>
                    go_wp2_with fail
                    go_quiet (fail)
                    go_wp2_with fail
                    go_roundg (gk - 1)
                    case measure => have := HKK.out; have := HKR.out; omega
                    case rel => exact ⟨k + 1, true, rfl, congrArg (Value.int .i64) (by have := HP.out.len; have := HKR.out; first | omega | (unfold wrap64; omega)), ⟨by have := HKK.out; have := HKR.out; omega⟩, ⟨below_drewN HBK.out nq⟩, ⟨⟨fun _ => by rcases HWK.out.1 (by first | exact rfl | exact trivial) with h | h; exact .inl h; exact .inr (VK_succ.2 (.inl h)), fun _ => rfl⟩⟩⟩
                  | false =>
                    by_cases c3 : (itA l k).f0 = 3
                    · rw [c3] at hy0
                      have C3 := Aside0.mk c3
                      clear c3
                      go_wp2_with fail
                      go_quiet (fail)
                      go_wp2_with fail
                      go_roundg (gk - 1)
                      case measure => have := HKK.out; have := HKR.out; omega
                      case rel => exact ⟨k + 1, false, rfl, congrArg (Value.int .i64) (by have := HP.out.len; have := HKR.out; first | omega | (unfold wrap64; omega)), ⟨by have := HKK.out; have := HKR.out; omega⟩, ⟨below_drewN HBK.out nq⟩, ⟨⟨fun h => (by cases h), fun h => HWK.out.2 (by rcases h with h | h; exact .inl h; rcases VK_succ.1 h with h | h; exact .inr h; exact absurd C3.out (HIS.out.1 h.1).1)⟩⟩⟩
                    · by_cases c4 : (itA l k).f0 = 4
                      · rw [c4] at hy0
                        have C4 := Aside0.mk c4
                        clear c3 c4
                        go_wp2_with fail
                        go_quiet (fail)
                        go_wp2_with fail
                        go_roundg (gk - 1)
                        case measure => have := HKK.out; have := HKR.out; omega
                        case rel => exact ⟨k + 1, false, rfl, congrArg (Value.int .i64) (by have := HP.out.len; have := HKR.out; first | omega | (unfold wrap64; omega)), ⟨by have := HKK.out; have := HKR.out; omega⟩, ⟨below_drewN HBK.out nq⟩, ⟨⟨fun h => (by cases h), fun h => HWK.out.2 (by rcases h with h | h; exact .inl h; rcases VK_succ.1 h with h | h; exact .inr h; exact absurd C4.out (HIS.out.1 h.1).2)⟩⟩⟩
                      · have HISV := Aside0.mk (HIS.out.2 ⟨c3, c4⟩)
                        have hb3 := (bnes c3).2
                        have hb4 := (bnes c4).2
                        have hb3' := (bnes c3).1
                        have hb4' := (bnes c4).1
                        obtain ⟨ko, ho⟩ := Objects_f l HP.out.len HP.out.items k hkr
                        have HO := Aside0.mk ho
                        clear c3 c4 ho
                        have hon := (HP.out.items _ (itA_mem hkr)).objN_pos
                        have hon2 := (HP.out.items _ (itA_mem hkr)).objN_le
                        have hol : (objsL l k).length = objN (itA l k) := objsL_length l k
                        have hs4 : startN l k ≤ 4096 := by
                          have h1 := startN_mono l (j := k) (k := l.length) (by omega) (Nat.le_refl _)
                          have h2 := HP.out.tot
                          unfold totN at h2; omega
                        obtain ⟨st, hst⟩ : ∃ st, st = startN l k := ⟨_, rfl⟩
                        obtain ⟨on, hon3⟩ : ∃ on, on = objN (itA l k) := ⟨_, rfl⟩
                        have HG0 := Aside0.mk (show (objsL l k).getD 0 0 = (st : Int) by
                          unfold objsL
                          rw [List.getD_eq_getElem?_getD, List.getElem?_map, List.getElem?_range (show 0 < objN (itA l k) by omega), hst]; rfl)
                        have HOL := Aside0.mk hol
                        rw [← hst] at hs4
                        rw [← hon3] at hon hon2 hol
                        have HST := Aside0.mk (And.intro hst hon3)
                        have HON := Aside0.mk hon
                        have hwi : IntKind.i64.wrap ((st : Int) + (on : Int)) = (st : Int) + (on : Int) := by rw [IntKind.wrap_i64]; omega
                        have hwj : wrap64 ((st : Int) + (on : Int)) = (st : Int) + (on : Int) := by unfold wrap64; omega
                        have hz0 : (0 : Int) < (on : Int) := by omega
                        clear hol hst hon3 hs4 hon2
                        go_upto_region 19 with fail
                        · have HBo := Aside0.mk (show Below w5.heap.size w5 wr.drew from below_drew HBK.out)
                          have hpo : 0 < on := HON.out
                          have HOF := Aside0.mk (show ∀ w', Below w5.heap.size w5 w' → Calls Tryz.prog 9 #[.slice (some ad) l.length c2, .int .i64 (k : Int)] w' (fun e w'' => ∃ g c : Nat, e = .returned (.slice (some ⟨g, 0, none⟩) on c) ∧ w''.cell? ⟨g, 0, none⟩ = some (.int .i64 (st : Int)) ∧ Below w'.heap.size w' w'') from fun w' hB => by rw [HST.out.1, HST.out.2]; exact objs_first HP.out (Kd.C_below HC5.out hB) HL2.out HKR.out)
                          have hy0d : wr.drew.cell? (ad.add (k * 3)) = some (.int .i64 (itA l k).f0) := hy0
                          refine start_ (n := 41) (S := fun w' => w'.cell? (ad.add (k * 3)) = some (.int .i64 (itA l k).f0)) (ds := []) (pf 0) (by kernel_rfl) rfl (by kernel_rfl) hy0d (fun hHeld => ?_)
                          iterate 6 (refine pu19 (by rfl) (by rfl) (by rfl) (by kernel_rfl) (by intro _ _ _ h; exact h) (Or.inl ⟨by rfl, by intro w'; go_simp; with_reducible rfl⟩) (by simp only [Act.put, List.setIfInBounds_toArray, List.set_cons_zero, List.set_cons_succ, i64_w, i32_w]; rfl) ?_)
                          refine tk19 (by rfl) (by rfl) (by rfl) (by kernel_rfl) (by intro _ _ _ h; exact h) (Or.inl ⟨by rfl, by rintro w' s0; go_simp; with_reducible rfl⟩) hHeld (by simp only [Act.put, List.setIfInBounds_toArray, List.set_cons_zero, List.set_cons_succ, i64_w, i32_w]; rfl) ?_
                          iterate 6 (refine pu19 (by rfl) (by rfl) (by rfl) (by kernel_rfl) (by intro _ _ _ h; exact h) (Or.inl ⟨by rfl, by intro w'; go_simp; with_reducible rfl⟩) (by simp only [Act.put, List.setIfInBounds_toArray, List.set_cons_zero, List.set_cons_succ, i64_w, i32_w]; rfl) ?_)
                          refine tk19 (by rfl) (by rfl) (by rfl) (by kernel_rfl) (by intro _ _ _ h; exact h) (Or.inl ⟨by rfl, by rintro w' s0; go_simp; with_reducible rfl⟩) hHeld (by simp only [Act.put, List.setIfInBounds_toArray, List.set_cons_zero, List.set_cons_succ, i64_w, i32_w]; rfl) ?_
                          iterate 6 (refine pu19 (by rfl) (by rfl) (by rfl) (by kernel_rfl) (by intro _ _ _ h; exact h) (Or.inl ⟨by rfl, by intro w'; go_simp; with_reducible rfl⟩) (by simp only [Act.put, List.setIfInBounds_toArray, List.set_cons_zero, List.set_cons_succ, i64_w, i32_w]; rfl) ?_)
                          refine on19 (by rfl) (by rfl) (by rfl) (by kernel_rfl) (fun K hK => ?_)
                          refine goes_ Tryz.func9 (by kernel_rfl) rfl #[.slice (some ad) l.length c2, .int .i64 (k : Int)] (by rfl) rfl rfl (by simp only [List.map_toArray, List.map_cons, List.map_nil]; rfl) ?_
                          with_reducible refine (HOF.out _ HBo.out).mono ?_
                          rintro e w9 ⟨g9, c9, rfl, hc9, hB9⟩
                          refine ⟨_, rfl, ?_⟩
                          have HKD := Aside0.mk ((hB9.cell (World.block_lt_of_cell? _ _ hy0d)).trans hy0d)
                          have HBo9 := Aside0.mk (below_step HBo.out hB9)
                          clear hB9
                          refine hK.out _ _ HKD.out (fun hHeld => ?_)
                          clear hK K
                          refine norm_ (a' := ?_) ?_ ?_
                          rotate_left
                          · show Act.put _ (some 76) _ = _
                            simp only [Act.put, List.setIfInBounds_toArray, List.set_cons_zero, List.set_cons_succ, i64_w, i32_w]
                            rfl
                          refine more_ (S' := fun w' => (w'.cell? (ad.add (k * 3)) = some (.int .i64 (itA l k).f0)) ∧ w'.cell? ⟨g9, 0, none⟩ = some (.int .i64 (st : Int))) (fun _ h => h.1) _ _ _ _ ⟨hHeld, hc9⟩ ?_
                          replace hHeld := And.intro hHeld hc9
                          refine pu19 (by rfl) (by rfl) (by rfl) (by kernel_rfl) (by intro _ _ _ h; exact h) (Or.inl ⟨by rfl, by intro w'; go_simp; with_reducible rfl⟩) (by simp only [Act.put, List.setIfInBounds_toArray, List.set_cons_zero, List.set_cons_succ, i64_w, i32_w]; rfl) ?_
                          refine tk19 (by rfl) (by rfl) (by rfl) (by kernel_rfl) (by intro _ _ _ h; exact h) (Or.inl ⟨by rfl, by rintro w' ⟨s0, s1⟩; go_simp; with_reducible rfl⟩) hHeld (by simp only [Act.put, List.setIfInBounds_toArray, List.set_cons_zero, List.set_cons_succ, i64_w, i32_w]; rfl) ?_
                          clear hc9 hy0 hy0d
                          by_cases s1 : (st : Int) ≤ (na : Int)
                          · have d1 := decide_eq_true s1
                            have d1n : decide (st ≤ na) = true := decide_eq_true (by omega)
                            have S1 := Aside0.mk (show st ≤ na by omega)
                            clear s1
                            obtain ⟨d, hd⟩ : ∃ d : Bool, d = decide ((na : Int) < (st : Int) + (on : Int)) := ⟨_, rfl⟩
                            replace hd := hd.symm
                            have HD := Aside0.mk hd
                            iterate 3 (refine pu19 (by rfl) (by rfl) (by rfl) (by kernel_rfl) (by intro _ _ _ h; exact h) (Or.inl ⟨by rfl, by intro w'; go_simp; with_reducible rfl⟩) (by simp only [Act.put, List.setIfInBounds_toArray, List.set_cons_zero, List.set_cons_succ, i64_w, i32_w]; rfl) ?_)
                            iterate 5 (refine pu19 (by rfl) (by rfl) (by rfl) (by kernel_rfl) (by intro _ _ _ h; exact h) (Or.inl ⟨by rfl, by intro w'; go_simp; with_reducible rfl⟩) (by simp only [Act.put, List.setIfInBounds_toArray, List.set_cons_zero, List.set_cons_succ, i64_w, i32_w]; rfl) ?_)
                            refine on19 (by rfl) (by rfl) (by rfl) (by kernel_rfl) (fun K hK => ?_)
                            refine goes_ Tryz.func9 (by kernel_rfl) rfl #[.slice (some ad) l.length c2, .int .i64 (k : Int)] (by rfl) rfl rfl (by simp only [List.map_toArray, List.map_cons, List.map_nil]; rfl) ?_
                            with_reducible refine (HOF.out _ HBo9.out).mono ?_
                            rintro e wa ⟨ga, ca, rfl, hca, hBa⟩
                            refine ⟨_, rfl, ?_⟩
                            have HKD := Aside0.mk (And.intro ((hBa.cell (World.block_lt_of_cell? _ _ hHeld.1)).trans hHeld.1) ((hBa.cell (World.block_lt_of_cell? _ _ hHeld.2)).trans hHeld.2))
                            have HBoa := Aside0.mk (below_step HBo9.out hBa)
                            clear hBa
                            refine hK.out _ _ HKD.out (fun hHeld => ?_)
                            clear hK K
                            refine norm_ (a' := ?_) ?_ ?_
                            rotate_left
                            · show Act.put _ (some 86) _ = _
                              simp only [Act.put, List.setIfInBounds_toArray, List.set_cons_zero, List.set_cons_succ, i64_w, i32_w]
                              rfl
                            refine more_ (S' := fun w' => ((w'.cell? (ad.add (k * 3)) = some (.int .i64 (itA l k).f0)) ∧ w'.cell? ⟨g9, 0, none⟩ = some (.int .i64 (st : Int))) ∧ w'.cell? ⟨ga, 0, none⟩ = some (.int .i64 (st : Int))) (fun _ h => h.1) _ _ _ _ ⟨hHeld, hca⟩ ?_
                            replace hHeld := And.intro hHeld hca
                            refine pu19 (by rfl) (by rfl) (by rfl) (by kernel_rfl) (by intro _ _ _ h; exact h) (Or.inl ⟨by rfl, by intro w'; go_simp; with_reducible rfl⟩) (by simp only [Act.put, List.setIfInBounds_toArray, List.set_cons_zero, List.set_cons_succ, i64_w, i32_w]; rfl) ?_
                            refine tk19 (by rfl) (by rfl) (by rfl) (by kernel_rfl) (by intro _ _ _ h; exact h) (Or.inl ⟨by rfl, by rintro w' ⟨⟨s0, s1⟩, s2⟩; go_simp; with_reducible rfl⟩) hHeld (by simp only [Act.put, List.setIfInBounds_toArray, List.set_cons_zero, List.set_cons_succ, i64_w, i32_w]; rfl) ?_
                            clear hca
                            refine on19 (by rfl) (by rfl) (by rfl) (by kernel_rfl) (fun K hK => ?_)
                            refine goes_ Tryz.func9 (by kernel_rfl) rfl #[.slice (some ad) l.length c2, .int .i64 (k : Int)] (by rfl) rfl rfl (by simp only [List.map_toArray, List.map_cons, List.map_nil]; rfl) ?_
                            with_reducible refine (HOF.out _ HBoa.out).mono ?_
                            rintro e wb ⟨gb, cb, rfl, hcb, hBb⟩
                            refine ⟨_, rfl, ?_⟩
                            have HKD := Aside0.mk (And.intro (And.intro ((hBb.cell (World.block_lt_of_cell? _ _ hHeld.1.1)).trans hHeld.1.1) ((hBb.cell (World.block_lt_of_cell? _ _ hHeld.1.2)).trans hHeld.1.2)) ((hBb.cell (World.block_lt_of_cell? _ _ hHeld.2)).trans hHeld.2))
                            have HBob := Aside0.mk (below_step HBoa.out hBb)
                            clear hBb
                            refine hK.out _ _ HKD.out (fun hHeld => ?_)
                            clear hK K
                            refine norm_ (a' := ?_) ?_ ?_
                            rotate_left
                            · show Act.put _ (some 91) _ = _
                              simp only [Act.put, List.setIfInBounds_toArray, List.set_cons_zero, List.set_cons_succ, i64_w, i32_w]
                              rfl
                            clear hcb hHeld
                            iterate 6 (refine pu19 (by rfl) (by rfl) (by rfl) (by kernel_rfl) (by intro _ _ _ h; exact h) (Or.inl ⟨by rfl, by intro w'; go_simp; with_reducible rfl⟩) (by simp only [Act.put, List.setIfInBounds_toArray, List.set_cons_zero, List.set_cons_succ, i64_w, i32_w]; rfl) ?_)
                            refine done_ (by kernel_rfl) ?_
                            clear hd
                            go_wp2_with fail
                            go_roundg (gk - 1)
                            case measure => have := HKK.out; have := HKR.out; omega
                            case rel => exact ⟨k + 1, d, rfl, congrArg (Value.int .i64) (by have := HP.out.len; have := HKR.out; first | omega | (unfold wrap64; omega)), ⟨by have := HKK.out; have := HKR.out; omega⟩, HBob, ⟨by
                              have h1 := HST.out
                              rw [VK_succ, ← h1.1, ← h1.2]
                              constructor
                              · intro h
                                have := of_decide_eq_true (HD.out.trans h)
                                rw [← Int.natCast_add] at this
                                exact .inr (.inr ⟨HISV.out, S1.out, Int.ofNat_lt.1 this⟩)
                              · rintro (h | h | h)
                                · have := HWK.out.2 (.inl h); simp at this
                                · have := HWK.out.2 (.inr h); simp at this
                                · exact HD.out.symm.trans (decide_eq_true (by rw [← Int.natCast_add]; exact Int.ofNat_lt.2 h.2.2))⟩⟩
                          · have d1 := decide_eq_false s1
                            have d1n : decide (st ≤ na) = false := decide_eq_false (by omega)
                            have S1 := Aside0.mk (show ¬ st ≤ na by omega)
                            clear s1
                            iterate 3 (refine pu19 (by rfl) (by rfl) (by rfl) (by kernel_rfl) (by intro _ _ _ h; exact h) (Or.inl ⟨by rfl, by intro w'; go_simp; with_reducible rfl⟩) (by simp only [Act.put, List.setIfInBounds_toArray, List.set_cons_zero, List.set_cons_succ, i64_w, i32_w]; rfl) ?_)
                            iterate 12 (refine pu19 (by rfl) (by rfl) (by rfl) (by kernel_rfl) (by intro _ _ _ h; exact h) (Or.inr ⟨by rfl, by rfl⟩) (by simp only [Act.put, List.setIfInBounds_toArray, List.set_cons_zero, List.set_cons_succ, i64_w, i32_w]; rfl) ?_)
                            iterate 3 (refine pu19 (by rfl) (by rfl) (by rfl) (by kernel_rfl) (by intro _ _ _ h; exact h) (Or.inl ⟨by rfl, by intro w'; go_simp; with_reducible rfl⟩) (by simp only [Act.put, List.setIfInBounds_toArray, List.set_cons_zero, List.set_cons_succ, i64_w, i32_w]; rfl) ?_)
                            refine done_ (by kernel_rfl) ?_
                            clear hHeld
                            go_wp2_with fail
                            go_roundg (gk - 1)
                            case measure => have := HKK.out; have := HKR.out; omega
                            case rel => exact ⟨k + 1, false, rfl, congrArg (Value.int .i64) (by have := HP.out.len; have := HKR.out; first | omega | (unfold wrap64; omega)), ⟨by have := HKK.out; have := HKR.out; omega⟩, HBo9, ⟨by
                              have h1 := HST.out
                              rw [VK_succ, ← h1.1, ← h1.2]
                              refine ⟨fun h => (by cases h), fun h => ?_⟩
                              rcases h with h | h | h
                              · exact HWK.out.2 (.inl h)
                              · exact HWK.out.2 (.inr h)
                              · exact absurd h.2.1 S1.out⟩⟩
                · have hck := decide_eq_false ck
                  have hckn : decide (k < l.length) = false := decide_eq_false (by omega)
                  have hke : k = l.length := by have := HKK.out; omega
                  have HKE := Aside0.mk hke
                  clear ck hke
                  go_wp2_with fail
                  go_roundg (n2 - 1)
                  case measure => have := HKJ.out; have := HJR.out; omega
                  case rel => exact ⟨j + 1, b', rfl, congrArg (Value.int .i64) (by have := HCO.out.2.1; have := HJR.out; first | omega | (unfold wrap64; omega)), ⟨by have := HKJ.out; have := HJR.out; omega⟩, HBK, ⟨fun _ => HWK.out.2 (by
                    by_cases e : j = 0
                    · right
                      rw [HKE.out, HNA.out, e]
                      exact VK_at (HCO.out.2.2.1 _ (getD_mem (by have := HJR.out; omega))) HCO.out.2.2.2.2
                    · exact .inl (HW.out (by omega)))⟩⟩
            · have hcj := decide_eq_false cj
              have hcjn : decide (j < c.length) = false := decide_eq_false (by omega)
              have hbt : b = true := HW.out (by have := HKJ.out; have := List.length_pos_iff.2 HCO.out.1; omega)
              subst hbt
              clear cj
              go_wp2_with fail
              go_roundg (n1 - 1)
              case measure => have := HK.out; have := HIR.out; omega
              case rel => exact ⟨i + 1, congrArg (Value.int .i64) (by have := HCYL.out; have := HIR.out; first | omega | (unfold wrap64; omega)), ⟨by have := HK.out; have := HIR.out; omega⟩, HBJ⟩
        · have hci := decide_eq_false ci
          have hcin : decide (i < cys.length) = false := decide_eq_false (by omega)
          clear ci
          go_wp2_with fail
          refine (steps_of HP.out A2 c2 wr (Kd.C_below HC5.out HB.out) HL2.out).mono ?_
          rintro e w6 ⟨v6, b6, d6, rfl, hd1, hd2, hd3, hB6⟩
          have HB6 := Aside0.mk (below_step (below_step HB5.out HB.out) hB6)
          have hb6 : b6 = true ↔ cys ≠ [] := (hd3.trans (rest_iff HP.out hd1 hd2)).trans HITER.out.symm
          clear hd1 hd2 hd3 hB6
          cases b6 with
          | true =>
            have hpos : (0 : Int) < (cys.length : Int) := by have := List.length_pos_iff.2 (hb6.1 rfl); omega
            have hdp := decide_eq_true hpos
            have hdn : decide (0 < cys.length) = true := decide_eq_true (by omega)
            clear hb6
            go_wp2_with fail
            refine (works_of w6).mono ?_
            rintro e w8 ⟨rfl, hB8⟩
            have HB8 := Aside0.mk (below_step HB6.out hB8)
            clear hB8
            go_wp2_with fail
            go_ret
            exact ⟨rfl, HB8.out⟩
          | false =>
            have hz : cys.length = 0 := by
              cases hc : cys with
              | nil => rfl
              | cons a t => have := hb6.2 (by rw [hc]; simp); cases this
            have hpos : ¬ (0 : Int) < (cys.length : Int) := by omega
            have hdp := decide_eq_false hpos
            have hdn : decide (0 < cys.length) = false := decide_eq_false (by omega)
            clear hb6
            go_wp2_with fail
            refine (works_of w6).mono ?_
            rintro e w8 ⟨rfl, hB8⟩
            have HB8 := Aside0.mk (below_step HB6.out hB8)
            clear hB8
            go_wp2_with fail
            go_ret
            exact ⟨rfl, HB8.out⟩
end Go.Proofs.YtgaadjgfjiljjaaGreat

/- A list of declarations that came in, laid open. Conditions: that it reads. -/
namespace Go.Proofs.YtgaadjgfjiljjaaGreat
open Go.ChangeShapes Go.WideShapes Go.ChangeAt Go.RowKit Go.Deep Go.Proofs.YtgaadjgfjiljjaaGreatW.PrintWords
set_option linter.unusedVariables false
set_option linter.unusedSimpArgs false

instance : Inhabited It := ⟨zIt⟩

theorem same_cell {W W' : World} (h : ∀ k, k < W.heap.size → W'.heap[k]? = W.heap[k]?) {p : Addr} {v : Value} (hc : W.cell? p = some v) : W'.cell? p = some v :=
  (World.cell?_of_block (w := W) (h p.block (World.block_lt_of_cell? W _ hc))).trans hc

set_option maxRecDepth 100000 in
theorem open_it {H : Type} {enc : TypeId × Value → H} {W : World} {n : Nat} {cs : List Value} {x : DataW H × List MemPlace} (h : DataW.trod enc Tryz.prog W 0 (fun _ => true) true n 46 cs = some x) :
    ∃ it : It, cs.length = 3 ∧ ∀ W' : World, (∀ k, k < W.heap.size → W'.heap[k]? = W.heap[k]?) → kIt.K W' it cs := by
  obtain ⟨y0, y1, y2, m, _, hl, h0, h1, h2⟩ := trod_struct3 Tryz.underlying46 h
  have hsz : Tryz.prog.cellsOf 46 = 3 := by kernel_rfl
  have hs3 : Tryz.prog.cellsOf 3 = 1 := by kernel_rfl
  have hs28 : Tryz.prog.cellsOf 28 = 1 := by kernel_rfl
  rw [hsz] at hl
  match cs, hl with
  | [u0, u1, u2], _ =>
    have h0' : DataW.trod enc Tryz.prog W 0 (fun _ => true) true m 3 [u0] = some y0 := by simpa [hs3] using h0
    have h1' : DataW.trod enc Tryz.prog W 0 (fun _ => true) true m 3 [u1] = some y1 := by simpa [hs3] using h1
    have h2' : DataW.trod enc Tryz.prog W 0 (fun _ => true) true m 28 [u2] = some y2 := by simpa [hs28] using h2
    obtain ⟨a, e0, _, _⟩ := DataW.trod_int Tryz.underlying3 h0'
    obtain ⟨b, e1, _, _⟩ := DataW.trod_int Tryz.underlying3 h1'
    simp at e0 e1
    subst e0 e1
    rcases open_ints Tryz.underlying28 Tryz.underlying3 hs3 h2' with ⟨e2, _⟩ | ⟨ad, len, cap, zs, e2, _, hlc, hcm, hz, _, hcell, _⟩
    · simp at e2
      subst e2
      refine ⟨⟨a, b, []⟩, rfl, fun W' _ => ⟨[.int .i64 a], [.int .i64 b, .slice none 0 0], rfl, rfl, [.int .i64 b], [.slice none 0 0], rfl, rfl, ⟨none, 0, rfl, Nat.le_refl _, rfl, by simp, fun h => absurd h (by simp)⟩⟩⟩
    · simp at e2
      subst e2
      have hzl : zs.length = cap := by simpa using hz
      have hmx : maxLen = 9223372036854775807 := rfl
      refine ⟨⟨a, b, zs.take len⟩, rfl, fun W' hW' => ⟨[.int .i64 a], [.int .i64 b, .slice (some ad) len cap], rfl, rfl, [.int .i64 b], [.slice (some ad) len cap], rfl, rfl, ⟨some ad, cap, ?_, ?_, rfl, ?_, fun _ => ⟨ad, rfl, fun j p hj => ⟨[.int .i64 p], rfl, rfl, fun q u hq => ?_⟩⟩⟩⟩⟩
      · show [Value.slice (some ad) len cap] = [Value.slice (some ad) (zs.take len).length cap]
        rw [List.length_take, hzl, Nat.min_eq_left hlc]
      · show (zs.take len).length ≤ cap
        rw [List.length_take]; omega
      · show (zs.take len).length ≤ 9223372036854775807
        rw [List.length_take]; omega
      · rcases q with _ | q
        · simp at hq
          subst hq
          have hj' : (zs.take len)[j]? = some p := hj
          obtain ⟨hjl, hjp⟩ := List.getElem?_eq_some_iff.1 hj'
          rw [List.length_take] at hjl
          have hc := hcell j (by omega)
          rw [List.getElem_take] at hjp
          rw [List.getD_eq_getElem?_getD, List.getElem?_eq_getElem (show j < zs.length by omega), Option.getD_some, hjp] at hc
          have h9 := same_cell hW' hc
          rw [show j * (Kd.int .i64).sz + 0 = j from by show j * 1 + 0 = j; omega]
          exact h9
        · simp at hq

set_option maxRecDepth 100000 in
theorem open_items {H : Type} {enc : TypeId × Value → H} {W : World} {fuel : Nat} {A : Option Addr} {len cap : Nat} {x : DataW H × List MemPlace} (h : DataW.trod enc Tryz.prog W 0 (fun _ => true) true fuel 22 [.slice A len cap] = some x) :
    ∃ l : List It, l.length = len ∧ len ≤ cap ∧ ∀ W' : World, (∀ k, k < W.heap.size → W'.heap[k]? = W.heap[k]?) → Kd.C kIt W' A len l := by
  rcases open_slice (t := 22) (e := 46) Tryz.underlying22 h with ⟨hcs, _⟩ | ⟨a, len', cap', m, n', D, Pl, hcs, _, hl, hm, hmm, _, hel⟩
  · simp at hcs
    obtain ⟨rfl, rfl, rfl⟩ := hcs
    exact ⟨[], rfl, Nat.le_refl _, fun W' _ => ⟨rfl, by omega, fun h => absurd h (by omega)⟩⟩
  · simp at hcs
    obtain ⟨rfl, rfl, rfl⟩ := hcs
    have hcap : m = cap := by simpa using hmm
    have hsz : Tryz.prog.cellsOf 46 = 3 := by kernel_rfl
    rw [hsz] at hel
    have hex : ∀ i, i < len → ∃ it : It, ∀ W' : World, (∀ k, k < W.heap.size → W'.heap[k]? = W.heap[k]?) → ∃ c, c.length = 3 ∧ kIt.K W' it c ∧ ∀ q u, c[q]? = some u → W'.cell? (a.add (i * 3 + q)) = some u := fun i hi => by
      obtain ⟨cs', h1, h2⟩ := hel i (by omega)
      obtain ⟨it, h3, h4⟩ := open_it h2
      obtain ⟨_, _, hcell⟩ := World.cells?_some h1
      refine ⟨it, fun W' hW' => ⟨cs', h3, h4 W' hW', fun q u hq => ?_⟩⟩
      rw [← Deep.add_add]
      exact same_cell hW' ((hcell q (by have := (List.getElem?_eq_some_iff.1 hq).1; omega)).trans hq)
    obtain ⟨f, hf⟩ := choose_lt hex
    refine ⟨(List.range len).map f, by simp, hl, fun W' hW' => ⟨by simp, by have : maxLen = 9223372036854775807 := rfl; omega, fun _ => ⟨a, rfl, fun j p hj => ?_⟩⟩⟩
    have hjl : j < len := by
      have := (List.getElem?_eq_some_iff.1 hj).1
      simpa using this
    rw [List.getElem?_map, List.getElem?_range hjl] at hj
    simp at hj
    subst hj
    obtain ⟨c, h1, h2, h3⟩ := hf j hjl W' hW'
    exact ⟨c, h1, h2, h3⟩
end Go.Proofs.YtgaadjgfjiljjaaGreat
