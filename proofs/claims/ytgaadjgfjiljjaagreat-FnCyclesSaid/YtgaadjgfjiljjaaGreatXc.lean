/- Plain laws: what owners and Objects answer, over lists alone. Conditions: at most 4096 declarations, each such as the statements speak of. -/
import Derived.Test.YtgaadjgfjiljjaaGreatXb
namespace Go.Proofs.YtgaadjgfjiljjaaGreat
open Go.RowKit Go.Proofs.YtgaadjgfjiljjaaGreatW.PrintWords Go.Proofs.YtgaadjgfjiljjaaGreatW.PrintLast Go.Proofs.YtgaadjgfjiljjaaGreatW.PrintMore
set_option linter.unusedVariables false
set_option linter.unusedSimpArgs false

/-- A declaration such as the statements speak of. -/
structure ItemOk (x : It) : Prop where
  k0 : 0 ≤ x.f0
  k5 : x.f0 < 5
  m2 : x.f0 = 1 → 2 ≤ x.f1
  m100 : x.f0 = 1 → x.f1 ≤ 100
  m0 : x.f0 ≠ 1 → x.f1 = 0
  pl : x.f0 = 2 → x.f2 = []

def objN (x : It) : Nat := if x.f0 = 1 then x.f1.toNat else 1
theorem ItemOk.objN_pos {x : It} (h : ItemOk x) : 1 ≤ objN x := by
  unfold objN; split
  · rename_i e; have := h.m2 e; omega
  · omega
theorem ItemOk.objN_le {x : It} (h : ItemOk x) : objN x ≤ 100 := by
  unfold objN; split
  · rename_i e; have := h.m100 e; omega
  · omega
theorem objects_f {x : It} (h : ItemOk x) : spec_Item_objects.f x.f0 x.f1 x.f2 = some (objN x : Int) := by
  unfold spec_Item_objects.f objN
  by_cases e : x.f0 = 1
  · rw [if_pos e, if_pos e]; have := h.m2 e; congr 1; omega
  · rw [if_neg e, if_neg e]; rfl

/-- The item at a place. -/
def itA (p : List It) (k : Nat) : It := p.getD k zIt
theorem rd_It_nat (p : List It) (k : Nat) : rd_It p (k : Int) = itA p k := by simp [rd_It, itA]
theorem itA_mem {p : List It} {k : Nat} (h : k < p.length) : itA p k ∈ p := by
  unfold itA; rw [List.getD_eq_getElem?_getD, List.getElem?_eq_getElem h]; exact List.getElem_mem h

/-- Where the objects of declaration k begin. -/
def startN (p : List It) (k : Nat) : Nat := ((p.take k).map objN).sum
theorem startN_zero (p : List It) : startN p 0 = 0 := rfl
theorem startN_succ (p : List It) (k : Nat) (h : k < p.length) : startN p (k + 1) = startN p k + objN (itA p k) := by
  have e : itA p k = p[k] := by unfold itA; rw [List.getD_eq_getElem?_getD, List.getElem?_eq_getElem h]; rfl
  unfold startN
  rw [e, List.take_add_one, List.getElem?_eq_getElem h]
  simp only [Option.toList, List.map_append, List.sum_append, List.map_cons, List.map_nil, List.sum_cons, List.sum_nil, Nat.add_zero]
/-- The owners of the objects. -/
def ownN (p : List It) (k : Nat) : List Int := (List.range k).flatMap fun i => List.replicate (objN (itA p i)) (i : Int)
def ownersL (p : List It) : List Int := ownN p p.length
theorem ownN_succ (p : List It) (k : Nat) : ownN p (k + 1) = ownN p k ++ List.replicate (objN (itA p k)) (k : Int) := by
  simp [ownN, List.range_succ, List.flatMap_append]
theorem ownN_length (p : List It) (k : Nat) (h : k ≤ p.length) : (ownN p k).length = startN p k := by
  induction k with
  | zero => rfl
  | succ k ih => rw [ownN_succ, List.length_append, List.length_replicate, ih (by omega), startN_succ p k (by omega)]
theorem startN_le {p : List It} (hk : ∀ x ∈ p, ItemOk x) (k : Nat) (h : k ≤ p.length) : startN p k ≤ 100 * k := by
  induction k with
  | zero => simp [startN_zero]
  | succ k ih => rw [startN_succ p k (by omega)]; have := ih (by omega); have := (hk _ (itA_mem (p := p) (k := k) (by omega))).objN_le; omega
theorem startN_mono (p : List It) {j k : Nat} (h : j ≤ k) (hk : k ≤ p.length) : startN p j ≤ startN p k := by
  induction k with
  | zero => have : j = 0 := by omega
            subst this; exact Nat.le_refl _
  | succ k ih =>
    rcases Nat.lt_or_ge k j with hlt | hge
    · have : j = k + 1 := by omega
      subst this; exact Nat.le_refl _
    · have := ih hge (by omega); rw [startN_succ p k (by omega)]; omega

theorem owners_l1 (p : List It) (x4 len x8 : Int) (r : List Int) (d : Nat) : ∀ (x3 : List Int) (t j : Int), 0 ≤ j → t ≤ 1000 → t - j = d → x3.length + d < 17592186044416 →
    Ev (fun k => spec_Package_owners.l0 k (x3 ++ List.replicate d x4) p len (wrap64 (x8 + 1))) r → Ev (fun k => spec_Package_owners.l1 k x3 x4 p len x8 t j) r := by
  induction d with
  | zero =>
    intro x3 t j h0 h1 h2 h3 h
    refine Ev.step (f := fun k => spec_Package_owners.l0 k x3 p len (wrap64 (x8 + 1))) (fun k => ?_) (by simpa using h)
    simp only [spec_Package_owners.l1]
    rw [if_neg (by omega)]
  | succ d ih =>
    intro x3 t j h0 h1 h2 h3 h
    refine Ev.step (f := fun k => spec_Package_owners.l1 k (x3 ++ [x4]) x4 p len x8 t (wrap64 (j + 1))) (fun k => ?_) ?_
    · simp only [spec_Package_owners.l1]
      rw [if_pos (by omega), if_pos (by omega)]
    · have e : wrap64 (j + 1) = j + 1 := by unfold wrap64; omega
      rw [e]
      refine ih (x3 ++ [x4]) t (j + 1) (by omega) h1 (by omega) (by simp; omega) ?_
      rw [List.append_assoc]; exact h

theorem owners_l0 (p : List It) (hl : p.length ≤ 4096) (hk : ∀ x ∈ p, ItemOk x) (d : Nat) : ∀ i : Nat, i + d = p.length →
    Ev (fun k => spec_Package_owners.l0 k (ownN p i) p (p.length : Int) (i : Int)) (ownersL p) := by
  induction d with
  | zero =>
    intro i hi
    refine Ev.step (f := fun _ => some (ownersL p)) (fun k => ?_) (Ev.now _)
    simp only [spec_Package_owners.l0]
    rw [if_neg (by omega)]
    have : i = p.length := by omega
    subst this; rfl
  | succ d ih =>
    intro i hi
    have hok := hk _ (itA_mem (p := p) (k := i) (by omega))
    have hlen := ownN_length p i (by omega)
    have hst := startN_le hk i (by omega)
    have h1 := hok.objN_le
    refine Ev.step (f := fun k => spec_Package_owners.l1 k (ownN p i) (i : Int) p (p.length : Int) (i : Int) (objN (itA p i) : Int) 0) (fun k => ?_) ?_
    · simp only [spec_Package_owners.l0]
      rw [if_pos (by omega), if_pos (by omega), if_pos (by omega), rd_It_nat, objects_f hok]; rfl
    · refine owners_l1 p (i : Int) _ _ _ (objN (itA p i)) (ownN p i) _ 0 (by omega) (by omega) (by omega) (by omega) ?_
      have e : wrap64 ((i : Int) + 1) = ((i + 1 : Nat) : Int) := by unfold wrap64; omega
      rw [e, ← ownN_succ]
      exact ih (i + 1) (by omega)

theorem owners_f (p : List It) (hl : p.length ≤ 4096) (hk : ∀ x ∈ p, ItemOk x) : ∃ k, spec_Package_owners.f k p = some (ownersL p) := by
  obtain ⟨k, h⟩ := (owners_l0 p hl hk p.length 0 (by omega)).rounds
  exact ⟨k, h⟩

/-- The objects of a declaration. -/
def objsL (p : List It) (k : Nat) : List Int := (List.range (objN (itA p k))).map fun i => ((startN p k + i : Nat) : Int)
theorem objsL_length (p : List It) (k : Nat) : (objsL p k).length = objN (itA p k) := by simp [objsL]

theorem objects_l1 (x5 : Nat) (hx : x5 ≤ 409600) (t : Nat) (ht : t ≤ 100) (d : Nat) : ∀ j : Nat, j + d = t →
    Ev (fun k => spec_Package_Objects.l1 k (x5 : Int) ((List.range j).map fun i => ((x5 + i : Nat) : Int)) (t : Int) (j : Int)) ((List.range t).map fun i => ((x5 + i : Nat) : Int)) := by
  induction d with
  | zero =>
    intro j hj
    refine Ev.step (f := fun _ => some _) (fun k => ?_) (Ev.now _)
    simp only [spec_Package_Objects.l1]
    rw [if_neg (by omega)]
    have : j = t := by omega
    subst this; rfl
  | succ d ih =>
    intro j hj
    refine Ev.step (f := fun k => spec_Package_Objects.l1 k (x5 : Int) ((List.range (j + 1)).map fun i => ((x5 + i : Nat) : Int)) (t : Int) ((j + 1 : Nat) : Int)) (fun k => ?_) (ih (j + 1) (by omega))
    simp only [spec_Package_Objects.l1]
    have e1 : wrap64 ((x5 : Int) + (j : Int)) = ((x5 + j : Nat) : Int) := by unfold wrap64; omega
    have e2 : wrap64 ((j : Int) + 1) = ((j + 1 : Nat) : Int) := by unfold wrap64; omega
    rw [if_pos (by omega), if_pos (by simp; omega), e1, e2, List.range_succ, List.map_append]; rfl

theorem take_itA (p : List It) (n j : Nat) (h : j < n) (hn : n ≤ p.length) : itA (p.take n) j = itA p j := by
  unfold itA
  rw [List.getD_eq_getElem?_getD, List.getD_eq_getElem?_getD, List.getElem?_take_of_lt h]

theorem objects_l0 (p : List It) (hl : p.length ≤ 4096) (hk : ∀ x ∈ p, ItemOk x) (n : Nat) (hn : n < p.length) (d : Nat) : ∀ j : Nat, j + d = n →
    Ev (fun k => spec_Package_Objects.l0 k p (n : Int) (startN p j : Int) (p.take n) (n : Int) (j : Int)) (objsL p n) := by
  induction d with
  | zero =>
    intro j hj
    have hok := hk _ (itA_mem hn)
    have hst := startN_le hk n (by omega)
    have : j = n := by omega
    subst this
    refine Ev.step (f := fun k => spec_Package_Objects.l1 k (startN p j : Int) [] (objN (itA p j) : Int) 0) (fun k => ?_) ?_
    · simp only [spec_Package_Objects.l0]
      rw [if_neg (by omega), if_pos (by omega), if_pos (by omega), rd_It_nat, objects_f hok]; rfl
    · exact objects_l1 (startN p j) (by omega) (objN (itA p j)) hok.objN_le (objN (itA p j)) 0 (by omega)
  | succ d ih =>
    intro j hj
    have hok := hk _ (itA_mem (p := p) (k := j) (by omega))
    have hst := startN_le hk j (by omega)
    have hob := hok.objN_le
    refine Ev.step (f := fun k => spec_Package_Objects.l0 k p (n : Int) (startN p (j + 1) : Int) (p.take n) (n : Int) ((j + 1 : Nat) : Int)) (fun k => ?_) (ih (j + 1) (by omega))
    simp only [spec_Package_Objects.l0]
    have e1 : wrap64 ((startN p j : Int) + (objN (itA p j) : Int)) = (startN p (j + 1) : Int) := by rw [startN_succ p j (by omega)]; unfold wrap64; omega
    have e2 : wrap64 ((j : Int) + 1) = ((j + 1 : Nat) : Int) := by unfold wrap64; omega
    have hlt : ((p.take n).length : Int) = n := by rw [List.length_take]; omega
    rw [if_pos (by omega), if_pos (by omega), if_pos (by omega), rd_It_nat, take_itA p n j (by omega) (by omega), objects_f hok, Option.bind_some, e1, e2]

theorem Objects_f (p : List It) (hl : p.length ≤ 4096) (hk : ∀ x ∈ p, ItemOk x) (n : Nat) (hn : n < p.length) : ∃ k, spec_Package_Objects.f k p (n : Int) = some (objsL p n) := by
  obtain ⟨k, h⟩ := (objects_l0 p hl hk n hn n 0 (by omega)).rounds
  refine ⟨k, ?_⟩
  unfold spec_Package_Objects.f
  rw [if_pos (by omega), if_pos (by omega), Option.bind_some, Int.toNat_natCast]
  have : ((p.take n).length : Int) = n := by rw [List.length_take]; omega
  rw [this]; exact h

end Go.Proofs.YtgaadjgfjiljjaaGreat

/- Plain laws: the owners of objects; what 'reached' answers: the objects to which references lead. Conditions: declarations such as the statements speak of (PkgOk). -/
namespace Go.Proofs.YtgaadjgfjiljjaaGreat
open Go.RowKit Go.Proofs.YtgaadjgfjiljjaaGreatW.PrintWords Go.Proofs.YtgaadjgfjiljjaaGreatW.PrintLast Go.Proofs.YtgaadjgfjiljjaaGreatW.PrintMore
set_option linter.unusedVariables false
set_option linter.unusedSimpArgs false

/-- How many objects there are. -/
def totN (p : List It) : Nat := startN p p.length
theorem ownersL_length (p : List It) : (ownersL p).length = totN p := ownN_length p p.length (Nat.le_refl _)

theorem ownN_get (p : List It) (k : Nat) (hk : k ≤ p.length) (j i : Nat) (hj : j < k) (hi : i < objN (itA p j)) : (ownN p k)[startN p j + i]? = some (j : Int) := by
  induction k with
  | zero => omega
  | succ k ih =>
    rw [ownN_succ]
    have hlen := ownN_length p k (by omega)
    rcases Nat.lt_or_ge j k with hlt | hge
    · have h1 := startN_mono p (j := j + 1) (k := k) (by omega) (by omega)
      rw [startN_succ p j (by omega)] at h1
      rw [List.getElem?_append_left (by omega)]
      exact ih (by omega) hlt
    · have : j = k := by omega
      subst this
      rw [List.getElem?_append_right (by omega), hlen, Nat.add_sub_cancel_left, List.getElem?_replicate, if_pos hi]

theorem own_exists (p : List It) (n : Nat) (hn : n ≤ p.length) (r : Nat) (h : r < startN p n) : ∃ j i, j < n ∧ i < objN (itA p j) ∧ r = startN p j + i := by
  induction n with
  | zero => simp [startN_zero] at h
  | succ n ih =>
    rw [startN_succ p n (by omega)] at h
    rcases Nat.lt_or_ge r (startN p n) with hlt | hge
    · obtain ⟨j, i, h1, h2, h3⟩ := ih (by omega) hlt
      exact ⟨j, i, by omega, h2, h3⟩
    · exact ⟨n, r - startN p n, by omega, by omega, by omega⟩

/-- The owner of an object. -/
def ow (p : List It) (r : Nat) : Nat := (rd (ownersL p) (r : Int)).toNat
theorem rd_owners (p : List It) (j i : Nat) (hj : j < p.length) (hi : i < objN (itA p j)) : rd (ownersL p) ((startN p j + i : Nat) : Int) = (j : Int) := by
  unfold rd ownersL
  rw [Int.toNat_natCast, List.getD_eq_getElem?_getD, ownN_get p p.length (Nat.le_refl _) j i hj hi]; rfl
theorem ow_at (p : List It) (j i : Nat) (hj : j < p.length) (hi : i < objN (itA p j)) : ow p (startN p j + i) = j := by
  unfold ow; rw [rd_owners p j i hj hi, Int.toNat_natCast]
theorem ow_spec (p : List It) (r : Nat) (h : r < totN p) : ow p r < p.length ∧ startN p (ow p r) ≤ r ∧ r < startN p (ow p r) + objN (itA p (ow p r)) ∧ rd (ownersL p) (r : Int) = (ow p r : Int) := by
  obtain ⟨j, i, h1, h2, rfl⟩ := own_exists p p.length (Nat.le_refl _) r h
  rw [ow_at p j i h1 h2]
  exact ⟨h1, by omega, by omega, rd_owners p j i h1 h2⟩

def refsN (p : List It) (k : Nat) : List Int := (itA p k).f2

/-- Declarations of which the statements speak, but for the constants. -/
structure PkgOk (p : List It) : Prop where
  len : p.length ≤ 4096
  items : ∀ x ∈ p, ItemOk x
  tot : totN p ≤ 4096
  refs : ∀ x ∈ p, ∀ r ∈ x.f2, 0 ≤ r ∧ r < (totN p : Int)
  short : ∀ x ∈ p, x.f2.length ≤ 2147483647

/-- Where references of a declaration lead: its own ones, and those of what is followed. -/
inductive Reach (fol : Int → Bool) (p : List It) (k : Nat) : Nat → Prop
  | base {r : Nat} : (r : Int) ∈ refsN p k → Reach fol p k r
  | step {r' r : Nat} : Reach fol p k r' → fol (itA p (ow p r')).f0 = true → (r : Int) ∈ refsN p (ow p r') → Reach fol p k r

theorem rdb_set (out : List Bool) (i j : Nat) (b : Bool) (h : i < out.length) : rdb (out.set i b) (j : Int) = if i = j then b else rdb out (j : Int) := by
  unfold rdb
  rw [Int.toNat_natCast, List.getD_eq_getElem?_getD, List.getD_eq_getElem?_getD, List.getElem?_set]
  by_cases e : i = j
  · subst e; simp [h]
  · simp [e]

theorem rd_cons (r : Int) (l : List Int) : rd (r :: l) 0 = r := rfl

structure RInv (fol : Int → Bool) (p : List It) (k : Nat) (out : List Bool) (wait : List Int) : Prop where
  len : out.length = totN p
  wok : ∀ r ∈ wait, 0 ≤ r ∧ r < (totN p : Int) ∧ Reach fol p k r.toNat
  ook : ∀ r : Nat, rdb out (r : Int) = true → r < totN p → Reach fol p k r
  start : ∀ r ∈ refsN p k, rdb out r = true ∨ r ∈ wait
  next : ∀ r' : Nat, r' < totN p → rdb out (r' : Int) = true → fol (itA p (ow p r')).f0 = true → ∀ r ∈ refsN p (ow p r'), rdb out r = true ∨ r ∈ wait
  room : wait.length ≤ (1 + out.count true) * 2147483647

theorem drop_mul (a b B : Nat) (h : b < a) : (a - (b + 1)) * B + B = (a - b) * B := by
  rw [show a - b = (a - (b + 1)) + 1 from by omega, Nat.succ_mul]

theorem reach_loop {fol : Int → Bool} {p : List It} (hp : PkgOk p) {k : Nat} (B : Nat) (hB : 2147483648 ≤ B) (m : Nat) : ∀ (out : List Bool) (wait : List Int), RInv fol p k out wait →
    (out.length - out.count true) * B + wait.length ≤ m →
    ∃ r, reachR fol p (ownersL p) (m + 1) out wait = some r ∧ RInv fol p k r [] := by
  induction m with
  | zero =>
    intro out wait hI hm
    have hw : wait = [] := List.eq_nil_of_length_eq_zero (by omega)
    subst hw
    exact ⟨out, by simp [reachR], hI⟩
  | succ m ih =>
    intro out wait hI hm
    cases wait with
    | nil => exact ⟨out, by simp [reachR], hI⟩
    | cons r wait =>
      obtain ⟨hr0, hr1, hrR⟩ := hI.wok r (List.mem_cons_self ..)
      obtain ⟨rn, rfl⟩ := Int.eq_ofNat_of_zero_le hr0
      rw [Int.toNat_natCast] at hrR
      have hrt : rn < totN p := by omega
      obtain ⟨ho1, _, _, ho2⟩ := ow_spec p rn hrt
      have hlen := hI.len
      have hcl : out.count true ≤ out.length := List.count_le_length
      have hol : (rn : Int) < ((ownersL p).length : Int) := by have := ownersL_length p; omega
      by_cases cb : rdb out (rn : Int) = true
      · have hI' : RInv fol p k out wait := by
          refine ⟨hI.len, fun r hr => hI.wok r (List.mem_cons_of_mem _ hr), hI.ook, fun r hr => ?_, fun r' h1 h2 h3 r hr => ?_, ?_⟩
          · rcases hI.start r hr with h | h
            · exact .inl h
            · rcases List.mem_cons.1 h with h | h
              · subst h; exact .inl cb
              · exact .inr h
          · rcases hI.next r' h1 h2 h3 r hr with h | h
            · exact .inl h
            · rcases List.mem_cons.1 h with h | h
              · subst h; exact .inl cb
              · exact .inr h
          · have := hI.room; rw [List.length_cons] at this; omega
        obtain ⟨res, hres, hR⟩ := ih out wait hI' (by rw [List.length_cons] at hm; omega)
        refine ⟨res, ?_, hR⟩
        rw [reachR]
        simp only [rd_cons, List.length_cons, List.drop_succ_cons, List.drop_zero]
        rw [if_pos (by omega), if_pos hr0, if_pos (by omega), if_pos cb]
        exact hres
      · have cb' := Bool.eq_false_iff.mpr cb
        have hrl : rn < out.length := by omega
        have hgr : out[rn]'hrl = false := by
          have := cb'; unfold rdb at this
          rwa [Int.toNat_natCast, List.getD_eq_getElem?_getD, List.getElem?_eq_getElem hrl] at this
        have hcnt : (out.set rn true).count true = out.count true + 1 := by
          rw [List.count_set hrl, hgr]; simp
        have hcl2 : out.count true < out.length := by
          have h1 : (out.set rn true).count true ≤ (out.set rn true).length := List.count_le_length
          rw [hcnt, List.length_set] at h1; omega
        have hdm := drop_mul out.length (out.count true) B hcl2
        have hX := itA_mem ho1
        have hshort : (itA p (ow p rn)).f2.length ≤ 2147483647 := hp.short _ hX
        have hroom := hI.room
        rw [List.length_cons] at hroom hm
        have htot := hp.tot
        have base : ∀ wait2 : List Int, (∀ r ∈ wait2, 0 ≤ r ∧ r < (totN p : Int) ∧ Reach fol p k r.toNat) → (∀ r ∈ wait, r ∈ wait2) →
            (fol (itA p (ow p rn)).f0 = true → ∀ r ∈ refsN p (ow p rn), r ∈ wait2) → wait2.length ≤ wait.length + 2147483647 → RInv fol p k (out.set rn true) wait2 := by
          intro wait2 h1 h2 h3 h4
          have keep : ∀ r : Int, (rdb out r = true ∨ r ∈ ((rn : Int) :: wait)) → 0 ≤ r → (rdb (out.set rn true) r = true ∨ r ∈ wait2) := by
            intro r hr h0
            obtain ⟨q, rfl⟩ := Int.eq_ofNat_of_zero_le h0
            rw [rdb_set _ _ _ _ hrl]
            by_cases e : rn = q
            · rw [if_pos e]; exact .inl rfl
            · rw [if_neg e]
              rcases hr with hr | hr
              · exact .inl hr
              · rcases List.mem_cons.1 hr with hr | hr
                · omega
                · exact .inr (h2 _ hr)
          refine ⟨by rw [List.length_set]; exact hlen, h1, fun r hr hlt => ?_, fun r hr => ?_, fun r' hr1 hr2 hr3 r hr => ?_, ?_⟩
          · rw [rdb_set _ _ _ _ hrl] at hr
            by_cases e : rn = r
            · subst e; exact hrR
            · rw [if_neg e] at hr; exact hI.ook r hr hlt
          · have hk : k < p.length ∨ refsN p k = [] := by
              rcases Nat.lt_or_ge k p.length with h | h
              · exact .inl h
              · refine .inr ?_
                unfold refsN itA
                rw [List.getD_eq_getElem?_getD, List.getElem?_eq_none h]; rfl
            rcases hk with hk | hk
            · exact keep r (hI.start r hr) (hp.refs _ (itA_mem hk) r hr).1
            · rw [hk] at hr; cases hr
          · have h0 : 0 ≤ r := (hp.refs _ (itA_mem (ow_spec p r' hr1).1) r hr).1
            rw [rdb_set _ _ _ _ hrl] at hr2
            by_cases e : rn = r'
            · subst e; exact .inr (h3 hr3 r hr)
            · rw [if_neg e] at hr2; exact keep r (hI.next r' hr1 hr2 hr3 r hr) h0
          · rw [hcnt]; omega
        by_cases cf : fol (itA p (ow p rn)).f0 = true
        · have hI' := base (wait ++ (itA p (ow p rn)).f2) (fun r hr => by
              rcases List.mem_append.1 hr with hr | hr
              · exact hI.wok r (List.mem_cons_of_mem _ hr)
              · obtain ⟨h1, h2⟩ := hp.refs _ hX r hr
                refine ⟨h1, h2, Reach.step hrR cf ?_⟩
                obtain ⟨q, rfl⟩ := Int.eq_ofNat_of_zero_le h1
                rw [Int.toNat_natCast]; exact hr) (fun r hr => List.mem_append_left _ hr) (fun _ r hr => List.mem_append_right _ hr) (by rw [List.length_append]; omega)
          obtain ⟨res, hres, hR⟩ := ih _ _ hI' (by rw [List.length_set, hcnt, List.length_append]; omega)
          refine ⟨res, ?_, hR⟩
          rw [reachR]
          simp only [rd_cons, List.length_cons, List.drop_succ_cons, List.drop_zero, Int.toNat_natCast]
          rw [if_pos (by omega), if_pos hr0, if_pos (by omega), if_neg cb, if_pos hol, ho2, if_pos (by omega), if_pos (by omega), rd_It_nat, if_pos cf, if_pos (by
            have h5 : (1 + out.count true) * 2147483647 ≤ 4096 * 2147483647 := Nat.mul_le_mul_right _ (by omega)
            omega)]
          exact hres
        · have hI' := base wait (fun r hr => hI.wok r (List.mem_cons_of_mem _ hr)) (fun r hr => hr) (fun h => absurd h cf) (by omega)
          obtain ⟨res, hres, hR⟩ := ih _ _ hI' (by rw [List.length_set, hcnt]; omega)
          refine ⟨res, ?_, hR⟩
          rw [reachR]
          simp only [rd_cons, List.length_cons, List.drop_succ_cons, List.drop_zero, Int.toNat_natCast]
          rw [if_pos (by omega), if_pos hr0, if_pos (by omega), if_neg cb, if_pos hol, ho2, if_pos (by omega), if_pos (by omega), rd_It_nat, if_neg cf]
          exact hres

theorem rdb_replicate (n : Nat) (r : Int) : rdb (List.replicate n false) r = false := by
  unfold rdb
  rw [List.getD_eq_getElem?_getD, List.getElem?_replicate]
  split <;> rfl

/-- What 'reached' answers. -/
theorem reach_f (fol : Int → Bool) {p : List It} (hp : PkgOk p) (k : Nat) (hk : k < p.length) :
    ∃ kf out, reachR fol p (ownersL p) kf (List.replicate (ownersL p).length false) (rd_It p (k : Int)).f2 = some out ∧ out.length = totN p ∧ ∀ r : Nat, r < totN p → (rdb out (r : Int) = true ↔ Reach fol p k r) := by
  have hI : RInv fol p k (List.replicate (ownersL p).length false) (rd_It p (k : Int)).f2 := by
    rw [rd_It_nat]
    refine ⟨by rw [List.length_replicate, ownersL_length], fun r hr => ?_, fun r hr => (by rw [rdb_replicate] at hr; cases hr), fun r hr => .inr hr, fun r' _ h => (by rw [rdb_replicate] at h; cases h), ?_⟩
    · obtain ⟨h1, h2⟩ := hp.refs _ (itA_mem hk) r hr
      refine ⟨h1, h2, Reach.base ?_⟩
      obtain ⟨q, rfl⟩ := Int.eq_ofNat_of_zero_le h1
      rw [Int.toNat_natCast]; exact hr
    · have := hp.short _ (itA_mem hk)
      have h0 : (List.replicate (ownersL p).length false).count true = 0 := by rw [List.count_replicate]; rfl
      rw [h0]; omega
  obtain ⟨out, h1, h2⟩ := reach_loop hp 2147483648 (Nat.le_refl _) _ _ _ hI (Nat.le_refl _)
  refine ⟨_, out, h1, h2.len, fun r hr => ⟨fun h => h2.ook r h hr, fun h => ?_⟩⟩
  induction h with
  | base hb =>
    rcases h2.start _ hb with h | h
    · exact h
    · cases h
  | @step r' q hR hf hb ih =>
    have hr' : r' < totN p := by
      cases hR with
      | base hb' =>
        have := (hp.refs _ (itA_mem hk) _ hb').2; omega
      | @step r'' _ hR' hf' hb' =>
        have how : ow p r'' < p.length ∨ refsN p (ow p r'') = [] := by
          rcases Nat.lt_or_ge (ow p r'') p.length with h | h
          · exact .inl h
          · refine .inr ?_
            unfold refsN itA
            rw [List.getD_eq_getElem?_getD, List.getElem?_eq_none h]; rfl
        rcases how with h | h
        · have := (hp.refs _ (itA_mem h) _ hb').2; omega
        · rw [h] at hb'; cases hb'
    rcases h2.next r' hr' (ih hr') hf _ hb with h | h
    · exact h
    · cases h

end Go.Proofs.YtgaadjgfjiljjaaGreat

/- Fit: where it answers true, the declarations are such as the statements speak of; Leads; NeedsAll and Needs told by where references lead. Conditions: those that each theorem names. -/
namespace Go.Proofs.YtgaadjgfjiljjaaGreat
open Go.RowKit Go.Proofs.YtgaadjgfjiljjaaGreatW.PrintWords Go.Proofs.YtgaadjgfjiljjaaGreatW.PrintLast Go.Proofs.YtgaadjgfjiljjaaGreatW.PrintMore
set_option linter.unusedVariables false
set_option linter.unusedSimpArgs false

theorem rd_own_ok {p : List It} : ∀ j : Int, 0 ≤ j → j < (ownersL p).length → 0 ≤ rd (ownersL p) j ∧ rd (ownersL p) j < p.length := by
  intro j h0 h1
  obtain ⟨q, rfl⟩ := Int.eq_ofNat_of_zero_le h0
  rw [ownersL_length] at h1
  obtain ⟨h2, _, _, h3⟩ := ow_spec p q (by omega)
  rw [h3]; omega

theorem maskL_at (p : List It) (out : List Bool) (r : Nat) (h : r < out.length) (ht : r < totN p) : rdb (maskL p (ownersL p) out) (r : Int) = (rdb out (r : Int) && isvK (itA p (ow p r)).f0) := by
  unfold maskL maskTo
  rw [show rdb (List.map (fun r_1 => if r_1 < out.length then rdb out ↑r_1 && isvK (rd_It p (rd (ownersL p) ↑r_1)).f0 else rdb out ↑r_1) (List.range out.length)) (r : Int) = (if r < out.length then rdb out (r : Int) && isvK (rd_It p (rd (ownersL p) (r : Int))).f0 else rdb out (r : Int)) from ?_]
  · rw [if_pos h, (ow_spec p r ht).2.2.2, rd_It_nat]
  · conv => lhs; unfold rdb
    rw [Int.toNat_natCast, List.getD_eq_getElem?_getD, List.getElem?_map, List.getElem?_range h]; rfl

/-- What is needed, told in words. -/
def NeedsOf (fol : Int → Bool) (p : List It) (k : Nat) (out : List Bool) : Prop :=
  out.length = totN p ∧ ∀ r : Nat, r < totN p → (rdb out (r : Int) = true ↔ (Reach fol p k r ∧ isvK (itA p (ow p r)).f0 = true))

theorem needsOf_mask {fol : Int → Bool} {p : List It} {k : Nat} {out : List Bool} (h1 : out.length = totN p) (h2 : ∀ r : Nat, r < totN p → (rdb out (r : Int) = true ↔ Reach fol p k r)) : NeedsOf fol p k (maskL p (ownersL p) out) := by
  refine ⟨by unfold maskL; rw [maskTo_length]; exact h1, fun r hr => ?_⟩
  rw [maskL_at p out r (by omega) hr, Bool.and_eq_true, h2 r hr]

theorem needsAll_of {p : List It} (hp : PkgOk p) (A0 : Option Addr) (c0 : Nat) (k : Nat) (hk : k < p.length) (w : World) (hr0 : Kd.C kIt w A0 p.length p) (hc0 : p.length ≤ c0) :
    Calls Tryz.prog 10 #[.slice A0 p.length c0, .int .i64 (k : Int)] w fun e w' => ∃ (v0_ : Value) (out : List Bool), e = .returned v0_ ∧ Kd.R Kd.bool 4 w' w.heap.size (fun _ => True) v0_ out ∧ NeedsOf (fun k => k != 4) p k out ∧ Below w.heap.size w w' := by
  obtain ⟨ko, ho⟩ := owners_f p hp.len hp.items
  obtain ⟨kf, out, h1, h2, h3⟩ := reach_f (fun k => k != 4) hp k hk
  have hs := hp.short _ (itA_mem hk)
  have ht := hp.tot
  refine (needsAll_calls kf A0 c0 p (k : Int) (ownersL p) ko out w hr0 hc0 (by omega) (by omega) ho (by rw [rd_It_nat]; omega) (by rw [ownersL_length]; omega) rd_own_ok (by rw [ownersL_length]; exact h2) h1).mono ?_
  rintro e w' ⟨v, rfl, hv, hb⟩
  exact ⟨v, _, rfl, hv, needsOf_mask h2 h3, hb⟩

theorem needs_of {p : List It} (hp : PkgOk p) (A0 : Option Addr) (c0 : Nat) (k : Nat) (hk : k < p.length) (w : World) (hr0 : Kd.C kIt w A0 p.length p) (hc0 : p.length ≤ c0) :
    Calls Tryz.prog 27 #[.slice A0 p.length c0, .int .i64 (k : Int)] w fun e w' => ∃ (v0_ : Value) (out : List Bool), e = .returned v0_ ∧ Kd.R Kd.bool 4 w' w.heap.size (fun _ => True) v0_ out ∧ NeedsOf (fun k => k == 3) p k out ∧ Below w.heap.size w w' := by
  obtain ⟨ko, ho⟩ := owners_f p hp.len hp.items
  obtain ⟨kf, out, h1, h2, h3⟩ := reach_f (fun k => k == 3) hp k hk
  have hs := hp.short _ (itA_mem hk)
  have ht := hp.tot
  refine (needs_calls kf A0 c0 p (k : Int) (ownersL p) ko out w hr0 hc0 (by omega) (by omega) ho (by rw [rd_It_nat]; omega) (by rw [ownersL_length]; omega) rd_own_ok (by rw [ownersL_length]; exact h2) h1).mono ?_
  rintro e w' ⟨v, rfl, hv, hb⟩
  exact ⟨v, _, rfl, hv, needsOf_mask h2 h3, hb⟩

set_option maxHeartbeats 1000000 in
set_option maxRecDepth 100000 in
theorem leads_of {p : List It} (hp : PkgOk p) (A0 : Option Addr) (c0 : Nat) (a b : Nat) (ha : a < totN p) (hb : b < totN p) (w : World) (hr0 : Kd.C kIt w A0 p.length p) (hc0 : p.length ≤ c0) :
    Calls Tryz.prog 18 #[.slice A0 p.length c0, .int .i64 (a : Int), .int .i64 (b : Int)] w fun e w' => ∃ r : Bool, e = .returned (.bool r) ∧ (r = true ↔ Reach (fun _ => true) p (ow p a) b) ∧ Below w.heap.size w w' := by
  obtain ⟨ko, ho⟩ := owners_f p hp.len hp.items
  obtain ⟨hk, _, _, hro⟩ := ow_spec p a ha
  obtain ⟨kf, out, h1, h2, h3⟩ := reach_f (fun _ => true) hp (ow p a) hk
  have hs := hp.short _ (itA_mem hk)
  have ht := hp.tot
  have hol := ownersL_length p
  have HR0 := Aside0.mk hr0
  have HC0 := Aside0.mk hc0
  have HO := Aside0.mk ho
  have H1 := Aside0.mk h1
  have H2 := Aside0.mk h2
  have H3 := Aside0.mk h3
  have HS := Aside0.mk hs
  have HT := Aside0.mk ht
  have HOL := Aside0.mk hol
  have HK := Aside0.mk hk
  have HRO := Aside0.mk hro
  have HAB := Aside0.mk (And.intro ha hb)
  clear hr0 hc0 ho h1 h2 h3 hs ht hol hk hro ha hb
  go_enter Tryz.func18, Tryz.ntmps18
  go_wp2_with fail
  refine (spec_Package_owners.calls ko _ _ p _ _ HR0.out HC0.out HO.out).mono ?_
  rintro e w1 ⟨v20, rfl, hv20, hb20⟩
  obtain ⟨A20, c20, rfl, hl20, hC20⟩ := Kd.R_reads hv20
  obtain ⟨ao, rfl, hxo⟩ := Kd.at_int hC20 (a : Int) (by omega) (by rw [HOL.out]; have := HAB.out.1; omega)
  rw [Int.toNat_natCast, HRO.out] at hxo
  have ha0 : (a : Int) < ((ownersL p).length : Int) := by rw [HOL.out]; have := HAB.out.1; omega
  have ha1 : a < (ownersL p).length := by rw [HOL.out]; exact HAB.out.1
  have HB20 := Aside0.mk hb20
  clear hv20 hb20 hl20 hC20
  go_wp2_with fail
  refine (reached_calls follows_leads kf _ _ p ((ow p a : Nat) : Int) (ownersL p) ko out _ (Kd.C_below HR0.out HB20.out) HC0.out (by omega) (by have := HK.out; omega) HO.out (by rw [rd_It_nat]; have := HS.out; omega) (by rw [HOL.out]; have := HT.out; omega) H1.out).mono ?_
  rintro e w2 ⟨v21, rfl, hv21, hb21⟩
  obtain ⟨A21, c21, rfl, hl21, hC21⟩ := Kd.R_reads hv21
  obtain ⟨a2, rfl, hx2⟩ := Kd.at_bool hC21 (b : Int) (by omega) (by rw [H2.out]; have := HAB.out.2; omega)
  rw [Int.toNat_natCast] at hx2
  have hb0 : (b : Int) < (out.length : Int) := by rw [H2.out]; have := HAB.out.2; omega
  have hb1 : b < out.length := by rw [H2.out]; exact HAB.out.2
  have HB21 := Aside0.mk hb21
  clear hv21 hb21 hl21 hC21 hxo ha0 ha1
  go_wp2_with fail
  go_ret
  exact ⟨_, rfl, H3.out b HAB.out.2, below_step HB20.out HB21.out⟩

end Go.Proofs.YtgaadjgfjiljjaaGreat

/- Fit: where it answers true, the declarations are such as the statements speak of. Conditions: those that each theorem names. -/
namespace Go.Proofs.YtgaadjgfjiljjaaGreat
open Go.RowKit Go.Proofs.YtgaadjgfjiljjaaGreatW.PrintWords Go.Proofs.YtgaadjgfjiljjaaGreatW.PrintLast Go.Proofs.YtgaadjgfjiljjaaGreatW.PrintMore
set_option linter.unusedVariables false
set_option linter.unusedSimpArgs false

/-- What the statements speak of. -/
structure FitP (p : List It) : Prop where
  ok : PkgOk p
  const : ∀ k : Nat, k < p.length → (itA p k).f0 = 4 → ¬ Reach (fun _ => true) p k (startN p k)

theorem beqs {a b : Int} (h : a = b) : (a == b) = true ∧ (a != b) = false := ⟨beq_iff_eq.mpr h, bne_eq_false_iff_eq.mpr h⟩
theorem bnes {a b : Int} (h : a ≠ b) : (a == b) = false ∧ (a != b) = true := ⟨beq_eq_false_iff_ne.mpr h, bne_iff_ne.mpr h⟩

def FitPost (p : List It) (w : World) (e : Ending) (w' : World) : Prop := ∃ b : Bool, e = .returned (.bool b) ∧ (b = true → FitP p) ∧ Below w.heap.size w w'

set_option maxHeartbeats 8000000 in
set_option maxRecDepth 100000 in
theorem fit_of (p : List It) (A0 : Option Addr) (c0 : Nat) (w : World) (hr0 : Kd.C kIt w A0 p.length p) (hc0 : p.length ≤ c0) (hsh : ∀ x ∈ p, x.f2.length ≤ 2147483647) :
    Calls Tryz.prog 8 #[.slice A0 p.length c0] w (FitPost p w) := by
  have hu31 := Tryz.underlying31
  have HR0 := Aside0.mk hr0
  have HC0 := Aside0.mk hc0
  have HSH := Aside0.mk hsh
  clear hr0 hc0 hsh
  by_cases c1 : (p.length : Int) > 4096
  · have c1b := decide_eq_true c1
    have c1n : 4096 < p.length := by omega
    clear c1
    go_enter Tryz.func8, Tryz.ntmps8
    go_wp2_with fail
    go_ret
    exact ⟨false, rfl, fun h => (by cases h), Below.refl _ _⟩
  · have c1b := decide_eq_false c1
    have HL := Aside0.mk (show p.length ≤ 4096 by omega)
    have c1n : ¬ 4096 < p.length := by omega
    clear c1
    go_enter Tryz.func8, Tryz.ntmps8
    go_wp2_with fail
    clear c1n c1b
    have HB0 := Aside0.mk (Below.refl w.heap.size w)
    go_loopg [17] p.length (fun kq v17 w' => ∃ (j : Nat), v17 = .int .i64 (j : Int) ∧ Aside0 (kq + j = p.length) ∧ Aside0 (∀ i, i < j → ItemOk (itA p i)) ∧ Aside0 (Below w.heap.size w w'))
    case atStart => exact ⟨0, rfl, ⟨by omega⟩, ⟨fun i h => by omega⟩, HB0⟩
    case round =>
      clear HB0
      obtain ⟨j, rfl, HK, HI, HB⟩ := hrel
      by_cases cj : (j : Int) < (p.length : Int)
      · have hjr : j < p.length := by omega
        have hcj := decide_eq_true cj
        have hj0 : (0 : Int) ≤ (j : Int) := by omega
        obtain ⟨ad, Ao, cko, e, hy0, hy1, hy2, hlo, hCo⟩ := at_It HR0.out (j : Int) hj0 cj
        subst e
        replace hy0 := (HB.out.cell (World.block_lt_of_cell? w _ hy0)).trans hy0
        replace hy1 := (HB.out.cell (World.block_lt_of_cell? w _ hy1)).trans hy1
        replace hy2 := (HB.out.cell (World.block_lt_of_cell? w _ hy2)).trans hy2
        rw [Int.toNat_natCast] at hy0 hy1 hy2
        rw [rd_It_nat] at hy0 hy1 hy2 hlo hCo
        clear hlo hCo cj
        obtain ⟨X, hX⟩ : ∃ X, X = itA p j := ⟨_, rfl⟩
        rw [← hX] at hy0 hy1 hy2
        have HX := Aside0.mk hX
        clear hX
        have hn64 : (j : Int) + 1 ≤ 9223372036854775807 := by have := HL.out; omega
        by_cases d0 : X.f0 < 0
        · have d0b := decide_eq_true d0
          clear d0
          go_wp2_with fail
          go_ret
          exact ⟨false, rfl, fun h => (by cases h), below_alloc HB.out _⟩
        · have d0b := decide_eq_false d0
          by_cases d5 : X.f0 ≥ 5
          · have d5b := decide_eq_true d5
            clear d0 d5
            go_wp2_with fail
            go_ret
            exact ⟨false, rfl, fun h => (by cases h), below_alloc HB.out _⟩
          · have d5b := decide_eq_false d5
            by_cases e1 : X.f0 = 1
            · obtain ⟨e1a, e1b⟩ := beqs e1
              by_cases m2 : X.f1 < 2
              · have m2b := decide_eq_true m2
                clear d0 d5 e1 m2
                go_wp2_with fail
                go_ret
                exact ⟨false, rfl, fun h => (by cases h), below_alloc HB.out _⟩
              · have m2b := decide_eq_false m2
                by_cases m3 : X.f1 > 100
                · have m3b := decide_eq_true m3
                  clear d0 d5 e1 m2 m3
                  go_wp2_with fail
                  go_ret
                  exact ⟨false, rfl, fun h => (by cases h), below_alloc HB.out _⟩
                · have m3b := decide_eq_false m3
                  by_cases z0 : X.f1 = 0
                  · obtain ⟨z0a, z0b⟩ := beqs z0
                    omega
                  · obtain ⟨z0a, z0b⟩ := bnes z0
                    obtain ⟨e2a, e2b⟩ := bnes (show X.f0 ≠ 2 by omega)
                    have HOK := Aside0.mk (show ItemOk X from ⟨by omega, by omega, fun _ => by omega, fun _ => by omega, fun h => absurd e1 h, fun h => by omega⟩)
                    clear d0 d5 e1 m2 m3 z0
                    go_wp2_with fail
                    have HBa := Aside0.mk (below_alloc HB.out (.cells #[.int .i64 X.f0, .int .i64 X.f1, .slice Ao X.f2.length cko] 31))
                    go_roundg (gk - 1)
                    case measure => have := HK.out; omega
                    case rel => exact ⟨j + 1, by go_num, ⟨by have := HK.out; omega⟩, ⟨fun q hq => by
                      rcases Nat.lt_or_ge q j with h | h
                      · exact HI.out q h
                      · have : q = j := by omega
                        subst this; rw [← HX.out]; exact HOK.out⟩, HBa⟩
            · obtain ⟨e1a, e1b⟩ := bnes e1
              by_cases z0 : X.f1 = 0
              · obtain ⟨z0a, z0b⟩ := beqs z0
                by_cases e2 : X.f0 = 2
                · obtain ⟨e2a, e2b⟩ := beqs e2
                  by_cases l0 : (X.f2.length : Int) > 0
                  · have l0b := decide_eq_true l0
                    have l0n : 0 < X.f2.length := by omega
                    clear d0 d5 e1 z0 e2 l0
                    go_wp2_with fail
                    go_ret
                    exact ⟨false, rfl, fun h => (by cases h), below_alloc HB.out _⟩
                  · have l0b := decide_eq_false l0
                    have l0n : ¬ 0 < X.f2.length := by omega
                    have HOK := Aside0.mk (show ItemOk X from ⟨by omega, by omega, fun h => absurd h e1, fun h => absurd h e1, fun _ => z0, fun _ => List.eq_nil_of_length_eq_zero (by omega)⟩)
                    clear d0 d5 e1 z0 e2 l0
                    go_wp2_with fail
                    have HBa := Aside0.mk (below_alloc HB.out (.cells #[.int .i64 X.f0, .int .i64 X.f1, .slice Ao X.f2.length cko] 31))
                    go_roundg (gk - 1)
                    case measure => have := HK.out; omega
                    case rel => exact ⟨j + 1, by go_num, ⟨by have := HK.out; omega⟩, ⟨fun q hq => by
                      rcases Nat.lt_or_ge q j with h | h
                      · exact HI.out q h
                      · have : q = j := by omega
                        subst this; rw [← HX.out]; exact HOK.out⟩, HBa⟩
                · obtain ⟨e2a, e2b⟩ := bnes e2
                  have HOK := Aside0.mk (show ItemOk X from ⟨by omega, by omega, fun h => absurd h e1, fun h => absurd h e1, fun _ => z0, fun h => absurd h e2⟩)
                  clear d0 d5 e1 z0 e2
                  go_wp2_with fail
                  have HBa := Aside0.mk (below_alloc HB.out (.cells #[.int .i64 X.f0, .int .i64 X.f1, .slice Ao X.f2.length cko] 31))
                  go_roundg (gk - 1)
                  case measure => have := HK.out; omega
                  case rel => exact ⟨j + 1, by go_num, ⟨by have := HK.out; omega⟩, ⟨fun q hq => by
                    rcases Nat.lt_or_ge q j with h | h
                    · exact HI.out q h
                    · have : q = j := by omega
                      subst this; rw [← HX.out]; exact HOK.out⟩, HBa⟩
              · obtain ⟨z0a, z0b⟩ := bnes z0
                clear d0 d5 e1 z0
                go_wp2_with fail
                go_ret
                exact ⟨false, rfl, fun h => (by cases h), below_alloc HB.out _⟩
      · have hcj := decide_eq_false cj
        have hcj2 : decide (j < p.length) = false := decide_eq_false (by omega)
        have HIT := Aside0.mk (show ∀ x ∈ p, ItemOk x from fun x hx => by
          obtain ⟨i, hi, rfl⟩ := List.mem_iff_getElem.1 hx
          have h := HI.out i (by omega)
          unfold itA at h
          rwa [List.getD_eq_getElem?_getD, List.getElem?_eq_getElem hi] at h)
        clear HI HK cj
        obtain ⟨ko, ho⟩ := owners_f p HL.out HIT.out
        have HO := Aside0.mk ho
        clear ho
        go_wp2_with fail
        refine (spec_Package_owners.calls ko _ _ p _ _ (Kd.C_below HR0.out HB.out) HC0.out HO.out).mono ?_
        rintro e w1 ⟨v20, rfl, hv20, hb20⟩
        obtain ⟨A20, c20, rfl, hl20, hC20⟩ := Kd.R_reads hv20
        have HB1 := Aside0.mk (below_step HB.out hb20)
        have HTL := Aside0.mk (ownersL_length p)
        clear hv20 hb20 hl20 hC20 HB hcj hcj2
        obtain ⟨tt, htt⟩ : ∃ tt, tt = (ownersL p).length := ⟨_, rfl⟩
        rw [← htt]
        have HTT := Aside0.mk (show tt = totN p by rw [htt]; exact HTL.out)
        clear htt HTL
        by_cases c2 : (tt : Int) > 4096
        · have c2b := decide_eq_true c2
          have c2n : 4096 < tt := by omega
          clear c2
          go_wp2_with fail
          go_ret
          exact ⟨false, rfl, fun h => (by cases h), HB1.out⟩
        · have c2b := decide_eq_false c2
          have c2n : ¬ 4096 < tt := by omega
          have HT := Aside0.mk (show tt ≤ 4096 by omega)
          clear c2
          go_wp2_with fail
          clear c2n c2b
          go_loopg [73] p.length (fun kq v73 w' => ∃ (j : Nat), v73 = .int .i64 (j : Int) ∧ Aside0 (kq + j = p.length) ∧ Aside0 (∀ i, i < j → ∀ r ∈ refsN p i, 0 ≤ r ∧ r < (tt : Int)) ∧ Aside0 (Below w.heap.size w w'))
          case atStart => exact ⟨0, rfl, ⟨by omega⟩, ⟨fun i h => by omega⟩, HB1⟩
          case round =>
            clear HB1
            obtain ⟨j, rfl, HK, HI, HB⟩ := hrel
            by_cases cj : (j : Int) < (p.length : Int)
            · have hjr : j < p.length := by omega
              have hcj := decide_eq_true cj
              have hj0 : (0 : Int) ≤ (j : Int) := by omega
              obtain ⟨ad, Ao, cko, e, hy0, hy1, hy2, hlo, hCo⟩ := at_It HR0.out (j : Int) hj0 cj
              subst e
              replace hy0 := (HB.out.cell (World.block_lt_of_cell? w _ hy0)).trans hy0
              replace hy1 := (HB.out.cell (World.block_lt_of_cell? w _ hy1)).trans hy1
              replace hy2 := (HB.out.cell (World.block_lt_of_cell? w _ hy2)).trans hy2
              rw [Int.toNat_natCast] at hy0 hy1 hy2
              rw [rd_It_nat] at hy0 hy1 hy2 hlo hCo
              have HC := Aside0.mk hCo
              have HLX := Aside0.mk (HSH.out _ (itA_mem hjr))
              clear hlo hCo cj
              obtain ⟨X, hX⟩ : ∃ X, X = itA p j := ⟨_, rfl⟩
              rw [← hX] at hy0 hy1 hy2 HC HLX
              have HX := Aside0.mk hX
              clear hX
              have hn64 : (j : Int) + 1 ≤ 9223372036854775807 := by have := HL.out; omega
              go_wp2_with fail
              have HBi := Aside0.mk (below_alloc HB.out (.cells #[.int .i64 X.f0, .int .i64 X.f1, .slice Ao X.f2.length cko] 31))
              clear hy0 hy1 hy2 hcj HB
              obtain ⟨n1, rfl⟩ : ∃ n1, n1 = gk := ⟨_, rfl⟩
              go_loopg [80] (n1 + X.f2.length) (fun kq v80 w' => ∃ (i : Nat), v80 = .int .i64 (i : Int) ∧ Aside0 (kq + i = n1 + X.f2.length) ∧ Aside0 (i ≤ X.f2.length) ∧ Aside0 (∀ q, q < i → 0 ≤ X.f2.getD q 0 ∧ X.f2.getD q 0 < (tt : Int)) ∧ Aside0 (Below w.heap.size w w'))
              case atStart => exact ⟨0, rfl, ⟨by omega⟩, ⟨by omega⟩, ⟨fun i h => by omega⟩, HBi⟩
              case round =>
                clear HBi
                obtain ⟨i, rfl, HK2, HIL, HQ, HB⟩ := hrel
                by_cases ci : (i : Int) < (X.f2.length : Int)
                · have hci := decide_eq_true ci
                  have hir : i < X.f2.length := by omega
                  obtain ⟨ar, hA, hxr⟩ := Kd.at_int HC.out (i : Int) (by omega) ci
                  rw [Int.toNat_natCast] at hxr
                  subst hA
                  replace hxr := (HB.out.cell (World.block_lt_of_cell? w _ hxr)).trans hxr
                  have hi64 : (i : Int) + 1 ≤ 9223372036854775807 := by have := HLX.out; omega
                  obtain ⟨rr, hrr⟩ : ∃ rr, rr = rd X.f2 (i : Int) := ⟨_, rfl⟩
                  rw [← hrr] at hxr
                  have HRR := Aside0.mk (show rr = X.f2.getD i 0 by rw [hrr]; unfold rd; rw [Int.toNat_natCast])
                  clear hrr ci
                  by_cases d1 : rr < 0
                  · have d1b := decide_eq_true d1
                    go_wp2_with fail
                    go_ret
                    exact ⟨false, rfl, fun h => (by cases h), HB.out⟩
                  · have d1b := decide_eq_false d1
                    by_cases d2 : rr ≥ (tt : Int)
                    · have d2b := decide_eq_true d2
                      go_wp2_with fail
                      go_ret
                      exact ⟨false, rfl, fun h => (by cases h), HB.out⟩
                    · have d2b := decide_eq_false d2
                      have HD := Aside0.mk (show 0 ≤ rr ∧ rr < (tt : Int) by omega)
                      go_wp2_with fail
                      go_roundg (gk - 1)
                      case measure => have := HK2.out; omega
                      case rel => exact ⟨i + 1, by go_num, ⟨by have := HK2.out; omega⟩, ⟨by omega⟩, ⟨fun q hq => by
                        rcases Nat.lt_or_ge q i with h | h
                        · exact HQ.out q h
                        · have : q = i := by omega
                          subst this; rw [← HRR.out]; exact HD.out⟩, HB⟩
                · have hci := decide_eq_false ci
                  have hci2 : decide (i < X.f2.length) = false := decide_eq_false (by omega)
                  have HIE := Aside0.mk (show i = X.f2.length by have := HIL.out; omega)
                  clear ci
                  go_wp2_with fail
                  go_roundg (n1 - 1)
                  case measure => have := HK.out; omega
                  case rel => exact ⟨j + 1, by go_num, ⟨by have := HK.out; omega⟩, ⟨fun q hq => by
                    rcases Nat.lt_or_ge q j with h | h
                    · exact HI.out q h
                    · have : q = j := by omega
                      subst this
                      intro r hr
                      unfold refsN at hr
                      rw [← HX.out] at hr
                      obtain ⟨u, hu, rfl⟩ := List.mem_iff_getElem.1 hr
                      have h2 := HQ.out u (by rw [HIE.out]; exact hu)
                      rwa [List.getD_eq_getElem?_getD, List.getElem?_eq_getElem hu] at h2⟩, HB⟩
            · have hcj := decide_eq_false cj
              have hcj2 : decide (j < p.length) = false := decide_eq_false (by omega)
              have HP := Aside0.mk (show PkgOk p from ⟨HL.out, HIT.out, by rw [← HTT.out]; exact HT.out, fun x hx => by
                obtain ⟨i, hi, rfl⟩ := List.mem_iff_getElem.1 hx
                have h := HI.out i (by omega)
                unfold refsN itA at h
                rw [List.getD_eq_getElem?_getD, List.getElem?_eq_getElem hi, HTT.out] at h
                exact h, HSH.out⟩)
              clear HI HK cj
              go_wp2_with fail
              clear hcj hcj2
              go_loopg [95] p.length (fun kq v95 w' => ∃ (j : Nat), v95 = .int .i64 (j : Int) ∧ Aside0 (kq + j = p.length) ∧ Aside0 (∀ k : Nat, k < j → (itA p k).f0 = 4 → ¬ Reach (fun _ => true) p k (startN p k)) ∧ Aside0 (Below w.heap.size w w'))
              case atStart => exact ⟨0, rfl, ⟨by omega⟩, ⟨fun i h => by omega⟩, HB⟩
              case round =>
                clear HB
                obtain ⟨j, rfl, HK, HI, HB⟩ := hrel
                by_cases cj : (j : Int) < (p.length : Int)
                · have hjr : j < p.length := by omega
                  have hcj := decide_eq_true cj
                  have hj0 : (0 : Int) ≤ (j : Int) := by omega
                  obtain ⟨ad, Ao, cko, e, hy0, hy1, hy2, hlo, hCo⟩ := at_It HR0.out (j : Int) hj0 cj
                  subst e
                  replace hy0 := (HB.out.cell (World.block_lt_of_cell? w _ hy0)).trans hy0
                  replace hy1 := (HB.out.cell (World.block_lt_of_cell? w _ hy1)).trans hy1
                  replace hy2 := (HB.out.cell (World.block_lt_of_cell? w _ hy2)).trans hy2
                  rw [Int.toNat_natCast] at hy0 hy1 hy2
                  rw [rd_It_nat] at hy0 hy1 hy2 hlo hCo
                  clear hlo hCo cj
                  obtain ⟨X, hX⟩ : ∃ X, X = itA p j := ⟨_, rfl⟩
                  rw [← hX] at hy0 hy1 hy2
                  have HX := Aside0.mk hX
                  clear hX
                  have hn64 : (j : Int) + 1 ≤ 9223372036854775807 := by have := HL.out; omega
                  by_cases c4 : X.f0 = 4
                  · obtain ⟨c4a, c4b⟩ := beqs c4
                    have C4 := Aside0.mk c4
                    clear c4
                    obtain ⟨kf, out, h1, h2, h3⟩ := reach_f (fun _ => true) HP.out j hjr
                    obtain ⟨kb, hob⟩ := Objects_f p HL.out HIT.out j hjr
                    have H1 := Aside0.mk h1
                    have H2 := Aside0.mk h2
                    have H3 := Aside0.mk h3
                    have HOB := Aside0.mk hob
                    clear h1 h2 h3 hob
                    go_wp2_with fail
                    have HBa := Aside0.mk (below_alloc HB.out (.cells #[.int .i64 X.f0, .int .i64 X.f1, .slice Ao X.f2.length cko] 31))
                    clear hy0 hy1 hy2 HB
                    refine (reached_calls follows_fit kf _ _ p (j : Int) (ownersL p) ko out _ (Kd.C_below HR0.out HBa.out) HC0.out hj0 (by omega) HO.out (by have := HSH.out _ (itA_mem hjr); rw [rd_It_nat]; omega) (by have := ownersL_length p; have := HT.out; have := HTT.out; omega) H1.out).mono ?_
                    rintro e w3 ⟨v21, rfl, hv21, hb21⟩
                    obtain ⟨A21, c21, rfl, hl21, hC21⟩ := Kd.R_reads hv21
                    have HB3 := Aside0.mk (below_step HBa.out hb21)
                    have HC21 := Aside0.mk hC21
                    clear hv21 hb21 hl21 hC21 HBa
                    go_wp2_with fail
                    refine (spec_Package_Objects.calls kb _ _ p (j : Int) _ _ (Kd.C_below HR0.out HB3.out) HC0.out HOB.out).mono ?_
                    rintro e w4 ⟨v22, rfl, hv22, hb22⟩
                    obtain ⟨A22, c22, rfl, hl22, hC22⟩ := Kd.R_reads hv22
                    have hol := objsL_length p j
                    have hpos := (HIT.out _ (itA_mem hjr)).objN_pos
                    obtain ⟨a22, rfl, hx22⟩ := Kd.at_int hC22 0 (Int.le_refl 0) (by omega)
                    have hx22a : w4.cell? a22 = some (.int .i64 (startN p j : Int)) := by
                      have e0 : rd (objsL p j) 0 = (startN p j : Int) := by
                        unfold rd objsL
                        rw [show Int.toNat 0 = 0 from rfl, List.getD_eq_getElem?_getD, List.getElem?_map, List.getElem?_range (by omega)]; rfl
                      rw [e0] at hx22; exact hx22
                    have hst : startN p j < totN p := by
                      have h5 := startN_mono p (j := j + 1) (k := p.length) (by omega) (Nat.le_refl _)
                      rw [startN_succ p j hjr] at h5
                      unfold totN; omega
                    have hlpos : 0 < (objsL p j).length := by omega
                    obtain ⟨a21, hA21, hx21⟩ := Kd.at_bool HC21.out (startN p j : Int) (by omega) (by rw [H2.out]; omega)
                    subst hA21
                    rw [Int.toNat_natCast] at hx21
                    replace hx21 := (hb22.cell (World.block_lt_of_cell? w3 _ hx21)).trans hx21
                    have hso : (startN p j : Int) < (out.length : Int) := by rw [H2.out]; omega
                    have hso2 : startN p j < out.length := by rw [H2.out]; omega
                    have HB4 := Aside0.mk (below_step HB3.out hb22)
                    have HST := Aside0.mk hst
                    clear hx22 hv22 hb22 hl22 hC22 hol hpos hst
                    by_cases cb : rdb out (startN p j : Int) = true
                    · have hx21b : w4.cell? (a21.add (startN p j)) = some (.bool true) := by rw [hx21]; exact congrArg (fun b => some (Value.bool b)) cb
                      clear hx21 cb
                      go_wp2_with fail
                      go_ret
                      exact ⟨false, rfl, fun h => (by cases h), HB4.out⟩
                    · have hx21b : w4.cell? (a21.add (startN p j)) = some (.bool false) := by rw [hx21]; exact congrArg (fun b => some (Value.bool b)) (Bool.eq_false_iff.mpr cb)
                      have CB := Aside0.mk cb
                      clear hx21 cb
                      go_wp2_with fail
                      go_roundg (gk - 1)
                      case measure => have := HK.out; omega
                      case rel => exact ⟨j + 1, by go_num, ⟨by have := HK.out; omega⟩, ⟨fun q hq h4 => by
                        rcases Nat.lt_or_ge q j with h | h
                        · exact HI.out q h h4
                        · have : q = j := by omega
                          subst this
                          exact fun hR => CB.out ((H3.out _ HST.out).2 hR)⟩, HB4⟩
                  · obtain ⟨c4a, c4b⟩ := bnes c4
                    have C4 := Aside0.mk c4
                    clear c4
                    go_wp2_with fail
                    have HBa := Aside0.mk (below_alloc HB.out (.cells #[.int .i64 X.f0, .int .i64 X.f1, .slice Ao X.f2.length cko] 31))
                    go_roundg (gk - 1)
                    case measure => have := HK.out; omega
                    case rel => exact ⟨j + 1, by go_num, ⟨by have := HK.out; omega⟩, ⟨fun q hq h4 => by
                      rcases Nat.lt_or_ge q j with h | h
                      · exact HI.out q h h4
                      · have : q = j := by omega
                        subst this
                        rw [← HX.out] at h4
                        exact absurd h4 C4.out⟩, HBa⟩
                · have hcj := decide_eq_false cj
                  have hcj2 : decide (j < p.length) = false := decide_eq_false (by omega)
                  have HF := Aside0.mk (show FitP p from ⟨HP.out, fun k hk => HI.out k (by omega)⟩)
                  clear cj
                  go_wp2_with fail
                  go_ret
                  exact ⟨true, rfl, fun _ => HF.out, HB.out⟩

end Go.Proofs.YtgaadjgfjiljjaaGreat
