/- Plain: what read, given, zzFits1, Count, refers answer. Conditions: those that each theorem names. -/
import Derived.Test.YtgaadjgfjiljjaaGreatXc
import Derived.Test.YtgaadjgfjiljjaaGreatXr
namespace Go.Proofs.YtgaadjgfjiljjaaGreat
open Go.RowKit Go.Proofs.YtgaadjgfjiljjaaGreatW.PrintWords
set_option linter.unusedVariables false
set_option linter.unusedSimpArgs false

theorem up_f {α : Type} {f : Nat → Option α} (hm : ∀ k, LeO (f k) (f (k + 1))) {a b : Nat} (h : a ≤ b) {r : α} (hr : f a = some r) : f b = some r := by
  induction h with
  | refl => exact hr
  | step _ ih => exact hm _ _ ih
theorem take_snoc_it (l : List It) (i : Nat) (h : i < l.length) : l.take i ++ [(⟨(itA l i).f0, (itA l i).f1, (itA l i).f2⟩ : It)] = l.take (i + 1) := by
  rw [List.take_add_one, List.getElem?_eq_getElem h]
  unfold itA
  rw [List.getD_eq_getElem?_getD, List.getElem?_eq_getElem h]; rfl
theorem read_l0 (l : List It) (hl : l.length ≤ 2147483647) (d : Nat) : ∀ i : Nat, i + d = l.length → laws_read.l0 (d + 1) (l.take i) l (l.length : Int) (i : Int) = some l := by
  induction d with
  | zero =>
    intro i hi
    unfold laws_read.l0
    rw [if_neg (by omega), show i = l.length by omega, List.take_length]
  | succ d ih =>
    intro i hi
    unfold laws_read.l0
    rw [if_pos (by omega), if_pos (by omega), if_pos (by omega), if_pos (by rw [List.length_take]; omega), rd_It_nat, take_snoc_it l i (by omega), show wrap64 ((i : Int) + 1) = ((i + 1 : Nat) : Int) by unfold wrap64; omega]
    exact ih (i + 1) (by omega)
theorem read_f (l : List It) (hl : l.length ≤ 2147483647) : ∃ k, laws_read.f k l = some l := ⟨l.length + 1, read_l0 l hl l.length 0 (by omega)⟩
theorem given_l0 (l : List It) (hl : l.length ≤ 2147483647) (d : Nat) : ∀ i : Nat, i + d = l.length → laws_given.l0 (d + 1) (l.take i) l (l.length : Int) (i : Int) = some l := by
  induction d with
  | zero =>
    intro i hi
    unfold laws_given.l0
    rw [if_neg (by omega), show i = l.length by omega, List.take_length]
  | succ d ih =>
    intro i hi
    unfold laws_given.l0
    rw [if_pos (by omega), if_pos (by omega), if_pos (by omega), if_pos (by rw [List.length_take]; omega), rd_It_nat, take_snoc_it l i (by omega), show wrap64 ((i : Int) + 1) = ((i + 1 : Nat) : Int) by unfold wrap64; omega]
    exact ih (i + 1) (by omega)
theorem given_f (l : List It) (hl : l.length ≤ 2147483647) : ∃ k, laws_given.f k l = some l := ⟨l.length + 1, given_l0 l hl l.length 0 (by omega)⟩

theorem fits2_f (a b : Int) (l : List Int) : laws_zzFits2.f a b l = some (decide ((l.length : Int) ≤ 2147483647)) := by
  unfold laws_zzFits2.f
  by_cases c : (l.length : Int) ≤ 2147483647
  · rw [if_neg (Int.not_lt.2 c), decide_eq_true c]
  · rw [if_pos (Int.not_le.1 c), decide_eq_false c]
theorem fits_l0 (l : List It) (hl : (l.length : Int) ≤ 2147483647) (d : Nat) : ∀ i : Nat, i + d = l.length → ∃ r, laws_zzFits1.l0 (d + 1) l (l.length : Int) (i : Int) = some r ∧ (r = true → ∀ j : Nat, i ≤ j → j < l.length → ((itA l j).f2.length : Int) ≤ 2147483647) := by
  induction d with
  | zero =>
    intro i hi
    refine ⟨true, ?_, fun _ j h1 h2 => by omega⟩
    unfold laws_zzFits1.l0
    rw [if_neg (by omega)]
  | succ d ih =>
    intro i hi
    obtain ⟨r, h1, h2⟩ := ih (i + 1) (by omega)
    have hw : wrap64 ((i : Int) + 1) = ((i + 1 : Nat) : Int) := by unfold wrap64; omega
    unfold laws_zzFits1.l0
    rw [if_pos (by omega), if_pos (by omega), if_pos (by omega), rd_It_nat, fits2_f, Option.bind_some, hw, h1]
    generalize hb : decide (((itA l i).f2.length : Int) ≤ 2147483647) = b
    cases b with
    | false => exact ⟨false, rfl, fun h => (by cases h)⟩
    | true =>
      refine ⟨r, rfl, fun h j hj1 hj2 => ?_⟩
      by_cases e : j = i
      · rw [e]; exact of_decide_eq_true hb
      · exact h2 h j (by omega) hj2
theorem fits_f (l : List It) : ∃ k r, laws_zzFits1.f k l = some r ∧ (r = true → l.length ≤ 2147483647 ∧ ∀ x ∈ l, x.f2.length ≤ 2147483647) := by
  by_cases c : (l.length : Int) > 2147483647
  · refine ⟨0, false, ?_, fun h => (by cases h)⟩
    unfold laws_zzFits1.f
    rw [if_pos c]
  · obtain ⟨r, h1, h2⟩ := fits_l0 l (Int.not_lt.1 c) l.length 0 (by omega)
    refine ⟨l.length + 1, r, ?_, fun h => ⟨Int.ofNat_le.1 (Int.not_lt.1 c), fun x hx => ?_⟩⟩
    · unfold laws_zzFits1.f
      rw [if_neg c]; exact h1
    · obtain ⟨j, hj, e⟩ := List.getElem_of_mem hx
      have h3 := h2 h j (by omega) hj
      unfold itA at h3
      rw [List.getD_eq_getElem?_getD, List.getElem?_eq_getElem hj] at h3
      rw [← e]; exact Int.ofNat_le.1 h3

theorem count_f {p : List It} (hp : PkgOk p) : ∃ k, spec_Package_Count.f k p = some (totN p : Int) := by
  obtain ⟨k, h⟩ := owners_f p hp.len hp.items
  refine ⟨k, ?_⟩
  unfold spec_Package_Count.f
  rw [h]
  simp [ownersL_length]

/-- A loop over references: the object's number is n. -/
theorem refers_l2 (p : List It) (n t0 : Int) (L x22 : List Int) (x14 x15 x23 x24 a b : Int) (c : List Int) (x10 : Int) (hL : L.length ≤ 2147483647) (k1 : Nat) (r1 : Bool) (h1 : laws_refers.l1 k1 p n t0 p x14 x15 x22 x23 (wrap64 (x24 + 1)) a b c = some r1) (d : Nat) : ∀ j : Nat, j + d = L.length →
    ∃ k r, laws_refers.l2 k p n t0 x10 p x14 x15 x22 x23 x24 L (L.length : Int) (j : Int) a b c = some r ∧ (r = true ↔ (x10 = n ∧ ∃ q : Nat, j ≤ q ∧ q < L.length ∧ rd L (q : Int) = t0) ∨ r1 = true) := by
  induction d with
  | zero =>
    intro j hj
    refine ⟨k1 + 1, r1, ?_, ⟨fun h => .inr h, fun h => by rcases h with ⟨_, q, h2, h3, _⟩ | h; omega; exact h⟩⟩
    unfold laws_refers.l2
    rw [if_neg (by omega), h1]
  | succ d ih =>
    intro j hj
    obtain ⟨k, r, hk, hr⟩ := ih (j + 1) (by omega)
    have hw : wrap64 ((j : Int) + 1) = ((j + 1 : Nat) : Int) := by unfold wrap64; omega
    by_cases e1 : x10 = n
    · by_cases e2 : rd L (j : Int) = t0
      · refine ⟨k + 1, true, ?_, ⟨fun _ => .inl ⟨e1, j, Nat.le_refl _, by omega, e2⟩, fun _ => rfl⟩⟩
        unfold laws_refers.l2
        rw [if_pos (by omega), if_pos (by omega), if_pos (by omega), if_pos e1, if_pos e2]
      · refine ⟨k + 1, r, ?_, hr.trans ?_⟩
        · unfold laws_refers.l2
          rw [if_pos (by omega), if_pos (by omega), if_pos (by omega), if_pos e1, if_neg e2, hw, hk]
        · constructor
          · rintro (⟨h1, q, h2, h3⟩ | h)
            · exact .inl ⟨h1, q, by omega, h3⟩
            · exact .inr h
          · rintro (⟨h1, q, h2, h3, h4⟩ | h)
            · refine .inl ⟨h1, q, ?_, h3, h4⟩
              by_cases e : q = j
              · subst e; exact absurd h4 e2
              · omega
            · exact .inr h
    · refine ⟨k + 1, r, ?_, hr.trans ?_⟩
      · unfold laws_refers.l2
        rw [if_pos (by omega), if_pos (by omega), if_pos (by omega), if_neg e1, hw, hk]
      · constructor
        · rintro (h | h)
          · exact absurd h.1 e1
          · exact .inr h
        · rintro (h | h)
          · exact absurd h.1 e1
          · exact .inr h
theorem refers_l1 (p : List It) (n t0 : Int) (x14 x15 a b : Int) (c x22 : List Int) (hc : c.length ≤ 2147483647) (hx : x22.length ≤ 2147483647) (k1 : Nat) (r1 : Bool) (h1 : laws_refers.l0 k1 p n t0 p x14 (wrap64 (x15 + 1)) = some r1) (d : Nat) : ∀ j : Nat, j + d = x22.length →
    ∃ k r, laws_refers.l1 k p n t0 p x14 x15 x22 (x22.length : Int) (j : Int) a b c = some r ∧ (r = true ↔ ((∃ q : Nat, j ≤ q ∧ q < x22.length ∧ rd x22 (q : Int) = n) ∧ ∃ q : Nat, q < c.length ∧ rd c (q : Int) = t0) ∨ r1 = true) := by
  induction d with
  | zero =>
    intro j hj
    refine ⟨k1 + 1, r1, ?_, ⟨fun h => .inr h, fun h => by rcases h with ⟨⟨q, h2, h3, _⟩, _⟩ | h; omega; exact h⟩⟩
    unfold laws_refers.l1
    rw [if_neg (by omega), h1]
  | succ d ih =>
    intro j hj
    obtain ⟨k, r, hk, hr⟩ := ih (j + 1) (by omega)
    have hw : wrap64 ((j : Int) + 1) = ((j + 1 : Nat) : Int) := by unfold wrap64; omega
    rw [← hw] at hk
    obtain ⟨k2, r2, hk2, hr2⟩ := refers_l2 p n t0 c x22 x14 x15 (x22.length : Int) (j : Int) a b c (rd x22 (j : Int)) hc k r hk c.length 0 (by omega)
    rw [show ((0 : Nat) : Int) = (0 : Int) from rfl] at hk2
    refine ⟨k2 + 1, r2, ?_, hr2.trans ?_⟩
    · unfold laws_refers.l1
      rw [if_pos (by omega), if_pos (by omega), if_pos (by omega)]
      exact hk2
    · rw [hr]
      constructor
      · rintro (⟨h1, q, _, h3, h4⟩ | ⟨⟨q, h2, h3, h4⟩, h5⟩ | h)
        · exact .inl ⟨⟨j, Nat.le_refl _, by omega, h1⟩, q, h3, h4⟩
        · exact .inl ⟨⟨q, by omega, h3, h4⟩, h5⟩
        · exact .inr h
      · rintro (⟨⟨q, h2, h3, h4⟩, q', h5, h6⟩ | h)
        · by_cases e : q = j
          · subst e; exact .inl ⟨h4, q', Nat.zero_le _, h5, h6⟩
          · exact .inr (.inl ⟨⟨q, by omega, h3, h4⟩, q', h5, h6⟩)
        · exact .inr (.inr h)
theorem rd_mem {l : List Int} {x : Int} : (∃ q : Nat, q < l.length ∧ rd l (q : Int) = x) ↔ x ∈ l := by
  constructor
  · rintro ⟨q, h1, h2⟩
    unfold rd at h2
    rw [Int.toNat_natCast, List.getD_eq_getElem?_getD, List.getElem?_eq_getElem h1] at h2
    rw [← h2]; exact List.getElem_mem h1
  · intro h
    obtain ⟨q, h1, h2⟩ := List.getElem_of_mem h
    refine ⟨q, h1, ?_⟩
    unfold rd
    rw [Int.toNat_natCast, List.getD_eq_getElem?_getD, List.getElem?_eq_getElem h1]; exact h2
theorem refers_l0 {p : List It} (hp : PkgOk p) (n t0 : Int) (d : Nat) : ∀ j : Nat, j + d = p.length →
    ∃ k r, laws_refers.l0 k p n t0 p (p.length : Int) (j : Int) = some r ∧ (r = true ↔ ∃ m : Nat, j ≤ m ∧ m < p.length ∧ n ∈ objsL p m ∧ t0 ∈ refsN p m) := by
  induction d with
  | zero =>
    intro j hj
    refine ⟨1, false, ?_, ⟨fun h => (by cases h), fun ⟨m, h1, h2, _⟩ => by omega⟩⟩
    unfold laws_refers.l0
    rw [if_neg (by omega)]
  | succ d ih =>
    intro j hj
    have hjp : j < p.length := by omega
    obtain ⟨k, r, hk, hr⟩ := ih (j + 1) (by omega)
    have hl := hp.len
    have hw : wrap64 ((j : Int) + 1) = ((j + 1 : Nat) : Int) := by unfold wrap64; omega
    rw [← hw] at hk
    obtain ⟨ko, ho⟩ := Objects_f p hp.len hp.items j hjp
    have hoL : (objsL p j).length ≤ 2147483647 := by rw [objsL_length]; have := (hp.items _ (itA_mem hjp)).objN_le; omega
    obtain ⟨k1, r1, hk1, hr1⟩ := refers_l1 p n t0 (p.length : Int) (j : Int) (itA p j).f0 (itA p j).f1 (itA p j).f2 (objsL p j) (hp.short _ (itA_mem hjp)) hoL k r hk (objsL p j).length 0 (by omega)
    rw [show ((0 : Nat) : Int) = (0 : Int) from rfl] at hk1
    refine ⟨max ko k1 + 1, r1, ?_, hr1.trans ?_⟩
    · unfold laws_refers.l0
      rw [if_pos (by omega), if_pos (by omega), if_pos (by omega), up_f (f := fun k => spec_Package_Objects.f k p (j : Int)) (fun k => spec_Package_Objects.mono p (j : Int) k) (Nat.le_max_left ko k1) ho]
      simp only [Option.bind_some, rd_It_nat]
      exact up_f (f := fun k => laws_refers.l1 k p n t0 p (p.length : Int) (j : Int) (objsL p j) ((objsL p j).length : Int) 0 (itA p j).f0 (itA p j).f1 (itA p j).f2) (fun k => (laws_refers.mono_l k).2.1 _ _ _ _ _ _ _ _ _ _ _ _) (Nat.le_max_right ko k1) hk1
    · rw [hr]
      have hiff : ((∃ q : Nat, 0 ≤ q ∧ q < (objsL p j).length ∧ rd (objsL p j) (q : Int) = n) ∧ ∃ q : Nat, q < (itA p j).f2.length ∧ rd (itA p j).f2 (q : Int) = t0) ↔ (n ∈ objsL p j ∧ t0 ∈ refsN p j) := by
        rw [rd_mem, ← rd_mem (x := n)]
        unfold refsN
        simp
      rw [hiff]
      constructor
      · rintro (h | ⟨m, h1, h2⟩)
        · exact ⟨j, Nat.le_refl _, hjp, h⟩
        · exact ⟨m, by omega, h2⟩
      · rintro ⟨m, h1, h2, h3⟩
        by_cases e : m = j
        · subst e; exact .inl h3
        · exact .inr ⟨m, by omega, h2, h3⟩
theorem refers_f {p : List It} (hp : PkgOk p) (n : Nat) (hn : n < totN p) (t0 : Int) : ∃ k r, laws_refers.f k p (n : Int) t0 = some r ∧ (r = true ↔ t0 ∈ refsN p (ow p n)) := by
  obtain ⟨k, r, h1, h2⟩ := refers_l0 hp (n : Int) t0 p.length 0 (by omega)
  refine ⟨k, r, h1, h2.trans ?_⟩
  obtain ⟨o1, o2, o3, _⟩ := ow_spec p n hn
  constructor
  · rintro ⟨m, _, h3, h4, h5⟩
    obtain ⟨i, hi, e⟩ := List.mem_map.1 h4
    have hi' := List.mem_range.1 hi
    have := ow_at p m i h3 hi'
    have e2 : startN p m + i = n := by omega
    rw [← e2, this]; exact h5
  · intro h
    exact ⟨ow p n, Nat.zero_le _, o1, List.mem_map.2 ⟨n - startN p (ow p n), List.mem_range.2 (by omega), by omega⟩, h⟩
end Go.Proofs.YtgaadjgfjiljjaaGreat

/- impl.Order (14), order (12), works (13). Conditions: those that each theorem names. -/
namespace Go.Proofs.YtgaadjgfjiljjaaGreat
open Go.RowKit Go.Proofs.YtgaadjgfjiljjaaGreatW.PrintWords Go.Proofs.YtgaadjgfjiljjaaGreatW.PrintLast Go.Proofs.YtgaadjgfjiljjaaGreatW.PrintMore
set_option linter.unusedVariables false
set_option linter.unusedSimpArgs false

def OrderPost (p : List It) (w : World) (e : Ending) (w' : World) : Prop := ∃ (v1 v2 : Value) (outs cys : List (List Nat)) (DJ : Nat → List Nat) (pops : List Nat) (SL : Nat → List Nat) (gl : List Nat), e = .returned (.tuple #[v1, v2]) ∧
  (Kd.slice 3 (Kd.int .i64)).R 28 w' w.heap.size (fun _ => True) v1 (nat2 outs) ∧ (Kd.slice 3 (Kd.int .i64)).R 28 w' w.heap.size (fun _ => True) v2 (nat2 cys) ∧ Below w.heap.size w w' ∧ IOk (ndsL p) outs cys DJ pops SL gl

set_option maxHeartbeats 4000000 in
set_option maxRecDepth 100000 in
theorem Order_of {p : List It} (hp : PkgOk p) (A0 : Option Addr) (c0 : Nat) (w : World) (hr0 : Kd.C kIt w A0 p.length p) (hc0 : p.length ≤ c0) :
    Calls Tryz.prog 14 #[.slice A0 p.length c0] w (OrderPost p w) := by
  have HP := Aside0.mk hp
  have HR0 := Aside0.mk hr0
  have HC0 := Aside0.mk hc0
  clear hp hr0 hc0
  go_enter Tryz.func14, Tryz.ntmps14
  go_wp2_with fail
  refine (nodes_of HP.out _ _ _ HR0.out HC0.out).mono ?_
  rintro e w1 ⟨v1, rfl, hN, hB⟩
  obtain ⟨A1, c1, hv1, hl1, hC1⟩ := Kd.N_reads hN
  subst hv1
  have HC1 := Aside0.mk hC1
  have HL1 := Aside0.mk hl1
  have HB1 := Aside0.mk hB
  clear hN hB hl1 hC1
  go_wp2_with fail
  refine (InitOrder_of (ndsOk_of HP.out) _ _ _ HC1.out HL1.out).mono ?_
  rintro e w2 ⟨v1, v2, outs, cys, DJ, pops, SL, gl, rfl, hR1, hR2, hB2, hI⟩
  have HR1 := Aside0.mk hR1
  have HR2 := Aside0.mk hR2
  have HB2 := Aside0.mk hB2
  have HI := Aside0.mk hI
  obtain ⟨Aa, ca, hva, _, _⟩ := Kd.R_reads hR1
  obtain ⟨Ab, cb, hvb, _, _⟩ := Kd.R_reads hR2
  subst hva hvb
  clear hR1 hR2 hB2 hI
  go_wp2_with fail
  go_ret2
  exact ⟨_, _, outs, cys, DJ, pops, SL, gl, rfl, Kd.R_lower HR1.out HB1.out.size, Kd.R_lower HR2.out HB1.out.size, below_step HB1.out HB2.out, HI.out⟩

def OrdPost (p : List It) (w : World) (e : Ending) (w' : World) : Prop := ∃ (v1 : Value) (outs cys : List (List Nat)) (DJ : Nat → List Nat) (pops : List Nat) (SL : Nat → List Nat) (gl : List Nat), e = .returned (.tuple #[v1, .bool (decide (cys.length = 0))]) ∧
  (Kd.slice 3 (Kd.int .i64)).R 28 w' w.heap.size (fun _ => True) v1 (nat2 outs) ∧ Below w.heap.size w w' ∧ IOk (ndsL p) outs cys DJ pops SL gl

set_option maxHeartbeats 4000000 in
set_option maxRecDepth 100000 in
theorem order_of {p : List It} (hp : PkgOk p) (P0 : Nat → Prop) (A0 : Option Addr) (c0 : Nat) (w : World) (hv : Kd.V kIt 31 w w.heap.size P0 (.slice A0 p.length c0) p) :
    Calls Tryz.prog 12 #[.slice A0 p.length c0] w (OrdPost p w) := by
  obtain ⟨kg, hg⟩ := given_f p (by have := hp.len; omega)
  have HP := Aside0.mk hp
  have HV := Aside0.mk hv
  have HG := Aside0.mk hg
  clear hp hv hg
  go_enter Tryz.func12, Tryz.ntmps12
  go_wp2_with fail
  refine (laws_given.calls kg P0 A0 c0 p p w HV.out HG.out).mono ?_
  rintro e w1 ⟨v1, rfl, hN, hB⟩
  obtain ⟨A1, c1, hv1, hl1, hC1⟩ := Kd.N_reads hN
  subst hv1
  have HC1 := Aside0.mk hC1
  have HL1 := Aside0.mk hl1
  have HB1 := Aside0.mk hB
  clear hN hB hl1 hC1
  go_wp2_with fail
  refine (Order_of HP.out _ _ _ HC1.out HL1.out).mono ?_
  rintro e w2 ⟨v1, v2, outs, cys, DJ, pops, SL, gl, rfl, hR1, hR2, hB2, hI⟩
  have HR1 := Aside0.mk hR1
  have HB2 := Aside0.mk hB2
  have HI := Aside0.mk hI
  obtain ⟨Aa, ca, hva, _, _⟩ := Kd.R_reads hR1
  obtain ⟨Ab, cb, hvb, _, _⟩ := Kd.R_reads hR2
  have hcl : (nat2 cys).length = cys.length := List.length_map ..
  rw [hcl] at hvb
  subst hva hvb
  clear hR1 hR2 hB2 hI hcl
  go_wp2_with fail
  go_ret2
  refine ⟨_, outs, cys, DJ, pops, SL, gl, ?_, Kd.R_lower HR1.out HB1.out.size, below_step HB1.out HB2.out, HI.out⟩
  have hb : ((cys.length : Int) == 0) = decide (cys.length = 0) := by
    cases cys with
    | nil => rfl
    | cons a l => exact (beq_false_of_ne (by simp only [List.length_cons]; omega)).trans (decide_eq_false (by simp)).symm
  rw [hb]
  rfl

/-- The package that works asks about: a variable that refers to another one. -/
def pW : List It := [⟨0, 0, [1]⟩, ⟨0, 0, []⟩]
theorem pW_tot : totN pW = 2 := by decide
theorem pW_ok : PkgOk pW := by
  refine ⟨by decide, fun x hx => ?_, by rw [pW_tot]; omega, fun x hx r hr => ?_, fun x hx => ?_⟩
  · rcases List.mem_cons.1 hx with rfl | hx
    · exact ⟨by decide, by decide, fun h => absurd h (by decide), fun h => absurd h (by decide), fun _ => rfl, fun h => absurd h (by decide)⟩
    · rw [List.mem_singleton.1 hx]
      exact ⟨by decide, by decide, fun h => absurd h (by decide), fun h => absurd h (by decide), fun _ => rfl, fun h => absurd h (by decide)⟩
  · rw [pW_tot]
    rcases List.mem_cons.1 hx with rfl | hx
    · rw [List.mem_singleton.1 hr]; decide
    · rw [List.mem_singleton.1 hx] at hr; cases hr
  · rcases List.mem_cons.1 hx with rfl | hx
    · show 1 ≤ 2147483647; omega
    · rw [List.mem_singleton.1 hx]; show 0 ≤ 2147483647; omega
theorem pW_nds (j : Nat) (hj : j < 2) : rd_Nd (ndsL pW) j = ⟨1, (j : Int), true, 0, if j = 0 then [1] else []⟩ := by
  rcases (show j = 0 ∨ j = 1 by omega) with rfl | rfl <;> rfl
theorem pW_order {outs cys : List (List Nat)} {DJ : Nat → List Nat} {pops : List Nat} {SL : Nat → List Nat} {gl : List Nat} (h : IOk (ndsL pW) outs cys DJ pops SL gl) : cys = [] ∧ nat2 outs = [[1], [0]] := by
  have hlen : (ndsL pW).length = 2 := by rw [ndsL_length]; exact pW_tot
  have hty : ∀ j, j < 2 → tyN (ndsL pW) j = 75 := fun j hj => by
    unfold tyN; rw [pW_nds j hj]; simp
  have hDJ : ∀ j, j < 2 → ∀ k, k ∈ DJ j ↔ (j = 0 ∧ k = 1) := fun j hj k => by
    rw [h.dj j (by omega) k]
    constructor
    · rintro ⟨j', h1, h2, h3⟩
      rw [hlen] at h1
      rcases h2 with h2 | ⟨_, h2⟩
      · rw [h2, pW_nds j hj] at h3
        rcases (show j = 0 ∨ j = 1 by omega) with e | e
        · subst e; simp at h3; exact ⟨rfl, by omega⟩
        · subst e; simp at h3
      · rw [pW_nds j hj] at h2; simp at h2
    · rintro ⟨rfl, rfl⟩
      exact ⟨0, by omega, .inl rfl, by rw [pW_nds 0 (by omega)]; simp⟩
  obtain ⟨PL, hGI⟩ := h.gi
  obtain ⟨di, E, hPu⟩ := h.pu
  have hgl : ∀ i, i ∈ gl ↔ i < 2 := fun i => by
    rw [h.gl_.1 i, hlen]
    exact ⟨fun h => h.1, fun hi => ⟨hi, by rw [hty i hi]; decide⟩⟩
  have hnR : ∀ i, i < 2 → ¬ (i < (ndsL pW).length ∧ tyN (ndsL pW) i = 94) := fun i hi h => by rw [hty i hi] at h; exact absurd h.2 (by decide)
  -- where references lead
  have hVia : ∀ i j, i < 2 → Lead (fun i k => k ∈ DJ i) i j → i = 0 ∧ j = 1 := fun i j hi hl => by
    unfold Lead at hl
    induction hl with
    | base hb => exact (hDJ i hi _).1 hb
    | step _ _ hb ih =>
      have := (hDJ _ (by omega) _).1 hb
      omega
  have hSL : ∀ i, i < 2 → ∀ k, k ∈ SL i ↔ (i = 0 ∧ k = 1) := fun i hi k => by
    constructor
    · intro hk
      exact hVia i k hi (hGI.snd i k (by omega) hk)
    · rintro ⟨rfl, rfl⟩
      exact hGI.cmp 0 1 (by omega) (by omega) (hnR 0 (by omega)) (hnR 1 (by omega)) (.base ((hDJ 0 (by omega) 1).2 ⟨rfl, rfl⟩))
  have hcy : cys = [] := by
    cases hc : cys with
    | nil => rfl
    | cons c l =>
      obtain ⟨x, hx, h1, h2, _, h4, h5, h6⟩ := hPu.cyc c (by rw [hc]; exact List.mem_cons_self)
      exfalso
      have hx2 := (hgl x).1 hx
      cases c with
      | nil => exact h1 rfl
      | cons a t =>
        simp at h4; subst h4
        cases ht : t with
        | nil =>
          rw [ht] at h6
          have := (hDJ a hx2 a).1 (h6 a rfl)
          omega
        | cons b t' =>
          rw [ht] at h5 h6 h2
          have h7 := h5 0 (by simp)
          have hb : b < 2 := by have := h2 b (by simp); omega
          simp at h7
          have h8 := (hDJ b hb a).1 h7
          obtain ⟨z, hz⟩ : ∃ z, (a :: b :: t').getLast? = some z := ⟨_, List.getLast?_eq_some_getLast (by simp)⟩
          have h9 := (hDJ a hx2 z).1 (h6 z hz)
          omega
  refine ⟨hcy, ?_⟩
  have hglp : gl.Perm [0, 1] := (List.perm_ext_iff_of_nodup h.gl_.2 (by decide)).2 (fun i => by rw [hgl i]; simp; omega)
  have hgll : gl.length = 2 := hglp.length_eq
  obtain ⟨x, y, h1, h2, h3⟩ := h.two hgll
  have hpp : pops.Perm gl := by have := hPu.pm; simpa using this
  have hpx : pops = [x, y] := by
    have hpl : pops.length = 2 := hpp.length_eq.trans hgll
    match pops, hpl with
    | [a, b], _ =>
      rcases h3 with h3 | ⟨h3, _⟩
      · simp at h3; subst h3
        have hb : b ∈ [a, y] := (h1.symm.mem_iff.1 (hpp.mem_iff.1 (by simp)))
        have hnd : [a, b].Nodup := hpp.nodup_iff.2 h.gl_.2
        simp at hb hnd
        rcases hb with hb | hb
        · exact absurd hb.symm hnd
        · rw [hb]
      · cases h3
  have hxy : [x, y].Perm [0, 1] := h1.trans hglp
  have hx2 : x < 2 := (hgl x).1 (h1.mem_iff.1 (by simp))
  have hy2 : y < 2 := (hgl y).1 (h1.mem_iff.1 (by simp))
  have hne : x ≠ y := by
    have := hxy.nodup_iff.2 (by decide); simpa using this
  have hS1 : SL 1 = [] := by
    cases hs : SL 1 with
    | nil => rfl
    | cons a l => have := (hSL 1 (by omega) a).1 (by rw [hs]; exact List.mem_cons_self); omega
  have hS0 : 0 < (SL 0).length := List.length_pos_iff_exists_mem.2 ⟨1, (hSL 0 (by omega) 1).2 ⟨rfl, rfl⟩⟩
  have hx1 : x = 1 := by
    rcases (show x = 0 ∨ x = 1 by omega) with e | e
    · exfalso
      have ey : y = 1 := by omega
      subst e ey
      unfold lessN at h2
      simp only [hty 1 (by omega), hty 0 (by omega), hS1, bne_self_eq_false, List.length_nil, Bool.or_eq_false_iff, decide_eq_false_iff_not] at h2
      simp at h2
      rw [h2.1] at hS0
      simp at hS0
    · exact e
  have hy0 : y = 0 := by omega
  have hsim := (hPu.sim (fun j hj => by rw [hlen] at hj; exact ⟨by rw [pW_nds j hj], by rw [pW_nds j hj], hty j hj⟩)).1
  rw [hsim, hpx, hx1, hy0]; rfl

theorem R_lit1 (W : World) (x : Int) (b : Nat) (hb : b ≤ W.heap.size) : (Kd.int .i64).R 3 (W.alloc (.cells #[.int .i64 x] 3)) b (fun k => k = W.heap.size) (.slice (some ⟨W.heap.size, 0, none⟩) 1 1) [x] := by
  refine ⟨fun k hk => by simp [Value.ownBlock] at hk; omega, ?_⟩
  have hr : Reps ((Kd.int .i64).M (W.alloc (.cells #[.int .i64 x] 3)) b (fun k => k = W.heap.size ∧ some k ≠ (Value.slice (some ⟨W.heap.size, 0, none⟩) 1 1).ownBlock)) 1 [x] [.int .i64 x] := ⟨rfl, fun j p hj => by
    rcases j with _ | j
    · simp at hj; subst hj; rfl
    · simp at hj⟩
  exact OwnRow.lit (e := 3) W b hr hb (by simp)
theorem pW_V (w : World) : Kd.V kIt 31 ((w.alloc (.cells #[.int .i64 1] 3)).alloc (.cells #[.int .i64 0, .int .i64 0, .slice (some ⟨w.heap.size, 0, none⟩) 1 1, .int .i64 0, .int .i64 0, .slice none 0 0] 31)) ((w.alloc (.cells #[.int .i64 1] 3)).alloc (.cells #[.int .i64 0, .int .i64 0, .slice (some ⟨w.heap.size, 0, none⟩) 1 1, .int .i64 0, .int .i64 0, .slice none 0 0] 31)).heap.size (fun _ => True) (.slice (some ⟨(w.alloc (.cells #[.int .i64 1] 3)).heap.size, 0, none⟩) pW.length 2) pW := by
  have h1 := R_lit1 w 1 0 (Nat.zero_le _)
  obtain ⟨W1, hW1⟩ : ∃ W1, W1 = w.alloc (.cells #[.int .i64 1] 3) := ⟨_, rfl⟩
  have hs1 : w.heap.size < W1.heap.size := by rw [hW1]; simp
  rw [← hW1] at h1 ⊢
  have h2 := Kd.R_below h1 (below_alloc (Below.refl W1.heap.size W1) (.cells #[.int .i64 0, .int .i64 0, .slice (some ⟨w.heap.size, 0, none⟩) 1 1, .int .i64 0, .int .i64 0, .slice none 0 0] 31))
  refine Kd.R_V (base := 0) (ok := fun _ => True) ⟨fun _ _ => trivial, ?_⟩
  have hr : Reps (kIt.M (W1.alloc (.cells #[.int .i64 0, .int .i64 0, .slice (some ⟨w.heap.size, 0, none⟩) 1 1, .int .i64 0, .int .i64 0, .slice none 0 0] 31)) 0 (fun k => True ∧ some k ≠ (Value.slice (some ⟨W1.heap.size, 0, none⟩) pW.length 2).ownBlock)) 3 pW [.int .i64 0, .int .i64 0, .slice (some ⟨w.heap.size, 0, none⟩) 1 1, .int .i64 0, .int .i64 0, .slice none 0 0] := ⟨rfl, fun j p hj => by
    rcases j with _ | _ | j
    · simp [pW] at hj; subst hj
      refine ⟨[.int .i64 0], [.int .i64 0, .slice (some ⟨w.heap.size, 0, none⟩) 1 1], rfl, rfl, [.int .i64 0], [.slice (some ⟨w.heap.size, 0, none⟩) 1 1], rfl, rfl, ⟨_, rfl, Kd.R_mono h2 (fun k hk => ⟨trivial, fun e => ?_⟩)⟩⟩
      simp [Value.ownBlock] at e; omega
    · simp [pW] at hj; subst hj
      exact ⟨[.int .i64 0], [.int .i64 0, .slice none 0 0], rfl, rfl, [.int .i64 0], [.slice none 0 0], rfl, rfl, ⟨_, rfl, Kd.R_nil _ _ _ _ _⟩⟩
    · simp [pW] at hj⟩
  exact OwnRow.lit (e := 31) W1 0 hr (Nat.zero_le _) (by decide)
/-- The list of lists that works expects. -/
theorem want_C (w : World) : Kd.C (Kd.slice 3 (Kd.int .i64)) (((w.alloc (.cells #[.int .i64 1] 3)).alloc (.cells #[.int .i64 0] 3)).alloc (.cells #[.slice (some ⟨w.heap.size, 0, none⟩) 1 1, .slice (some ⟨(w.alloc (.cells #[.int .i64 1] 3)).heap.size, 0, none⟩) 1 1] 28)) (some ⟨((w.alloc (.cells #[.int .i64 1] 3)).alloc (.cells #[.int .i64 0] 3)).heap.size, 0, none⟩) ([[1], [0]] : List (List Int)).length [[1], [0]] := by
  have h1 := R_lit1 w 1 0 (Nat.zero_le _)
  obtain ⟨W1, hW1⟩ : ∃ W1, W1 = w.alloc (.cells #[.int .i64 1] 3) := ⟨_, rfl⟩
  have hs1 : w.heap.size < W1.heap.size := by rw [hW1]; simp
  rw [← hW1] at h1 ⊢
  have h2 := R_lit1 W1 0 0 (Nat.zero_le _)
  have h1' := Kd.R_below h1 (below_alloc (Below.refl W1.heap.size W1) (.cells #[.int .i64 0] 3))
  obtain ⟨W2, hW2⟩ : ∃ W2, W2 = W1.alloc (.cells #[.int .i64 0] 3) := ⟨_, rfl⟩
  have hs2 : W1.heap.size < W2.heap.size := by rw [hW2]; simp
  rw [← hW2] at h1' h2 ⊢
  obtain ⟨o, ho⟩ : ∃ o : Obj, o = .cells #[.slice (some ⟨w.heap.size, 0, none⟩) 1 1, .slice (some ⟨W1.heap.size, 0, none⟩) 1 1] 28 := ⟨_, rfl⟩
  have h1'' := Kd.R_below h1' (below_alloc (Below.refl W2.heap.size W2) o)
  have h2'' := Kd.R_below h2 (below_alloc (Below.refl W2.heap.size W2) o)
  have hR : (Kd.slice 3 (Kd.int .i64)).R 28 (W2.alloc o) 0 (fun _ => True) (.slice (some ⟨W2.heap.size, 0, none⟩) 2 2) [[1], [0]] := by
    refine ⟨fun _ _ => trivial, ?_⟩
    have hr : Reps ((Kd.slice 3 (Kd.int .i64)).M (W2.alloc o) 0 (fun k => True ∧ some k ≠ (Value.slice (some ⟨W2.heap.size, 0, none⟩) 2 2).ownBlock)) 1 [[1], [0]] [.slice (some ⟨w.heap.size, 0, none⟩) 1 1, .slice (some ⟨W1.heap.size, 0, none⟩) 1 1] := ⟨rfl, fun j p hj => by
      rcases j with _ | _ | j
      · simp at hj; subst hj
        refine ⟨_, rfl, Kd.R_mono h1'' (fun k hk => ⟨trivial, fun e => ?_⟩)⟩
        simp [Value.ownBlock] at e; omega
      · simp at hj; subst hj
        refine ⟨_, rfl, Kd.R_mono h2'' (fun k hk => ⟨trivial, fun e => ?_⟩)⟩
        simp [Value.ownBlock] at e; omega
      · simp at hj⟩
    rw [ho] at *
    exact OwnRow.lit (e := 28) W2 0 hr (Nat.zero_le _) (by decide)
  rw [← ho]
  exact (Kd.R_reads' hR).2.2

end Go.Proofs.YtgaadjgfjiljjaaGreat

/- works (13). No condition. -/
namespace Go.Proofs.YtgaadjgfjiljjaaGreat
open Go.RowKit Go.Proofs.YtgaadjgfjiljjaaGreatW.PrintWords Go.Proofs.YtgaadjgfjiljjaaGreatW.PrintLast Go.Proofs.YtgaadjgfjiljjaaGreatW.PrintMore
set_option linter.unusedVariables false
set_option linter.unusedSimpArgs false

theorem lists_two : laws_lists.f 10 [[1], [0]] [[1], [0]] = some true := by first | rfl | kernel_rfl | simp [laws_lists.f, laws_lists.l0, laws_ints.f, laws_ints.l0, wrap64, rd, rd_L1]
set_option maxHeartbeats 400000 in
set_option maxRecDepth 100000 in
theorem works_of (w : World) : Calls Tryz.prog 13 #[] w fun e w' => e = .returned (.bool true) ∧ Below w.heap.size w w' := by
  have hu31 := Tryz.underlying31
  have hV := pW_V w
  have hs1 : (w.alloc (.cells #[.int .i64 1] 3)).heap.size = w.heap.size + 1 := by simp
  rw [hs1] at hV
  have HV := Aside0.mk hV
  clear hV hs1
  have HBW := Aside0.mk (show Below w.heap.size w ((w.alloc (.cells #[.int .i64 1] 3)).alloc (.cells #[.int .i64 0, .int .i64 0, .slice (some ⟨w.heap.size, 0, none⟩) 1 1, .int .i64 0, .int .i64 0, .slice none 0 0] 31)) from below_alloc (below_alloc (Below.refl _ _) _) _)
  go_enter Tryz.func13, Tryz.ntmps13
  go_wp2_with fail
  refine (order_of pW_ok (fun _ => True) _ _ _ HV.out).mono ?_
  rintro e w2 ⟨v1, outs, cys, DJ, pops, SL, gl, rfl, hR1, hB, hI⟩
  have hpw := pW_order hI
  obtain ⟨rfl, hno⟩ := hpw
  rw [hno] at hR1
  obtain ⟨A1, c1, hv1, hl1, hC1⟩ := Kd.R_reads hR1
  subst hv1
  have HB2 := Aside0.mk (show Below w.heap.size w w2 from below_step HBW.out hB)
  have HC1 := Aside0.mk hC1
  have HL1 := Aside0.mk hl1
  clear hR1 hB hI hno hC1 hl1 HV
  have hW := want_C w2
  have hs2 : ((w2.alloc (.cells #[.int .i64 1] 3)).alloc (.cells #[.int .i64 0] 3)).heap.size = w2.heap.size + 1 + 1 := by simp
  have hs3 : (w2.alloc (.cells #[.int .i64 1] 3)).heap.size = w2.heap.size + 1 := by simp
  rw [hs2, hs3] at hW
  have HW := Aside0.mk hW
  have HBX := Aside0.mk (show Below w2.heap.size w2 (((w2.alloc (.cells #[.int .i64 1] 3)).alloc (.cells #[.int .i64 0] 3)).alloc (.cells #[.slice (some ⟨w2.heap.size, 0, none⟩) 1 1, .slice (some ⟨w2.heap.size + 1, 0, none⟩) 1 1] 28)) from below_alloc (below_alloc (below_alloc (Below.refl _ _) _) _) _)
  clear hW hs2 hs3
  go_wp2_with fail
  refine (laws_lists.calls 10 A1 c1 [[1], [0]] _ 2 [[1], [0]] true _ (Kd.C_below HC1.out HBX.out) HL1.out HW.out (Nat.le_refl _) lists_two).mono ?_
  rintro e w3 ⟨rfl, hB3⟩
  have HB3 := Aside0.mk (show Below w.heap.size w w3 from below_step HB2.out (below_step HBX.out hB3.below))
  clear hB3
  go_wp2_with fail
  go_ret
  exact ⟨rfl, HB3.out⟩
end Go.Proofs.YtgaadjgfjiljjaaGreat
