/- initOrder (37): the walk. Conditions: what build leaves (Built). -/
import Derived.Test.YtgaadjgfjiljjaaGreatXp
import Derived.Deep.CutRange
import Derived.Deep.RegionHeld3
import Derived.StillTailTactics
namespace Go.Proofs.YtgaadjgfjiljjaaGreat
open Go.RowKit Go.Proofs.YtgaadjgfjiljjaaGreatW.PrintWords Go.Proofs.YtgaadjgfjiljjaaGreatW.PrintLast Go.Proofs.YtgaadjgfjiljjaaGreatW.PrintMore
open Go.ChangeMaps (setBlock)
set_option linter.unusedVariables false
set_option linter.unusedSimpArgs false

/-- How many of what i depends on are still to come. -/
def cnt (SL : Nat → List Nat) (pops : List Nat) (i : Nat) : Int := (((SL i).filter fun j => decide (j ∉ pops)).length : Int)
theorem cnt_nil (SL : Nat → List Nat) (i : Nat) : cnt SL [] i = ((SL i).length : Int) := by
  unfold cnt; rw [List.filter_eq_self.2 (fun j _ => by simp)]
theorem cnt_pos {SL : Nat → List Nat} {pops : List Nat} {i : Nat} : 0 < cnt SL pops i ↔ ∃ j ∈ SL i, j ∉ pops := by
  unfold cnt
  constructor
  · intro h
    obtain ⟨j, hj⟩ := List.length_pos_iff_exists_mem.1 (show 0 < ((SL i).filter fun j => decide (j ∉ pops)).length by omega)
    exact ⟨j, (List.mem_filter.1 hj).1, by simpa using (List.mem_filter.1 hj).2⟩
  · rintro ⟨j, h1, h2⟩
    have hm : j ∈ (SL i).filter fun j => decide (j ∉ pops) := List.mem_filter.2 ⟨h1, by simpa using h2⟩
    have := List.length_pos_iff_exists_mem.2 ⟨j, hm⟩
    omega
theorem filter_drop {L : List Nat} (hn : L.Nodup) (p : Nat → Bool) (x : Nat) (hx : p x = true) :
    ((L.filter fun j => p j && decide (j ≠ x)).length : Int) = ((L.filter p).length : Int) - (if x ∈ L then 1 else 0) := by
  induction L with
  | nil => simp
  | cons a L ih =>
    have hn' := List.nodup_cons.1 hn
    have ih := ih hn'.2
    by_cases e : a = x
    · subst e
      rw [List.filter_cons_of_neg (by simp), List.filter_cons_of_pos (by exact hx), if_pos (List.mem_cons_self), ih, if_neg hn'.1]
      simp
    · have hm : (x ∈ a :: L) ↔ x ∈ L := by simp [Ne.symm e]
      by_cases hp : p a = true
      · rw [List.filter_cons_of_pos (by simp [hp, e]), List.filter_cons_of_pos (by exact hp)]
        simp only [List.length_cons, hm]
        push_cast
        rw [ih]; omega
      · rw [List.filter_cons_of_neg (by simp [hp]), List.filter_cons_of_neg (by exact hp)]
        simp only [hm]
        exact ih
theorem cnt_snoc {SL : Nat → List Nat} {pops : List Nat} {i x : Nat} (hn : (SL i).Nodup) (hx : x ∉ pops) : cnt SL (pops ++ [x]) i = cnt SL pops i - (if x ∈ SL i then 1 else 0) := by
  unfold cnt
  rw [← filter_drop hn (fun j => decide (j ∉ pops)) x (by simpa using hx)]
  congr 2
  apply List.filter_congr
  intro j _
  simp [Bool.and_comm]

/-- What is plain about the loop's head. -/
structure Pu (nds : List Nd) (di : Nat → Nat) (DJ SL : Nat → List Nat) (gl pops q : List Nat) (outs cys : List (List Nat)) (E : List Nat) : Prop where
  pm : (pops ++ q).Perm gl
  cyc : ∀ c ∈ cys, ∃ x ∈ gl, c ≠ [] ∧ (∀ k ∈ c, k < nds.length) ∧ c.length ≤ nds.length ∧ PathOk DJ x x c
  rep : ∀ a x b, pops = a ++ x :: b → (∃ j ∈ SL x, j ∉ a) → cys = [] → ∃ T : List Nat, x ∈ T ∧ ∀ y ∈ T, ∀ k ∈ DJ y, k ≠ x ∧ k ∈ T
  ol : outs.length ≤ pops.length ∧ cys.length ≤ pops.length
  oo : ∀ o ∈ outs, o.length ≤ nds.length ∧ ∀ m ∈ o, m < nds.length
  sim : (∀ j, j < nds.length → (rd_Nd nds j).gr = 0 ∧ (rd_Nd nds j).ini = true ∧ tyN nds j = 75) → outs = pops.map (fun x => [x]) ∧ E = pops.map di
/-- Two nodes: which one goes first. -/
def Two (nds : List Nd) (SL : Nat → List Nat) (gl pops q : List Nat) : Prop := gl.length = 2 → ∃ x y, [x, y].Perm gl ∧ lessN (tyN nds) (fun i => (rd_Nd nds i).od) (fun i => ((SL i).length : Int)) y x = false ∧ (pops.head? = some x ∨ (pops = [] ∧ q = [x, y]))

/-- What initOrder leaves. -/
def IOPost (nds : List Nd) (base B nf ck lb om : Nat) (ob di dm : Nat → Nat) (DJ : Nat → List Nat) (w0 : World) (e : Ending) (w' : World) : Prop := ∃ (outs cys : List (List Nat)) (sv cv : Value) (gl pops : List Nat) (PL SL : Nat → List Nat) (E : List Nat) (G0 : Nat),
  e = .returned (.tuple #[]) ∧ Built nds base B nf ck lb om ob di dm DJ w' ∧ w'.heap[nf]? = some (.cells #[sv] 65 (0, 0)) ∧ w'.heap[ck]? = some (.cells #[.map (some om), .pointer (some ⟨nf, 0, none⟩), cv] 70 (0, 0)) ∧
  Outs nds ob base G0 outs cys sv cv w' ∧ base ≤ G0 ∧ G0 ≤ w'.heap.size ∧ Touch (fun k => k = nf ∨ k = ck) w0 w' ∧ Pu nds di DJ SL gl pops [] outs cys E ∧ Two nds SL gl pops [] ∧
  (∀ i, i ∈ gl ↔ (i < nds.length ∧ tyN nds i ≠ 94)) ∧ gl.Nodup ∧ GI nds.length (fun i k => k ∈ DJ i) (fun x => x < nds.length ∧ tyN nds x = 94) PL SL

section
variable {nds : List Nd} {base B nf ck lb om : Nat} {ob di dm : Nat → Nat} {DJ : Nat → List Nat}

theorem qr_start {G0 c2 : Nat} {gn : Nat → Nat} {pb sb : Nat → Option Nat} {PL SL : Nat → List Nat} {ix nd : Nat → Int} {gl : List Nat} {A2 : Option Addr} {w2 : World} (hBu : Built nds base B nf ck lb om ob di dm DJ w2) (hlen : nds.length ≤ 4096) (hB : B ≤ G0) (hsz : G0 ≤ w2.heap.size)
    (hG : Gr nds.length G0 (tyN nds) ob gn pb sb PL SL ix nd w2) (hgl : (∀ i, i ∈ gl ↔ (i < nds.length ∧ tyN nds i ≠ 94)) ∧ gl.Nodup) (hix : ∀ t, t < gl.length → ix (gl.getD t 0) = (t : Int) ∧ nd (gl.getD t 0) = ((SL (gl.getD t 0)).length : Int))
    (hR : (Kd.raw 1).R 102 w2 G0 (fun _ => True) (.slice A2 gl.length c2) (gl.map fun k => [pkey gn k])) (hle : gl.length ≤ c2) (hpos : 0 < gl.length) :
    ∃ sl, A2 = some ⟨sl, 0, none⟩ ∧ Qr nds.length G0 (tyN nds) ob gn pb sb PL SL (fun i => (rd_Nd nds i).od) nd gl w2.heap.size sl c2 gl (w2.alloc (.cells #[.slice A2 gl.length c2] 97)) := by
  obtain ⟨g, cap, cel, hv, hg, hcel, hc⟩ := rows_cells hR hpos
  injection hv with hA _ hcap
  subst hA
  have hT : Touch (fun _ => False) w2 (w2.alloc (.cells #[.slice (some ⟨g, 0, none⟩) gl.length c2] 97)) := (Touch.refl _ _).alloc _
  refine ⟨g, rfl, ⟨⟨ix, hG.new hT, fun t ht => (hix t ht).1, fun i hi hn => absurd hi hn⟩, heap_alloc_new w2 _, ⟨cel, hT.blk hcel (fun h => h), fun t ht => ?_⟩, fun i hi => hi, fun i hi => ?_, hgl.2, hle, hlen, fun i hi => ⟨?_, hT.cell ?_ (fun h => h)⟩, hsz, Kd.R_base hR g rfl⟩⟩
  · rw [← (hc t ht).1, blk_cell hcel t]
  · have h1 := (hgl.1 i).1 hi
    refine ⟨h1.1, ?_⟩
    rcases tyN_oty nds i with h | h | h
    · exact .inl h
    · exact .inr h
    · exact absurd h h1.2
  · have := (hBu.obj i hi).2.1; omega
  · exact (blk_cell (hBu.obj i hi).2.2 1).trans rfl

theorem getD_spec {gl : List Nat} {f g : Nat → Int} (h : ∀ t, t < gl.length → f (gl.getD t 0) = g (gl.getD t 0)) : ∀ i ∈ gl, f i = g i := fun i hi => by
  obtain ⟨t, ht, e⟩ := mem_getD hi
  rw [← e]; exact h t ht

theorem lessN_congr {ty : Nat → Nat} {od nd nd' : Nat → Int} {i j : Nat} (hi : nd i = nd' i) (hj : nd j = nd' j) : lessN ty od nd i j = lessN ty od nd' i j := by unfold lessN; rw [hi, hj]
theorem two_start {SL : Nat → List Nat} {gl q : List Nat} {nd : Nat → Int} (hnd : ∀ i ∈ gl, nd i = cnt SL [] i) (hp : q.Perm gl) (h2 : gl.length = 2 → lessN (tyN nds) (fun i => (rd_Nd nds i).od) nd (q.getD 1 0) (q.getD 0 0) = false) : Two nds SL gl [] q := fun hl => by
  have hql : q.length = 2 := hp.length_eq.trans hl
  match q, hql with
  | [x, y], _ =>
    refine ⟨x, y, hp, ?_, .inr ⟨rfl, rfl⟩⟩
    have h := h2 hl
    have hx := hnd x (hp.mem_iff.1 (by simp))
    have hy := hnd y (hp.mem_iff.1 (by simp))
    rw [cnt_nil] at hx hy
    rw [← h]
    exact (lessN_congr hy hx).symm

theorem init_nil (A : Option Addr) (c pq : Nat) (w : World) (h : w.cell? ⟨pq, 0, none⟩ = some (.slice A 0 c)) : Calls Tryz.prog 41 #[.iface 100 (.pointer (some ⟨pq, 0, none⟩))] w fun e w' => e = .returned (.tuple #[]) ∧ w' = w := by
  have hm := meth_len pq _ w h
  go_enter Tryz.func41, Tryz.ntmps41
  go_wp2_with fail
  refine (len_calls _ _ _ _).mono ?_
  rintro e w1 ⟨rfl, rfl⟩
  go_wp2_with fail
  go_loopg [3] 0 (fun kq v3 w' => v3 = .int .i64 (-1) ∧ w' = w1)
  case atStart => exact ⟨rfl, rfl⟩
  case round =>
    obtain ⟨rfl, rfl⟩ := hrel
    go_wp2_with fail
    go_end0
    exact ⟨rfl, rfl⟩

theorem nd_step {gl D : List Nat} {nd nd2 : Nat → Int} {j : Nat} (h : ∀ i ∈ gl, nd2 i = nd i - if i ∈ D then 1 else 0) (hj : j ∉ D) : ∀ i ∈ gl, updI nd2 j (nd2 j - 1) i = nd i - if i ∈ D ++ [j] then 1 else 0 := fun i hi => by
  unfold updI
  by_cases e : i = j
  · subst e
    rw [if_pos rfl, h i hi, if_neg hj, if_pos (by simp)]
    omega
  · rw [if_neg e, h i hi]
    simp [e]
theorem cnt_bound {SL : Nat → List Nat} {pops : List Nat} {i n : Nat} (h : (∀ k ∈ SL i, k < n) ∧ (SL i).Nodup) (hn : n ≤ 4096) : 0 ≤ cnt SL pops i ∧ cnt SL pops i ≤ 4096 := by
  have h1 := nodup_lt_length n _ h.2 h.1
  have h2 := List.length_filter_le (fun j => decide (j ∉ pops)) (SL i)
  unfold cnt; omega
theorem nd_done {G0 : Nat} {gn : Nat → Nat} {pb sb : Nat → Option Nat} {PL SL : Nat → List Nat} {gl pops q q' q2 : List Nat} {pq sl cap : Nat} {nd nd2 nd3 : Nat → Int} {outs cys : List (List Nat)} {E D : List Nat} {x : Nat} {w : World}
    (hgl : (∀ i, i ∈ gl ↔ (i < nds.length ∧ tyN nds i ≠ 94)) ∧ gl.Nodup) (hGI : GI nds.length (fun i k => k ∈ DJ i) (fun x => x < nds.length ∧ tyN nds x = 94) PL SL) (hQ : Qr nds.length G0 (tyN nds) ob gn pb sb PL SL (fun i => (rd_Nd nds i).od) nd3 gl pq sl cap q2 w)
    (hP : Pu nds di DJ SL gl pops q outs cys E) (hp : (x :: q').Perm q) (hx : x ∈ gl) (hnd : ∀ i ∈ gl, nd i = cnt SL pops i) (hnd2 : ∀ i ∈ gl, nd2 i = nd i - if i ∈ D then 1 else 0) (hall : ∀ i ∈ PL x, i ∈ D) (hsub : ∀ i ∈ D, i ∈ PL x) :
    ∀ i ∈ gl, nd2 i = cnt SL (pops ++ [x]) i := fun i hi => by
  obtain ⟨ix, hG, _, _⟩ := hQ.gr
  have hin := (hgl.1 i).1 hi
  have hxn := (hgl.1 x).1 hx
  have hxp : x ∉ pops := fun h => by
    have hnd := hP.pm.nodup_iff.2 hgl.2
    have := (List.nodup_append.1 hnd).2.2 x h x (hp.mem_iff.1 List.mem_cons_self)
    exact this rfl
  rw [hnd2 i hi, hnd i hi, cnt_snoc (hG.sl i hin.1).2 hxp]
  have hiff : i ∈ D ↔ x ∈ SL i := by
    rw [hGI.inv i x hin.1 hxn.1 (fun h => hin.2 h.2) (fun h => hxn.2 h.2)]
    exact ⟨hsub i, hall i⟩
  by_cases e : i ∈ D
  · rw [if_pos e, if_pos (hiff.1 e)]
  · rw [if_neg e, if_neg (fun h => e (hiff.2 h))]
theorem Qr.set_nd {n G0 : Nat} {ty ob gn : Nat → Nat} {pb sb : Nat → Option Nat} {PL SL : Nat → List Nat} {od nd : Nat → Int} {gl : List Nat} {pq sl cap : Nat} {q : List Nat} {w : World}
    (h : Qr n G0 ty ob gn pb sb PL SL od nd gl pq sl cap q w) {j : Nat} (hj : j < n) (v : Int) : Qr n G0 ty ob gn pb sb PL SL od (updI nd j v) gl pq sl cap q (w.setCell ⟨gn j, 4, none⟩ (.int .i64 v)) := by
  obtain ⟨ix, h1, h2⟩ := h.gr
  obtain ⟨cells, h3, h4⟩ := h.sl_
  have hT : Touch (fun k => k = gn j) w (w.setCell ⟨gn j, 4, none⟩ (.int .i64 v)) := Touch.set_ (S := fun k => k = gn j) (Touch.refl _ _) (fun _ => rfl) _
  exact ⟨⟨ix, h1.set4 hj v, h2⟩, hT.blk h.pq_ (h.pq_ne hj), ⟨cells, hT.blk h3 (h.sl_ne hj), h4⟩, h.q_, h.g_, h.nq, h.le, h.n_, fun i hi => ⟨(h.od_ i hi).1, hT.cell (h.od_ i hi).2 (fun e => by have e' : ob i = gn j := e; have := (h.od_ i hi).1; have := (h1.node j hj).1; omega)⟩, h.hi⟩
/-- An iterator over a node's predecessors outlasts the heap's calls. -/
theorem iter_qs {G0 : Nat} {gn : Nat → Nat} {pb sb : Nat → Option Nat} {PL SL : Nat → List Nat} {gl : List Nat} {pq sl cap em : Nat} {w0 : World} {outs cys : List (List Nat)} {E : List Nat} {nd : Nat → Int} {q : List Nat} {sv cv : Value} {w w' : World} {r : Nat} {m : Option Nat} {L D : List Nat}
    (h : Cm nds base B nf ck lb om ob di dm DJ G0 gn pb sb PL SL gl pq sl cap em w0 outs cys E nd q sv cv w) (hI : IterO w r m (pkey gn) yes L D) (hT : Touch (Qs nds.length gn pq sl) w w') : IterO w' r m (pkey gn) yes L D := by
  refine iter_keeps hI hT (fun k hk m a s c e => ?_) (fun b hb hk => ?_)
  · rcases (h.qs hk).2 with ⟨cells, hc⟩ | ⟨cells, hc⟩ | ⟨cells, hc⟩ <;> rw [e] at hc <;> cases hc
  · subst hb
    obtain ⟨_, _, _, bo, cl, si, cz, hmb, _⟩ := hI
    rcases (h.qs hk).2 with ⟨cells, hc⟩ | ⟨cells, hc⟩ | ⟨cells, hc⟩ <;> rw [hmb] at hc <;> cases hc
theorem ta75v (a : Nat) (w : World) : (Instr.typeAssert (.iface 75 (.pointer (some ⟨a, 0, none⟩))) 105 75 true).run Tryz.prog w = .ok (.tuple #[.pointer (some ⟨a, 0, none⟩), .bool true]) w := assert_yes (xT := 105) Tryz.underlying75 _ w true
theorem ta90v (a : Nat) (w : World) : (Instr.typeAssert (.iface 90 (.pointer (some ⟨a, 0, none⟩))) 105 75 true).run Tryz.prog w = .ok (.tuple #[.pointer none, .bool false]) w := assert_no (xT := 105) Tryz.underlying75 (show 90 ≠ 75 by decide) zero75 _ w
theorem look_nil {w : World} (h : Built nds base B nf ck lb om ob di dm DJ w) : (Instr.lookup 66 (.map (some om)) (.iface 75 (.pointer none)) false).run Tryz.prog w = .ok (.pointer none) w := by
  have hka := key_okey_nil (w := w) (ty := tyN nds) (ob := ob) (K := 82) Tryz.underlying82 75 (.inr (.inl rfl)) (dkey di) (List.range nds.length)
  exact lookup_absent (P := Tryz.prog) (T := 66) Tryz.underlying66 h.om_ hka (fun _ _ => rfl) (zero89 w) false
theorem two_step {SL : Nat → List Nat} {gl pops q q' q2 : List Nat} {x : Nat} (h : Two nds SL gl pops q) (hp : (x :: q').Perm q) (hx : q.head? = some x) (hn : gl.Nodup) : Two nds SL gl (pops ++ [x]) q2 := fun hl => by
  obtain ⟨a, b, h1, h2, h3⟩ := h hl
  refine ⟨a, b, h1, h2, .inl ?_⟩
  rcases h3 with h3 | ⟨h3, h4⟩
  · cases pops with
    | nil => cases h3
    | cons c l => exact h3
  · subst h3 h4; exact hx.symm
theorem pu_step {SL : Nat → List Nat} {gl pops q q' q2 : List Nat} {nd : Nat → Int} {outs cys outs' cys' : List (List Nat)} {E E' : List Nat} {x : Nat} (hP : Pu nds di DJ SL gl pops q outs cys E) (hp : (x :: q').Perm q) (hq : q2.Perm q') (hx : x ∈ gl) (hnd : ∀ i ∈ gl, nd i = cnt SL pops i)
    (hc : cys' = cys ∨ ∃ c, cys' = cys ++ [c] ∧ c ≠ [] ∧ (∀ k ∈ c, k < nds.length) ∧ c.length ≤ nds.length ∧ PathOk DJ x x c) (hr : 0 < nd x → cys' = [] → ∃ T : List Nat, x ∈ T ∧ ∀ y ∈ T, ∀ k ∈ DJ y, k ≠ x ∧ k ∈ T)
    (ho : (outs' = outs ∧ E' = E ∧ ¬ ∀ j, j < nds.length → (rd_Nd nds j).gr = 0 ∧ (rd_Nd nds j).ini = true ∧ tyN nds j = 75) ∨ ∃ o, outs' = outs ++ [o] ∧ E' = E ++ [di x] ∧ o.length ≤ nds.length ∧ (∀ m ∈ o, m < nds.length) ∧ ((rd_Nd nds x).gr = 0 → o = [x])) (hxn : x < nds.length) :
    Pu nds di DJ SL gl (pops ++ [x]) q2 outs' cys' E' := by
  have hsub : cys' = [] → cys = [] := fun h => by
    rcases hc with hc | ⟨c, hc, _⟩
    · rw [← hc]; exact h
    · rw [hc] at h; simp at h
  refine ⟨?_, fun c hcm => ?_, fun a y b h hj hcn => ?_, ?_, fun o hom => ?_, fun hs => ?_⟩
  · refine List.Perm.trans ?_ hP.pm
    rw [List.append_assoc]
    exact List.Perm.append_left pops (((hq.cons x)).trans hp)
  · rcases hc with hc | ⟨c', hc, h1⟩
    · rw [hc] at hcm; exact hP.cyc c hcm
    · rw [hc] at hcm
      rcases List.mem_append.1 hcm with h | h
      · exact hP.cyc c h
      · rw [List.mem_singleton.1 h]; exact ⟨x, hx, h1⟩
  · by_cases hb : b = []
    · subst hb
      have h' : pops ++ [x] = a ++ [y] := h
      have h1 := List.append_inj_left' h' rfl
      have h2 := List.append_inj_right' h' rfl
      injection h2 with h2 _
      subst h1 h2
      exact hr (by rw [hnd x hx]; exact cnt_pos.2 hj) hcn
    · obtain ⟨b', z, hb'⟩ : ∃ b' z, b = b' ++ [z] := ⟨b.dropLast, b.getLast hb, (List.dropLast_concat_getLast hb).symm⟩
      rw [hb', ← List.cons_append, ← List.append_assoc] at h
      have h1 := List.append_inj_left' h rfl
      exact hP.rep a y b' h1 hj (hsub hcn)
  · have h1 := hP.ol
    constructor
    · rcases ho with ⟨h, _⟩ | ⟨o, h, _⟩
      · rw [h]; simp; omega
      · rw [h]; simp; omega
    · rcases hc with h | ⟨c, h, _⟩
      · rw [h]; simp; omega
      · rw [h]; simp; omega
  · rcases ho with ⟨h, _⟩ | ⟨o', h, _, h2, h3, _⟩
    · rw [h] at hom; exact hP.oo o hom
    · rw [h] at hom
      rcases List.mem_append.1 hom with h | h
      · exact hP.oo o h
      · rw [List.mem_singleton.1 h]; exact ⟨h2, h3⟩
  · have h1 := hP.sim hs
    rcases ho with ⟨_, _, h⟩ | ⟨o', h, hE, _, _, h4⟩
    · exact absurd hs h
    · rw [h, hE, h1.1, h1.2, h4 (hs x hxn).1]
      simp

theorem lv_cases {α : Type} {d : Kd α} {e b : Nat} {ok : Nat → Prop} {v : Value} {xs : List α} {w : World} (h : d.R e w b ok v xs) : (v = .slice none 0 0 ∧ xs = []) ∨ ∃ g cap, v = .slice (some ⟨g, 0, none⟩) xs.length cap := by
  obtain ⟨_, inner, ho, hr⟩ := h
  rcases ho.2 with ⟨h1, h2⟩ | ⟨g, cap, cur, h1, _⟩
  · exact .inl ⟨h1, List.length_eq_zero_iff.1 (by first | exact h2 | exact h2.1 | exact h2.2)⟩
  · exact .inr ⟨g, cap, h1⟩
theorem key_di {G0 : Nat} {gn : Nat → Nat} {pb sb : Nat → Option Nat} {PL SL : Nat → List Nat} {gl : List Nat} {pq sl cap em : Nat} {w0 : World} {outs cys : List (List Nat)} {E : List Nat} {nd : Nat → Int} {q : List Nat} {sv cv : Value} {w : World}
    (h : Cm nds base B nf ck lb om ob di dm DJ G0 gn pb sb PL SL gl pq sl cap em w0 outs cys E nd q sv cv w) {x : Nat} (hx : x < nds.length) : KeyAt Tryz.prog 89 w (pkey id) yes E (pkey id (di x)) (fun i => decide (i = di x)) := by
  have hrow : ∀ i, i < nds.length → IsRow w (di i) := fun i hi => by
    obtain ⟨_, _, _, _, lv, ms, hd, _⟩ := h.bu.dec i hi
    exact ⟨_, _, hd⟩
  exact key_pkey (K := 89) Tryz.underlying89 infoS93 id yes E (di x) (hrow x hx) (fun b hb => by obtain ⟨i, hi, e⟩ := h.eE b hb; rw [e]; exact hrow i hi) (fun i _ e => e.symm)
theorem told_once {SL : Nat → List Nat} {gl pops q q' : List Nat} {outs cys : List (List Nat)} {E : List Nat} {x : Nat} {w : World} (hgl : (∀ i, i ∈ gl ↔ (i < nds.length ∧ tyN nds i ≠ 94)) ∧ gl.Nodup) (hP : Pu nds di DJ SL gl pops q outs cys E) (hp : (x :: q').Perm q)
    (hB : Built nds base B nf ck lb om ob di dm DJ w) (hs : ∀ j, j < nds.length → (rd_Nd nds j).gr = 0 ∧ (rd_Nd nds j).ini = true ∧ tyN nds j = 75) (hx : x < nds.length) (he : di x ∈ E) : False := by
  rw [(hP.sim hs).2] at he
  obtain ⟨y, hy, e⟩ := List.mem_map.1 he
  have hyg : y ∈ gl := hP.pm.mem_iff.1 (List.mem_append.2 (.inl hy))
  rcases hB.same y x ((hgl.1 y).1 hyg).1 hx e with h | ⟨h1, h2⟩
  · subst h
    have hnd := hP.pm.nodup_iff.2 hgl.2
    exact (List.nodup_append.1 hnd).2.2 y hy y (hp.mem_iff.1 List.mem_cons_self) rfl
  · rw [h1, (hs x hx).1] at h2; omega

theorem R_one75 (W : World) (x : Value) (b : Nat) (hx : x.oneCell' = true) (hb : b ≤ W.heap.size) : (Kd.raw 1).R 75 (W.alloc (.cells #[x] 75)) b (fun _ => True) (.slice (some ⟨W.heap.size, 0, none⟩) 1 1) [[x]] := by
  refine ⟨fun _ _ => trivial, ?_⟩
  have hr : Reps (fun (y : List Value) cs => cs = y ∧ cs.length = 1 ∧ ∀ u ∈ cs, u.oneCell' = true) 1 [[x]] [x] := ⟨rfl, fun j p hj => by
    rcases j with _ | j
    · simp at hj; subst hj
      exact ⟨rfl, rfl, fun u hu => by simp at hu; subst hu; exact hx⟩
    · simp at hj⟩
  exact OwnRow.lit (e := 75) W b hr hb (by simp)
theorem cm_rep {G0 : Nat} {gn : Nat → Nat} {pb sb : Nat → Option Nat} {PL SL : Nat → List Nat} {gl : List Nat} {pq sl cap em : Nat} {w0 : World} {outs cys : List (List Nat)} {E : List Nat} {nd : Nat → Int} {q : List Nat} {sv cv v cv' : Value} {w w' : World} {cvs : List Value} {c : List Nat}
    (h : Cm nds base B nf ck lb om ob di dm DJ G0 gn pb sb PL SL gl pq sl cap em w0 outs cys E nd q sv cv w) (h4 : cvs.length = cys.length) (hcR : (Kd.raw 1).R 60 w G0 (fun _ => True) cv (cvs.map fun v => [v])) (h6 : ∀ t, t < cys.length → (Kd.raw 1).R 82 w base (fun _ => True) (cvs.getD t .nilIface) ((cys.getD t []).map fun k => [okey (tyN nds) ob k]))
    (hv : (Kd.raw 1).R 82 w base (fun _ => True) v (c.map fun k => [okey (tyN nds) ob k])) (hck : w'.heap[ck]? = some (.cells #[.map (some om), .pointer (some ⟨nf, 0, none⟩), cv'] 70 (0, 0))) (hR : (Kd.raw 1).R 60 w' G0 (fun _ => True) cv' ((cvs.map fun v => [v]) ++ [[v]]))
    (hT : Touch (fun k => k = ck ∨ cv.ownBlock = some k) w w') : Cm nds base B nf ck lb om ob di dm DJ G0 gn pb sb PL SL gl pq sl cap em w0 outs (cys ++ [c]) E nd q sv cv' w' := by
  have hown : ∀ k, cv.ownBlock = some k → G0 ≤ k ∧ Ty w k 60 := fun k hk => ⟨Kd.R_base hcR k hk, Kd.R_typed hcR k hk⟩
  have hckT : Ty w ck 70 := ⟨_, h.ck_⟩
  have hnfT : Ty w nf 65 := ⟨_, h.nf_⟩
  refine h.put (hT.mono (fun k _ hk => ?_)) (hT.blk h.nf_ (fun hk => ?_)) hck (h.out_.add_cy h4 h6 hT (fun k hk => ?_) (by rw [List.map_append]; exact hR) hv)
  · rcases hk with hk | hk
    · exact .inl (.inr hk)
    · exact .inr ⟨(hown k hk).1, .inl (hown k hk).2⟩
  · rcases hk with hk | hk
    · have := h.bu.lt; omega
    · exact absurd (hnfT.uniq (hown _ hk).2) (by decide)
  · rcases hk with rfl | hk
    · exact ⟨fun e => absurd (hckT.uniq e) (by decide), fun e => absurd (hckT.uniq e) (by decide), fun e => absurd (hckT.uniq e) (by decide), fun e => absurd (hckT.uniq e) (by decide)⟩
    · have := (hown k hk).2
      exact ⟨fun e => absurd (this.uniq e) (by decide), fun e => absurd (this.uniq e) (by decide), fun e => absurd (this.uniq e) (by decide), fun e => absurd (this.uniq e) (by decide)⟩

theorem eql_sl {P : Program} (w : World) {t e : TypeId} (a : Option Addr) (n c : Nat) (ht : P.underlying t = some (.slice e)) :
    (binOp .eql t (.slice a n c) (.slice none 0 0)).run P w = .ok (.bool a.isNone) w := by
  have h : ∀ d : Nat, (Op.equalIn (d + 1) t (.slice a n c) (.slice none 0 0)).run P w = .ok a.isNone w := fun d => by
    cases a <;> simp [Op.equalIn, run_underlying ht]
  simp only [binOp]
  simp [Op.equal, Op.maxDepth, h 9999]
theorem eql_sl_some {P : Program} (w : World) {t e : TypeId} (a : Addr) (n c : Nat) (ht : P.underlying t = some (.slice e)) :
    (binOp .eql t (.slice (some a) n c) (.slice none 0 0)).run P w = .ok (.bool false) w := by
  have h : ∀ d : Nat, (Op.equalIn (d + 1) t (.slice (some a) n c) (.slice none 0 0)).run P w = .ok false w := fun d => by
    simp [Op.equalIn, run_underlying ht]
  simp only [binOp]
  simp [Op.equal, Op.maxDepth, h 9999]
theorem eql_sl_nil {P : Program} (w : World) {t e : TypeId} (n c : Nat) (ht : P.underlying t = some (.slice e)) :
    (binOp .eql t (.slice none n c) (.slice none 0 0)).run P w = .ok (.bool true) w := by
  have h : ∀ d : Nat, (Op.equalIn (d + 1) t (.slice none n c) (.slice none 0 0)).run P w = .ok true w := fun d => by
    simp [Op.equalIn, run_underlying ht]
  simp only [binOp]
  simp [Op.equal, Op.maxDepth, h 9999]
theorem cm_ini {G0 : Nat} {gn : Nat → Nat} {pb sb : Nat → Option Nat} {PL SL : Nat → List Nat} {gl : List Nat} {pq sl cap em : Nat} {w0 : World} {outs cys : List (List Nat)} {E : List Nat} {nd : Nat → Int} {q : List Nat} {sv cv sv' lv : Value} {w w7 : World} {ips o : List Nat} {ip : Nat}
    (h : Cm nds base B nf ck lb om ob di dm DJ G0 gn pb sb PL SL gl pq sl cap em w0 outs cys E nd q sv cv w) (h1 : ips.length = outs.length) (hiR : (Kd.raw 1).R 71 w G0 (fun _ => True) sv (ips.map fun b => [pkey id b]))
    (h3 : ∀ t, t < outs.length → ∃ lv, w.heap[ips.getD t 0]? = some (.cells #[lv] 74 (0, 0)) ∧ (Kd.raw 1).R 75 w base (fun _ => True) lv ((outs.getD t []).map fun m => [pkey ob m]))
    (hT : Touch (fun k => sv.ownBlock = some k) w w7) (hR : (Kd.raw 1).R 71 w7 G0 (fun _ => True) sv' ((ips.map fun b => [pkey id b]) ++ [[pkey id ip]])) (hip : w.heap[ip]? = some (.cells #[lv] 74 (0, 0))) (hlv : (Kd.raw 1).R 75 w base (fun _ => True) lv (o.map fun m => [pkey ob m])) :
    Cm nds base B nf ck lb om ob di dm DJ G0 gn pb sb PL SL gl pq sl cap em w0 (outs ++ [o]) cys E nd q sv' cv (w7.setCell ⟨nf, 0, none⟩ sv') := by
  have hown : ∀ k, sv.ownBlock = some k → G0 ≤ k ∧ Ty w k 71 := fun k hk => ⟨Kd.R_base hiR k hk, Kd.R_typed hiR k hk⟩
  have hckT : Ty w ck 70 := ⟨_, h.ck_⟩
  have hnfT : Ty w nf 65 := ⟨_, h.nf_⟩
  have hnf7 : w7.heap[nf]? = some (.cells #[sv] 65 (0, 0)) := hT.blk h.nf_ (fun hk => absurd (hnfT.uniq (hown _ hk).2) (by decide))
  have hT8 : Touch (fun k => k = nf ∨ sv.ownBlock = some k) w (w7.setCell ⟨nf, 0, none⟩ sv') := Touch.set_ (S := fun k => k = nf ∨ sv.ownBlock = some k) (hT.mono (fun k _ hk => .inr hk)) (fun _ => .inl rfl) _
  have hS : ∀ k e, (k = nf ∨ sv.ownBlock = some k) → e ≠ 65 → e ≠ 71 → ¬ Ty w k e := fun k e hk h65 h71 ht => by
    rcases hk with rfl | hk
    · exact h65 (ht.uniq hnfT)
    · exact h71 (ht.uniq (hown k hk).2)
  refine h.put (hT8.mono (fun k _ hk => ?_)) (blk_put hnf7 0 _ rfl) (hT8.blk h.ck_ (fun hk => hS _ 70 hk (by decide) (by decide) hckT)) (h.out_.add_s h1 h3 hT8 (fun k hk => ⟨hS k 74 hk (by decide) (by decide), hS k 75 hk (by decide) (by decide), hS k 60 hk (by decide) (by decide), hS k 82 hk (by decide) (by decide)⟩) ?_ (hT8.blk hip (fun hk => hS _ 74 hk (by decide) (by decide) ⟨_, hip⟩)) (R_touch hlv rfl hT8 (fun k hk => hS k 75 hk (by decide) (by decide))))
  · rcases hk with hk | hk
    · exact .inl (.inl hk)
    · exact .inr ⟨(hown k hk).1, .inr (hown k hk).2⟩
  · rw [List.map_append]
    exact Kd.R_mono (Kd.R_step (Kd.R_tight rfl hR) (fun k hk hlt => Below.heap_setCell _ _ _ _ (fun e => by
      obtain ⟨cells, hc⟩ := Kd.R_typed hR k hk.symm
      rw [e, hnf7] at hc; injection hc with hc; injection hc with _ hc _; exact absurd hc (by decide)))) (fun _ _ => trivial)

set_option maxHeartbeats 8000000 in
set_option maxRecDepth 100000 in
theorem initOrder_of {w : World} (hBu : Built nds base B nf ck lb om ob di dm DJ w) (hlen : nds.length ≤ 4096) (hbase : base ≤ w.heap.size) (hnf : w.heap[nf]? = some (.cells #[.slice none 0 0] 65 (0, 0)))
    (hck : w.heap[ck]? = some (.cells #[.map (some om), .pointer (some ⟨nf, 0, none⟩), .slice none 0 0] 70 (0, 0))) :
    Calls Tryz.prog 37 #[.pointer (some ⟨ck, 0, none⟩)] w (IOPost nds base B nf ck lb om ob di dm DJ w) := by
  have hmm := @run_makeMap Tryz.prog
  have HBU := Aside0.mk hBu
  have HLEN := Aside0.mk hlen
  have HBASE := Aside0.mk hbase
  have HNF := Aside0.mk hnf
  have HCK := Aside0.mk hck
  have ck0 : w.cell? ⟨ck, 0, none⟩ = some (.map (some om)) := (blk_cell hck 0).trans rfl
  have ck1 : w.cell? ⟨ck, 1, none⟩ = some (.pointer (some ⟨nf, 0, none⟩)) := (blk_cell hck 1).trans rfl
  have nf0 : w.cell? ⟨nf, 0, none⟩ = some (.slice none 0 0) := (blk_cell hnf 0).trans rfl
  have fnf : w.frozen? ⟨nf, 0, none⟩ = false := blk_frozen hnf 0
  have hne : nf ≠ ck := by have := hBu.lt; omega
  have hne' : ck ≠ nf := Ne.symm hne
  clear hBu hlen hbase hnf hck
  go_enter Tryz.func37, Tryz.ntmps37
  go_wp2_with fail
  go_still_tail 14, (by kernel_rfl)
  change wpList _ _ _ _ _ w.drew
  go_wp2_with fail
  obtain ⟨w1, hw1⟩ : ∃ w1, w1 = (w.setCell ⟨nf, 0, none⟩ (.slice none 0 0)).drew := ⟨_, rfl⟩
  rw [← hw1]
  have hT1 : Touch (fun k => k = nf) w w1 := by rw [hw1]; exact (Touch.set_ (S := fun k => k = nf) (Touch.refl _ _) (fun _ => rfl) _).drew
  have HT1 := Aside0.mk hT1
  have HB1 := Aside0.mk (HBU.out.touch hT1 (fun k hk _ => .inl hk))
  have hnf1 : w1.heap[nf]? = some (.cells #[.slice none 0 0] 65 (0, 0)) := by rw [hw1]; exact blk_put HNF.out 0 _ rfl
  have HNF1 := Aside0.mk hnf1
  have HCK1 := Aside0.mk (hT1.blk HCK.out (by omega))
  clear hw1 hT1 hnf1 ck0 ck1 nf0 fnf hne hne'
  refine (depGraph_of HB1.out HLEN.out).mono ?_
  rintro e w2 ⟨v, gn, pb, sb, PL, SL, ix, nd, gl, rfl, hR, hG, hBl, hgl, hgn, hGI, hix⟩
  have HGL := Aside0.mk (And.intro hgl hgn)
  have HGI := Aside0.mk hGI
  have HG := Aside0.mk hG
  have HIX := Aside0.mk hix
  have HBL := Aside0.mk hBl
  have HT2 := Aside0.mk (show Touch (fun _ => False) w1 w2 from Touch.of_below hBl)
  have HR := Aside0.mk hR
  obtain ⟨A2, c2, hv2, hle2, _⟩ := Kd.R_reads hR
  rw [List.length_map] at hv2
  subst hv2
  obtain ⟨G0, hG0⟩ : ∃ G0, G0 = w1.heap.size := ⟨_, rfl⟩
  have HG0 := Aside0.mk hG0
  clear hgl hgn hGI hG hix hBl hR hG0
  go_wp2_with fail
  by_cases c0 : gl.length = 0
  · have hT3 : Touch (fun _ => False) w2 (w2.alloc (.cells #[.slice A2 gl.length c2] 97)) := (Touch.refl _ _).alloc _
    obtain ⟨w3, hw3⟩ : ∃ w3, w3 = w2.alloc (.cells #[.slice A2 gl.length c2] 97) := ⟨_, rfl⟩
    obtain ⟨pq, hpq⟩ : ∃ pq, pq = w2.heap.size := ⟨_, rfl⟩
    have hcp : w3.cell? ⟨pq, 0, none⟩ = some (.slice A2 0 c2) := by
      have h : (w2.alloc (.cells #[.slice A2 gl.length c2] 97)).cell? ⟨w2.heap.size, 0, none⟩ = some (.slice A2 gl.length c2) := (blk_cell (heap_alloc_new w2 _) 0).trans rfl
      rw [hw3, hpq, h, c0]
    rw [← hw3] at hT3 ⊢
    rw [← hpq]
    refine (init_nil A2 c2 pq w3 hcp).mono ?_
    rintro e w4 ⟨rfl, rfl⟩
    have hcp5 : (w4.alloc (.map #[] 0)).cell? ⟨pq, 0, none⟩ = some (.slice A2 0 c2) := ((Touch.refl (fun _ => False) w4).alloc _).cell hcp (fun h => h)
    have HT5 := Aside0.mk (show Touch (fun k => k = nf) w (w4.alloc (.map #[] 0)) from ((HT1.out.trans HT2.out (fun _ _ h => h.elim)).trans hT3 (fun _ _ h => h.elim)).alloc _)
    have HT15 := Aside0.mk (show Touch (fun _ => False) w1 (w4.alloc (.map #[] 0)) from (HT2.out.trans hT3 (fun _ _ h => h.elim)).alloc _)
    have HC0 := Aside0.mk (List.length_eq_zero_iff.1 c0)
    clear hw3 hpq hT3 c0
    go_wp2_with fail
    clear hcp
    obtain ⟨w5, hw5⟩ : ∃ w5, w5 = w4.alloc (.map #[] 0) := ⟨_, rfl⟩
    rw [← hw5] at hcp5 HT5 HT15 ⊢
    clear hw5
    go_loopg [4] 0 (fun kq v4 w' => w' = w5)
    case atStart => rfl
    case round =>
      subst hrel
      go_wp2_with fail
      go_end0
      have hgl0 := HC0.out
      subst hgl0
      refine ⟨[], [], _, _, [], [], PL, SL, [], base, rfl, HB1.out.touch HT15.out (fun k hk => hk.elim), HT15.out.blk HNF1.out (fun h => h), HT15.out.blk HCK1.out (fun h => h), ⟨⟨[], rfl, Kd.R_nil _ _ _ _ _, fun t ht => (by cases ht)⟩, ⟨[], rfl, Kd.R_nil _ _ _ _ _, fun t ht => (by cases ht)⟩⟩, Nat.le_refl _, Nat.le_trans HBASE.out HT5.out.size, HT5.out.mono (fun k _ hk => .inl hk), ⟨List.Perm.refl _, fun c hc => (by cases hc), fun a x b h => ?_, ⟨Nat.le_refl _, Nat.le_refl _⟩, fun o ho => (by cases ho), fun _ => ⟨rfl, rfl⟩⟩, fun h => (by cases h), HGL.out.1, HGL.out.2, HGI.out⟩
      cases a <;> cases h
  · have hpos : 0 < gl.length := by omega
    obtain ⟨sl, hA, hQ⟩ := qr_start (HB1.out.touch HT2.out (fun k hk => hk.elim)) HLEN.out (show B ≤ w1.heap.size from HB1.out.lt.2.2.2.2.2.2) HT2.out.size HG.out HGL.out HIX.out HR.out (by have h := hle2; rw [List.length_map] at h; exact h) hpos
    rw [hA]
    rw [hA] at hQ
    have hT3 : Touch (fun _ => False) w1 (w2.alloc (.cells #[.slice (some ⟨sl, 0, none⟩) gl.length c2] 97)) := HT2.out.alloc _
    have HMB := Aside0.mk (show ∀ i, i < nds.length → ∀ b, (pb i = some b ∨ sb i = some b) → b < w2.heap.size from fun i hi b hb => by
      rcases hb with hb | hb
      · have := HG.out.pm i hi; rw [hb] at this; exact this.lt
      · have := HG.out.sm i hi; rw [hb] at this; exact this.lt)
    obtain ⟨w3, hw3⟩ : ∃ w3, w3 = w2.alloc (.cells #[.slice (some ⟨sl, 0, none⟩) gl.length c2] 97) := ⟨_, rfl⟩
    have HS3 := Aside0.mk (show w2.heap.size ≤ w3.heap.size by rw [hw3]; exact ((Touch.refl (fun _ => False) w2).alloc _).size)
    rw [← hw3] at hQ hT3 ⊢
    rw [← HG0.out] at hQ
    obtain ⟨pq, hpq⟩ : ∃ pq, pq = w2.heap.size := ⟨_, rfl⟩
    rw [← hpq] at hQ ⊢
    have HT3 := Aside0.mk hT3
    refine (init_of hQ).mono ?_
    rintro e w4 ⟨rfl, q, hH, h2⟩
    have HH := Aside0.mk hH
    have H2 := Aside0.mk h2
    have hlq : q.length = gl.length := hH.2.1.length_eq
    have hT34 : Touch (Qs nds.length gn pq sl) w1 w4 := (hT3.mono (fun _ _ h => h.elim)).trans hH.2.2 (fun k _ hk => hk)
    have hT35 : Touch (Qs nds.length gn pq sl) w1 (w4.alloc (.map #[] 0)) := hT34.alloc _
    have hqs : ∀ k, Qs nds.length gn pq sl k → G0 ≤ k := fun k hk => by
      rcases hk with rfl | rfl | ⟨i, hi, rfl⟩
      · exact hQ.hi.1
      · exact hQ.hi.2
      · rw [HG0.out]; exact (HG.out.node i hi).1
    have hltB := HB1.out.lt
    have hg0 := HG0.out
    have hs1 := HT1.out.size
    have hs4 := hH.2.2.size
    have hs3 := HS3.out
    have hs2 := HT2.out.size
    have HC := Aside0.mk (show Cm nds base B nf ck lb om ob di dm DJ G0 gn pb sb PL SL gl pq sl c2 w4.heap.size w [] [] [] nd q (.slice none 0 0) (.slice none 0 0) (w4.alloc (.map #[] 0)) from
      ⟨hH.1.touch2 (S := fun _ => False) ((Touch.refl _ _).alloc _) (fun _ h => h.elim), HB1.out.touch hT35 (fun k hk hb => by have := hqs k hk; omega), hT35.blk HNF1.out (fun hk => by have := hqs _ hk; omega), hT35.blk HCK1.out (fun hk => by have := hqs _ hk; omega),
        mapL_new w4 _ _, fun b hb => (by cases hb), ⟨⟨[], rfl, Kd.R_nil _ _ _ _ _, fun t ht => (by cases ht)⟩, ⟨[], rfl, Kd.R_nil _ _ _ _ _, fun t ht => (by cases ht)⟩⟩, (HT1.out.mono (fun k _ hk => .inl hk)).trans hT35 (fun k hk hs => by have := hqs k hs; omega),
        ⟨by omega, by omega, by have := HBASE.out; omega, by rw [hg0]; exact hT35.size, fun i hi => ⟨fun e => by have := HMB.out i hi _ (.inl e); omega, fun e => by have := HMB.out i hi _ (.inr e); omega⟩⟩⟩)
    have hnd : ∀ i ∈ gl, nd i = cnt SL [] i := getD_spec (fun t ht => by rw [cnt_nil]; exact (HIX.out t ht).2)
    have HND := Aside0.mk hnd
    have HPU := Aside0.mk (show Pu nds di DJ SL gl [] q [] [] [] from ⟨hH.2.1, fun c hc => (by cases hc), fun a x b h => (by cases a <;> cases h), ⟨Nat.le_refl _, Nat.le_refl _⟩, fun o ho => (by cases ho), fun _ => ⟨rfl, rfl⟩⟩)
    have HTW := Aside0.mk (show Two nds SL gl [] q from two_start hnd hH.2.1 h2)
    have HGE := Aside0.mk (show G0 ≤ w4.heap.size by omega)
    clear hT34 hT35 hqs hltB hg0 hs1 hs4 hs3 hs2 hlq hnd hH h2 hQ hT3 hw3 hpq hA hpos c0 hle2 HT3 HH H2 HS3 HMB HR HT2 HBL HIX HG HG0 HT1 HB1 HNF1 HCK1 HNF HCK
    go_wp2_with fail
    obtain ⟨em, hem⟩ : ∃ em, em = w4.heap.size := ⟨_, rfl⟩
    obtain ⟨w5, hw5⟩ : ∃ w5, w5 = w4.alloc (.map #[] 0) := ⟨_, rfl⟩
    rw [← hem, ← hw5] at HC ⊢
    rw [← hem] at HGE
    clear hem hw5
    go_loopg [4] gl.length (fun kq v4 w' => ∃ (pops q : List Nat) (outs cys : List (List Nat)) (E : List Nat) (nd : Nat → Int) (sv cv : Value), Aside0 (kq + pops.length = gl.length) ∧ Aside0 (Cm nds base B nf ck lb om ob di dm DJ G0 gn pb sb PL SL gl pq sl c2 em w outs cys E nd q sv cv w') ∧
      Aside0 (Pu nds di DJ SL gl pops q outs cys E) ∧ Aside0 (Two nds SL gl pops q) ∧ Aside0 (∀ i ∈ gl, nd i = cnt SL pops i))
    case atStart => exact ⟨[], q, [], [], [], nd, _, _, ⟨by simp⟩, HC, HPU, HTW, HND⟩
    case round =>
      clear HC HPU HTW HND
      obtain ⟨pops, q, outs, cys, E, nd, sv, cv, HK, HC, HPU, HTW, HND⟩ := hrel
      have hcp := HC.out.qr.cell
      cases q with
      | nil =>
        go_wp2_with fail
        go_end0
        exact ⟨outs, cys, sv, cv, gl, pops, PL, SL, E, G0, rfl, HC.out.bu, HC.out.nf_, HC.out.ck_, HC.out.out_, HC.out.st.2.2.1, HC.out.st.2.2.2.1, HC.out.tch, HPU.out, HTW.out, HGL.out.1, HGL.out.2, HGI.out⟩
      | cons x0 q0 =>
        obtain ⟨q, hq⟩ : ∃ q, q = x0 :: q0 := ⟨_, rfl⟩
        obtain ⟨k, hk⟩ : ∃ k, q.length = k + 1 := ⟨q0.length, by rw [hq]; rfl⟩
        rw [← hq] at HC HPU HTW hcp
        clear hq
        have hd : decide ((0 : Int) < (q.length : Int)) = true := decide_eq_true (by omega)
        have hd2 : decide (0 < q.length) = true := decide_eq_true (by omega)
        go_wp2_with fail
        refine (hpop_of HC.out.qr hk).mono ?_
        rintro e w1 ⟨rfl, q', hQ', hperm, hT'⟩
        obtain ⟨x, hx⟩ : ∃ x, x = q.getD 0 0 := ⟨_, rfl⟩
        rw [← hx] at hperm ⊢
        have HC1 := Aside0.mk (HC.out.heap hQ' hT')
        have HPERM := Aside0.mk hperm
        have HXQ0 := Aside0.mk (show q.head? = some x by rw [hx]; cases q with | nil => cases hk | cons a l => rfl)
        have hxq : x ∈ q := hperm.mem_iff.1 List.mem_cons_self
        have hxg := HC.out.qr.q_ x hxq
        have HXG := Aside0.mk hxg
        have hxn := (HC.out.qr.g_ x hxg)
        have HXN := Aside0.mk hxn
        obtain ⟨ix1, hG1, _, _⟩ := hQ'.gr
        have hnx := (hG1.node x hxn.1).2
        have gx4 : w1.cell? ⟨gn x, 4, none⟩ = some (.int .i64 (nd x)) := (blk_cell hnx 4).trans rfl
        have gx0 : w1.cell? ⟨gn x, 0, none⟩ = some (okey (tyN nds) ob x) := (blk_cell hnx 0).trans rfl
        have gx1 : w1.cell? ⟨gn x, 1, none⟩ = some (.map (pb x)) := (blk_cell hnx 1).trans rfl
        have ck0 : w1.cell? ⟨ck, 0, none⟩ = some (.map (some om)) := (blk_cell HC1.out.ck_ 0).trans rfl
        have hta := assert_yes (xT := 20) Tryz.underlying102 (.pointer (some ⟨gn x, 0, none⟩)) w1 false
        have hu109 := Tryz.underlying109
        clear hd hd2 hcp hQ' hperm hT' hx hxq hxg hxn hG1 hnx hk HC
        go_upto_if 44 with fail
        go_cut [5] from 34 to 139 (fun v5 wc => ∃ (cys' : List (List Nat)) (cv' : Value), Aside0 (Cm nds base B nf ck lb om ob di dm DJ G0 gn pb sb PL SL gl pq sl c2 em w outs cys' E nd q' sv cv' wc) ∧ Aside0 (cys' = cys ∨ ∃ c, cys' = cys ++ [c] ∧ c ≠ [] ∧ (∀ k ∈ c, k < nds.length) ∧ c.length ≤ nds.length ∧ PathOk DJ x x c) ∧
          Aside0 (0 < nd x → cys' = [] → ∃ T : List Nat, x ∈ T ∧ ∀ y ∈ T, ∀ k ∈ DJ y, k ≠ x ∧ k ∈ T))
        case first =>
          by_cases cn : 0 < nd x
          · have hcn := decide_eq_true cn
            have hst := HC1.out.st
            have HT2m := Aside0.mk (show Touch (fun _ => False) w1 (w1.alloc (.map #[] 0)).drew from ((Touch.refl _ _).alloc _).drew)
            have HB2 := Aside0.mk (HC1.out.bu.touch HT2m.out (fun _ h => h.elim))
            have HM2 := Aside0.mk (show MapL (w1.alloc (.map #[] 0)).drew w1.heap.size (okey (tyN nds) ob) yes [] from (mapL_new w1 (okey (tyN nds) ob) yes).same rfl)
            have HBS := Aside0.mk (show B ≤ w1.heap.size by omega)
            have hckl : ck < w1.heap.size := blk_lt HC1.out.ck_
            have hgxl : gn x < w1.heap.size := World.block_lt_of_cell? w1 _ gx0
            clear gx1 gx4 hst
            go_wp2_with fail
            go_region_held3 (fun w' => w'.cell? ⟨ck, 0, none⟩ = some (.map (some om)) ∧ w'.cell? ⟨gn x, 0, none⟩ = some (okey (tyN nds) ob x)) (first | go_keep | (exact ⟨HS1.out, HS2.out⟩))
              (first | (go_at_call 39; refine (findPath_of nds.length HB2.out w1.heap.size x x [] HM2.out HBS.out (fun k h => (by cases h)) HXN.out.1 HXN.out.1 HLEN.out (by simp)).mono ?_; rintro e w3 ⟨v, SL', rfl, hM3, hT3, _, hSn, hor⟩; obtain ⟨A3, L3, c3, hv3⟩ : ∃ A L c, v = .slice A L c := (hor.elim (fun h => ⟨_, _, _, h.1⟩) (fun ⟨p, _, _, _, _, hR⟩ => (Kd.R_slice hR).elim fun A h => h.elim fun c h => ⟨_, _, _, h⟩)); subst hv3; have HT3 := Aside0.mk hT3; have HM3 := Aside0.mk hM3; have HSN := Aside0.mk hSn; have HOR := Aside0.mk hor; have HS1 := Aside0.mk (show w3.cell? ⟨ck, 0, none⟩ = some (.map (some om)) from HT3.out.cell (HT2m.out.cell ck0 (fun h => h)) (by simp only; omega)); have HS2 := Aside0.mk (show w3.cell? ⟨gn x, 0, none⟩ = some (okey (tyN nds) ob x) from HT3.out.cell (HT2m.out.cell gx0 (fun h => h)) (by simp only; omega)); clear hM3 hT3 hSn hor))
            have hT13 : Touch (fun k => k = w1.heap.size) w1 w3 := (HT2m.out.mono (fun _ _ h => h.elim)).trans HT3.out (fun _ _ h => h)
            have HC3 := Aside0.mk (HC1.out.soft hT13 (fun k hk hlt => by omega))
            have hs13 := hT13.size
            rcases HOR.out with ⟨hv, hfm, hcl⟩ | ⟨p, hp0, hpn, hpl, hpo, hR⟩
            · injection hv with h1 h2 h3
              subst h1 h2 h3
              have HX := Aside0.mk (show ∃ T : List Nat, x ∈ T ∧ ∀ y ∈ T, ∀ k ∈ DJ y, k ≠ x ∧ k ∈ T from ⟨SL', hfm, fun y hy => hcl y hy (by simp)⟩)
              clear hfm hcl hT13 hs13 HOR
              go_wp2_with fail
              go_meet
              exact ⟨cys, cv, HC3, ⟨.inl rfl⟩, ⟨fun _ _ => HX.out⟩⟩
            · have hpos : 0 < (p.map fun k => [okey (tyN nds) ob k]).length := by rw [List.length_map]; exact List.length_pos_iff.2 hp0
              obtain ⟨g3, cap3, hv, _, _, _, _⟩ := Kd.R_form hR hpos
              injection hv with h1 h2 h3
              subst h1 h2 h3
              rw [List.length_map] at hR ⊢
              obtain ⟨cvs, hcl, hcR, hcE⟩ := HC3.out.out_.c_
              have hbase := HC3.out.st
              have hR82 : (Kd.raw 1).R 82 w3 base (fun _ => True) (.slice (some ⟨g3, 0, none⟩) p.length c3) (p.map fun k => [okey (tyN nds) ob k]) := Kd.R_lower hR (Nat.le_trans (Nat.le_trans HC1.out.st.2.2.1 HC1.out.st.2.2.2.1) HT2m.out.size)
              obtain ⟨Ac, cc, hcv, _, _⟩ := Kd.R_reads hcR
              rw [List.length_map] at hcv
              have hple : p.length ≤ nds.length := by
                have := nodup_lt_length _ _ HM3.out.nodup HSN.out
                simp at hpl; omega
              have HPP := Aside0.mk (show p ≠ [] ∧ (∀ k ∈ p, k < nds.length) ∧ p.length ≤ nds.length ∧ PathOk DJ x x p from ⟨hp0, hpn, hple, hpo⟩)
              have HCR := Aside0.mk hcR
              have HCL := Aside0.mk hcl
              have HCE := Aside0.mk hcE
              have HR82 := Aside0.mk hR82
              have HCV := Aside0.mk hcv
              have HCYL := Aside0.mk (show (cvs.map fun v => [v]).length ≤ 4096 by
                have h1 := HPU.out.ol.2
                have h2 := HK.out
                have h3 := nodup_lt_length _ _ HGL.out.2 (fun i hi => ((HGL.out.1 i).1 hi).1)
                have h4 := HLEN.out
                rw [List.length_map]; omega)
              clear hpos hR hcl hcR hcE hbase hR82 hcv hple hp0 hpn hpl hpo HOR HSN HM3 hT13
              go_wp2_with fail
              refine (rep_of (m := .map (some om)) (pf := .pointer (some ⟨nf, 0, none⟩)) (by rw [← HCV.out]; exact HC3.out.ck_) (by rw [← HCV.out]; exact HCR.out) HC3.out.st.2.2.2.1 HCYL.out).mono ?_
              rintro e w5 ⟨rfl, cv', hck5, hR5, hT5⟩
              rw [← HCV.out] at hT5
              have HC5 := Aside0.mk (cm_rep HC3.out HCL.out HCR.out HCE.out HR82.out hck5 hR5 hT5)
              clear hck5 hR5 hT5
              go_wp2_with fail
              go_meet
              exact ⟨cys ++ [p], cv', HC5, ⟨.inr ⟨p, rfl, HPP.out⟩⟩, ⟨fun _ h => absurd h (by simp)⟩⟩
          · have hcn := decide_eq_false cn
            have HCN := Aside0.mk cn
            go_wp2_with fail
            go_meet
            exact ⟨cys, cv, HC1, ⟨.inl rfl⟩, ⟨fun h => absurd h (by have := HCN.out; omega)⟩⟩
        case rest =>
          clear gx1 gx0 gx4 ck0 hta HC1
          obtain ⟨cys', cv', HC, HCY, HRP⟩ := hcut
          obtain ⟨ix1, hG1, _, _⟩ := HC.out.qr.gr
          have hxn := HXN.out
          have gx1 : wc.cell? ⟨gn x, 1, none⟩ = some (.map (pb x)) := (blk_cell (hG1.node x hxn.1).2 1).trans rfl
          obtain ⟨o3, hr3, hI3⟩ := range_run (P := Tryz.prog) (T := 107) Tryz.underlying107 (pb x) (hG1.pm x hxn.1)
          obtain ⟨r, hr⟩ : ∃ r, r = wc.heap.size := ⟨_, rfl⟩
          obtain ⟨w3, hw3⟩ : ∃ w3, w3 = wc.alloc o3 := ⟨_, rfl⟩
          rw [← hr, ← hw3] at hr3 hI3
          have hT3 : Touch (fun _ => False) wc w3 := by rw [hw3]; exact (Touch.refl _ _).alloc _
          have HI3 := Aside0.mk hI3
          have HC3 := Aside0.mk (HC.out.soft hT3 (fun k hk => hk.elim))
          have HRG := Aside0.mk (show G0 ≤ r by rw [hr]; exact HC.out.st.2.2.2.1)
          have HPLX := Aside0.mk (hG1.pl x hxn.1)
          clear hG1 hxn hw3 hr hI3 hT3 HC
          go_wp2_with fail
          clear hr3 gx1
          obtain ⟨n1, rfl⟩ : ∃ n1, n1 = gk := ⟨_, rfl⟩
          obtain ⟨wq, rfl⟩ : ∃ wq, wq = wr := ⟨_, rfl⟩
          go_loopg [6] (PL x).length (fun kq v6 w' => ∃ (D q2 : List Nat) (nd2 : Nat → Int), Aside0 (kq + D.length = (PL x).length) ∧ Aside0 (IterO w' r (pb x) (pkey gn) yes (PL x) D) ∧ Aside0 (Cm nds base B nf ck lb om ob di dm DJ G0 gn pb sb PL SL gl pq sl c2 em w outs cys' E nd2 q2 sv cv' w') ∧ Aside0 (q2.Perm q') ∧ Aside0 (∀ i ∈ gl, nd2 i = nd i - if i ∈ D then 1 else 0))
          case atStart => exact ⟨[], q', nd, ⟨by simp⟩, HI3, HC3, ⟨List.Perm.refl _⟩, ⟨fun i hi => by simp⟩⟩
          case round =>
            clear HI3 HC3
            obtain ⟨D, q2, nd2, HKD, HI, HC, HQP, HND2⟩ := hrel
            rcases next_cases (P := Tryz.prog) HI.out 0 with ⟨hall, hrun⟩ | ⟨j, w3, hjL, hjD, hrun, hT3, hI3, hen⟩
            · have HND3 := Aside0.mk (show ∀ i ∈ gl, nd2 i = cnt SL (pops ++ [x]) i from nd_done HGL.out HGI.out HC.out.qr HPU.out HPERM.out HXG.out HND.out HND2.out hall HI.out.sub.2)
              have HX0 := HXQ0
              obtain ⟨ix, hG, _, _⟩ := HC.out.qr.gr
              have hnx := (hG.node x HXN.out.1).2
              have gx0 : wr.cell? ⟨gn x, 0, none⟩ = some (okey (tyN nds) ob x) := (blk_cell hnx 0).trans rfl
              have ck0 : wr.cell? ⟨ck, 0, none⟩ = some (.map (some om)) := (blk_cell HC.out.ck_ 0).trans rfl
              clear hall HND2 HI hG hnx
              rcases HXN.out.2 with ht | ht
              · have hta := ta90v (ob x) wr
                have hln := look_nil HC.out.bu
                unfold okey at gx0
                rw [ht] at gx0
                have HTY := Aside0.mk ht
                clear ht
                go_wp2_with fail
                clear hrun hta hln gx0 ck0
                go_roundg (n1 - 1)
                case measure =>
                  have h1 := HK.out
                  have h2 := HPU.out.pm.length_eq
                  have h3 := HPERM.out.length_eq
                  simp at h2 h3; omega
                case rel => exact ⟨pops ++ [x], q2, outs, cys', E, nd2, sv, cv', ⟨by
                  have h1 := HK.out
                  have h2 := HPU.out.pm.length_eq
                  have h3 := HPERM.out.length_eq
                  simp at h2 h3 ⊢; omega⟩, HC, ⟨pu_step HPU.out HPERM.out HQP.out HXG.out HND.out HCY.out HRP.out (.inl ⟨rfl, rfl, fun h => by have h1 := (h x HXN.out.1).2.2; rw [HTY.out] at h1; exact absurd h1 (by decide)⟩) HXN.out.1⟩, ⟨two_step HTW.out HPERM.out HX0.out HGL.out.2⟩, HND3⟩
              · have hta := ta75v (ob x) wr
                have hlk := HC.out.bu.look HXN.out.1 false
                unfold okey at gx0 hlk
                rw [ht] at gx0 hlk
                obtain ⟨_, _, _, _, lv, ms, hdi, hlR, hms, hml, hgr⟩ := HC.out.bu.dec x HXN.out.1
                have di1 : wr.cell? ⟨di x, 1, none⟩ = some (.bool (rd_Nd nds x).ini) := (blk_cell hdi 1).trans rfl
                have di0 : wr.cell? ⟨di x, 0, none⟩ = some lv := (blk_cell hdi 0).trans rfl
                have HDI := Aside0.mk hdi
                have HLR := Aside0.mk (Kd.R_mono hlR (fun _ _ => trivial))
                have HMS := Aside0.mk (And.intro hms (And.intro hml hgr))
                have HTY := Aside0.mk ht
                unfold dkey at hlk
                clear ht hdi hlR hms hml hgr
                go_wp2_with fail
                refine (hasInit_calls (di x) _ wr di1).mono ?_
                rintro e w4 ⟨rfl, rfl⟩
                cases hin : (rd_Nd nds x).ini with
                | false =>
                  have HIN := Aside0.mk hin
                  clear hin hta hlk gx0 ck0 di1 di0 hrun
                  go_wp2_with fail
                  go_roundg (n1 - 1)
                  case measure =>
                    have h1 := HK.out
                    have h2 := HPU.out.pm.length_eq
                    have h3 := HPERM.out.length_eq
                    simp at h2 h3; omega
                  case rel => exact ⟨pops ++ [x], q2, outs, cys', E, nd2, sv, cv', ⟨by
                    have h1 := HK.out
                    have h2 := HPU.out.pm.length_eq
                    have h3 := HPERM.out.length_eq
                    simp at h2 h3 ⊢; omega⟩, HC, ⟨pu_step HPU.out HPERM.out HQP.out HXG.out HND.out HCY.out HRP.out (.inl ⟨rfl, rfl, fun h => by have h1 := (h x HXN.out.1).2.1; rw [HIN.out] at h1; exact absurd h1 (by decide)⟩) HXN.out.1⟩, ⟨two_step HTW.out HPERM.out HX0.out HGL.out.2⟩, HND3⟩
                | true =>
                  have HIN := Aside0.mk hin
                  have hka := key_di HC.out HXN.out.1
                  by_cases ce : di x ∈ E
                  · have hl1 := lookup_found (P := Tryz.prog) (T := 101) Tryz.underlying101 HC.out.em_ hka ce dec_iff false
                    have hl2 : (Instr.lookup 101 (.map (some em)) (.pointer (some ⟨di x, 0, none⟩)) false).run Tryz.prog wr = .ok (.bool true) wr := hl1
                    have HCE := Aside0.mk ce
                    clear hin hta hlk gx0 ck0 di1 di0 hrun hka hl1 ce
                    go_wp2_with fail
                    clear hl2
                    go_roundg (n1 - 1)
                    case measure =>
                      have h1 := HK.out
                      have h2 := HPU.out.pm.length_eq
                      have h3 := HPERM.out.length_eq
                      simp at h2 h3; omega
                    case rel => exact ⟨pops ++ [x], q2, outs, cys', E, nd2, sv, cv', ⟨by
                      have h1 := HK.out
                      have h2 := HPU.out.pm.length_eq
                      have h3 := HPERM.out.length_eq
                      simp at h2 h3 ⊢; omega⟩, HC, ⟨pu_step HPU.out HPERM.out HQP.out HXG.out HND.out HCY.out HRP.out (.inl ⟨rfl, rfl, fun h => told_once HGL.out HPU.out HPERM.out HC.out.bu h HXN.out.1 HCE.out⟩) HXN.out.1⟩, ⟨two_step HTW.out HPERM.out HX0.out HGL.out.2⟩, HND3⟩
                  · have hl1 := lookup_absent (P := Tryz.prog) (T := 101) Tryz.underlying101 HC.out.em_ hka (dec_absent ce) (zero4 wr) false
                    have hl2 : (Instr.lookup 101 (.map (some em)) (.pointer (some ⟨di x, 0, none⟩)) false).run Tryz.prog wr = .ok (.bool false) wr := hl1
                    obtain ⟨o5, hu5, hM5⟩ := update_absent (P := Tryz.prog) (T := 101) Tryz.underlying101 HC.out.em_ hka (dec_absent ce) ce
                    have hT5 := touch_set wr em o5
                    obtain ⟨w5, hw5⟩ : ∃ w5, w5 = setBlock wr em o5 := ⟨_, rfl⟩
                    rw [← hw5] at hu5 hM5 hT5
                    have hu5' : (Instr.mapUpdate 101 (.map (some em)) (.pointer (some ⟨di x, 0, none⟩)) (.bool true)).run Tryz.prog wr = .ok () w5 := hu5
                    have HC5 := Aside0.mk (HC.out.told HGE.out hT5 hM5 (fun b hb => by
                      rcases List.mem_append.1 hb with h | h
                      · exact HC.out.eE b h
                      · exact ⟨x, HXN.out.1, List.mem_singleton.1 h⟩))
                    obtain ⟨_, _, _, _, lv5, ms5, hdi5, hlR5, hms5, hml5, hgr5⟩ := HC5.out.bu.dec x HXN.out.1
                    have di05 : w5.cell? ⟨di x, 0, none⟩ = some lv5 := (blk_cell hdi5 0).trans rfl
                    have HLR5 := Aside0.mk (show (Kd.raw 1).R 75 w5 base (fun _ => True) lv5 (ms5.map fun m => [pkey ob m]) from Kd.R_mono hlR5 (fun _ _ => trivial))
                    have HMS5 := Aside0.mk (show ms5.length ≤ nds.length ∧ (∀ m ∈ ms5, m < nds.length) ∧ ((rd_Nd nds x).gr = 0 → lv5 = .slice none 0 0) from ⟨hml5, fun m hm => (hms5 m hm).1, hgr5⟩)
                    have hlv := lv_cases HLR5.out
                    clear hin hta hlk gx0 ck0 di1 di0 hka hl1 hu5 hM5 hT5 hw5 hdi5 hlR5 hms5 hml5 hgr5 ce
                    obtain ⟨A5, l5, c5, hlv5⟩ : ∃ A l c, lv5 = .slice A l c := by
                      rcases hlv with ⟨h, _⟩ | ⟨g, c, h⟩
                      · exact ⟨_, _, _, h⟩
                      · exact ⟨_, _, _, h⟩
                    subst hlv5
                    have hAg : A5 = none ∨ ∃ g, A5 = some ⟨g, 0, none⟩ := by
                      rcases hlv with ⟨h, _⟩ | ⟨g, c, h⟩
                      · injection h with h1 _ _; exact .inl h1
                      · injection h with h1 _ _; exact .inr ⟨g, h1⟩
                    have HAG := Aside0.mk hAg
                    have heq : (binOp .eql 72 (.slice A5 l5 c5) (.slice none 0 0)).run Tryz.prog w5 = .ok (.bool A5.isNone) w5 := eql_sl w5 _ _ _ Tryz.underlying72
                    clear hlv hAg
                    go_upto_if 118 with fail
                    go_cut [10] from 34 to 139 (fun v10 wc => ∃ (o : List Nat) (g l c : Nat), v10 = .slice (some ⟨g, 0, none⟩) l c ∧ Aside0 (Cm nds base B nf ck lb om ob di dm DJ G0 gn pb sb PL SL gl pq sl c2 em w outs cys' (E ++ [di x]) nd2 q2 sv cv' wc) ∧ Aside0 ((Kd.raw 1).R 75 wc base (fun _ => True) (.slice (some ⟨g, 0, none⟩) l c) (o.map fun m => [pkey ob m])) ∧
                      Aside0 (o.length ≤ nds.length ∧ (∀ m ∈ o, m < nds.length) ∧ ((rd_Nd nds x).gr = 0 → o = [x])))
                    case first =>
                      clear hl2 hu5' di05 hrun heq
                      rcases HAG.out with rfl | ⟨g5, rfl⟩
                      · obtain ⟨w6, hw6⟩ : ∃ w6, w6 = w5.alloc (.cells #[.pointer (some ⟨ob x, 0, none⟩)] 75) := ⟨_, rfl⟩
                        have hT6 : Touch (fun _ => False) w5 w6 := by rw [hw6]; exact (Touch.refl _ _).alloc _
                        have HC6 := Aside0.mk (HC5.out.soft hT6 (fun k hk => hk.elim))
                        have HLV := Aside0.mk (show (Kd.raw 1).R 75 w6 base (fun _ => True) (.slice (some ⟨w5.heap.size, 0, none⟩) 1 1) ([x].map fun m => [pkey ob m]) by rw [hw6]; exact R_one75 w5 (pkey ob x) base rfl (Nat.le_trans HC5.out.st.2.2.1 HC5.out.st.2.2.2.1))
                        go_wp2_with fail
                        rw [← hw6]
                        go_meet
                        exact ⟨[x], w5.heap.size, 1, 1, rfl, HC6, HLV, ⟨by have := HXN.out.1; simp; omega, fun m hm => by rw [List.mem_singleton.1 hm]; exact HXN.out.1, fun _ => rfl⟩⟩
                      · go_wp2_with fail
                        go_meet
                        exact ⟨ms5, g5, _, _, rfl, HC5, HLR5, ⟨HMS5.out.1, HMS5.out.2.1, fun h => by have := HMS5.out.2.2 h; cases this⟩⟩
                    case rest =>
                      clear hl2 hu5' di05 hrun heq HAG HLR5 HMS5 HC5
                      obtain ⟨o, g5, l5, cap5, rfl, HC5, HLR5, HMS6⟩ := hcut
                      obtain ⟨w5, rfl⟩ : ∃ w5, w5 = wc := ⟨_, rfl⟩
                      go_wp2_with fail
                      obtain ⟨ip, hip⟩ : ∃ ip, ip = w5.heap.size := ⟨_, rfl⟩
                      obtain ⟨w6, hw6⟩ : ∃ w6, w6 = w5.alloc (.cells #[.slice (some ⟨g5, 0, none⟩) l5 cap5] 74) := ⟨_, rfl⟩
                      rw [← hip, ← hw6]
                      have hT6 : Touch (fun _ => False) w5 w6.drew := by rw [hw6]; exact ((Touch.refl _ _).alloc _).drew
                      have HC6 := Aside0.mk (HC5.out.soft hT6 (fun k hk => hk.elim))
                      have HIP := Aside0.mk (show w6.drew.heap[ip]? = some (.cells #[.slice (some ⟨g5, 0, none⟩) l5 cap5] 74 (0, 0)) by rw [hw6, hip]; exact heap_alloc_new w5 _)
                      have HLV := Aside0.mk (show (Kd.raw 1).R 75 w6.drew base (fun _ => True) (.slice (some ⟨g5, 0, none⟩) l5 cap5) (o.map fun m => [pkey ob m]) from R_touch HLR5.out rfl hT6 (fun k hk => hk.elim))
                      clear hw6 hip hT6
                      have hst := HC6.out.st
                      have hoS := HC6.out.out_.s_
                      obtain ⟨ips, hil, hiR, hiE⟩ := hoS
                      obtain ⟨As, cs, hsv, _, _⟩ := Kd.R_reads hiR
                      rw [List.length_map] at hsv
                      have HSV := Aside0.mk hsv
                      have HIE := Aside0.mk (And.intro hil hiE)
                      have HIR := Aside0.mk (show (Kd.raw 1).R 71 w6.drew G0 (fun _ => True) (.slice As ips.length cs) (ips.map fun b => [pkey id b]) by rw [← hsv]; exact hiR)
                      have HF0 := Aside0.mk (show w6.drew.cell? ⟨ck, 1, none⟩ = some (.pointer (some ⟨nf, 0, none⟩)) ∧ w6.drew.cell? ⟨nf, 0, none⟩ = some (.slice As ips.length cs) from ⟨(blk_cell HC6.out.ck_ 1).trans rfl, (blk_cell HC6.out.nf_ 0).trans (by rw [hsv]; rfl)⟩)
                      have HNO := Aside0.mk (show ¬ (Value.slice As ips.length cs).ownBlock = some ck ∧ ¬ (Value.slice As ips.length cs).ownBlock = some nf from ⟨fun e => absurd (Ty.uniq (w := w6.drew) (k := ck) (e := 71) (e' := 70) (Kd.R_typed HIR.out ck e) ⟨_, HC6.out.ck_⟩) (by decide), fun e => absurd (Ty.uniq (w := w6.drew) (k := nf) (e := 71) (e' := 65) (Kd.R_typed HIR.out nf e) ⟨_, HC6.out.nf_⟩) (by decide)⟩)
                      have HFZ := Aside0.mk (show ∀ w7, Touch (fun k => (Value.slice As ips.length cs).ownBlock = some k) w6.drew w7 → w7.frozen? ⟨nf, 0, none⟩ = false from fun w7 hT => blk_frozen (hT.blk HC6.out.nf_ HNO.out.2) 0)
                      have HGW := Aside0.mk (show G0 ≤ w6.drew.heap.size from hst.2.2.2.1)
                      have HIL := Aside0.mk (show (ips.length + 1) * 8 ≤ 140737488355328 by
                        have h1 := HPU.out.ol.1
                        have h2 := HK.out
                        have h3 := nodup_lt_length _ _ HGL.out.2 (fun i hi => ((HGL.out.1 i).1 hi).1)
                        have h4 := HLEN.out
                        omega)
                      clear hst hil hiR hiE hsv
                      refine start_ (n := 17) (S := fun w' => w'.cell? ⟨ck, 1, none⟩ = some (.pointer (some ⟨nf, 0, none⟩)) ∧ w'.cell? ⟨nf, 0, none⟩ = some (.slice As ips.length cs)) (ds := [16]) #[false, false, false, false, false, false, false, false, false, false, false, false, false, false, false, false, false] (by kernel_rfl) rfl rfl ⟨HF0.out.1, HF0.out.2⟩ (fun hHeld => ?_)
                      refine pure_ (i := 0) (N := some 124) (v := ?_) (a' := ?_) #[true, false, false, false, false, false, false, false, false, false, false, false, false, false, false, false, false] rfl rfl (by kernel_rfl) (fun _ _ _ h => h) (Or.inl ⟨by rfl, ?_⟩) ?_ ?_
                      rotate_left
                      · intro w'
                        go_simp
                        with_reducible rfl
                      rotate_left
                      · simp only [Act.put, List.setIfInBounds_toArray, List.set_cons_zero, List.set_cons_succ, i64_w, i32_w]
                        rfl
                      refine pure_ (i := 1) (N := some 125) (v := ?_) (a' := ?_) #[true, true, false, false, false, false, false, false, false, false, false, false, false, false, false, false, false] rfl rfl (by kernel_rfl) (fun _ _ _ h => h) (Or.inl ⟨by rfl, ?_⟩) ?_ ?_
                      rotate_left
                      · intro w'
                        go_simp
                        with_reducible rfl
                      rotate_left
                      · simp only [Act.put, List.setIfInBounds_toArray, List.set_cons_zero, List.set_cons_succ, i64_w, i32_w]
                        rfl
                      refine pure_ (i := 2) (N := some 126) (v := ?_) (a' := ?_) #[true, true, true, false, false, false, false, false, false, false, false, false, false, false, false, false, false] rfl rfl (by kernel_rfl) (fun _ _ _ h => h) (Or.inl ⟨by rfl, ?_⟩) ?_ ?_
                      rotate_left
                      · intro w'
                        go_simp
                        with_reducible rfl
                      rotate_left
                      · simp only [Act.put, List.setIfInBounds_toArray, List.set_cons_zero, List.set_cons_succ, i64_w, i32_w]
                        rfl
                      refine pure_ (i := 4) (N := some 128) (v := ?_) (a' := ?_) #[true, true, true, false, true, false, false, false, false, false, false, false, false, false, false, false, false] rfl rfl (by kernel_rfl) (fun _ _ _ h => h) (Or.inl ⟨by rfl, ?_⟩) ?_ ?_
                      rotate_left
                      · intro w'
                        go_simp
                        with_reducible rfl
                      rotate_left
                      · simp only [Act.put, List.setIfInBounds_toArray, List.set_cons_zero, List.set_cons_succ, i64_w, i32_w]
                        rfl
                      refine pure_ (i := 5) (N := some 129) (v := ?_) (a' := ?_) #[true, true, true, false, true, true, false, false, false, false, false, false, false, false, false, false, false] rfl rfl (by kernel_rfl) (fun _ _ _ h => h) (Or.inl ⟨by rfl, ?_⟩) ?_ ?_
                      rotate_left
                      · intro w'
                        go_simp
                        with_reducible rfl
                      rotate_left
                      · simp only [Act.put, List.setIfInBounds_toArray, List.set_cons_zero, List.set_cons_succ, i64_w, i32_w]
                        rfl
                      refine pure_ (i := 6) (N := some 130) (v := ?_) (a' := ?_) #[true, true, true, false, true, true, true, false, false, false, false, false, false, false, false, false, false] rfl rfl (by kernel_rfl) (fun _ _ _ h => h) (Or.inl ⟨by rfl, ?_⟩) ?_ ?_
                      rotate_left
                      · intro w'
                        go_simp
                        with_reducible rfl
                      rotate_left
                      · simp only [Act.put, List.setIfInBounds_toArray, List.set_cons_zero, List.set_cons_succ, i64_w, i32_w]
                        rfl
                      refine pure_ (i := 11) (N := some 135) (v := ?_) (a' := ?_) #[true, true, true, false, true, true, true, false, false, false, false, true, false, false, false, false, false] rfl rfl (by kernel_rfl) (fun _ _ _ h => h) (Or.inl ⟨by rfl, ?_⟩) ?_ ?_
                      rotate_left
                      · intro w'
                        go_simp
                        with_reducible rfl
                      rotate_left
                      · simp only [Act.put, List.setIfInBounds_toArray, List.set_cons_zero, List.set_cons_succ, i64_w, i32_w]
                        rfl
                      refine take_ (i := 3) (N := some 127) (v := ?_) (a' := ?_) #[true, true, true, true, true, true, true, false, false, false, false, true, false, false, false, false, false] rfl rfl (by kernel_rfl) (fun _ _ _ h => h) (Or.inl ⟨by rfl, ?_⟩) hHeld ?_ ?_
                      rotate_left
                      · rintro w' ⟨s0, s1⟩
                        go_simp
                        with_reducible rfl
                      rotate_left
                      · simp only [Act.put, List.setIfInBounds_toArray, List.set_cons_zero, List.set_cons_succ, i64_w, i32_w]
                        rfl
                      refine take_ (i := 7) (N := some 131) (v := ?_) (a' := ?_) #[true, true, true, true, true, true, true, true, false, false, false, true, false, false, false, false, false] rfl rfl (by kernel_rfl) (fun _ _ _ h => h) (Or.inl ⟨by rfl, ?_⟩) hHeld ?_ ?_
                      rotate_left
                      · rintro w' ⟨s0, s1⟩
                        go_simp
                        with_reducible rfl
                      rotate_left
                      · simp only [Act.put, List.setIfInBounds_toArray, List.set_cons_zero, List.set_cons_succ, i64_w, i32_w]
                        rfl
                      refine pure_ (i := 8) (N := some 132) (v := ?_) (a' := ?_) #[true, true, true, true, true, true, true, true, true, false, false, true, false, false, false, false, false] rfl rfl (by kernel_rfl) (fun _ _ _ h => h) (Or.inl ⟨by rfl, ?_⟩) ?_ ?_
                      rotate_left
                      · intro w'
                        go_simp
                        with_reducible rfl
                      rotate_left
                      · simp only [Act.put, List.setIfInBounds_toArray, List.set_cons_zero, List.set_cons_succ, i64_w, i32_w]
                        rfl
                      refine pure_ (i := 9) (N := some 133) (v := ?_) (a' := ?_) #[true, true, true, true, true, true, true, true, true, true, false, true, false, false, false, false, false] rfl rfl (by kernel_rfl) (fun _ _ _ h => h) (Or.inl ⟨by rfl, ?_⟩) ?_ ?_
                      rotate_left
                      · intro w'
                        go_simp
                        with_reducible rfl
                      rotate_left
                      · simp only [Act.put, List.setIfInBounds_toArray, List.set_cons_zero, List.set_cons_succ, i64_w, i32_w]
                        rfl
                      refine take_ (i := 10) (N := some 134) (v := ?_) (a' := ?_) #[true, true, true, true, true, true, true, true, true, true, true, true, false, false, false, false, false] rfl rfl (by kernel_rfl) (fun _ _ _ h => h) (Or.inl ⟨by rfl, ?_⟩) hHeld ?_ ?_
                      rotate_left
                      · rintro w' ⟨s0, s1⟩
                        go_simp
                        with_reducible rfl
                      rotate_left
                      · simp only [Act.put, List.setIfInBounds_toArray, List.set_cons_zero, List.set_cons_succ, i64_w, i32_w]
                        rfl
                      refine one_ (i := 12) (N := some 136) #[true, true, true, true, true, true, true, true, true, true, true, true, true, false, false, false, false] rfl rfl (by kernel_rfl) (by decide) (fun K hK => ?_)
                      refine value_ (w1 := ?_) (v := ?_) (by rfl) rfl ?_ ?_
                      rotate_left 2
                      · go_simp
                        constructor
                        · rfl
                        · rfl
                      refine hK.out _ _ ⟨(((Touch.refl (fun _ => False) w6.drew).alloc _).cell HF0.out.1 (fun h => h)), (((Touch.refl (fun _ => False) w6.drew).alloc _).cell HF0.out.2 (fun h => h))⟩ (fun hHeld => ?_)
                      clear hK K
                      refine norm_ (a' := ?_) ?_ ?_
                      rotate_left
                      · show Act.put _ (some 136) _ = _
                        simp only [Act.put, List.setIfInBounds_toArray, List.set_cons_zero, List.set_cons_succ, i64_w, i32_w]
                        rfl
                      refine one_ (i := 13) (N := some 137) #[true, true, true, true, true, true, true, true, true, true, true, true, true, true, false, false, false] rfl rfl (by kernel_rfl) (by decide) (fun K hK => ?_)
                      refine Kd.R_append_step (Kd.raw 1) (W := w6.drew) (w0 := w6.drew) G0 rfl (.tmp 134) (.tmp 136) 63 71 (.pointer none) 8 rfl Tryz.underlying63 info71 rfl (by decide) (by omega) (.slice As ips.length cs) (ips.map fun b => [pkey id b]) [pkey id ip] [pkey id ip] (fun _ => True) (fun _ => False) rfl (by first | rfl | (simp; done) | (simp; rfl)) ⟨rfl, rfl, fun u hu => (by simp at hu; subst hu; rfl)⟩ (fun _ hk => hk.elim) (fun _ _ => trivial) HIR.out (Below.refl _ _) HGW.out (by rw [List.length_map]; exact HIL.out) ?_
                      intro v137 w7 ho7 hb7 hg7 hat7
                      have HT7 := Aside0.mk (Touch.of_grown hg7)
                      have HR7 := Aside0.mk ho7
                      have HF3 := Aside0.mk (show w7.cell? ⟨ck, 1, none⟩ = some (.pointer (some ⟨nf, 0, none⟩)) from HT7.out.cell (show w6.drew.cell? ⟨ck, 1, none⟩ = some (.pointer (some ⟨nf, 0, none⟩)) from HF0.out.1) HNO.out.1)
                      have HF4 := Aside0.mk (show w7.cell? ⟨nf, 0, none⟩ = some (.slice As ips.length cs) from HT7.out.cell (show w6.drew.cell? ⟨nf, 0, none⟩ = some (.slice As ips.length cs) from HF0.out.2) HNO.out.2)
                      obtain ⟨A7, c7, hv7, _, _⟩ := Kd.R_reads HR7.out
                      subst hv7
                      clear ho7 hb7 hg7 hat7
                      refine hK.out _ _ ⟨HF3.out, HF4.out⟩ (fun hHeld => ?_)
                      clear hK K
                      refine norm_ (a' := ?_) ?_ ?_
                      rotate_left
                      · show Act.put _ (some 137) _ = _
                        simp only [Act.put, List.setIfInBounds_toArray, List.set_cons_zero, List.set_cons_succ, i64_w, i32_w]
                        rfl
                      refine pure_ (i := 14) (N := some 138) (v := ?_) (a' := ?_) #[true, true, true, true, true, true, true, true, true, true, true, true, true, true, true, false, false] rfl rfl (by kernel_rfl) (fun _ _ _ h => h) (Or.inl ⟨by rfl, ?_⟩) ?_ ?_
                      rotate_left
                      · intro w'
                        go_simp
                        with_reducible rfl
                      rotate_left
                      · simp only [Act.put, List.setIfInBounds_toArray, List.set_cons_zero, List.set_cons_succ, i64_w, i32_w]
                        rfl
                      refine pure_ (i := 15) (N := some 139) (v := ?_) (a' := ?_) #[true, true, true, true, true, true, true, true, true, true, true, true, true, true, true, true, false] rfl rfl (by kernel_rfl) (fun _ _ _ h => h) (Or.inl ⟨by rfl, ?_⟩) ?_ ?_
                      rotate_left
                      · intro w'
                        go_simp
                        with_reducible rfl
                      rotate_left
                      · simp only [Act.put, List.setIfInBounds_toArray, List.set_cons_zero, List.set_cons_succ, i64_w, i32_w]
                        rfl
                      refine last_ (i := 16) (N := none) #[true, true, true, true, true, true, true, true, true, true, true, true, true, true, true, true, true] rfl rfl (by kernel_rfl) (by decide) (fun K hK => ?_)
                      have hfz : w7.frozen? ⟨nf, 0, none⟩ = false := HFZ.out w7 HT7.out
                      have hcz := HF4.out
                      refine skip_ (w1 := ?_) (by rfl) rfl ?_ ?_
                      rotate_left
                      · go_simp
                        rfl
                      refine hK.out _ _ ?_
                      clear hK K
                      refine done_ (by kernel_rfl) ?_

                      have HC8 := Aside0.mk (cm_ini HC6.out HIE.out.1 (by rw [HSV.out]; exact HIR.out) HIE.out.2 (by rw [HSV.out]; exact HT7.out) HR7.out HIP.out HLV.out)
                      rw [List.length_append, List.length_map, List.length_singleton] at HC8
                      go_wp2_with fail
                      go_roundg (n1 - 1)
                      case measure =>
                        have h1 := HK.out
                        have h2 := HPU.out.pm.length_eq
                        have h3 := HPERM.out.length_eq
                        simp at h2 h3; omega
                      case rel => exact ⟨pops ++ [x], q2, outs ++ [o], cys', E ++ [di x], nd2, _, cv', ⟨by
                        have h1 := HK.out
                        have h2 := HPU.out.pm.length_eq
                        have h3 := HPERM.out.length_eq
                        simp at h2 h3 ⊢; omega⟩, HC8, ⟨pu_step HPU.out HPERM.out HQP.out HXG.out HND.out HCY.out HRP.out (.inr ⟨o, rfl, rfl, HMS6.out.1, HMS6.out.2.1, HMS6.out.2.2⟩) HXN.out.1⟩, ⟨two_step HTW.out HPERM.out HX0.out HGL.out.2⟩, HND3⟩
            · have hjn : j < nds.length := HPLX.out.1 j hjL
              have hjg : j ∈ gl := (HGL.out.1 j).2 ⟨hjn, fun e => HGI.out.clp x HXN.out.1 (fun h => ((HGL.out.1 x).1 HXG.out).2 h.2) j hjL ⟨hjn, e⟩⟩
              have HC3 := Aside0.mk (HC.out.soft hT3 (fun k hk _ => by subst hk; exact ⟨HRG.out, HI.out.it⟩))
              obtain ⟨ix, hG, hix, hout⟩ := HC3.out.qr.gr
              have hnj := (hG.node j hjn).2
              have hn2 := HND2.out j hjg
              rw [if_neg hjD, Int.sub_zero, HND.out j hjg] at hn2
              have hcb := cnt_bound (pops := pops) (hG.sl j hjn) HLEN.out
              rw [← hn2] at hcb
              have hw : wrap64 (nd2 j - 1) = nd2 j - 1 := by unfold wrap64; omega
              have c4 : w3.cell? ⟨gn j, 4, none⟩ = some (.int .i64 (nd2 j)) := (blk_cell hnj 4).trans rfl
              have c3 : w3.cell? ⟨gn j, 3, none⟩ = some (.int .i64 (ix j)) := (blk_cell hnj 3).trans rfl
              have f4 : w3.frozen? ⟨gn j, 4, none⟩ = false := blk_frozen hnj 4
              have hQ4 := HC3.out.qr.set_nd hjn (nd2 j - 1)
              have hT4 : Touch (Qs nds.length gn pq sl) w3 (w3.setCell ⟨gn j, 4, none⟩ (.int .i64 (nd2 j - 1))) := Touch.set_ (Touch.refl _ _) (fun _ => .inr (.inr ⟨j, hjn, rfl⟩)) _
              have HC4 := Aside0.mk (HC3.out.heap hQ4 hT4)
              have HI4 := Aside0.mk (iter_qs HC3.out hI3 hT4)
              have HJ := Aside0.mk (And.intro hjn hjg)
              have HJD := Aside0.mk hjD
              unfold pkey at hrun hen
              by_cases cq : j ∈ q2
              · obtain ⟨t, ht, hte⟩ := mem_getD cq
                have hixj : ix j = (t : Int) := by rw [← hte]; exact hix t ht
                rw [hixj] at c3
                clear hixj hte hcb hn2 hnj hQ4 hT4 hI3 hT3 hjn hjg hjD hjL hG hix hout HC HI HC3
                go_wp2_with fail
                refine (fix_of HC4.out.qr ht).mono ?_
                rintro e w5 ⟨rfl, q5, hH5⟩
                have HC5 := Aside0.mk (HC4.out.heap hH5.1 hH5.2.2)
                have HI5 := Aside0.mk (iter_qs HC4.out HI4.out hH5.2.2)
                have HQ5 := Aside0.mk (hH5.2.1.trans HQP.out)
                clear hH5 hw c3 c4 f4 hrun hen ht cq HC4 HI4
                go_wp2_with fail
                go_roundg (gk - 1)
                case measure =>
                  have h1 := HKD.out
                  have h2 := nodup_sub_length _ _ HI5.out.sub.1 HI5.out.sub.2
                  simp at h2; omega
                case rel => exact ⟨D ++ [j], q5, _, ⟨by
                  have h1 := HKD.out
                  have h2 := nodup_sub_length _ _ HI5.out.sub.1 HI5.out.sub.2
                  simp at h2 ⊢; omega⟩, HI5, HC5, HQ5, ⟨nd_step HND2.out HJD.out⟩⟩
              · have hixj : ix j = -1 := hout j hjg cq
                rw [hixj] at c3
                clear hixj hcb hn2 hnj hQ4 hT4 hI3 hT3 hjn hjg hjD hjL hG hix hout HC HI HC3
                go_wp2_with fail
                refine (fix_neg HC4.out.qr).mono ?_
                rintro e w5 ⟨rfl, hw5⟩
                subst hw5
                have HI5 := HI4
                clear hw c3 c4 f4 hrun hen cq HI4
                go_wp2_with fail
                go_roundg (gk - 1)
                case measure =>
                  have h1 := HKD.out
                  have h2 := nodup_sub_length _ _ HI5.out.sub.1 HI5.out.sub.2
                  simp at h2; omega
                case rel => exact ⟨D ++ [j], q2, _, ⟨by
                  have h1 := HKD.out
                  have h2 := nodup_sub_length _ _ HI5.out.sub.1 HI5.out.sub.2
                  simp at h2 ⊢; omega⟩, HI5, HC4, HQP, ⟨nd_step HND2.out HJD.out⟩⟩
end
end Go.Proofs.YtgaadjgfjiljjaaGreat
