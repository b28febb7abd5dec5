/- The graph of dependencies in memory (Gr): its nodes, their predecessors and successors; cost (52), the comparison (50), add (48) at a node. Conditions: those that each theorem names. -/
import Derived.Test.YtgaadjgfjiljjaaGreatXi
import Derived.Shelf.SlSortCmp.NoneTotal
namespace Go.Proofs.YtgaadjgfjiljjaaGreat
open Go.RowKit Go.Proofs.YtgaadjgfjiljjaaGreatW.PrintWords Go.Proofs.YtgaadjgfjiljjaaGreatW.PrintLast Go.Proofs.YtgaadjgfjiljjaaGreatW.PrintMore
open Go.ChangeMaps (setBlock)
set_option linter.unusedVariables false
set_option linter.unusedSimpArgs false

/-- The graph: node i lies in block gn i; its maps are pb i, sb i (or nil); PL i, SL i tell their numbers; ix i, nd i its two counts. G0: all of it lies behind. -/
structure Gr (n G0 : Nat) (ty ob gn : Nat → Nat) (pb sb : Nat → Option Nat) (PL SL : Nat → List Nat) (ix nd : Nat → Int) (w : World) : Prop where
  node : ∀ i, i < n → G0 ≤ gn i ∧ w.heap[gn i]? = some (.cells #[okey ty ob i, .map (pb i), .map (sb i), .int .i64 (ix i), .int .i64 (nd i)] 109 (0, 0))
  inj : ∀ i j, i < n → j < n → gn i = gn j → i = j
  pm : ∀ i, i < n → MapO w (pb i) (pkey gn) yes (PL i)
  sm : ∀ i, i < n → MapO w (sb i) (pkey gn) yes (SL i)
  pl : ∀ i, i < n → (∀ k ∈ PL i, k < n) ∧ (PL i).Nodup
  sl : ∀ i, i < n → (∀ k ∈ SL i, k < n) ∧ (SL i).Nodup
  pbase : ∀ i b, i < n → pb i = some b → G0 ≤ b
  sbase : ∀ i b, i < n → sb i = some b → G0 ≤ b
  pinj : ∀ i j b, i < n → j < n → pb i = some b → pb j = some b → i = j
  sinj : ∀ i j b, i < n → j < n → sb i = some b → sb j = some b → i = j
  ps : ∀ i j b, i < n → j < n → pb i = some b → sb j ≠ some b

section
variable {n G0 : Nat} {ty ob gn : Nat → Nat} {pb sb : Nat → Option Nat} {PL SL : Nat → List Nat} {ix nd : Nat → Int} {w w' : World} {S : Nat → Prop}

theorem MapO.same {r : Option Nat} {f g : Nat → Value} {L : List Nat} (h : MapO w r f g L) (hb : ∀ b, r = some b → w'.heap[b]? = w.heap[b]?) : MapO w' r f g L := by
  cases r with
  | none => exact h
  | some b => exact MapL.same h (hb b rfl)
theorem MapO.lt {b : Nat} {f g : Nat → Value} {L : List Nat} (h : MapO w (some b) f g L) : b < w.heap.size := MapL.lt h
theorem Gr.touch (h : Gr n G0 ty ob gn pb sb PL SL ix nd w) (hT : Touch S w w') (hS : ∀ k, S k → (∀ i, i < n → k ≠ gn i ∧ pb i ≠ some k ∧ sb i ≠ some k)) : Gr n G0 ty ob gn pb sb PL SL ix nd w' := by
  refine ⟨fun i hi => ⟨(h.node i hi).1, hT.blk (h.node i hi).2 (fun hs => (hS _ hs i hi).1 rfl)⟩, h.inj, fun i hi => (h.pm i hi).same (fun b hb => ?_), fun i hi => (h.sm i hi).same (fun b hb => ?_), h.pl, h.sl, h.pbase, h.sbase, h.pinj, h.sinj, h.ps⟩
  · have := h.pm i hi
    rw [hb] at this
    exact hT.block _ this.lt (fun hs => (hS _ hs i hi).2.1 hb)
  · have := h.sm i hi
    rw [hb] at this
    exact hT.block _ this.lt (fun hs => (hS _ hs i hi).2.2 hb)
/-- .. where what is touched lies elder than the graph. -/
theorem Gr.touch_elder (h : Gr n G0 ty ob gn pb sb PL SL ix nd w) (hT : Touch S w w') (hS : ∀ k, S k → k < G0) : Gr n G0 ty ob gn pb sb PL SL ix nd w' :=
  h.touch hT (fun k hk i hi => ⟨by have := (h.node i hi).1; have := hS k hk; omega, fun e => by have := h.pbase i k hi e; have := hS k hk; omega, fun e => by have := h.sbase i k hi e; have := hS k hk; omega⟩)

theorem len_mapO {T K E : TypeId} (hT : Tryz.prog.underlying T = some (.map K E)) (tys : TypeId) {r : Option Nat} {f g : Nat → Value} {L : List Nat} (hm : MapO w r f g L) (ts : Array TypeId) (hts : ts[0]? = some T) :
    (Builtin.len_ ts tys #[.map r]).run Tryz.prog w = .ok (.int .i64 (L.length : Int)) w := by
  cases r with
  | some b => exact len_map hT tys hm ts hts
  | none =>
    have hL : L = [] := hm
    subst hL
    simp only [Builtin.len_, hts]
    simp [run_underlying hT, Result.andThen, goInt]

theorem len_le (h : Gr n G0 ty ob gn pb sb PL SL ix nd w) {i : Nat} (hi : i < n) : (PL i).length ≤ n ∧ (SL i).length ≤ n :=
  ⟨nodup_lt_length n _ (h.pl i hi).2 (h.pl i hi).1, nodup_lt_length n _ (h.sl i hi).2 (h.sl i hi).1⟩

def costN (PL SL : Nat → List Nat) (i : Nat) : Int := (PL i).length * (SL i).length

set_option maxHeartbeats 4000000 in
set_option maxRecDepth 100000 in
theorem cost_of (h : Gr n G0 ty ob gn pb sb PL SL ix nd w) (hn : n ≤ 4096) {i : Nat} (hi : i < n) :
    Calls Tryz.prog 52 #[.pointer (some ⟨gn i, 0, none⟩)] w fun e w' => e = .returned (.int .i64 (costN PL SL i)) ∧ ∃ q, w' = w.drewN q := by
  have hc := (h.node i hi).2
  have c1 : w.cell? ⟨gn i, 1, none⟩ = some (.map (pb i)) := (blk_cell hc 1).trans rfl
  have c2 : w.cell? ⟨gn i, 2, none⟩ = some (.map (sb i)) := (blk_cell hc 2).trans rfl
  have hl := len_le h hi
  have l1 : ∀ q, (Builtin.len_ #[107] 3 #[.map (pb i)]).run Tryz.prog (w.drewN q) = .ok (.int .i64 ((PL i).length : Int)) (w.drewN q) := fun q => len_mapO (w := w.drewN q) (T := 107) Tryz.underlying107 3 ((h.pm i hi).same (fun _ _ => rfl)) #[107] rfl
  have l2 : ∀ q, (Builtin.len_ #[107] 3 #[.map (sb i)]).run Tryz.prog (w.drewN q) = .ok (.int .i64 ((SL i).length : Int)) (w.drewN q) := fun q => len_mapO (w := w.drewN q) (T := 107) Tryz.underlying107 3 ((h.sm i hi).same (fun _ _ => rfl)) #[107] rfl
  clear hc h
  go_enter Tryz.func52, Tryz.ntmps52
  go_wp2
  go_quiet (fail)
  go_wp2
  go_ret
  have hw : wrap64 (((PL i).length : Int) * ((SL i).length : Int)) = costN PL SL i := by
    have h1 := Nat.mul_le_mul (Nat.le_trans hl.1 hn) (Nat.le_trans hl.2 hn)
    unfold costN
    have h2 : (((PL i).length : Int) * ((SL i).length : Int)) = (((PL i).length * (SL i).length : Nat) : Int) := by simp
    rw [h2]
    unfold wrap64
    omega
  exact ⟨congrArg (fun x => Ending.returned (Value.int .i64 x)) hw, nq, rfl⟩

theorem Gr.drewN (h : Gr n G0 ty ob gn pb sb PL SL ix nd w) (q : Nat) : Gr n G0 ty ob gn pb sb PL SL ix nd (w.drewN q) := h.touch (S := fun _ => False) ((Touch.refl _ _).drewN q) (fun _ hf => hf.elim)

/-- The comparison of two nodes' costs. -/
def cmpC (PL SL : Nat → List Nat) (i j : Nat) : Int := cmpI (costN PL SL i) (costN PL SL j)
set_option maxHeartbeats 400000 in
set_option maxRecDepth 100000 in
theorem cmp50 (h : Gr n G0 ty ob gn pb sb PL SL ix nd w) (hn : n ≤ 4096) {i j : Nat} (hi : i < n) (hj : j < n) :
    Calls Tryz.prog 50 #[.pointer (some ⟨gn i, 0, none⟩), .pointer (some ⟨gn j, 0, none⟩)] w fun e w' => e = .returned (.int .i64 (cmpC PL SL i j)) ∧ ∃ q, w' = w.drewN q := by
  have H := Aside0.mk h
  clear h
  go_enter Tryz.func50, Tryz.ntmps50
  go_wp2_with fail
  refine (cost_of H.out hn hi).mono ?_
  rintro e w1 ⟨rfl, q1, rfl⟩
  have H1 := Aside0.mk (H.out.drewN q1)
  generalize hw1 : w.drewN q1 = w1 at *
  go_wp2_with fail
  refine (cost_of H1.out hn hj).mono ?_
  rintro e w2 ⟨rfl, q2, rfl⟩
  generalize hw2 : w1.drewN q2 = w2
  go_wp2_with fail
  refine (compare_calls _ _ _).mono ?_
  rintro e w3 ⟨rfl, hw3⟩
  subst hw3
  go_wp2_with fail
  go_ret
  exact ⟨rfl, q1 + q2, by rw [← hw2, ← hw1, World.drewN_drewN]⟩

end
end Go.Proofs.YtgaadjgfjiljjaaGreat

/- slices.SortFunc (49) over graph nodes: a permutation. Conditions: the graph (Gr). -/
namespace Go.Proofs.YtgaadjgfjiljjaaGreat
open Go.RowKit Go.Shelf Go.Lib Go.Sort Go.Proofs.YtgaadjgfjiljjaaGreatW.PrintWords
open Go.ChangeMaps (setBlock)
set_option linter.unusedVariables false
set_option linter.unusedSimpArgs false

theorem info102 : (Tryz.prog.info? 102).map (fun i => (i.zero, i.size, i.bytes)) = some (some (.pointer none), 1, 8) := by kernel_rfl

section
variable {n G0 : Nat} {ty ob gn : Nat → Nat} {pb sb : Nat → Option Nat} {PL SL : Nat → List Nat} {ix nd : Nat → Int} {w w' : World} {S : Nat → Prop}

theorem sortWorld_touch {α : Type} [Inhabited α] (enc : α → Value) (w : World) (blk off m : Nat) (dk : Array α) (os : Array Obj) : Touch (fun k => k = blk) w (sortWorld enc w blk off m dk os) := by
  have h := putRow_touch enc (Sort.ahead w m) blk off dk
  have h1 : Touch (fun k => k = blk) w (putRow enc (Sort.ahead w m) blk off dk) := ⟨h.os, h.tape, h.output, h.size, h.block⟩
  exact h1.trans (grow_touch _ _) (fun _ _ hf => hf.elim)

/-- A row of node pointers, read. -/
theorem rows_cells {D : List Nat} {b : Nat} {ok : Nat → Prop} {v : Value} (hR : (Kd.raw 1).R 102 w b ok v (D.map fun k => [pkey gn k])) (hD : 0 < D.length) :
    ∃ g cap cel, v = .slice (some ⟨g, 0, none⟩) D.length cap ∧ g < w.heap.size ∧ w.heap[g]? = some (.cells cel 102 (0, 0)) ∧ ∀ t, t < D.length → w.cell? ⟨g, t, none⟩ = some (pkey gn (D.getD t 0)) ∧ w.frozen? ⟨g, t, none⟩ = false := by
  obtain ⟨g, cap, hv, hg, hlt, cel, hcel⟩ := Kd.R_form hR (by rw [List.length_map]; omega)
  rw [List.length_map] at hv
  subst hv
  refine ⟨g, cap, cel, rfl, hlt, hcel, fun t ht => ?_⟩
  obtain ⟨c, hcl, hM, hcc, hfr⟩ := Kd.R_elem hR [] (t : Int) (by omega) (by omega)
  have hx : c = [pkey gn (D.getD t 0)] := by
    have h := hM.1
    rw [Int.toNat_natCast, List.getD_eq_getElem?_getD, List.getElem?_map, List.getElem?_eq_getElem ht] at h
    rw [h, List.getD_eq_getElem?_getD, List.getElem?_eq_getElem ht]; rfl
  have h1 := hcc 0 _ (by rw [hx]; rfl)
  have h2 := hfr 0
  rw [Int.toNat_natCast, show t * (Kd.raw 1).sz + 0 = t from by show t * 1 + 0 = t; omega] at h1 h2
  exact ⟨h1, h2⟩

theorem sortf_some (hG : Gr n G0 ty ob gn pb sb PL SL ix nd w) (hn : n ≤ 4096) (D : List Nat) (hD : ∀ k ∈ D, k < n) (hD0 : 0 < D.length) (hDl : D.length ≤ 4096) (b : Nat) (v : Value) (hR : (Kd.raw 1).R 102 w b (fun _ => True) v (D.map fun k => [pkey gn k])) :
    Calls Tryz.prog 49 #[v, .func (.func 50) #[] #[]] w fun e w' => e = .returned (.tuple #[]) ∧ ∃ D' : List Nat, D'.Perm D ∧ Touch (fun k => v.ownBlock = some k) w w' ∧
      ∃ g c, v = .slice (some ⟨g, 0, none⟩) D.length c ∧ ∀ t, t < D.length → w'.cell? ⟨g, t, none⟩ = some (pkey gn (D'.getD t 0)) := by
  obtain ⟨blk, cap, cel, rfl, hblk, hcel, hc⟩ := rows_cells hR hD0
  have hn0 : 0 < n := by
    cases D with
    | nil => simp at hD0
    | cons a l => have := hD a (by simp); omega
  haveI : Inhabited {k : Nat // k < n} := ⟨⟨0, hn0⟩⟩
  obtain ⟨d, hd⟩ : ∃ d : Array {k : Nat // k < n}, d = (D.pmap Subtype.mk hD).toArray := ⟨_, rfl⟩
  have hdl : d.toList.map (·.1) = D := by rw [hd]; simp [List.map_pmap]
  have hsz : d.size = D.length := by rw [← hdl]; simp
  obtain ⟨enc, henc⟩ : ∃ enc : {k : Nat // k < n} → Value, enc = fun x => pkey gn x.1 := ⟨_, rfl⟩
  obtain ⟨cf, hcf⟩ : ∃ cf : {k : Nat // k < n} → {k : Nat // k < n} → Int, cf = fun x y => cmpC PL SL x.1 y.1 := ⟨_, rfl⟩
  have hO : SWO (ltOf cf) := by
    have hlt : ∀ x y, ltOf cf x y = decide (costN PL SL x.1 < costN PL SL y.1) := fun x y => by
      unfold ltOf
      rw [hcf]
      show decide (cmpI (costN PL SL x.1) (costN PL SL y.1) < 0) = _
      unfold cmpI
      by_cases h1 : costN PL SL x.1 < costN PL SL y.1
      · rw [if_pos h1, decide_eq_true h1]; rfl
      · rw [if_neg h1, decide_eq_false h1]
        split <;> rfl
    refine ⟨fun x => ?_, fun x y z h1 h2 => ?_, fun x y z h1 h2 => ?_⟩
    · rw [hlt]; simp
    · rw [hlt] at *; simp only [decide_eq_true_eq] at *; omega
    · rw [hlt] at *; simp only [decide_eq_false_iff_not] at *; omega
  have get_val : ∀ (e : Array {k : Nat // k < n}) (t : Nat), t < e.size → (e.toList.map (·.1)).getD t 0 = (e[t]!).1 := fun e t ht => by
    rw [List.getD_eq_getElem?_getD, List.getElem?_map, Array.getElem?_toList, getElem!_pos e t ht, Array.getElem?_eq_getElem ht]; rfl
  have hH : Holds enc w blk 0 d := fun t ht => by
    have h := hc t (by omega)
    rw [Nat.zero_add]
    refine ⟨?_, h.2⟩
    rw [h.1, henc, ← hdl, get_val d t ht]
  have hnot : ∀ i, i < n → blk ≠ gn i ∧ pb i ≠ some blk ∧ sb i ≠ some blk := fun i hi => by
    refine ⟨fun e => ?_, fun e => ?_, fun e => ?_⟩
    · have h := (hG.node i hi).2
      rw [← e, hcel] at h; injection h with h; injection h with _ h _; exact absurd h (by decide)
    · have h := hG.pm i hi
      rw [e] at h
      obtain ⟨es, c, ho⟩ := MapL.obj h
      rw [hcel] at ho; cases ho
    · have h := hG.sm i hi
      rw [e] at h
      obtain ⟨es, c, ho⟩ := MapL.obj h
      rw [hcel] at ho; cases ho
  rw [← hsz]
  have hcmp : CmpLays1 Tryz.prog 50 #[] enc cf blk 0 d.size w := fun m os dk hs x y => by
    have hGs : Gr n G0 ty ob gn pb sb PL SL ix nd (sortWorld enc w blk 0 m dk os) := hG.touch (sortWorld_touch enc w blk 0 m dk os) (fun k hk i hi => by rw [hk]; exact hnot i hi)
    have h := cmp50 hGs hn x.2 y.2
    rw [henc, hcf]
    rw [henc] at h
    refine h.mono ?_
    rintro e w' ⟨he, q, hw⟩
    exact ⟨he, q, #[], by rw [hw, grow_empty]⟩
  have hS := Any.slices_SortFunc Tryz.slf6 enc (fun x => by rw [henc]; rfl) cf hO 50 #[] blk 0 cap d w (enters_of Tryz.func50 (by kernel_rfl) rfl) hcmp hH hblk (by omega)
  change Calls Tryz.prog 49 _ _ _ at hS
  refine hS.mono ?_
  rintro e w' ⟨rfl, d', m, os, ⟨hps, _, hperm⟩, _, rfl⟩
  refine ⟨rfl, d'.toList.map (·.1), ?_, (sortWorld_touch enc w blk 0 m d' os).mono (fun k _ hk => by rw [hk]; rfl), blk, cap, rfl, fun t ht => ?_⟩
  · rw [← hdl]
    refine List.Perm.map _ ?_
    have e1 : d'.extract 0 d.size = d' := by rw [← hps]; simp
    have e2 : d.extract 0 d.size = d := by simp
    rw [e1, e2] at hperm
    exact hperm
  · rw [get_val d' t (by omega)]
    unfold sortWorld
    rw [cell?_grow _ _ _ (by simp [putRow, mapBlock]; exact hblk)]
    have h := cell?_putRow enc (Sort.ahead w m) blk 0 d d' (holds_ahead _ _ _ _ _ _ hH) hps t (by omega)
    rw [Nat.zero_add] at h
    rw [h, henc]


theorem sortf_nil (p : Option Addr) (c : Nat) (fv : Value) (w : World) : Calls Tryz.prog 49 #[.slice p 0 c, fv] w fun e w' => e = .returned (.tuple #[]) ∧ w' = w := by
  have L := Tryz.slf6
  have h := AnyF.slices_SortFunc_none (P := Tryz.prog) (ρ := Tryz.slf6_ren) { L with } p c fv w
  exact h

end
end Go.Proofs.YtgaadjgfjiljjaaGreat

/- add (48) at a node of the graph: the successors' map, the predecessors' map; delete. Conditions: the graph (Gr). -/
namespace Go.Proofs.YtgaadjgfjiljjaaGreat
open Go.RowKit Go.Proofs.YtgaadjgfjiljjaaGreatW.PrintWords
open Go.ChangeMaps (setBlock)
set_option linter.unusedVariables false
set_option linter.unusedSimpArgs false

def updL (F : Nat → List Nat) (i : Nat) (L : List Nat) (k : Nat) : List Nat := if k = i then L else F k
theorem updL_at (F : Nat → List Nat) (i : Nat) (L : List Nat) : updL F i L i = L := if_pos rfl
theorem updL_ne (F : Nat → List Nat) {i k : Nat} (L : List Nat) (h : k ≠ i) : updL F i L k = F k := if_neg h
def updO (F : Nat → Option Nat) (i : Nat) (b : Option Nat) (k : Nat) : Option Nat := if k = i then b else F k
theorem updO_at (F : Nat → Option Nat) (i : Nat) (b : Option Nat) : updO F i b i = b := if_pos rfl
theorem updO_ne (F : Nat → Option Nat) {i k : Nat} (b : Option Nat) (h : k ≠ i) : updO F i b k = F k := if_neg h
theorem addL_nodup {L : List Nat} {j : Nat} (h : L.Nodup) : (addL L j).Nodup := by
  unfold addL; split
  · exact h
  · rename_i hn; exact List.nodup_append.2 ⟨h, by simp, fun a ha b hb => by simp at hb; subst hb; exact fun e => hn (e ▸ ha)⟩

section
variable {n G0 : Nat} {ty ob gn : Nat → Nat} {pb sb : Nat → Option Nat} {PL SL : Nat → List Nat} {ix nd : Nat → Int} {w w' : World}

theorem Gr.row (h : Gr n G0 ty ob gn pb sb PL SL ix nd w) {i : Nat} (hi : i < n) : IsRow w (gn i) := ⟨_, _, (h.node i hi).2⟩

theorem add_s (h : Gr n G0 ty ob gn pb sb PL SL ix nd w) {i j : Nat} (hi : i < n) (hj : j < n) :
    Calls Tryz.prog 48 #[.pointer (some ⟨gn i, 2, none⟩), .pointer (some ⟨gn j, 0, none⟩)] w fun e w' => e = .returned (.tuple #[]) ∧ ∃ sb' : Nat → Option Nat, (∀ k, k ≠ i → sb' k = sb k) ∧ (∀ b, sb i = some b → sb' i = some b) ∧
      Gr n G0 ty ob gn pb sb' PL (updL SL i (addL (SL i) j)) ix nd w' ∧ Touch (fun k => k = gn i ∨ sb i = some k) w w' := by
  have hnode := (h.node i hi).2
  have hGle := (h.node i hi).1
  have hlt := blk_lt hnode
  cases hs : sb i with
  | some mb =>
    have hmm := h.sm i hi
    rw [hs] at hmm
    have hm : MapL w mb (pkey gn) yes (SL i) := hmm
    obtain ⟨mes, mc, hmo⟩ := hm.obj
    have hng : ∀ k, k < n → gn k ≠ mb := fun k hk e => by
      have := (h.node k hk).2
      rw [e, hmo] at this; cases this
    refine (add_some (gn i) 2 mb _ gn j (SL i) w hnode (by rw [hs]; rfl) hm (h.row hj) (fun k hk => h.row ((h.sl i hi).1 k hk)) (fun k hk e => (h.inj j k hj ((h.sl i hi).1 k hk) e).symm)).mono ?_
    rintro e w' ⟨rfl, hT, hM⟩
    refine ⟨rfl, sb, fun _ _ => rfl, fun b hb => by rw [hs]; exact hb, ?_, hT.mono (fun k _ hk => .inr (by rw [hk]))⟩
    refine ⟨fun k hk => ⟨(h.node k hk).1, hT.blk (h.node k hk).2 (hng k hk)⟩, h.inj, ?_, ?_, ?_, ?_, h.pbase, h.sbase, h.pinj, h.sinj, h.ps⟩
    · intro k hk
      exact (h.pm k hk).same (fun b hb => hT.block _ (by have := h.pm k hk; rw [hb] at this; exact this.lt) (fun e' => h.ps k i b hk hi hb (by rw [hs, e'])))
    · intro k hk
      by_cases e : k = i
      · subst e; rw [hs, updL_at]; exact hM
      · rw [updL_ne _ _ e]
        exact (h.sm k hk).same (fun b hb => hT.block _ (by have := h.sm k hk; rw [hb] at this; exact this.lt) (fun e' => e (h.sinj k i b hk hi hb (by rw [hs, e']))))
    · exact h.pl
    · intro k hk
      by_cases e : k = i
      · subst e; rw [updL_at]
        exact ⟨fun q hq => (addL_mem.1 hq).elim ((h.sl k hk).1 q) (fun e => e ▸ hj), addL_nodup (h.sl k hk).2⟩
      · rw [updL_ne _ _ e]; exact h.sl k hk
  | none =>
    have hmm := h.sm i hi
    rw [hs] at hmm
    have hL : SL i = [] := hmm
    refine (add_none (gn i) 2 _ gn j w hnode (by rw [hs]; rfl) (h.row hj)).mono ?_
    rintro e w' ⟨rfl, hT, hg, hM⟩
    have hfresh_p : ∀ k b, k < n → pb k = some b → b < w.heap.size := fun k b hk hb => by have := h.pm k hk; rw [hb] at this; exact this.lt
    have hfresh_s : ∀ k b, k < n → sb k = some b → b < w.heap.size := fun k b hk hb => by have := h.sm k hk; rw [hb] at this; exact this.lt
    have hne_p : ∀ k b, k < n → pb k = some b → b ≠ gn i := fun k b hk hb e => by
      have := h.pm k hk; rw [hb] at this
      obtain ⟨es, c, ho⟩ := MapL.obj this
      rw [e, hnode] at ho; cases ho
    have hne_s : ∀ k b, k < n → sb k = some b → b ≠ gn i := fun k b hk hb e => by
      have := h.sm k hk; rw [hb] at this
      obtain ⟨es, c, ho⟩ := MapL.obj this
      rw [e, hnode] at ho; cases ho
    refine ⟨rfl, updO sb i (some w.heap.size), fun k hk => updO_ne _ _ hk, fun b hb => (by cases hb), ?_, hT.mono (fun k _ hk => .inl hk)⟩
    refine ⟨fun k hk => ⟨(h.node k hk).1, ?_⟩, h.inj, ?_, ?_, ?_, ?_, ?_, ?_, ?_, ?_, ?_⟩
    · by_cases e : k = i
      · subst e; rw [updO_at]; exact hg
      · rw [updO_ne _ _ e]
        exact hT.blk (h.node k hk).2 (fun e' => e (h.inj k i hk hi e'))
    · intro k hk
      exact (h.pm k hk).same (fun b hb => hT.block _ (hfresh_p k b hk hb) (hne_p k b hk hb))
    · intro k hk
      by_cases e : k = i
      · subst e; rw [updO_at, updL_at, hL]; exact hM
      · rw [updO_ne _ _ e, updL_ne _ _ e]
        exact (h.sm k hk).same (fun b hb => hT.block _ (hfresh_s k b hk hb) (hne_s k b hk hb))
    · exact h.pl
    · intro k hk
      by_cases e : k = i
      · subst e; rw [updL_at]
        exact ⟨fun q hq => (addL_mem.1 hq).elim ((h.sl k hk).1 q) (fun e => e ▸ hj), addL_nodup (h.sl k hk).2⟩
      · rw [updL_ne _ _ e]; exact h.sl k hk
    · exact h.pbase
    · intro k b hk hb
      by_cases e : k = i
      · subst e; rw [updO_at] at hb; injection hb with hb; omega
      · rw [updO_ne _ _ e] at hb; exact h.sbase k b hk hb
    · exact h.pinj
    · intro k q b hk hq hb hb'
      by_cases e : k = i
      · by_cases e' : q = i
        · omega
        · rw [e, updO_at] at hb; rw [updO_ne _ _ e'] at hb'
          injection hb with hb
          have := hfresh_s q b hq hb'; omega
      · by_cases e' : q = i
        · rw [e', updO_at] at hb'; rw [updO_ne _ _ e] at hb
          injection hb' with hb'
          have := hfresh_s k b hk hb; omega
        · rw [updO_ne _ _ e] at hb; rw [updO_ne _ _ e'] at hb'
          exact h.sinj k q b hk hq hb hb'
    · intro k q b hk hq hb hb'
      by_cases e : q = i
      · rw [e, updO_at] at hb'; injection hb' with hb'
        have := hfresh_p k b hk hb; omega
      · rw [updO_ne _ _ e] at hb'; exact h.ps k q b hk hq hb hb'

theorem add_p (h : Gr n G0 ty ob gn pb sb PL SL ix nd w) {i j : Nat} (hi : i < n) (hj : j < n) :
    Calls Tryz.prog 48 #[.pointer (some ⟨gn i, 1, none⟩), .pointer (some ⟨gn j, 0, none⟩)] w fun e w' => e = .returned (.tuple #[]) ∧ ∃ sb' : Nat → Option Nat, (∀ k, k ≠ i → sb' k = pb k) ∧ (∀ b, pb i = some b → sb' i = some b) ∧
      Gr n G0 ty ob gn sb' sb (updL PL i (addL (PL i) j)) SL ix nd w' ∧ Touch (fun k => k = gn i ∨ pb i = some k) w w' := by
  have hnode := (h.node i hi).2
  have hGle := (h.node i hi).1
  have hlt := blk_lt hnode
  cases hs : pb i with
  | some mb =>
    have hmm := h.pm i hi
    rw [hs] at hmm
    have hm : MapL w mb (pkey gn) yes (PL i) := hmm
    obtain ⟨mes, mc, hmo⟩ := hm.obj
    have hng : ∀ k, k < n → gn k ≠ mb := fun k hk e => by
      have := (h.node k hk).2
      rw [e, hmo] at this; cases this
    refine (add_some (gn i) 1 mb _ gn j (PL i) w hnode (by rw [hs]; rfl) hm (h.row hj) (fun k hk => h.row ((h.pl i hi).1 k hk)) (fun k hk e => (h.inj j k hj ((h.pl i hi).1 k hk) e).symm)).mono ?_
    rintro e w' ⟨rfl, hT, hM⟩
    refine ⟨rfl, pb, fun _ _ => rfl, fun b hb => by rw [hs]; exact hb, ?_, hT.mono (fun k _ hk => .inr (by rw [hk]))⟩
    refine ⟨fun k hk => ⟨(h.node k hk).1, hT.blk (h.node k hk).2 (hng k hk)⟩, h.inj, ?_, ?_, ?_, ?_, h.pbase, h.sbase, h.pinj, h.sinj, h.ps⟩
    · intro k hk
      by_cases e : k = i
      · subst e; rw [hs, updL_at]; exact hM
      · rw [updL_ne _ _ e]
        exact (h.pm k hk).same (fun b hb => hT.block _ (by have := h.pm k hk; rw [hb] at this; exact this.lt) (fun e' => e (h.pinj k i b hk hi hb (by rw [hs, e']))))
    · intro k hk
      exact (h.sm k hk).same (fun b hb => hT.block _ (by have := h.sm k hk; rw [hb] at this; exact this.lt) (fun e' => h.ps i k b hi hk (by rw [hs, e']) hb))
    · intro k hk
      by_cases e : k = i
      · subst e; rw [updL_at]
        exact ⟨fun q hq => (addL_mem.1 hq).elim ((h.pl k hk).1 q) (fun e => e ▸ hj), addL_nodup (h.pl k hk).2⟩
      · rw [updL_ne _ _ e]; exact h.pl k hk
    · exact h.sl
  | none =>
    have hmm := h.pm i hi
    rw [hs] at hmm
    have hL : PL i = [] := hmm
    refine (add_none (gn i) 1 _ gn j w hnode (by rw [hs]; rfl) (h.row hj)).mono ?_
    rintro e w' ⟨rfl, hT, hg, hM⟩
    have hfresh_p : ∀ k b, k < n → pb k = some b → b < w.heap.size := fun k b hk hb => by have := h.pm k hk; rw [hb] at this; exact this.lt
    have hfresh_s : ∀ k b, k < n → sb k = some b → b < w.heap.size := fun k b hk hb => by have := h.sm k hk; rw [hb] at this; exact this.lt
    have hne_p : ∀ k b, k < n → pb k = some b → b ≠ gn i := fun k b hk hb e => by
      have := h.pm k hk; rw [hb] at this
      obtain ⟨es, c, ho⟩ := MapL.obj this
      rw [e, hnode] at ho; cases ho
    have hne_s : ∀ k b, k < n → sb k = some b → b ≠ gn i := fun k b hk hb e => by
      have := h.sm k hk; rw [hb] at this
      obtain ⟨es, c, ho⟩ := MapL.obj this
      rw [e, hnode] at ho; cases ho
    refine ⟨rfl, updO pb i (some w.heap.size), fun k hk => updO_ne _ _ hk, fun b hb => (by cases hb), ?_, hT.mono (fun k _ hk => .inl hk)⟩
    refine ⟨fun k hk => ⟨(h.node k hk).1, ?_⟩, h.inj, ?_, ?_, ?_, ?_, ?_, ?_, ?_, ?_, ?_⟩
    · by_cases e : k = i
      · subst e; rw [updO_at]; exact hg
      · rw [updO_ne _ _ e]
        exact hT.blk (h.node k hk).2 (fun e' => e (h.inj k i hk hi e'))
    · intro k hk
      by_cases e : k = i
      · subst e; rw [updO_at, updL_at, hL]; exact hM
      · rw [updO_ne _ _ e, updL_ne _ _ e]
        exact (h.pm k hk).same (fun b hb => hT.block _ (hfresh_p k b hk hb) (hne_p k b hk hb))
    · intro k hk
      exact (h.sm k hk).same (fun b hb => hT.block _ (hfresh_s k b hk hb) (hne_s k b hk hb))
    · intro k hk
      by_cases e : k = i
      · subst e; rw [updL_at]
        exact ⟨fun q hq => (addL_mem.1 hq).elim ((h.pl k hk).1 q) (fun e => e ▸ hj), addL_nodup (h.pl k hk).2⟩
      · rw [updL_ne _ _ e]; exact h.pl k hk
    · exact h.sl
    · intro k b hk hb
      by_cases e : k = i
      · subst e; rw [updO_at] at hb; injection hb with hb; omega
      · rw [updO_ne _ _ e] at hb; exact h.pbase k b hk hb
    · exact h.sbase
    · intro k q b hk hq hb hb'
      by_cases e : k = i
      · by_cases e' : q = i
        · omega
        · rw [e, updO_at] at hb; rw [updO_ne _ _ e'] at hb'
          injection hb with hb
          have := hfresh_p q b hq hb'; omega
      · by_cases e' : q = i
        · rw [e', updO_at] at hb'; rw [updO_ne _ _ e] at hb
          injection hb' with hb'
          have := hfresh_p k b hk hb; omega
        · rw [updO_ne _ _ e] at hb; rw [updO_ne _ _ e'] at hb'
          exact h.pinj k q b hk hq hb hb'
    · exact h.sinj
    · intro k q b hk hq hb hb'
      by_cases e : k = i
      · rw [e, updO_at] at hb; injection hb with hb
        have := hfresh_s q b hq hb'; omega
      · rw [updO_ne _ _ e] at hb; exact h.ps k q b hk hq hb hb'

theorem del_s (h : Gr n G0 ty ob gn pb sb PL SL ix nd w) {i j b : Nat} (hi : i < n) (hj : j < n) (hs : sb i = some b) (tys : TypeId) :
    ∃ w', (Builtin.delete_ #[107, 102] tys #[.map (some b), .pointer (some ⟨gn j, 0, none⟩)]).run Tryz.prog w = .ok (.tuple #[]) w' ∧ Gr n G0 ty ob gn pb sb PL (updL SL i ((SL i).erase j)) ix nd w' ∧ Touch (fun k => sb i = some k) w w' := by
  have hmm := h.sm i hi
  rw [hs] at hmm
  have hm : MapL w b (pkey gn) yes (SL i) := hmm
  obtain ⟨mes, mc, hmo⟩ := hm.obj
  have hng : ∀ k, k < n → gn k ≠ b := fun k hk e => by
    have := (h.node k hk).2
    rw [e, hmo] at this; cases this
  have hka := key_pkey (w := w) (K := 102) Tryz.underlying102 infoS109 gn yes (SL i) j (h.row hj) (fun k hk => h.row ((h.sl i hi).1 k hk)) (fun k hk e => (h.inj j k hj ((h.sl i hi).1 k hk) e).symm)
  have hd : ∃ o, (Builtin.delete_ #[107, 102] tys #[.map (some b), .pointer (some ⟨gn j, 0, none⟩)]).run Tryz.prog w = .ok (.tuple #[]) (setBlock w b o) ∧ MapL (setBlock w b o) b (pkey gn) yes ((SL i).erase j) := by
    by_cases hjm : j ∈ SL i
    · exact delete_found (P := Tryz.prog) (T := 107) Tryz.underlying107 tys hm hka hjm dec_iff #[107, 102] rfl
    · rw [List.erase_of_not_mem hjm]
      exact delete_absent (P := Tryz.prog) (T := 107) Tryz.underlying107 tys hm hka (dec_absent hjm) #[107, 102] rfl
  obtain ⟨o, h1, hM⟩ := hd
  have hT := touch_set w b o
  refine ⟨_, h1, ?_, hT.mono (fun k _ hk => by rw [hk]; exact hs)⟩
  refine ⟨fun k hk => ⟨(h.node k hk).1, hT.blk (h.node k hk).2 (hng k hk)⟩, h.inj, ?_, ?_, ?_, ?_, h.pbase, h.sbase, h.pinj, h.sinj, h.ps⟩
  · intro k hk
    exact (h.pm k hk).same (fun c hc => hT.block _ (by have := h.pm k hk; rw [hc] at this; exact this.lt) (fun e' => h.ps k i c hk hi hc (by rw [hs, e'])))
  · intro k hk
    by_cases e : k = i
    · subst e; rw [hs, updL_at]; exact hM
    · rw [updL_ne _ _ e]
      exact (h.sm k hk).same (fun c hc => hT.block _ (by have := h.sm k hk; rw [hc] at this; exact this.lt) (fun e' => e (h.sinj k i c hk hi hc (by rw [hs, e']))))
  · exact h.pl
  · intro k hk
    by_cases e : k = i
    · subst e; rw [updL_at]
      exact ⟨fun q hq => (h.sl k hk).1 q (List.mem_of_mem_erase hq), (h.sl k hk).2.erase _⟩
    · rw [updL_ne _ _ e]; exact h.sl k hk

theorem del_p (h : Gr n G0 ty ob gn pb sb PL SL ix nd w) {i j b : Nat} (hi : i < n) (hj : j < n) (hs : pb i = some b) (tys : TypeId) :
    ∃ w', (Builtin.delete_ #[107, 102] tys #[.map (some b), .pointer (some ⟨gn j, 0, none⟩)]).run Tryz.prog w = .ok (.tuple #[]) w' ∧ Gr n G0 ty ob gn pb sb (updL PL i ((PL i).erase j)) SL ix nd w' ∧ Touch (fun k => pb i = some k) w w' := by
  have hmm := h.pm i hi
  rw [hs] at hmm
  have hm : MapL w b (pkey gn) yes (PL i) := hmm
  obtain ⟨mes, mc, hmo⟩ := hm.obj
  have hng : ∀ k, k < n → gn k ≠ b := fun k hk e => by
    have := (h.node k hk).2
    rw [e, hmo] at this; cases this
  have hka := key_pkey (w := w) (K := 102) Tryz.underlying102 infoS109 gn yes (PL i) j (h.row hj) (fun k hk => h.row ((h.pl i hi).1 k hk)) (fun k hk e => (h.inj j k hj ((h.pl i hi).1 k hk) e).symm)
  have hd : ∃ o, (Builtin.delete_ #[107, 102] tys #[.map (some b), .pointer (some ⟨gn j, 0, none⟩)]).run Tryz.prog w = .ok (.tuple #[]) (setBlock w b o) ∧ MapL (setBlock w b o) b (pkey gn) yes ((PL i).erase j) := by
    by_cases hjm : j ∈ PL i
    · exact delete_found (P := Tryz.prog) (T := 107) Tryz.underlying107 tys hm hka hjm dec_iff #[107, 102] rfl
    · rw [List.erase_of_not_mem hjm]
      exact delete_absent (P := Tryz.prog) (T := 107) Tryz.underlying107 tys hm hka (dec_absent hjm) #[107, 102] rfl
  obtain ⟨o, h1, hM⟩ := hd
  have hT := touch_set w b o
  refine ⟨_, h1, ?_, hT.mono (fun k _ hk => by rw [hk]; exact hs)⟩
  refine ⟨fun k hk => ⟨(h.node k hk).1, hT.blk (h.node k hk).2 (hng k hk)⟩, h.inj, ?_, ?_, ?_, ?_, h.pbase, h.sbase, h.pinj, h.sinj, h.ps⟩
  · intro k hk
    by_cases e : k = i
    · subst e; rw [hs, updL_at]; exact hM
    · rw [updL_ne _ _ e]
      exact (h.pm k hk).same (fun c hc => hT.block _ (by have := h.pm k hk; rw [hc] at this; exact this.lt) (fun e' => e (h.pinj k i c hk hi hc (by rw [hs, e']))))
  · intro k hk
    exact (h.sm k hk).same (fun c hc => hT.block _ (by have := h.sm k hk; rw [hc] at this; exact this.lt) (fun e' => h.ps i k c hi hk (by rw [hs, e']) hc))
  · intro k hk
    by_cases e : k = i
    · subst e; rw [updL_at]
      exact ⟨fun q hq => (h.pl k hk).1 q (List.mem_of_mem_erase hq), (h.pl k hk).2.erase _⟩
    · rw [updL_ne _ _ e]; exact h.pl k hk
  · exact h.sl

end
end Go.Proofs.YtgaadjgfjiljjaaGreat
