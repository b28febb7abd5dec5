/- What build has laid behind i nodes: the objects (On), their declarations (Dn), and how each step carries them on. Conditions: those that each theorem names. -/
import Derived.Test.YtgaadjgfjiljjaaGreatXf
import Derived.Test.YtgaadjgfjiljjaaGreatXe
namespace Go.Proofs.YtgaadjgfjiljjaaGreat
open Go.RowKit Go.Proofs.YtgaadjgfjiljjaaGreatW.PrintWords Go.Proofs.YtgaadjgfjiljjaaGreatW.PrintLast Go.Proofs.YtgaadjgfjiljjaaGreatW.PrintMore
open Go.ChangeMaps (setBlock)
set_option linter.unusedVariables false
set_option linter.unusedSimpArgs false

/-- The type of an object's pointer, from its node. -/
def tyN (nds : List Nd) (i : Nat) : Nat := if (rd_Nd nds i).kd = 0 then 90 else if (rd_Nd nds i).kd = 1 then 75 else 94
theorem tyN_oty (nds : List Nd) (i : Nat) : OTy (tyN nds i) := by unfold tyN OTy; split <;> (try split) <;> simp
theorem oEl_ne (nds : List Nd) (i t : Nat) (h : t ≠ 91 ∧ t ≠ 80 ∧ t ≠ 95) : oEl (tyN nds i) ≠ t := by
  obtain ⟨h1, h2, h3⟩ := h
  unfold oEl; split
  · exact fun e => h1 e.symm
  · split
    · exact fun e => h2 e.symm
    · exact fun e => h3 e.symm
def dkey (di : Nat → Nat) (i : Nat) : Value := .pointer (some ⟨di i, 0, none⟩)
def gkey (nds : List Nd) (i : Nat) : Value := .int .i64 (rd_Nd nds i).gr
def lCells (nds : List Nd) (ob : Nat → Nat) (i : Nat) : Array Value := ((List.range nds.length).map fun j => if j < i then okey (tyN nds) ob j else .nilIface).toArray
theorem lCells_size (nds : List Nd) (ob : Nat → Nat) (i : Nat) : (lCells nds ob i).size = nds.length := by simp [lCells]
theorem lCells_get (nds : List Nd) (ob : Nat → Nat) (i j : Nat) (h : j < nds.length) : (lCells nds ob i)[j]? = some (if j < i then okey (tyN nds) ob j else .nilIface) := by
  unfold lCells
  rw [List.getElem?_toArray, List.getElem?_map, List.getElem?_range h]; rfl
theorem rdNd_mem {nds : List Nd} {j : Nat} (h : j < nds.length) : rd_Nd nds j ∈ nds := by
  unfold rd_Nd; rw [List.getD_eq_getElem?_getD, List.getElem?_eq_getElem h]; exact List.getElem_mem h
def upd (f : Nat → Nat) (j v : Nat) (k : Nat) : Nat := if k = j then v else f k
theorem upd_at (f : Nat → Nat) (j v : Nat) : upd f j v j = v := if_pos rfl
theorem upd_ne (f : Nat → Nat) {j k : Nat} (v : Nat) (h : k ≠ j) : upd f j v k = f k := if_neg h
theorem lCells_step (nds : List Nd) (ob : Nat → Nat) (j b : Nat) (h : j < nds.length) : (lCells nds ob j).setIfInBounds j (.iface (tyN nds j) (.pointer (some ⟨b, 0, none⟩))) = lCells nds (upd ob j b) (j + 1) := by
  apply Array.ext_getElem?
  intro k
  rw [Array.getElem?_setIfInBounds]
  by_cases hk : k < nds.length
  · rw [lCells_get _ _ _ _ hk]
    by_cases e : j = k
    · subst e
      rw [if_pos rfl, if_pos (by rw [lCells_size]; exact h), lCells_get _ _ _ _ h, if_pos (Nat.lt_succ_self _)]
      unfold okey; rw [upd_at]
    · rw [if_neg e, lCells_get _ _ _ _ hk]
      by_cases hlt : k < j
      · rw [if_pos hlt, if_pos (by omega)]
        unfold okey; rw [upd_ne _ _ (by omega)]
      · rw [if_neg hlt, if_neg (by omega)]
  · have e : j ≠ k := by omega
    rw [if_neg e, Array.getElem?_eq_none (by rw [lCells_size]; omega), Array.getElem?_eq_none (by rw [lCells_size]; omega)]

/-- Nodes such as build asks for. -/
structure NdsOk (nds : List Nd) : Prop where
  len : nds.length ≤ 4096
  kd : ∀ x ∈ nds, x.kd = 0 ∨ x.kd = 1 ∨ x.kd = 2
  gr : ∀ x ∈ nds, 0 ≤ x.gr
  ini : ∀ x ∈ nds, 0 < x.gr → x.kd = 1 ∧ x.ini = true
  dp : ∀ x ∈ nds, ∀ r ∈ x.dp, 0 ≤ r ∧ r < (nds.length : Int)
  dl : ∀ x ∈ nds, x.dp.length ≤ 2147483647

/-- The objects, behind i nodes. -/
structure On (nds : List Nd) (w0 : World) (lb gm om nf ck : Nat) (i : Nat) (ob : Nat → Nat) (w : World) : Prop where
  below : Below w0.heap.size w0 w
  ord : w0.heap.size ≤ lb ∧ lb < gm ∧ gm < om ∧ om < nf ∧ nf < ck
  l : w.heap[lb]? = some (.cells (lCells nds ob i) 82 (0, 0))
  nf_ : w.heap[nf]? = some (.cells #[.slice none 0 0] 65 (0, 0))
  ck_ : w.heap[ck]? = some (.cells #[.map (some om), .pointer (some ⟨nf, 0, none⟩), .slice none 0 0] 70 (0, 0))
  obj : ∀ j, j < i → ck < ob j ∧ w.heap[ob j]? = some (.cells #[.string ⟨#[]⟩, .int .u32 (rd_Nd nds j).od, .int .i64 (j : Int)] (oEl (tyN nds j)) (0, 0))
  inj : ∀ j k, j < i → k < i → ob j = ob k → j = k

/-- The declarations, behind i nodes; x: the one whose mark may not stand yet. -/
structure Dn (nds : List Nd) (w0 : World) (gm ck : Nat) (i x : Nat) (ob di dm : Nat → Nat) (LG : List Nat) (lw : Nat → Nat) (w : World) : Prop where
  ord : gm < ck
  gm_ : MapL w gm (gkey nds) (dkey di) LG
  dis : ∀ j, j < i → ck < di j ∧ ck < dm j ∧ ∃ (lv : Value) (ms : List Nat) (b : Bool), w.heap[di j]? = some (.cells #[lv, .bool b, .map (some (dm j))] 93 (0, 0)) ∧ (b = (rd_Nd nds j).ini ∨ di j = x) ∧
    (Kd.raw 1).R 75 w w0.heap.size (fun k => lw k = di j) lv (ms.map fun m => [pkey ob m]) ∧ (∀ m ∈ ms, m < i ∧ tyN nds m = 75) ∧ (ms.length ≤ i ∧ (di j = x → ms.length + 1 ≤ i)) ∧ ((rd_Nd nds j).gr = 0 → lv = .slice none 0 0)
  dmm : ∀ j, j < i → MapL w (dm j) (okey (tyN nds) ob) yes []
  same : ∀ j k, j < i → k < i → di j = di k ∨ dm j = dm k → j = k ∨ ((rd_Nd nds j).gr = (rd_Nd nds k).gr ∧ 0 < (rd_Nd nds j).gr)
  grp : ∀ j k, j < i → k < i → (rd_Nd nds j).gr = (rd_Nd nds k).gr → 0 < (rd_Nd nds j).gr → di j = di k ∧ dm j = dm k
  rep : ∀ r ∈ LG, r < i ∧ 0 < (rd_Nd nds r).gr
  reps : ∀ j, j < i → 0 < (rd_Nd nds j).gr → ∃ r ∈ LG, (rd_Nd nds r).gr = (rd_Nd nds j).gr
  one : ∀ r ∈ LG, ∀ r' ∈ LG, (rd_Nd nds r).gr = (rd_Nd nds r').gr → r = r'

section
variable {nds : List Nd} {w0 w w' : World} {lb gm om nf ck i x : Nat} {ob di dm lw : Nat → Nat} {LG : List Nat} {S : Nat → Prop}

theorem R_touch {α : Type} {d : Kd α} {e base : Nat} {ok : Nat → Prop} {v : Value} {xs : List α} (h : d.R e w base ok v xs) (hE : d.E = []) (hT : Touch S w w') (hS : ∀ k, S k → ¬ ∃ cells, w.heap[k]? = some (.cells cells e (0, 0))) : d.R e w' base ok v xs :=
  Kd.R_mono (Kd.R_step (Kd.R_bound h) (fun k hk hlt => hT.block k hlt (fun hs => hS k hs (by
    obtain ⟨q, hq, cells, hc⟩ := hk.2.2.2
    rw [hE] at hq
    rcases List.mem_cons.1 hq with rfl | hq
    · exact ⟨cells, hc⟩
    · cases hq)))) (fun k hk => hk.1)

theorem On.touch (h : On nds w0 lb gm om nf ck i ob w) (hT : Touch S w w') (hS : ∀ k, S k → w0.heap.size ≤ k ∧ ((∃ es c, w.heap[k]? = some (.map es c)) ∨ (∃ cells, w.heap[k]? = some (.cells cells 93 (0, 0))) ∨ ∃ cells, w.heap[k]? = some (.cells cells 75 (0, 0)))) : On nds w0 lb gm om nf ck i ob w' := by
  have key : ∀ (k : Nat) (cs : Array Value) (T : Nat), w.heap[k]? = some (.cells cs T (0, 0)) → T ≠ 93 → T ≠ 75 → w'.heap[k]? = some (.cells cs T (0, 0)) := by
    intro k cs T hk h1 h2
    refine hT.blk hk (fun hs => ?_)
    rcases (hS k hs).2 with ⟨es, c, he⟩ | ⟨cells, he⟩ | ⟨cells, he⟩
    · rw [hk] at he; cases he
    · rw [hk] at he; injection he with he; injection he with _ he _; exact h1 he
    · rw [hk] at he; injection he with he; injection he with _ he _; exact h2 he
  refine ⟨Touch.below_of h.below hT (fun k hk hs => by have := (hS k hs).1; omega), h.ord, key _ _ _ h.l (by decide) (by decide), key _ _ _ h.nf_ (by decide) (by decide), key _ _ _ h.ck_ (by decide) (by decide), fun j hj => ?_, h.inj⟩
  obtain ⟨h1, h2⟩ := h.obj j hj
  exact ⟨h1, key _ _ _ h2 (oEl_ne _ _ _ (by decide)) (oEl_ne _ _ _ (by decide))⟩

theorem Dn.touch (h : Dn nds w0 gm ck i x ob di dm LG lw w) (hT : Touch S w w') (hS : ∀ k, S k → k ≠ gm ∧ (∀ j, j < i → k ≠ di j ∧ k ≠ dm j) ∧ ¬ ∃ cells, w.heap[k]? = some (.cells cells 75 (0, 0))) : Dn nds w0 gm ck i x ob di dm LG lw w' := by
  refine ⟨h.ord, h.gm_.same (hT.block _ h.gm_.lt (fun hs => (hS _ hs).1 rfl)), fun j hj => ?_, fun j hj => (h.dmm j hj).same (hT.block _ (h.dmm j hj).lt (fun hs => ((hS _ hs).2.1 j hj).2 rfl)), h.same, h.grp, h.rep, h.reps, h.one⟩
  obtain ⟨h1, h2, lv, ms, b, h3, h4, h5, h6⟩ := h.dis j hj
  exact ⟨h1, h2, lv, ms, b, hT.blk h3 (fun hs => ((hS _ hs).2.1 j hj).1 rfl), h4, R_touch h5 rfl hT (fun k hs => (hS k hs).2.2), h6⟩


theorem On.step (h : On nds w0 lb gm om nf ck i ob w) (hT : Touch (fun k => k = lb) w w') {b : Nat} (hb : w.heap.size ≤ b) (hl : w'.heap[lb]? = some (.cells (lCells nds (upd ob i b) (i + 1)) 82 (0, 0)))
    (ho : w'.heap[b]? = some (.cells #[.string ⟨#[]⟩, .int .u32 (rd_Nd nds i).od, .int .i64 (i : Int)] (oEl (tyN nds i)) (0, 0))) : On nds w0 lb gm om nf ck (i + 1) (upd ob i b) w' := by
  have hck := blk_lt h.ck_
  have ord := h.ord
  refine ⟨Touch.below_of h.below hT (fun k hk hs => by omega), h.ord, hl, hT.blk h.nf_ (by omega), hT.blk h.ck_ (by omega), fun j hj => ?_, fun j k hj hk he => ?_⟩
  · by_cases e : j = i
    · subst e; rw [upd_at]; exact ⟨by omega, ho⟩
    · rw [upd_ne _ _ e]
      obtain ⟨h1, h2⟩ := h.obj j (by omega)
      exact ⟨h1, hT.blk h2 (by omega)⟩
  · by_cases e : j = i
    · by_cases e' : k = i
      · omega
      · rw [e, upd_at, upd_ne _ _ e'] at he
        have := blk_lt (h.obj k (by omega)).2; omega
    · by_cases e' : k = i
      · rw [e', upd_at, upd_ne _ _ e] at he
        have := blk_lt (h.obj j (by omega)).2; omega
      · rw [upd_ne _ _ e, upd_ne _ _ e'] at he
        exact h.inj j k (by omega) (by omega) he

theorem Dn.ob_step (h : Dn nds w0 gm ck i x ob di dm LG lw w) (b : Nat) : Dn nds w0 gm ck i x (upd ob i b) di dm LG lw w := by
  refine ⟨h.ord, h.gm_, fun j hj => ?_, fun j hj => (h.dmm j hj).congr (fun i hi => (by cases hi)), h.same, h.grp, h.rep, h.reps, h.one⟩
  obtain ⟨h1, h2, lv, ms, b', h3, h4, h5, h6, h7⟩ := h.dis j hj
  refine ⟨h1, h2, lv, ms, b', h3, h4, ?_, h6, h7⟩
  have e : (ms.map fun m => [pkey (upd ob i b) m]) = ms.map fun m => [pkey ob m] := List.map_congr_left fun m hm => by
    unfold pkey; rw [upd_ne _ _ (by have := (h6 m hm).1; omega)]
  rw [e]; exact h5

theorem Dn.old_lt (h : Dn nds w0 gm ck i x ob di dm LG lw w) {j : Nat} (hj : j < i) : di j < w.heap.size ∧ dm j < w.heap.size := by
  obtain ⟨_, _, _, _, _, h3, _⟩ := h.dis j hj
  exact ⟨blk_lt h3, (h.dmm j hj).lt⟩

theorem dkey_congr {di di' : Nat → Nat} {L : List Nat} (h : ∀ r ∈ L, di' r = di r) : ∀ r ∈ L, gkey nds r = gkey nds r ∧ dkey di r = dkey di' r := fun r hr => ⟨rfl, by unfold dkey; rw [h r hr]⟩

theorem dkey_range {di : Nat → Nat} {F : Nat → Value} {j : Nat} (d : Nat) : ∀ r ∈ List.range j, F r = F r ∧ dkey di r = dkey (upd di j d) r := fun r hr => ⟨rfl, by unfold dkey; rw [upd_ne di d (show r ≠ j by have := List.mem_range.1 hr; omega)]⟩
/-- A declaration of its own. -/
theorem Dn.fresh (h : Dn nds w0 gm ck i 0 ob di dm LG lw w) (hB : Below w.heap.size w w') {d m y : Nat} (hd : w.heap.size ≤ d) (hm : w.heap.size ≤ m) (hck : ck < w.heap.size) {b : Bool}
    (hc : w'.heap[d]? = some (.cells #[.slice none 0 0, .bool b, .map (some m)] 93 (0, 0))) (hbb : b = (rd_Nd nds i).ini ∨ d = y) (hM : MapL w' m (okey (tyN nds) ob) yes [])
    (hg : ∀ j, j < i → 0 < (rd_Nd nds i).gr → (rd_Nd nds j).gr ≠ (rd_Nd nds i).gr) {LG' : List Nat} (hgm : MapL w' gm (gkey nds) (dkey (upd di i d)) LG')
    (hL1 : ∀ r ∈ LG', r ∈ LG ∨ (r = i ∧ 0 < (rd_Nd nds i).gr)) (hL2 : ∀ r ∈ LG, r ∈ LG') (hL3 : 0 < (rd_Nd nds i).gr → i ∈ LG') : Dn nds w0 gm ck (i + 1) y ob (upd di i d) (upd dm i m) LG' lw w' := by
  have hT : Touch (fun _ => False) w w' := Touch.of_below hB
  have h' := h.touch hT (fun k hk => hk.elim)
  have hold : ∀ j, j < i → di j < d ∧ dm j < m := fun j hj => by have := h.old_lt hj; omega
  refine ⟨h.ord, hgm, fun j hj => ?_, fun j hj => ?_, fun j k hj hk he => ?_, fun j k hj hk he hp => ?_, fun r hr => ?_, fun j hj hp => ?_, fun r hr r' hr' he => ?_⟩
  · by_cases e : j = i
    · subst e
      rw [upd_at, upd_at]
      exact ⟨by omega, by omega, .slice none 0 0, [], b, hc, hbb, Kd.R_nil _ _ _ _ _, fun m hm => (by cases hm), ⟨Nat.zero_le _, fun _ => by simp⟩, fun _ => rfl⟩
    · rw [upd_ne _ _ e, upd_ne _ _ e]
      obtain ⟨h1, h2, lv, ms, b', h3, h4, h5, h6, h7, h8⟩ := h'.dis j (by omega)
      exact ⟨h1, h2, lv, ms, b', h3, .inl (h4.resolve_right (by omega)), h5, fun m hm => ⟨by have := (h6 m hm).1; omega, (h6 m hm).2⟩, ⟨by have := h7.1; omega, fun _ => by have := h7.1; omega⟩, h8⟩
  · by_cases e : j = i
    · subst e; rw [upd_at]; exact hM
    · rw [upd_ne _ _ e]; exact h'.dmm j (by omega)
  · by_cases e : j = i
    · by_cases e' : k = i
      · exact .inl (by omega)
      · rw [e, upd_at, upd_at, upd_ne _ _ e', upd_ne _ _ e'] at he
        have := hold k (by omega); omega
    · by_cases e' : k = i
      · rw [e', upd_at, upd_at, upd_ne _ _ e, upd_ne _ _ e] at he
        have := hold j (by omega); omega
      · rw [upd_ne _ _ e, upd_ne _ _ e, upd_ne _ _ e', upd_ne _ _ e'] at he
        exact h.same j k (by omega) (by omega) he
  · by_cases e : j = i
    · by_cases e' : k = i
      · rw [e, e']; exact ⟨rfl, rfl⟩
      · rw [e] at he hp; exact absurd he.symm (hg k (by omega) hp)
    · by_cases e' : k = i
      · rw [e'] at he; exact absurd he (hg j (by omega) (by rw [← he]; exact hp))
      · rw [upd_ne _ _ e, upd_ne _ _ e, upd_ne _ _ e', upd_ne _ _ e']
        exact h.grp j k (by omega) (by omega) he hp
  · rcases hL1 r hr with hr | ⟨rfl, hr⟩
    · have := h.rep r hr; exact ⟨by omega, this.2⟩
    · exact ⟨by omega, hr⟩
  · by_cases e : j = i
    · subst e; exact ⟨j, hL3 hp, rfl⟩
    · obtain ⟨r, hr, he⟩ := h.reps j (by omega) hp
      exact ⟨r, hL2 r hr, he⟩
  · rcases hL1 r hr with hr | ⟨e1, hr⟩ <;> rcases hL1 r' hr' with hr' | ⟨e2, hr'⟩
    · exact h.one r hr r' hr' he
    · subst e2; exact absurd he (hg r (h.rep r hr).1 hr')
    · subst e1; exact absurd he.symm (hg r' (h.rep r' hr').1 hr)
    · rw [e1, e2]

/-- A declaration of a group that stands already. -/
theorem Dn.again (h : Dn nds w0 gm ck i 0 ob di dm LG lw w) {r : Nat} (hr : r ∈ LG) (he : (rd_Nd nds r).gr = (rd_Nd nds i).gr) : Dn nds w0 gm ck (i + 1) (di r) ob (upd di i (di r)) (upd dm i (dm r)) LG lw w := by
  obtain ⟨hri, hrp⟩ := h.rep r hr
  -- what stands at r serves for i
  have hsub : ∀ j, j < i + 1 → ∃ j', j' < i ∧ (j' = j ∨ (j = i ∧ j' = r)) ∧ upd di i (di r) j = di j' ∧ upd dm i (dm r) j = dm j' ∧ ((rd_Nd nds j').gr = (rd_Nd nds j).gr) := fun j hj => by
    by_cases e : j = i
    · subst e; exact ⟨r, hri, .inr ⟨rfl, rfl⟩, upd_at _ _ _, upd_at _ _ _, he⟩
    · exact ⟨j, by omega, .inl rfl, upd_ne _ _ e, upd_ne _ _ e, rfl⟩
  refine ⟨h.ord, h.gm_.congr (dkey_congr (fun r' hr' => upd_ne _ _ (by have := (h.rep r' hr').1; omega))), fun j hj => ?_, fun j hj => ?_, fun j k hj hk hh => ?_, fun j k hj hk hh hp => ?_, fun r' hr' => ?_, fun j hj hp => ?_, h.one⟩
  · obtain ⟨j', hj', hor, e1, e2, e3⟩ := hsub j hj
    rw [e1, e2]
    obtain ⟨h1, h2, lv, ms, b', h3, h4, h5, h6, h7, h8⟩ := h.dis j' hj'
    refine ⟨h1, h2, lv, ms, b', h3, ?_, h5, fun m hm => ⟨by have := (h6 m hm).1; omega, (h6 m hm).2⟩, ⟨by have := h7.1; omega, fun _ => by have := h7.1; omega⟩, fun h0 => h8 (by rw [e3]; exact h0)⟩
    rcases hor with rfl | ⟨rfl, rfl⟩
    · exact .inl (h4.resolve_right (by omega))
    · exact .inr rfl
  · obtain ⟨j', hj', hor, e1, e2, e3⟩ := hsub j hj
    rw [e2]; exact h.dmm j' hj'
  · obtain ⟨j', hj', hor, e1, e2, e3⟩ := hsub j hj
    obtain ⟨k', hk', hor', e1', e2', e3'⟩ := hsub k hk
    rw [e1, e2, e1', e2'] at hh
    rcases h.same j' k' hj' hk' hh with e | ⟨e, hp⟩
    · subst e
      rcases hor with e4 | ⟨e4, e5⟩ <;> rcases hor' with e6 | ⟨e6, e7⟩
      · exact .inl (by omega)
      · exact .inr ⟨by rw [← e3, ← e3'], by rw [← e3, e7]; exact hrp⟩
      · exact .inr ⟨by rw [← e3, ← e3'], by rw [← e3, e5]; exact hrp⟩
      · exact .inl (by omega)
    · exact .inr ⟨by rw [← e3, ← e3']; exact e, by rw [← e3]; exact hp⟩
  · obtain ⟨j', hj', hor, e1, e2, e3⟩ := hsub j hj
    obtain ⟨k', hk', hor', e1', e2', e3'⟩ := hsub k hk
    rw [e1, e2, e1', e2']
    exact h.grp j' k' hj' hk' (by rw [e3, e3']; exact hh) (by rw [e3]; exact hp)
  · have := h.rep r' hr'; exact ⟨by omega, this.2⟩
  · by_cases e : j = i
    · subst e; exact ⟨r, hr, he⟩
    · exact h.reps j (by omega) hp

/-- The variable is put down in its group's declaration. -/
theorem Dn.put (hp : NdsOk nds) (h : Dn nds w0 gm ck (i + 1) x ob di dm LG lw w) (hx : x = di i) (hi : i < nds.length) (hg : 0 < (rd_Nd nds i).gr) {lv v1 : Value} {ms : List Nat} {b : Bool} {w1 : World} {Sz : Nat}
    (hc : w.heap[di i]? = some (.cells #[lv, .bool b, .map (some (dm i))] 93 (0, 0))) (hms : ∀ m ∈ ms, m < i + 1 ∧ tyN nds m = 75) (hml : ms.length ≤ i) (hSz : w.heap.size ≤ Sz)
    (hRl : (Kd.raw 1).R 75 w w0.heap.size (fun k => lw k = di i) lv (ms.map fun m => [pkey ob m]))
    (hR : (Kd.raw 1).R 75 w1 w0.heap.size (fun k => (if k < Sz then lw k else di i) = di i) v1 (ms.map (fun m => [pkey ob m]) ++ [[pkey ob i]])) (hT : Touch (fun k => lv.ownBlock = some k) w w1) :
    Dn nds w0 gm ck (i + 1) 0 ob di dm LG (fun k => if k < Sz then lw k else di i) ((w1.setCell ⟨di i, 0, none⟩ v1).setCell ⟨di i, 1, none⟩ (.bool true)) ∧
      Touch (fun k => lv.ownBlock = some k ∨ k = di i) w ((w1.setCell ⟨di i, 0, none⟩ v1).setCell ⟨di i, 1, none⟩ (.bool true)) := by
  subst hx
  have hT2 : Touch (fun k => lv.ownBlock = some k ∨ k = di i) w ((w1.setCell ⟨di i, 0, none⟩ v1).setCell ⟨di i, 1, none⟩ (.bool true)) :=
    ((hT.mono (fun k _ hk => .inl hk)).set_ (fun _ => .inr rfl) _).set_ (fun _ => .inr rfl) _
  have htyp := Kd.R_typed hRl
  have hnot : ∀ k (cs : Array Value) (T : Nat), w.heap[k]? = some (.cells cs T (0, 0)) → T ≠ 75 → lv.ownBlock ≠ some k := fun k cs T hk hne he => by
    obtain ⟨c, hcc⟩ := htyp k he
    rw [hk] at hcc; injection hcc with hcc; injection hcc with _ hcc _; exact hne hcc
  have hnotm : ∀ k es c, w.heap[k]? = some (.map es c) → lv.ownBlock ≠ some k := fun k es c hk he => by
    obtain ⟨c', hcc⟩ := htyp k he
    rw [hk] at hcc; cases hcc
  have hc1 : w1.heap[di i]? = some (.cells #[lv, .bool b, .map (some (dm i))] 93 (0, 0)) := hT.blk hc (hnot _ _ _ hc (by decide))
  have hfin : ((w1.setCell ⟨di i, 0, none⟩ v1).setCell ⟨di i, 1, none⟩ (.bool true)).heap[di i]? = some (.cells #[v1, .bool true, .map (some (dm i))] 93 (0, 0)) :=
    blk_put (blk_put hc1 0 v1 rfl) 1 _ rfl
  refine ⟨⟨h.ord, ?_, fun j hj => ?_, fun j hj => ?_, h.same, h.grp, h.rep, h.reps, h.one⟩, hT2⟩
  · obtain ⟨es, c, hm⟩ := h.gm_.obj
    refine h.gm_.same (hT2.block _ h.gm_.lt (fun hs => ?_))
    rcases hs with hs | hs
    · exact hnotm _ _ _ hm hs
    · rw [hs, hc] at hm; cases hm
  · obtain ⟨h1, h2, lv', ms', b', h3, h4, h5, h6, h7, h8⟩ := h.dis j hj
    refine ⟨h1, h2, ?_⟩
    by_cases e : di j = di i
    · have hgr : (rd_Nd nds j).gr = (rd_Nd nds i).gr := by
        rcases h.same j i hj (by omega) (.inl e) with e | ⟨e, _⟩
        · rw [e]
        · exact e
      have hdm : dm j = dm i := (h.grp j i hj (by omega) hgr (by rw [hgr]; exact hg)).2
      refine ⟨v1, ms ++ [i], true, by rw [e, hdm]; exact hfin, .inl ?_, ?_, fun m hm => ?_, ⟨by simp; omega, fun _ => by simp; omega⟩, fun h0 => by omega⟩
      · exact ((hp.ini _ (rdNd_mem (show j < nds.length by omega)) (by rw [hgr]; exact hg)).2).symm
      · rw [e, List.map_append]
        have hR' := Kd.R_set (Kd.R_set hR hc1 (fun q hq => by rcases List.mem_cons.1 hq with rfl | hq; decide; cases hq) 0 v1) (blk_put hc1 0 v1 rfl) (fun q hq => by rcases List.mem_cons.1 hq with rfl | hq; decide; cases hq) 1 (.bool true)
        exact hR'
      · rcases List.mem_append.1 hm with hm | hm
        · exact hms m hm
        · simp at hm; subst hm
          exact ⟨by omega, by unfold tyN; rw [(hp.ini _ (rdNd_mem hi) hg).1]; rfl⟩
    · refine ⟨lv', ms', b', hT2.blk h3 (fun hs => ?_), .inl ?_, ?_, h6, ⟨h7.1, fun h0 => by omega⟩, h8⟩
      · rcases hs with hs | hs
        · exact hnot _ _ _ h3 (by decide) hs
        · exact e hs
      · rcases h4 with h4 | h4
        · exact h4
        · exact absurd h4 e
      · refine Kd.R_mono (Kd.R_step (Kd.R_bound h5) (fun k hk hlt => hT2.block k hlt (fun hs => ?_))) (fun k hk => ?_)
        · rcases hs with hs | hs
          · have := hRl.1 k hs
            have h0 := hk.1
            exact e (h0.symm.trans this)
          · subst hs
            obtain ⟨q, hq, cells, hcc⟩ := hk.2.2.2
            rcases List.mem_cons.1 hq with rfl | hq
            · rw [hc] at hcc; injection hcc with hcc; injection hcc with _ hcc _; exact absurd hcc (by decide)
            · cases hq
        · have h0 := hk.1
          have h1 := hk.2.2.1
          rw [if_pos (by omega)]; exact h0
  · obtain ⟨es, c, hm⟩ := (h.dmm j hj).obj
    refine (h.dmm j hj).same (hT2.block _ (h.dmm j hj).lt (fun hs => ?_))
    rcases hs with hs | hs
    · exact hnotm _ _ _ hm hs
    · rw [hs, hc] at hm; cases hm


/-- What looking a group up finds. -/
theorem look_found (h : Dn nds w0 gm ck i x ob di dm LG lw w) {r : Nat} (hr : r ∈ LG) : (Instr.lookup 88 (.map (some gm)) (.int .i64 (rd_Nd nds r).gr) false).run Tryz.prog w = .ok (.pointer (some ⟨di r, 0, none⟩)) w := by
  have hd : ∀ i ∈ LG, ((rd_Nd nds r).gr == (rd_Nd nds i).gr) = true ↔ i = r := fun i hi => ⟨fun he => (h.one r hr i hi (by simpa using he)).symm, fun he => by rw [he]; simp⟩
  have h1 := lookup_found (P := Tryz.prog) (T := 88) Tryz.underlying88 h.gm_ (KeyAt.int (P := Tryz.prog) (K := 3) Tryz.underlying3 (rd_Nd nds r).gr (fun i => (rd_Nd nds i).gr) (dkey di) LG w) hr hd false
  exact h1
theorem zero89 (w : World) : (zeroValue 89).run Tryz.prog w = .ok (.pointer none) w := by kernel_rfl
theorem look_absent (h : Dn nds w0 gm ck i x ob di dm LG lw w) (g : Int) (hr : ∀ r ∈ LG, (rd_Nd nds r).gr ≠ g) : (Instr.lookup 88 (.map (some gm)) (.int .i64 g) false).run Tryz.prog w = .ok (.pointer none) w := by
  have hd : ∀ i ∈ LG, (g == (rd_Nd nds i).gr) = false := fun i hi => by have := hr i hi; simp; exact fun e => this e.symm
  exact lookup_absent (P := Tryz.prog) (T := 88) Tryz.underlying88 h.gm_ (KeyAt.int (P := Tryz.prog) (K := 3) Tryz.underlying3 g (fun i => (rd_Nd nds i).gr) (dkey di) LG w) hd (zero89 w) false

/-- The group is put down. -/
theorem group_new (hO : On nds w0 lb gm om nf ck (i + 1) ob w) (h : Dn nds w0 gm ck i 0 ob di dm LG lw w) (hM : MapL w om (okey (tyN nds) ob) (dkey di) (List.range i)) (hg : 0 < (rd_Nd nds i).gr) (hr : ∀ r ∈ LG, (rd_Nd nds r).gr ≠ (rd_Nd nds i).gr) {W : World}
    (hW : W = (w.alloc (.map #[] 0)).alloc (.cells #[.slice none 0 0, .bool false, .map (some w.heap.size)] 93)) :
    ∃ wz, (Instr.mapUpdate 88 (.map (some gm)) (.int .i64 (rd_Nd nds i).gr) (.pointer (some ⟨w.heap.size + 1, 0, none⟩))).run Tryz.prog W = .ok () wz ∧
      On nds w0 lb gm om nf ck (i + 1) ob wz ∧ Dn nds w0 gm ck (i + 1) (w.heap.size + 1) ob (upd di i (w.heap.size + 1)) (upd dm i w.heap.size) (LG ++ [i]) lw wz ∧ MapL wz om (okey (tyN nds) ob) (dkey (upd di i (w.heap.size + 1))) (List.range i) := by
  have hB : Below w.heap.size w W := by rw [hW]; exact below_alloc (below_alloc (Below.refl _ _) _) _
  have hgmW : MapL W gm (gkey nds) (dkey (upd di i (w.heap.size + 1))) LG := (h.gm_.same (hB.block _ h.gm_.lt)).congr (dkey_congr (fun r hr => upd_ne _ _ (by have := (h.rep r hr).1; omega)))
  have hi : i ∉ LG := fun hm => by have := (h.rep i hm).1; omega
  have hka : KeyAt Tryz.prog 3 W (gkey nds) (dkey (upd di i (w.heap.size + 1))) LG (gkey nds i) (fun r => (rd_Nd nds i).gr == (rd_Nd nds r).gr) := KeyAt.int (P := Tryz.prog) (K := 3) Tryz.underlying3 (rd_Nd nds i).gr (fun i => (rd_Nd nds i).gr) _ LG W
  obtain ⟨o, h1, h2⟩ := update_absent (P := Tryz.prog) (T := 88) Tryz.underlying88 hgmW hka (fun r hm => by have := hr r hm; simp; exact fun e => this e.symm) hi
  rw [show dkey (upd di i (w.heap.size + 1)) i = .pointer (some ⟨w.heap.size + 1, 0, none⟩) by unfold dkey; rw [upd_at]] at h1
  have hT := touch_set W gm o
  obtain ⟨es, c, hgmo⟩ := hgmW.obj
  have ord := hO.ord
  have hcl := blk_lt hO.ck_
  have hOW : On nds w0 lb gm om nf ck (i + 1) ob W := hO.touch (S := fun _ => False) (Touch.of_below hB) (fun _ h => h.elim)
  have hTw : Touch (fun k => k = gm) w (setBlock W gm o) := (Touch.of_below (S := fun k => k = gm) hB).trans hT (fun _ _ h => h)
  refine ⟨_, h1, hOW.touch hT (fun k hk => ⟨by omega, .inl ⟨es, c, by rw [hk]; exact hgmo⟩⟩), ?_, (hM.same (hTw.block _ hM.lt (by omega))).congr (dkey_range _)⟩
  have hDW : Dn nds w0 gm ck i 0 ob di dm LG lw w := h
  have hcell : W.heap[w.heap.size + 1]? = some (.cells #[.slice none 0 0, .bool false, .map (some w.heap.size)] 93 (0, 0)) := by
    have h := heap_alloc_new (w.alloc (.map #[] 0)) (.cells #[.slice none 0 0, .bool false, .map (some w.heap.size)] 93)
    rw [show (w.alloc (.map #[] 0)).heap.size = w.heap.size + 1 by simp] at h
    rw [hW]; exact h
  have hmap : MapL W w.heap.size (okey (tyN nds) ob) yes [] := (mapL_new w (okey (tyN nds) ob) yes).same (by rw [hW]; exact heap_alloc_old _ _ (by simp))
  have hW1 : Dn nds w0 gm ck (i + 1) (w.heap.size + 1) ob (upd di i (w.heap.size + 1)) (upd dm i w.heap.size) (LG ++ [i]) lw (setBlock W gm o) := by
    -- in two steps: the declaration stands in W; gm alone is written
    have hB2 : ∀ j, j < i → di j < w.heap.size ∧ dm j < w.heap.size := fun j hj => h.old_lt hj
    have hD2 := h.touch (w' := setBlock w gm o) (touch_set w gm o)
    refine ⟨h.ord, h2, fun j hj => ?_, fun j hj => ?_, ?_, ?_, ?_, ?_, ?_⟩
    · by_cases e : j = i
      · subst e
        rw [upd_at, upd_at]
        exact ⟨by omega, by omega, .slice none 0 0, [], false, hT.blk hcell (by omega), .inr rfl, Kd.R_nil _ _ _ _ _, fun m hm => (by cases hm), ⟨Nat.zero_le _, fun _ => by simp⟩, fun _ => rfl⟩
      · rw [upd_ne _ _ e, upd_ne _ _ e]
        obtain ⟨q1, q2, lv, ms, b', q3, q4, q5, q6, q7, q8⟩ := h.dis j (by omega)
        refine ⟨q1, q2, lv, ms, b', hTw.blk q3 (by omega), .inl (q4.resolve_right (by omega)), R_touch q5 rfl hTw (fun k hk ⟨cells, hc⟩ => ?_), fun m hm => ⟨by have := (q6 m hm).1; omega, (q6 m hm).2⟩, ⟨by have := q7.1; omega, fun _ => by have := q7.1; omega⟩, q8⟩
        obtain ⟨es', c', hgo⟩ := h.gm_.obj
        rw [hk, hgo] at hc; cases hc
    · by_cases e : j = i
      · subst e; rw [upd_at]; exact hmap.same (hT.block _ (by rw [hW]; simp; omega) (by omega))
      · rw [upd_ne _ _ e]; exact (h.dmm j (by omega)).same (hTw.block _ (h.dmm j (by omega)).lt (by have := (h.dis j (by omega)).2.1; have := h.ord; omega))
    · intro j k hj hk he
      by_cases e : j = i
      · by_cases e' : k = i
        · exact .inl (by omega)
        · rw [e, upd_at, upd_at, upd_ne _ _ e', upd_ne _ _ e'] at he
          have := hB2 k (by omega); omega
      · by_cases e' : k = i
        · rw [e', upd_at, upd_at, upd_ne _ _ e, upd_ne _ _ e] at he
          have := hB2 j (by omega); omega
        · rw [upd_ne _ _ e, upd_ne _ _ e, upd_ne _ _ e', upd_ne _ _ e'] at he
          exact h.same j k (by omega) (by omega) he
    · intro j k hj hk he hp
      have hgg : ∀ j, j < i → (rd_Nd nds j).gr ≠ (rd_Nd nds i).gr := fun j hj e => by
        obtain ⟨r, hm, he⟩ := h.reps j hj (by rw [e]; exact hg)
        exact hr r hm (he.trans e)
      by_cases e : j = i
      · by_cases e' : k = i
        · rw [e, e']; exact ⟨rfl, rfl⟩
        · rw [e] at he; exact absurd he.symm (hgg k (by omega))
      · by_cases e' : k = i
        · rw [e'] at he; exact absurd he (hgg j (by omega))
        · rw [upd_ne _ _ e, upd_ne _ _ e, upd_ne _ _ e', upd_ne _ _ e']
          exact h.grp j k (by omega) (by omega) he hp
    · intro r hm
      rcases List.mem_append.1 hm with hm | hm
      · have := h.rep r hm; exact ⟨by omega, this.2⟩
      · simp at hm; subst hm; exact ⟨by omega, hg⟩
    · intro j hj hp
      by_cases e : j = i
      · subst e; exact ⟨j, by simp, rfl⟩
      · obtain ⟨r, hm, he⟩ := h.reps j (by omega) hp
        exact ⟨r, by simp [hm], he⟩
    · intro r hm r' hm' he
      rcases List.mem_append.1 hm with h1m | h1m <;> rcases List.mem_append.1 hm' with h2m | h2m
      · exact h.one r h1m r' h2m he
      · simp at h2m; subst h2m; exact absurd he (hr r h1m)
      · simp at h1m; subst h1m; exact absurd he.symm (hr r' h2m)
      · simp at h1m h2m; rw [h1m, h2m]
  exact hW1

theorem On.objs (h : On nds w0 lb gm om nf ck i ob w) : Objs w i (tyN nds) ob := ⟨fun j _ => tyN_oty nds j, fun j hj => ⟨_, _, (h.obj j hj).2⟩, h.inj⟩

/-- The map takes the new object. -/
theorem bu_tail (hO : On nds w0 lb gm om nf ck (i + 1) ob w) (hD : Dn nds w0 gm ck (i + 1) 0 ob di dm LG lw w) (hM : MapL w om (okey (tyN nds) ob) (dkey di) (List.range i)) :
    ∃ w', (Instr.mapUpdate 66 (.map (some om)) (okey (tyN nds) ob i) (dkey di i)).run Tryz.prog w = .ok () w' ∧
      On nds w0 lb gm om nf ck (i + 1) ob w' ∧ Dn nds w0 gm ck (i + 1) 0 ob di dm LG lw w' ∧ MapL w' om (okey (tyN nds) ob) (dkey di) (List.range (i + 1)) := by
  have hka := key_okey hO.objs (K := 82) Tryz.underlying82 (dkey di) (List.range i) (fun j hj => by have := List.mem_range.1 hj; omega) i (Nat.lt_succ_self i)
  obtain ⟨o, h1, h2⟩ := update_absent (P := Tryz.prog) (T := 66) Tryz.underlying66 hM hka (dec_absent (by simp)) (by simp)
  have hT := touch_set w om o
  obtain ⟨es, c, hm⟩ := hM.obj
  refine ⟨_, h1, hO.touch hT (fun k hk => ⟨by have := hO.ord; omega, .inl ⟨es, c, by rw [hk]; exact hm⟩⟩), hD.touch hT (fun k hk => ⟨by have := hO.ord; omega, fun j hj => ?_, fun ⟨cells, hc⟩ => ?_⟩), by rw [List.range_succ]; exact h2⟩
  · have h := hD.dis j hj
    have := hO.ord
    exact ⟨by omega, by omega⟩
  · rw [hk, hm] at hc; cases hc


theorem sz_alloc (w : World) (o : Obj) : (w.alloc o).heap.size = w.heap.size + 1 := by simp
theorem sz_set (w : World) (p : Addr) (v : Value) : (w.setCell p v).heap.size = w.heap.size := by simp
theorem madeCells_nil (nds : List Nd) (ob : Nat → Nat) : madeCells #[Value.nilIface] nds.length = lCells nds ob 0 := by
  apply Array.ext_getElem?
  intro k
  by_cases hk : k < nds.length
  · rw [lCells_get _ _ _ _ hk, if_neg (Nat.not_lt_zero _)]
    simp [madeCells, hk, Nat.mod_one]
  · have h1 : (madeCells #[Value.nilIface] nds.length)[k]? = none := by simp [madeCells]; omega
    have h2 : (lCells nds ob 0)[k]? = none := Array.getElem?_eq_none (by rw [lCells_size]; omega)
    rw [h1, h2]
end

theorem bu_init (nds : List Nd) (w : World) : ∀ w5, w5 = ((((w.alloc (Obj.cells (madeCells #[Value.nilIface] nds.length) 82)).alloc (Obj.map #[] 0)).alloc (Obj.map #[] 0)).alloc (Obj.cells #[Value.slice none 0 0] 65)).alloc (Obj.cells #[Value.map (some (w.heap.size + 1 + 1)), Value.pointer (some ⟨w.heap.size + 1 + 1 + 1, 0, none⟩), Value.slice none 0 0] 70) →
    On nds w w.heap.size (w.heap.size + 1) (w.heap.size + 1 + 1) (w.heap.size + 1 + 1 + 1) (w.heap.size + 1 + 1 + 1 + 1) 0 (fun _ => 0) w5 ∧ Dn nds w (w.heap.size + 1) (w.heap.size + 1 + 1 + 1 + 1) 0 0 (fun _ => 0) (fun _ => 0) (fun _ => 0) [] (fun _ => 0) w5 ∧ MapL w5 (w.heap.size + 1 + 1) (okey (tyN nds) (fun _ => 0)) (dkey (fun _ => 0)) (List.range 0) := by
  intro w5 hw5
  subst hw5
  refine ⟨⟨below_alloc (below_alloc (below_alloc (below_alloc (below_alloc (Below.refl _ _) _) _) _) _) _, by omega, ?_, ?_, ?_, fun j hj => by omega, fun j k hj => by omega⟩, ⟨by omega, ?_, fun j hj => by omega, fun j hj => by omega, fun j k hj => by omega, fun j k hj => by omega, fun r hr => (by cases hr), fun j hj => by omega, fun r hr => (by cases hr)⟩, ?_⟩
  · rw [← madeCells_nil]
    refine (heap_alloc_old _ _ (by simp; omega)).trans ((heap_alloc_old _ _ (by simp; omega)).trans ((heap_alloc_old _ _ (by simp; omega)).trans ((heap_alloc_old _ _ (by simp)).trans (heap_alloc_new w _))))
  · refine (heap_alloc_old _ _ (by simp)).trans ?_
    have h := heap_alloc_new (((w.alloc (Obj.cells (madeCells #[Value.nilIface] nds.length) 82)).alloc (Obj.map #[] 0)).alloc (Obj.map #[] 0)) (Obj.cells #[Value.slice none 0 0] 65)
    simp only [sz_alloc] at h
    exact h
  · have h := heap_alloc_new ((((w.alloc (Obj.cells (madeCells #[Value.nilIface] nds.length) 82)).alloc (Obj.map #[] 0)).alloc (Obj.map #[] 0)).alloc (Obj.cells #[Value.slice none 0 0] 65)) (Obj.cells #[Value.map (some (w.heap.size + 1 + 1)), Value.pointer (some ⟨w.heap.size + 1 + 1 + 1, 0, none⟩), Value.slice none 0 0] 70)
    simp only [sz_alloc] at h
    exact h
  · have h := mapL_new (w.alloc (Obj.cells (madeCells #[Value.nilIface] nds.length) 82)) (gkey nds) (dkey (fun _ => 0))
    simp only [sz_alloc] at h
    exact h.same ((heap_alloc_old _ _ (by simp <;> omega)).trans ((heap_alloc_old _ _ (by simp <;> omega)).trans (heap_alloc_old _ _ (by simp <;> omega))))
  · have h := mapL_new ((w.alloc (Obj.cells (madeCells #[Value.nilIface] nds.length) 82)).alloc (Obj.map #[] 0)) (okey (tyN nds) (fun _ => 0)) (dkey (fun _ => 0))
    simp only [sz_alloc] at h
    exact h.same ((heap_alloc_old _ _ (by simp)).trans (heap_alloc_old _ _ (by simp)))

end Go.Proofs.YtgaadjgfjiljjaaGreat

/- What build leaves (Built): the objects, their declarations, what each refers to. Conditions: those that each theorem names. -/
namespace Go.Proofs.YtgaadjgfjiljjaaGreat
open Go.RowKit Go.Proofs.YtgaadjgfjiljjaaGreatW.PrintWords Go.Proofs.YtgaadjgfjiljjaaGreatW.PrintLast Go.Proofs.YtgaadjgfjiljjaaGreatW.PrintMore
open Go.ChangeMaps (setBlock)
set_option linter.unusedVariables false
set_option linter.unusedSimpArgs false

/-- The declarations and what they refer to: DL, by the maps' blocks. -/
structure Dd (nds : List Nd) (w0 : World) (ck : Nat) (ob di dm : Nat → Nat) (DL : Nat → List Nat) (w : World) : Prop where
  dec : ∀ j, j < nds.length → ck < di j ∧ ck < dm j ∧ ∃ (lv : Value) (ms : List Nat), w.heap[di j]? = some (.cells #[lv, .bool (rd_Nd nds j).ini, .map (some (dm j))] 93 (0, 0)) ∧
    (Kd.raw 1).R 75 w w0.heap.size (fun _ => True) lv (ms.map fun m => [pkey ob m]) ∧ (∀ m ∈ ms, m < nds.length ∧ tyN nds m = 75) ∧ ms.length ≤ nds.length ∧ ((rd_Nd nds j).gr = 0 → lv = .slice none 0 0)
  dep : ∀ j, j < nds.length → MapL w (dm j) (okey (tyN nds) ob) yes (DL (dm j))
  depn : ∀ j, j < nds.length → ∀ k ∈ DL (dm j), k < nds.length
  same : ∀ j k, j < nds.length → k < nds.length → di j = di k ∨ dm j = dm k → j = k ∨ ((rd_Nd nds j).gr = (rd_Nd nds k).gr ∧ 0 < (rd_Nd nds j).gr)

section
variable {nds : List Nd} {w0 w w' : World} {lb gm om nf ck : Nat} {ob di dm lw : Nat → Nat} {LG : List Nat} {S : Nat → Prop} {DL : Nat → List Nat}

theorem Dd.of_Dn (h : Dn nds w0 gm ck nds.length 0 ob di dm LG lw w) : Dd nds w0 ck ob di dm (fun _ => []) w := by
  refine ⟨fun j hj => ?_, fun j hj => h.dmm j hj, fun j hj k hk => (by cases hk), h.same⟩
  obtain ⟨h1, h2, lv, ms, b, h3, h4, h5, h6, h7, h8⟩ := h.dis j hj
  have hb := h4.resolve_right (by omega)
  subst hb
  exact ⟨h1, h2, lv, ms, h3, Kd.R_mono h5 (fun _ _ => trivial), h6, h7.1, h8⟩

theorem Dd.put (hO : On nds w0 lb gm om nf ck nds.length ob w) (h : Dd nds w0 ck ob di dm DL w) (hM : MapL w om (okey (tyN nds) ob) (dkey di) (List.range nds.length)) {i k : Nat} (hi : i < nds.length) (hk : k < nds.length) :
    ∃ w', (Instr.mapUpdate 87 (.map (some (dm i))) (okey (tyN nds) ob k) (.bool true)).run Tryz.prog w = .ok () w' ∧ On nds w0 lb gm om nf ck nds.length ob w' ∧
      Dd nds w0 ck ob di dm (fun b => if b = dm i then addL (DL b) k else DL b) w' ∧ MapL w' om (okey (tyN nds) ob) (dkey di) (List.range nds.length) := by
  have hka := key_okey hO.objs (K := 82) Tryz.underlying82 yes (DL (dm i)) (h.depn i hi) k hk
  have hu : ∃ o, (Instr.mapUpdate 87 (.map (some (dm i))) (okey (tyN nds) ob k) (.bool true)).run Tryz.prog w = .ok () (setBlock w (dm i) o) ∧ MapL (setBlock w (dm i) o) (dm i) (okey (tyN nds) ob) yes (addL (DL (dm i)) k) := by
    by_cases hm : k ∈ DL (dm i)
    · rw [show addL (DL (dm i)) k = DL (dm i) from if_pos hm]
      obtain ⟨o, h1, h2⟩ := update_found (P := Tryz.prog) (T := 87) Tryz.underlying87 (h.dep i hi) hka hm dec_iff (sameBits_okey _ _ k)
      exact ⟨o, h1, h2⟩
    · rw [show addL (DL (dm i)) k = DL (dm i) ++ [k] from if_neg hm]
      obtain ⟨o, h1, h2⟩ := update_absent (P := Tryz.prog) (T := 87) Tryz.underlying87 (h.dep i hi) hka (dec_absent hm) hm
      exact ⟨o, h1, h2⟩
  obtain ⟨o, h1, h2⟩ := hu
  have hT := touch_set w (dm i) o
  obtain ⟨es, c, hmo⟩ := (h.dep i hi).obj
  have hdm := h.dec i hi
  have ord := hO.ord
  refine ⟨_, h1, hO.touch hT (fun q hq => ⟨by have := hdm.2.1; omega, .inl ⟨es, c, by rw [hq]; exact hmo⟩⟩), ⟨fun j hj => ?_, fun j hj => ?_, fun j hj q hq => ?_, h.same⟩, hM.same (hT.block _ hM.lt (by have := hdm.2.1; omega))⟩
  · obtain ⟨q1, q2, lv, ms, q3, q4, q5⟩ := h.dec j hj
    refine ⟨q1, q2, lv, ms, hT.blk q3 (fun e => ?_), R_touch q4 rfl hT (fun q hq ⟨cells, hc⟩ => ?_), q5⟩
    · rw [e, hmo] at q3; cases q3
    · rw [hq, hmo] at hc; cases hc
  · by_cases e : dm j = dm i
    · show MapL _ (dm j) _ _ (if dm j = dm i then _ else _)
      rw [if_pos e, e]; exact h2
    · show MapL _ (dm j) _ _ (if dm j = dm i then _ else _)
      rw [if_neg e]; exact (h.dep j hj).same (hT.block _ (h.dep j hj).lt e)
  · have hq' : q ∈ (if dm j = dm i then addL (DL (dm j)) k else DL (dm j)) := hq
    by_cases e : dm j = dm i
    · rw [if_pos e] at hq'
      rcases addL_mem.1 hq' with h | h
      · exact Dd.depn ‹_› j hj q h
      · omega
    · rw [if_neg e] at hq'; exact Dd.depn ‹_› j hj q hq'

theorem look_obj (hO : On nds w0 lb gm om nf ck nds.length ob w) (hM : MapL w om (okey (tyN nds) ob) (dkey di) (List.range nds.length)) {i : Nat} (hi : i < nds.length) :
    (Instr.lookup 66 (.map (some om)) (okey (tyN nds) ob i) false).run Tryz.prog w = .ok (dkey di i) w := by
  have hka := key_okey hO.objs (K := 82) Tryz.underlying82 (dkey di) (List.range nds.length) (fun j hj => List.mem_range.1 hj) i hi
  exact lookup_found (P := Tryz.prog) (T := 66) Tryz.underlying66 hM hka (List.mem_range.2 hi) dec_iff false

/-- What build leaves: all of it lies below B; the blocks nf and ck are told apart. -/
structure Built (nds : List Nd) (base B nf ck lb om : Nat) (ob di dm : Nat → Nat) (DL : Nat → List Nat) (w : World) : Prop where
  lt : lb < B ∧ om < B ∧ lb < nf ∧ om < nf ∧ nf < ck ∧ ck < B ∧ B ≤ w.heap.size
  l : w.heap[lb]? = some (.cells (lCells nds ob nds.length) 82 (0, 0))
  om_ : MapL w om (okey (tyN nds) ob) (dkey di) (List.range nds.length)
  obj : ∀ j, j < nds.length → ck < ob j ∧ ob j < B ∧ w.heap[ob j]? = some (.cells #[.string ⟨#[]⟩, .int .u32 (rd_Nd nds j).od, .int .i64 (j : Int)] (oEl (tyN nds j)) (0, 0))
  inj : ∀ j k, j < nds.length → k < nds.length → ob j = ob k → j = k
  dec : ∀ j, j < nds.length → ck < di j ∧ di j < B ∧ ck < dm j ∧ dm j < B ∧ ∃ (lv : Value) (ms : List Nat), w.heap[di j]? = some (.cells #[lv, .bool (rd_Nd nds j).ini, .map (some (dm j))] 93 (0, 0)) ∧
    (Kd.raw 1).R 75 w base (fun k => k < B ∧ k ≠ nf ∧ k ≠ ck) lv (ms.map fun m => [pkey ob m]) ∧ (∀ m ∈ ms, m < nds.length ∧ tyN nds m = 75) ∧ ms.length ≤ nds.length ∧ ((rd_Nd nds j).gr = 0 → lv = .slice none 0 0)
  dep : ∀ j, j < nds.length → MapL w (dm j) (okey (tyN nds) ob) yes (DL j)
  depn : ∀ j, j < nds.length → ∀ k ∈ DL j, k < nds.length
  same : ∀ j k, j < nds.length → k < nds.length → di j = di k → j = k ∨ ((rd_Nd nds j).gr = (rd_Nd nds k).gr ∧ 0 < (rd_Nd nds j).gr)

theorem Built.touch {base B : Nat} {DJ : Nat → List Nat} (h : Built nds base B nf ck lb om ob di dm DJ w) (hT : Touch S w w') (hS : ∀ k, S k → k < B → k = nf ∨ k = ck) : Built nds base B nf ck lb om ob di dm DJ w' := by
  have lt := h.lt
  refine ⟨⟨lt.1, lt.2.1, lt.2.2.1, lt.2.2.2.1, lt.2.2.2.2.1, lt.2.2.2.2.2.1, Nat.le_trans lt.2.2.2.2.2.2 hT.size⟩, hT.blk h.l (fun hs => by have := hS _ hs; omega), h.om_.same (hT.block _ h.om_.lt (fun hs => by have := hS _ hs; omega)), fun j hj => ?_, h.inj, fun j hj => ?_, fun j hj => ?_, h.depn, h.same⟩
  · obtain ⟨h1, h2, h3⟩ := h.obj j hj
    exact ⟨h1, h2, hT.blk h3 (fun hs => by have := hS _ hs; omega)⟩
  · obtain ⟨h1, h2, h3, h4, lv, ms, h5, h6, h7⟩ := h.dec j hj
    exact ⟨h1, h2, h3, h4, lv, ms, hT.blk h5 (fun hs => by have := hS _ hs; omega), Kd.R_step h6 (fun k hk hlt => hT.block k hlt (fun hs => by have := hS k hs hk.1; rcases this with h | h; exact hk.2.1 h; exact hk.2.2 h)), h7⟩
  · have hd := h.dec j hj
    exact (h.dep j hj).same (hT.block _ (h.dep j hj).lt (fun hs => by have := hS _ hs; omega))

theorem Built.of {DJ : Nat → List Nat} (hO : On nds w0 lb gm om nf ck nds.length ob w) (hD : Dd nds w0 ck ob di dm DL w) (hM : MapL w om (okey (tyN nds) ob) (dkey di) (List.range nds.length)) (hJ : ∀ j, j < nds.length → DJ j = DL (dm j)) :
    Built nds w0.heap.size w.heap.size nf ck lb om ob di dm DJ w := by
  have ord := hO.ord
  have hcl := blk_lt hO.ck_
  refine ⟨by omega, hO.l, hM, fun j hj => ⟨(hO.obj j hj).1, blk_lt (hO.obj j hj).2, (hO.obj j hj).2⟩, hO.inj, fun j hj => ?_, fun j hj => by rw [hJ j hj]; exact hD.dep j hj, fun j hj => by rw [hJ j hj]; exact hD.depn j hj, fun j k hj hk he => hD.same j k hj hk (.inl he)⟩
  obtain ⟨h1, h2, lv, ms, h3, h4, h5⟩ := hD.dec j hj
  refine ⟨h1, blk_lt h3, h2, (hD.dep j hj).lt, lv, ms, h3, Kd.R_mono (Kd.R_bound h4) (fun k hk => ?_), h5⟩
  obtain ⟨_, hb, hlt, q, hq, cells, hc⟩ := hk
  have hq75 : q = 75 := by
    rcases List.mem_cons.1 hq with h | h
    · exact h
    · cases h
  subst hq75
  refine ⟨hlt, fun e => ?_, fun e => ?_⟩
  · rw [e, hO.nf_] at hc; injection hc with hc; injection hc with _ hc _; exact absurd hc (by decide)
  · rw [e, hO.ck_] at hc; injection hc with hc; injection hc with _ hc _; exact absurd hc (by decide)

theorem Built.objs {base B : Nat} {DJ : Nat → List Nat} (h : Built nds base B nf ck lb om ob di dm DJ w) : Objs w nds.length (tyN nds) ob := ⟨fun j _ => tyN_oty nds j, fun j hj => ⟨_, _, (h.obj j hj).2.2⟩, h.inj⟩
theorem Built.look {base B : Nat} {DJ : Nat → List Nat} (h : Built nds base B nf ck lb om ob di dm DJ w) {i : Nat} (hi : i < nds.length) (ok : Bool) :
    (Instr.lookup 66 (.map (some om)) (okey (tyN nds) ob i) ok).run Tryz.prog w = .ok (if ok then .tuple #[dkey di i, .bool true] else dkey di i) w := by
  have hka := key_okey h.objs (K := 82) Tryz.underlying82 (dkey di) (List.range nds.length) (fun j hj => List.mem_range.1 hj) i hi
  exact lookup_found (P := Tryz.prog) (T := 66) Tryz.underlying66 h.om_ hka (List.mem_range.2 hi) dec_iff ok

end
end Go.Proofs.YtgaadjgfjiljjaaGreat
