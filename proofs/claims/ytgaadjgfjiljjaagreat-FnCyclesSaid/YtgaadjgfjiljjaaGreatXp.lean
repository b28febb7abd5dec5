/- initOrder (37): facts for the walk; reportCycle (43). Conditions: those that each theorem names. -/
import Derived.Test.YtgaadjgfjiljjaaGreatXm
import Derived.Test.YtgaadjgfjiljjaaGreatXo
import Derived.Test.YtgaadjgfjiljjaaGreatXj
namespace Go.Proofs.YtgaadjgfjiljjaaGreat
open Go.RowKit Go.Proofs.YtgaadjgfjiljjaaGreatW.PrintWords Go.Proofs.YtgaadjgfjiljjaaGreatW.PrintLast Go.Proofs.YtgaadjgfjiljjaaGreatW.PrintMore
open Go.ChangeMaps (setBlock)
set_option linter.unusedVariables false
set_option linter.unusedSimpArgs false

theorem info60 : (Tryz.prog.info? 60).map (fun i => (i.zero, i.size, i.bytes)) = some (some (.slice none 0 0), 1, 24) := by kernel_rfl
theorem info71 : (Tryz.prog.info? 71).map (fun i => (i.zero, i.size, i.bytes)) = some (some (.pointer none), 1, 8) := by kernel_rfl
theorem info28 : (Tryz.prog.info? 28).map (fun i => (i.zero, i.size, i.bytes)) = some (some (.slice none 0 0), 1, 24) := by kernel_rfl

set_option maxHeartbeats 4000000 in
set_option maxRecDepth 100000 in
theorem rep_of {w : World} {ck b : Nat} {m pf : Value} {Ac Av : Option Addr} {lc cc lv vc : Nat} {rows : List (List Value)} (hck : w.heap[ck]? = some (.cells #[m, pf, .slice Ac lc cc] 70 (0, 0)))
    (hR : (Kd.raw 1).R 60 w b (fun _ => True) (.slice Ac lc cc) rows) (hb : b ≤ w.heap.size) (hl : rows.length ≤ 4096) :
    Calls Tryz.prog 43 #[.pointer (some ⟨ck, 0, none⟩), .slice Av lv vc] w fun e w' => e = .returned (.tuple #[]) ∧ ∃ cv, w'.heap[ck]? = some (.cells #[m, pf, cv] 70 (0, 0)) ∧ (Kd.raw 1).R 60 w' b (fun _ => True) cv (rows ++ [[.slice Av lv vc]]) ∧
      Touch (fun k => k = ck ∨ (Value.slice Ac lc cc).ownBlock = some k) w w' := by
  have HR := Aside0.mk hR
  have HB := Aside0.mk hb
  have HL := Aside0.mk hl
  have HCK := Aside0.mk hck
  have c2 : w.cell? ⟨ck, 2, none⟩ = some (.slice Ac lc cc) := (blk_cell hck 2).trans rfl
  have f2 : w.frozen? ⟨ck, 2, none⟩ = false := blk_frozen hck 2
  have hlt := blk_lt hck
  have hno : ¬ (Value.slice Ac lc cc).ownBlock = some ck := fun e => by
    obtain ⟨cells, hc⟩ := Kd.R_typed hR ck e
    rw [hck] at hc; injection hc with hc; injection hc with _ hc _; exact absurd hc (by decide)
  clear hR hb hl hck
  go_enter Tryz.func43, Tryz.ntmps43
  go_wp2_with ((with_reducible refine gate_builtin (b := .append) (xs := #[.tmp 8, .tmp 10]) rfl ?_); at_builtin; refine Kd.R_append (Kd.raw 1) (W := w) (w0 := w) b rfl (.tmp 8) (.tmp 10) 68 60 (.slice none 0 0) 24 rfl Tryz.underlying68 info60 rfl (by decide) (by omega) (.slice Ac lc cc) rows [.slice Av lv vc] [.slice Av lv vc] (fun _ => True) (fun _ => False) rfl (by first | rfl | (simp; done) | (simp; rfl)) ?aP (fun _ hk => hk.elim) (fun _ _ => trivial) ?aO ?aB ?aS ?aL ?_; (case aP => exact ⟨rfl, rfl, fun u hu => (by simp at hu; subst hu; rfl)⟩); (case aO => exact HR.out); (case aB => exact Below.refl _ _); (case aS => exact HB.out); (case aL => exact (by have := HL.out; omega)); intro v11 w5 ho hb5 hg hat; have HT5 := Aside0.mk (Touch.of_grown hg); have HR5 := Aside0.mk ho; clear ho hb5 hg hat; obtain ⟨A5, c5, hv5, _, _⟩ := Kd.R_reads HR5.out; subst hv5; have hck5 := HT5.out.blk HCK.out hno; have HCK5 := Aside0.mk hck5; have c52 : w5.cell? ⟨ck, 2, none⟩ = some (.slice Ac lc cc) := (blk_cell hck5 2).trans rfl; have f52 : w5.frozen? ⟨ck, 2, none⟩ = false := blk_frozen hck5 2; clear hck5)
  go_end0
  have hR5 := HR5.out
  rw [List.length_append, List.length_singleton] at hR5
  refine ⟨rfl, _, blk_put HCK5.out 2 _ rfl, Kd.R_step (Kd.R_tight rfl hR5) (fun k hk hlt => ?_) |> fun h => Kd.R_mono h (fun _ _ => trivial), ?_⟩
  · exact Below.heap_setCell _ _ _ _ (fun e => by
      obtain ⟨cells, hc⟩ := Kd.R_typed hR5 k hk.symm
      rw [e, HCK5.out] at hc; injection hc with hc; injection hc with _ hc _; exact absurd hc (by decide))
  · exact Touch.set_ (HT5.out.mono (fun k _ hk => .inr hk)) (fun _ => .inl rfl) _
/-- What the checker holds so far: sv the initializers (outs: the objects of each), cv the cycles (cys). -/
structure Outs (nds : List Nd) (ob : Nat → Nat) (base G0 : Nat) (outs cys : List (List Nat)) (sv cv : Value) (w : World) : Prop where
  s_ : ∃ ips : List Nat, ips.length = outs.length ∧ (Kd.raw 1).R 71 w G0 (fun _ => True) sv (ips.map fun b => [pkey id b]) ∧
    ∀ t, t < outs.length → ∃ lv, w.heap[ips.getD t 0]? = some (.cells #[lv] 74 (0, 0)) ∧ (Kd.raw 1).R 75 w base (fun _ => True) lv ((outs.getD t []).map fun m => [pkey ob m])
  c_ : ∃ cvs : List Value, cvs.length = cys.length ∧ (Kd.raw 1).R 60 w G0 (fun _ => True) cv (cvs.map fun v => [v]) ∧
    ∀ t, t < cys.length → (Kd.raw 1).R 82 w base (fun _ => True) (cvs.getD t .nilIface) ((cys.getD t []).map fun k => [okey (tyN nds) ob k])

section
variable {nds : List Nd} {ob : Nat → Nat} {base G0 : Nat} {outs cys : List (List Nat)} {sv cv : Value} {w w' : World} {S : Nat → Prop}

/-- A block of cells of the type e. -/
def Ty (w : World) (k e : Nat) : Prop := ∃ cells, w.heap[k]? = some (.cells cells e (0, 0))
theorem Ty.uniq {k e e' : Nat} (h : Ty w k e) (h' : Ty w k e') : e = e' := by
  obtain ⟨c, h⟩ := h; obtain ⟨c', h'⟩ := h'
  rw [h] at h'; injection h' with h'; injection h' with _ h' _
theorem Outs.keep (h : Outs nds ob base G0 outs cys sv cv w) (hT : Touch S w w') (hS : ∀ k, S k → ¬ Ty w k 71 ∧ ¬ Ty w k 74 ∧ ¬ Ty w k 75 ∧ ¬ Ty w k 60 ∧ ¬ Ty w k 82) : Outs nds ob base G0 outs cys sv cv w' := by
  obtain ⟨ips, h1, h2, h3⟩ := h.s_
  obtain ⟨cvs, h4, h5, h6⟩ := h.c_
  refine ⟨⟨ips, h1, R_touch h2 rfl hT (fun k hk => (hS k hk).1), fun t ht => ?_⟩, ⟨cvs, h4, R_touch h5 rfl hT (fun k hk => (hS k hk).2.2.2.1), fun t ht => R_touch (h6 t ht) rfl hT (fun k hk => (hS k hk).2.2.2.2)⟩⟩
  obtain ⟨lv, h7, h8⟩ := h3 t ht
  exact ⟨lv, hT.blk h7 (fun hs => (hS _ hs).2.1 ⟨_, h7⟩), R_touch h8 rfl hT (fun k hk => (hS k hk).2.2.1)⟩
theorem getD_app_l' {α : Type} (a : List α) (d x : α) (i : Nat) (h : i < a.length) : (a ++ [x]).getD i d = a.getD i d := by rw [List.getD_eq_getElem?_getD, List.getElem?_append_left h, List.getD_eq_getElem?_getD]
theorem getD_app_at {α : Type} (a : List α) (d x : α) : (a ++ [x]).getD a.length d = x := by simp [List.getD_eq_getElem?_getD]
theorem Outs.add_cy {cv' v : Value} {c : List Nat} {cvs : List Value} (h : Outs nds ob base G0 outs cys sv cv w) (h4 : cvs.length = cys.length) (h6 : ∀ t, t < cys.length → (Kd.raw 1).R 82 w base (fun _ => True) (cvs.getD t .nilIface) ((cys.getD t []).map fun k => [okey (tyN nds) ob k]))
    (hT : Touch S w w') (hS : ∀ k, S k → ¬ Ty w k 71 ∧ ¬ Ty w k 74 ∧ ¬ Ty w k 75 ∧ ¬ Ty w k 82) (hR : (Kd.raw 1).R 60 w' G0 (fun _ => True) cv' ((cvs ++ [v]).map fun v => [v])) (hv : (Kd.raw 1).R 82 w base (fun _ => True) v (c.map fun k => [okey (tyN nds) ob k])) :
    Outs nds ob base G0 outs (cys ++ [c]) sv cv' w' := by
  obtain ⟨ips, h1, h2, h3⟩ := h.s_
  refine ⟨⟨ips, h1, R_touch h2 rfl hT (fun k hk => (hS k hk).1), fun t ht => ?_⟩, ⟨cvs ++ [v], by simp [h4], hR, fun t ht => ?_⟩⟩
  · obtain ⟨lv, h7, h8⟩ := h3 t ht
    exact ⟨lv, hT.blk h7 (fun hs => (hS _ hs).2.1 ⟨_, h7⟩), R_touch h8 rfl hT (fun k hk => (hS k hk).2.2.1)⟩
  · by_cases e : t < cys.length
    · rw [getD_app_l' _ _ _ _ (by omega), getD_app_l' _ _ _ _ e]
      exact R_touch (h6 t e) rfl hT (fun k hk => (hS k hk).2.2.2)
    · have e' : t = cys.length := by simp at ht; omega
      rw [e', getD_app_at, ← h4, getD_app_at]
      exact R_touch hv rfl hT (fun k hk => (hS k hk).2.2.2)
theorem Outs.add_s {sv' : Value} {o : List Nat} {ips : List Nat} {ip : Nat} {lv : Value} (h : Outs nds ob base G0 outs cys sv cv w) (h1 : ips.length = outs.length)
    (h3 : ∀ t, t < outs.length → ∃ lv, w.heap[ips.getD t 0]? = some (.cells #[lv] 74 (0, 0)) ∧ (Kd.raw 1).R 75 w base (fun _ => True) lv ((outs.getD t []).map fun m => [pkey ob m]))
    (hT : Touch S w w') (hS : ∀ k, S k → ¬ Ty w k 74 ∧ ¬ Ty w k 75 ∧ ¬ Ty w k 60 ∧ ¬ Ty w k 82) (hR : (Kd.raw 1).R 71 w' G0 (fun _ => True) sv' ((ips ++ [ip]).map fun b => [pkey id b])) (hip : w'.heap[ip]? = some (.cells #[lv] 74 (0, 0)))
    (hlv : (Kd.raw 1).R 75 w' base (fun _ => True) lv (o.map fun m => [pkey ob m])) : Outs nds ob base G0 (outs ++ [o]) cys sv' cv w' := by
  obtain ⟨cvs, h4, h5, h6⟩ := h.c_
  refine ⟨⟨ips ++ [ip], by simp [h1], hR, fun t ht => ?_⟩, ⟨cvs, h4, R_touch h5 rfl hT (fun k hk => (hS k hk).2.2.1), fun t ht => R_touch (h6 t ht) rfl hT (fun k hk => (hS k hk).2.2.2)⟩⟩
  by_cases e : t < outs.length
  · obtain ⟨lv, h7, h8⟩ := h3 t e
    rw [getD_app_l' _ _ _ _ (by omega), getD_app_l' _ _ _ _ e]
    exact ⟨lv, hT.blk h7 (fun hs => (hS _ hs).1 ⟨_, h7⟩), R_touch h8 rfl hT (fun k hk => (hS k hk).2.1)⟩
  · have e' : t = outs.length := by simp at ht; omega
    rw [e', getD_app_at, ← h1, getD_app_at]
    exact ⟨lv, hip, hlv⟩
end

theorem Qr.touch2 {n G0 : Nat} {ty ob gn : Nat → Nat} {pb sb : Nat → Option Nat} {PL SL : Nat → List Nat} {od nd : Nat → Int} {gl : List Nat} {pq sl cap : Nat} {q : List Nat} {w w' : World} {S : Nat → Prop}
    (h : Qr n G0 ty ob gn pb sb PL SL od nd gl pq sl cap q w) (hT : Touch S w w') (hS : ∀ k, S k → k ≠ pq ∧ k ≠ sl ∧ ∀ i, i < n → k ≠ ob i ∧ k ≠ gn i ∧ pb i ≠ some k ∧ sb i ≠ some k) : Qr n G0 ty ob gn pb sb PL SL od nd gl pq sl cap q w' := by
  obtain ⟨ix, h1, h2⟩ := h.gr
  obtain ⟨cells, h3, h4⟩ := h.sl_
  exact ⟨⟨ix, h1.touch hT (fun k hk i hi => ((hS k hk).2.2 i hi).2), h2⟩, hT.blk h.pq_ (fun hs => (hS _ hs).1 rfl), ⟨cells, hT.blk h3 (fun hs => (hS _ hs).2.1 rfl), h4⟩, h.q_, h.g_, h.nq, h.le, h.n_, fun i hi => ⟨(h.od_ i hi).1, hT.cell (h.od_ i hi).2 (fun hs => ((hS _ hs).2.2 i hi).1 rfl)⟩, h.hi⟩

/-- The memory at the head of initOrder's loop. -/
structure Cm (nds : List Nd) (base B nf ck lb om : Nat) (ob di dm : Nat → Nat) (DJ : Nat → List Nat) (G0 : Nat) (gn : Nat → Nat) (pb sb : Nat → Option Nat) (PL SL : Nat → List Nat) (gl : List Nat) (pq sl cap em : Nat) (w0 : World)
    (outs cys : List (List Nat)) (E : List Nat) (nd : Nat → Int) (q : List Nat) (sv cv : Value) (w : World) : Prop where
  qr : Qr nds.length G0 (tyN nds) ob gn pb sb PL SL (fun i => (rd_Nd nds i).od) nd gl pq sl cap q w
  bu : Built nds base B nf ck lb om ob di dm DJ w
  nf_ : w.heap[nf]? = some (.cells #[sv] 65 (0, 0))
  ck_ : w.heap[ck]? = some (.cells #[.map (some om), .pointer (some ⟨nf, 0, none⟩), cv] 70 (0, 0))
  em_ : MapL w em (pkey id) yes E
  eE : ∀ b ∈ E, ∃ i, i < nds.length ∧ b = di i
  out_ : Outs nds ob base G0 outs cys sv cv w
  tch : Touch (fun k => k = nf ∨ k = ck) w0 w
  st : B ≤ G0 ∧ w0.heap.size ≤ G0 ∧ base ≤ G0 ∧ G0 ≤ w.heap.size ∧ ∀ i, i < nds.length → pb i ≠ some em ∧ sb i ≠ some em

section
variable {nds : List Nd} {base B nf ck lb om : Nat} {ob di dm : Nat → Nat} {DJ : Nat → List Nat} {G0 : Nat} {gn : Nat → Nat} {pb sb : Nat → Option Nat} {PL SL : Nat → List Nat} {gl : List Nat} {pq sl cap em : Nat} {w0 : World}
variable {outs cys : List (List Nat)} {E : List Nat} {nd nd' : Nat → Int} {q q' : List Nat} {sv cv : Value} {w w' : World} {S : Nat → Prop}

theorem Cm.ty_pq (h : Cm nds base B nf ck lb om ob di dm DJ G0 gn pb sb PL SL gl pq sl cap em w0 outs cys E nd q sv cv w) : Ty w pq 97 := ⟨_, h.qr.pq_⟩
theorem Cm.ty_sl (h : Cm nds base B nf ck lb om ob di dm DJ G0 gn pb sb PL SL gl pq sl cap em w0 outs cys E nd q sv cv w) : Ty w sl 102 := by obtain ⟨cells, h1, _⟩ := h.qr.sl_; exact ⟨cells, h1⟩
theorem Cm.ty_gn (h : Cm nds base B nf ck lb om ob di dm DJ G0 gn pb sb PL SL gl pq sl cap em w0 outs cys E nd q sv cv w) {i : Nat} (hi : i < nds.length) : Ty w (gn i) 109 ∧ G0 ≤ gn i := by obtain ⟨ix, h1, _⟩ := h.qr.gr; exact ⟨⟨_, (h1.node i hi).2⟩, (h1.node i hi).1⟩
/-- The graph's maps are maps. -/
theorem Cm.no_ty (h : Cm nds base B nf ck lb om ob di dm DJ G0 gn pb sb PL SL gl pq sl cap em w0 outs cys E nd q sv cv w) {i k : Nat} (hi : i < nds.length) (hk : pb i = some k ∨ sb i = some k) : (∃ es c, w.heap[k]? = some (.map es c)) ∧ G0 ≤ k := by
  obtain ⟨ix, h1, _⟩ := h.qr.gr
  rcases hk with hk | hk
  · have := h1.pm i hi
    rw [hk] at this
    exact ⟨MapL.obj this, h1.pbase i k hi hk⟩
  · have := h1.sm i hi
    rw [hk] at this
    exact ⟨MapL.obj this, h1.sbase i k hi hk⟩
theorem Cm.qs (h : Cm nds base B nf ck lb om ob di dm DJ G0 gn pb sb PL SL gl pq sl cap em w0 outs cys E nd q sv cv w) {k : Nat} (hk : Qs nds.length gn pq sl k) : G0 ≤ k ∧ (Ty w k 97 ∨ Ty w k 102 ∨ Ty w k 109) := by
  rcases hk with rfl | rfl | ⟨i, hi, rfl⟩
  · exact ⟨h.qr.hi.1, .inl h.ty_pq⟩
  · exact ⟨h.qr.hi.2, .inr (.inl h.ty_sl)⟩
  · exact ⟨(h.ty_gn hi).2, .inr (.inr (h.ty_gn hi).1)⟩
theorem Cm.obl (h : Cm nds base B nf ck lb om ob di dm DJ G0 gn pb sb PL SL gl pq sl cap em w0 outs cys E nd q sv cv w) {i : Nat} (hi : i < nds.length) : ob i < G0 := (h.qr.od_ i hi).1
/-- The heap's calls, and what is stored into the nodes. -/
theorem Cm.heap (h : Cm nds base B nf ck lb om ob di dm DJ G0 gn pb sb PL SL gl pq sl cap em w0 outs cys E nd q sv cv w) (hQ : Qr nds.length G0 (tyN nds) ob gn pb sb PL SL (fun i => (rd_Nd nds i).od) nd' gl pq sl cap q' w') (hT : Touch (Qs nds.length gn pq sl) w w') : Cm nds base B nf ck lb om ob di dm DJ G0 gn pb sb PL SL gl pq sl cap em w0 outs cys E nd' q' sv cv w' := by
  have hlt := h.bu.lt
  have hst := h.st
  have hno : ∀ k, Qs nds.length gn pq sl k → ¬ k < B := fun k hk hlt' => by have := (h.qs hk).1; omega
  refine ⟨hQ, h.bu.touch hT (fun k hk hb => absurd hb (hno k hk)), hT.blk h.nf_ (fun hk => hno _ hk (by omega)), hT.blk h.ck_ (fun hk => hno _ hk (by omega)), h.em_.same (hT.block _ h.em_.lt (fun hk => ?_)), h.eE, h.out_.keep hT (fun k hk => ?_), h.tch.trans hT (fun k hk hs => by have := (h.qs hs).1; omega), ⟨hst.1, hst.2.1, hst.2.2.1, Nat.le_trans hst.2.2.2.1 hT.size, hst.2.2.2.2⟩⟩
  · obtain ⟨es, c, hm⟩ := h.em_.obj
    rcases (h.qs hk).2 with ⟨cells, hc⟩ | ⟨cells, hc⟩ | ⟨cells, hc⟩ <;> rw [hm] at hc <;> cases hc
  · rcases (h.qs hk).2 with hc | hc | hc <;> exact ⟨fun e => absurd (hc.uniq e) (by decide), fun e => absurd (hc.uniq e) (by decide), fun e => absurd (hc.uniq e) (by decide), fun e => absurd (hc.uniq e) (by decide), fun e => absurd (hc.uniq e) (by decide)⟩
/-- New blocks, iterators. -/
theorem Cm.soft (h : Cm nds base B nf ck lb om ob di dm DJ G0 gn pb sb PL SL gl pq sl cap em w0 outs cys E nd q sv cv w) (hT : Touch S w w') (hS : ∀ k, S k → k < w.heap.size → G0 ≤ k ∧ ∃ m a s c, w.heap[k]? = some (.mapIter m a s c)) : Cm nds base B nf ck lb om ob di dm DJ G0 gn pb sb PL SL gl pq sl cap em w0 outs cys E nd q sv cv w' := by
  have hlt := h.bu.lt
  have hst := h.st
  have hT' : Touch (fun k => G0 ≤ k ∧ ∃ m a s c, w.heap[k]? = some (.mapIter m a s c)) w w' := hT.mono (fun k hk hs => hS k hs hk)
  have hm : ∀ k, (∃ es c, w.heap[k]? = some (.map es c)) → ¬ (G0 ≤ k ∧ ∃ m a s c, w.heap[k]? = some (.mapIter m a s c)) := fun k ⟨es, c', h1⟩ ⟨_, m, a, s, c, h2⟩ => by rw [h1] at h2; cases h2
  have htyp : ∀ k e, Ty w k e → ¬ (G0 ≤ k ∧ ∃ m a s c, w.heap[k]? = some (.mapIter m a s c)) := fun k e ⟨cells, h1⟩ ⟨_, m, a, s, c, h2⟩ => by rw [h1] at h2; cases h2
  refine ⟨h.qr.touch2 hT' (fun k hk => ⟨fun e => htyp _ _ h.ty_pq (e ▸ hk), fun e => htyp _ _ h.ty_sl (e ▸ hk), fun i hi => ⟨fun e => htyp _ _ ⟨_, (h.bu.obj i hi).2.2⟩ (e ▸ hk), fun e => htyp _ _ (h.ty_gn hi).1 (e ▸ hk), fun e => hm _ (h.no_ty hi (.inl e)).1 hk, fun e => hm _ (h.no_ty hi (.inr e)).1 hk⟩⟩),
    h.bu.touch hT' (fun k hk hb => by have := hk.1; omega), hT'.blk h.nf_ (htyp _ _ ⟨_, h.nf_⟩), hT'.blk h.ck_ (htyp _ _ ⟨_, h.ck_⟩), h.em_.same (hT'.block _ h.em_.lt (hm _ h.em_.obj)), h.eE, h.out_.keep hT' (fun k hk => ⟨fun e => htyp _ _ e hk, fun e => htyp _ _ e hk, fun e => htyp _ _ e hk, fun e => htyp _ _ e hk, fun e => htyp _ _ e hk⟩), h.tch.trans hT' (fun k hk hs => by have := hs.1; omega), ⟨hst.1, hst.2.1, hst.2.2.1, Nat.le_trans hst.2.2.2.1 hT.size, hst.2.2.2.2⟩⟩
/-- The map of what was told. -/
theorem Cm.told {E' : List Nat} (h : Cm nds base B nf ck lb om ob di dm DJ G0 gn pb sb PL SL gl pq sl cap em w0 outs cys E nd q sv cv w) (hG : G0 ≤ em) (hT : Touch (fun k => k = em) w w') (hM : MapL w' em (pkey id) yes E') (hE : ∀ b ∈ E', ∃ i, i < nds.length ∧ b = di i) : Cm nds base B nf ck lb om ob di dm DJ G0 gn pb sb PL SL gl pq sl cap em w0 outs cys E' nd q sv cv w' := by
  have hlt := h.bu.lt
  have hst := h.st
  obtain ⟨es, c0, hmo⟩ := h.em_.obj
  have htyp : ∀ k e, Ty w k e → ¬ k = em := fun k e ⟨cells, h1⟩ h2 => by rw [h2, hmo] at h1; cases h1
  refine ⟨h.qr.touch2 hT (fun k hk => ⟨fun e => htyp _ _ h.ty_pq (e ▸ hk), fun e => htyp _ _ h.ty_sl (e ▸ hk), fun i hi => ⟨fun e => htyp _ _ ⟨_, (h.bu.obj i hi).2.2⟩ (e ▸ hk), fun e => htyp _ _ (h.ty_gn hi).1 (e ▸ hk), by rw [hk]; exact (hst.2.2.2.2 i hi).1, by rw [hk]; exact (hst.2.2.2.2 i hi).2⟩⟩),
    h.bu.touch hT (fun k hk hb => by omega), hT.blk h.nf_ (htyp _ _ ⟨_, h.nf_⟩), hT.blk h.ck_ (htyp _ _ ⟨_, h.ck_⟩), hM, hE, h.out_.keep hT (fun k hk => ⟨fun e => htyp _ _ e hk, fun e => htyp _ _ e hk, fun e => htyp _ _ e hk, fun e => htyp _ _ e hk, fun e => htyp _ _ e hk⟩), h.tch.trans hT (fun k hk hs => by omega), ⟨hst.1, hst.2.1, hst.2.2.1, Nat.le_trans hst.2.2.2.1 hT.size, hst.2.2.2.2⟩⟩
/-- What is appended to the checker's two lists. -/
theorem Cm.put {outs' cys' : List (List Nat)} {sv' cv' : Value} (h : Cm nds base B nf ck lb om ob di dm DJ G0 gn pb sb PL SL gl pq sl cap em w0 outs cys E nd q sv cv w) (hT : Touch (fun k => (k = nf ∨ k = ck) ∨ (G0 ≤ k ∧ (Ty w k 60 ∨ Ty w k 71))) w w') (hnf : w'.heap[nf]? = some (.cells #[sv'] 65 (0, 0)))
    (hck : w'.heap[ck]? = some (.cells #[.map (some om), .pointer (some ⟨nf, 0, none⟩), cv'] 70 (0, 0))) (ho : Outs nds ob base G0 outs' cys' sv' cv' w') : Cm nds base B nf ck lb om ob di dm DJ G0 gn pb sb PL SL gl pq sl cap em w0 outs' cys' E nd q sv' cv' w' := by
  have hlt := h.bu.lt
  have hst := h.st
  have hm : ∀ k, (∃ es c, w.heap[k]? = some (.map es c)) ∧ (G0 ≤ k ∨ k = om ∨ True) → ¬ (G0 ≤ k ∧ (Ty w k 60 ∨ Ty w k 71)) := fun k ⟨⟨es, c', h1⟩, _⟩ ⟨_, h2⟩ => by rcases h2 with ⟨cells, h2⟩ | ⟨cells, h2⟩ <;> rw [h1] at h2 <;> cases h2
  have htyp : ∀ k e, Ty w k e → e ≠ 60 → e ≠ 71 → ¬ (G0 ≤ k ∧ (Ty w k 60 ∨ Ty w k 71)) := fun k e h1 e1 e2 ⟨_, h2⟩ => by rcases h2 with h2 | h2; exact e1 (h1.uniq h2); exact e2 (h1.uniq h2)
  have hpq := h.qr.hi
  have hel : ∀ k, w.heap[em]? = w.heap[k]? → k ≠ nf ∧ k ≠ ck := fun k e => by
    obtain ⟨es, c0, hmo⟩ := h.em_.obj
    rw [hmo] at e
    exact ⟨fun e' => (by rw [e', h.nf_] at e; cases e), fun e' => (by rw [e', h.ck_] at e; cases e)⟩
  refine ⟨h.qr.touch2 hT (fun k hk => ⟨fun e => ?_, fun e => ?_, fun i hi => ⟨fun e => ?_, fun e => ?_, fun e => ?_, fun e => ?_⟩⟩), h.bu.touch hT (fun k hk hb => by rcases hk with hk | hk; exact hk; have := hk.1; omega), hnf, hck, h.em_.same (hT.block _ h.em_.lt (fun hk => ?_)), h.eE, ho, h.tch.trans hT (fun k hk hs => by rcases hs with hs | hs; exact hs; have := hs.1; omega), ⟨hst.1, hst.2.1, hst.2.2.1, Nat.le_trans hst.2.2.2.1 hT.size, hst.2.2.2.2⟩⟩
  · rcases hk with hk | hk
    · omega
    · exact htyp _ _ h.ty_pq (by decide) (by decide) (e ▸ hk)
  · rcases hk with hk | hk
    · omega
    · exact htyp _ _ h.ty_sl (by decide) (by decide) (e ▸ hk)
  · have hob := h.bu.obj i hi
    have := h.obl hi
    rcases hk with hk | hk
    · rcases hk with hk | hk <;> omega
    · have := hk.1; omega
  · have hg := h.ty_gn hi
    rcases hk with hk | hk
    · omega
    · exact htyp _ _ hg.1 (by decide) (by decide) (e ▸ hk)
  · have hn := h.no_ty hi (.inl e)
    rcases hk with hk | hk
    · omega
    · exact hm _ ⟨hn.1, .inr (.inr trivial)⟩ hk
  · have hn := h.no_ty hi (.inr e)
    rcases hk with hk | hk
    · omega
    · exact hm _ ⟨hn.1, .inr (.inr trivial)⟩ hk
  · rcases hk with hk | hk
    · rcases hk with hk | hk
      · exact (hel _ rfl).1 hk
      · exact (hel _ rfl).2 hk
    · exact hm _ ⟨h.em_.obj, .inr (.inr trivial)⟩ hk
end
end Go.Proofs.YtgaadjgfjiljjaaGreat
