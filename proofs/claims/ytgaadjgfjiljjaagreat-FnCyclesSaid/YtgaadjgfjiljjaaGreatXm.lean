/- dependencyGraph (40): the walk. Conditions: what build leaves (Built). -/
import Derived.Test.YtgaadjgfjiljjaaGreatXl
namespace Go.Proofs.YtgaadjgfjiljjaaGreat
open Go.RowKit Go.Proofs.YtgaadjgfjiljjaaGreatW.PrintWords Go.Proofs.YtgaadjgfjiljjaaGreatW.PrintLast Go.Proofs.YtgaadjgfjiljjaaGreatW.PrintMore
open Go.ChangeMaps (setBlock)
set_option linter.unusedVariables false
set_option linter.unusedSimpArgs false

section
variable {nds : List Nd} {base B nf ck lb om : Nat} {ob di dm : Nat → Nat} {DJ : Nat → List Nat}

/-- What dependencyGraph leaves: the list gl of the nodes that are no functions, and the graph over them. -/
def DepPost (nds : List Nd) (DJ : Nat → List Nat) (ob : Nat → Nat) (w : World) (e : Ending) (w' : World) : Prop := ∃ (v : Value) (gn : Nat → Nat) (pb sb : Nat → Option Nat) (PL SL : Nat → List Nat) (ix nd : Nat → Int) (gl : List Nat),
  e = .returned v ∧ (Kd.raw 1).R 102 w' w.heap.size (fun _ => True) v (gl.map fun k => [pkey gn k]) ∧ Gr nds.length w.heap.size (tyN nds) ob gn pb sb PL SL ix nd w' ∧ Below w.heap.size w w' ∧
  (∀ i, i ∈ gl ↔ (i < nds.length ∧ tyN nds i ≠ 94)) ∧ gl.Nodup ∧ GI nds.length (fun i k => k ∈ DJ i) (fun x => x < nds.length ∧ tyN nds x = 94) PL SL ∧
  (∀ t, t < gl.length → ix (gl.getD t 0) = (t : Int) ∧ nd (gl.getD t 0) = ((SL (gl.getD t 0)).length : Int))

set_option maxHeartbeats 8000000 in
set_option maxRecDepth 100000 in
theorem depGraph_of {w : World} (hBu : Built nds base B nf ck lb om ob di dm DJ w) (hlen : nds.length ≤ 4096) :
    Calls Tryz.prog 40 #[.map (some om)] w (DepPost nds DJ ob w) := by
  have hmm := @run_makeMap Tryz.prog
  have hT0 : Touch (fun _ => False) w (w.alloc (.map #[] 0)) := (Touch.refl _ _).alloc _
  have hB0 := hBu.touch hT0 (fun _ h => h.elim)
  obtain ⟨o2, hr2, hI2⟩ := range_run (P := Tryz.prog) (T := 66) Tryz.underlying66 (some om) hB0.om_
  have hr2' : (Instr.range 66 (.map (some om))).run Tryz.prog (w.alloc (.map #[] 0)) = .ok (.pointer (some ⟨w.heap.size + 1, 0, none⟩)) ((w.alloc (.map #[] 0)).alloc o2) := by rw [hr2]; simp
  obtain ⟨w2, hw2⟩ : ∃ w2, w2 = (w.alloc (.map #[] 0)).alloc o2 := ⟨_, rfl⟩
  rw [← hw2] at hr2' hI2
  have hM2 : MapL w2 w.heap.size (okey (tyN nds) ob) (pkey (fun _ => 0)) [] := (mapL_new w (okey (tyN nds) ob) (pkey (fun _ => 0))).same (by rw [hw2]; exact heap_alloc_old _ _ (by simp))
  have hb2 : Below w.heap.size w w2 := by rw [hw2]; exact below_alloc (below_alloc (Below.refl _ _) _) _
  have hsz2 : w2.heap.size = w.heap.size + 1 + 1 := by rw [hw2]; simp
  rw [show (w.alloc (.map #[] 0)).heap.size = w.heap.size + 1 by simp] at hI2
  have HI2 := Aside0.mk hI2
  have HM2 := Aside0.mk hM2
  have HB2 := Aside0.mk hb2
  have HBU := Aside0.mk hBu
  have HLEN := Aside0.mk hlen
  clear hT0 hB0 hr2 hI2 hM2 hb2 hw2 hBu hlen
  go_enter Tryz.func40, Tryz.ntmps40
  go_wp2_with fail
  clear hr2'
  have HSZ := Aside0.mk hsz2
  generalize hmb : w.heap.size = mb at HI2 HM2 HB2 HSZ ⊢
  have HMB := Aside0.mk hmb
  clear hmb hsz2
  go_loopg [4] nds.length (fun kq v4 w' => ∃ (D : List Nat) (gn : Nat → Nat), Aside0 (kq + D.length = nds.length) ∧ Aside0 (IterO w' (mb + 1) (some om) (okey (tyN nds) ob) (dkey di) (List.range nds.length) D) ∧ Aside0 (MapL w' mb (okey (tyN nds) ob) (pkey gn) D) ∧ Aside0 (Gn nds (mb + 1 + 1) ob gn D w') ∧ Aside0 (Below mb w w') ∧ Aside0 (mb + 1 + 1 ≤ w'.heap.size))
  case atStart => exact ⟨[], fun _ => 0, ⟨by simp⟩, HI2, HM2, ⟨⟨fun i h => (by cases h), fun i h => (by cases h)⟩⟩, HB2, ⟨by have := HSZ.out; omega⟩⟩
  case round =>
    clear HI2 HM2 HB2
    obtain ⟨D, gn, HK, HI, HM, HG, HB, HS⟩ := hrel
    have hBw := HBU.out.touch (S := fun k => mb ≤ k) (w' := wr) ⟨HB.out.os, HB.out.tape, HB.out.output, HB.out.size, fun k hk hn => HB.out.block k (by omega)⟩ (fun k hk hlt => by have := HBU.out.lt; have := HMB.out; omega)
    have HBW := Aside0.mk hBw
    clear hBw
    rcases next_cases (P := Tryz.prog) HI.out 0 with ⟨hall, hrun⟩ | ⟨j, w3, hjL, hjD, hrun, hT3, hI3, hen⟩
    · have HALL := Aside0.mk (show ∀ i, i < nds.length → i ∈ D from fun i hi => hall i (List.mem_range.2 hi))
      have HDN := Aside0.mk (show ∀ i ∈ D, i < nds.length from fun i hi => List.mem_range.1 (HI.out.sub.2 i hi))
      have HGR := Aside0.mk (HG.out.gr nds.length HALL.out)
      obtain ⟨o6, hr6, hI6⟩ := range_run (P := Tryz.prog) (T := 115) Tryz.underlying115 (some mb) HM.out
      obtain ⟨r2, hr2⟩ : ∃ r2, r2 = wr.heap.size := ⟨_, rfl⟩
      obtain ⟨w6, hw6⟩ : ∃ w6, w6 = wr.alloc o6 := ⟨_, rfl⟩
      rw [← hr2, ← hw6] at hr6 hI6
      have hT6 : Touch (fun _ => False) wr w6 := by rw [hw6]; exact (Touch.refl _ _).alloc _
      have HI6 := Aside0.mk hI6
      have HG6 := Aside0.mk (HGR.out.new hT6)
      have HM6 := Aside0.mk (HM.out.same (hT6.block _ HM.out.lt (fun h => h)))
      have HB6 := Aside0.mk (below_touch HB.out hT6 (fun k hk => hk.elim) (by have := HMB.out; omega))
      have HR2 := Aside0.mk (show mb + 1 + 1 ≤ r2 by rw [hr2]; exact HS.out)
      clear hall hI6 hT6 hw6 hr2 HGR HG HI HM HB HBW
      go_wp2_with fail
      clear hr6 hrun
      go_loopg [7] D.length (fun kq v7 w' => ∃ (E : List Nat) (pb sb : Nat → Option Nat) (PL SL : Nat → List Nat), Aside0 (kq + E.length = D.length) ∧ Aside0 (IterO w' r2 (some mb) (okey (tyN nds) ob) (pkey gn) D E) ∧ Aside0 (MapL w' mb (okey (tyN nds) ob) (pkey gn) D) ∧ Aside0 (Gr nds.length (mb + 1 + 1) (tyN nds) ob gn pb sb PL SL (fun _ => 0) (fun _ => 0) w') ∧ Aside0 (Below mb w w') ∧ Aside0 (EdO nds.length DJ E PL SL))
      case atStart => exact ⟨[], _, _, _, _, ⟨by simp⟩, HI6, HM6, HG6, HB6, ⟨⟨fun i hi k => by simp, fun k hk i => by simp⟩⟩⟩
      case round =>
        clear HI6 HM6 HG6 HB6
        obtain ⟨E, pb, sb, PL, SL, HKE, HI, HM, HG, HB, HE⟩ := hrel
        rcases next_cases (P := Tryz.prog) HI.out 0 with ⟨hall, hrun⟩ | ⟨j, w3, hjL, hjE, hrun, hT3, hI3, hen⟩
        · have HED := Aside0.mk (show ∀ i, i < nds.length → i ∈ E from fun i hi => hall i (HALL.out i hi))
          obtain ⟨o7, hr7, hI7⟩ := range_run (P := Tryz.prog) (T := 115) Tryz.underlying115 (some mb) HM.out
          obtain ⟨r4, hr4⟩ : ∃ r4, r4 = wr.heap.size := ⟨_, rfl⟩
          obtain ⟨w7, hw7⟩ : ∃ w7, w7 = wr.alloc o7 := ⟨_, rfl⟩
          rw [← hr4, ← hw7] at hr7 hI7
          have hT7 : Touch (fun _ => False) wr w7 := by rw [hw7]; exact (Touch.refl _ _).alloc _
          have HI7 := Aside0.mk hI7
          have HG7 := Aside0.mk (HG.out.new hT7)
          have HM7 := Aside0.mk (HM.out.same (hT7.block _ HM.out.lt (fun h => h)))
          have HB7 := Aside0.mk (below_touch HB.out hT7 (fun k hk => hk.elim) (by have := HMB.out; omega))
          have HR4 := Aside0.mk (show mb + 1 + 1 ≤ r4 by have := HI.out.lt; have := HR2.out; omega)
          clear hall hI7 hT7 hw7 hr4 HG HI HM HB
          go_wp2_with fail
          clear hr7 hrun
          go_loopg [13, 14, 16] D.length (fun kq v13 v14 v16 w' => ∃ (E2 : List Nat), Aside0 (kq + E2.length = D.length) ∧ Aside0 (IterO w' r4 (some mb) (okey (tyN nds) ob) (pkey gn) D E2) ∧ Aside0 (Gr nds.length (mb + 1 + 1) (tyN nds) ob gn pb sb PL SL (fun _ => 0) (fun _ => 0) w') ∧ Aside0 (Below mb w w') ∧
            Aside0 ((Kd.raw 1).R 102 w' (r4 + 1) (fun _ => True) v13 ((E2.filter fun i => decide (tyN nds i ≠ 94)).map fun k => [pkey gn k])) ∧ Aside0 ((Kd.raw 1).R 102 w' (r4 + 1) (fun _ => True) v14 ((E2.filter fun i => decide (tyN nds i = 94)).map fun k => [pkey gn k])) ∧ Aside0 (∀ k, v13.ownBlock = some k → v14.ownBlock ≠ some k))
          case atStart => exact ⟨[], ⟨by simp⟩, HI7, HG7, HB7, ⟨Kd.R_nil _ _ _ _ _⟩, ⟨Kd.R_nil _ _ _ _ _⟩, ⟨fun k h => by simp [Value.ownBlock] at h⟩⟩
          case round =>
            clear HI7 HG7 HM7 HB7
            obtain ⟨E2, HKE2, HI, HG, HB, HR13, HR14, HOW⟩ := hrel
            rcases next_cases (P := Tryz.prog) HI.out 0 with ⟨hall, hrun⟩ | ⟨j, w3, hjL, hjE, hrun, hT3, hI3, hen⟩
            · obtain ⟨fl, hfl⟩ : ∃ fl, fl = E2.filter fun i => decide (tyN nds i = 94) := ⟨_, rfl⟩
              obtain ⟨gl, hgl⟩ : ∃ gl, gl = E2.filter fun i => decide (tyN nds i ≠ 94) := ⟨_, rfl⟩
              rw [← hfl] at HR14
              rw [← hgl] at HR13
              have HFL := Aside0.mk (show (∀ i, i ∈ fl ↔ (i < nds.length ∧ tyN nds i = 94)) ∧ fl.Nodup from ⟨fun i => by
                rw [hfl, List.mem_filter]
                exact ⟨fun h => ⟨HDN.out i (HI.out.sub.2 i h.1), by simpa using h.2⟩, fun h => ⟨hall i (HALL.out i h.1), by simpa using h.2⟩⟩, by rw [hfl]; exact HI.out.sub.1.filter _⟩)
              have HGL := Aside0.mk (show (∀ i, i ∈ gl ↔ (i < nds.length ∧ tyN nds i ≠ 94)) ∧ gl.Nodup from ⟨fun i => by
                rw [hgl, List.mem_filter]
                exact ⟨fun h => ⟨HDN.out i (HI.out.sub.2 i h.1), by simpa using h.2⟩, fun h => ⟨hall i (HALL.out i h.1), by simpa using h.2⟩⟩, by rw [hgl]; exact HI.out.sub.1.filter _⟩)
              have HFLN := Aside0.mk (show fl.length ≤ nds.length from nodup_lt_length _ _ HFL.out.2 (fun k hk => ((HFL.out.1 k).1 hk).1))
              have HGLN := Aside0.mk (show gl.length ≤ nds.length from nodup_lt_length _ _ HGL.out.2 (fun k hk => ((HGL.out.1 k).1 hk).1))
              have HGI := Aside0.mk (show GI nds.length (fun i k => k ∈ DJ i) (fun _ => False) PL SL from ⟨fun i k hi hk => .base ((HE.out.1 i hi k).1 hk).2, fun i k hk hi => .base ((HE.out.2 k hk i).1 hi).2, fun i k hi hk _ _ hv => by
                cases hv with
                | base h => exact (HE.out.1 i hi k).2 ⟨HED.out i hi, h⟩
                | step _ h _ => exact h.elim, fun i k hi hk _ _ => by rw [HE.out.1 i hi k, HE.out.2 k hk i], fun _ _ _ _ _ h => h, fun _ _ _ _ _ h => h⟩)
              obtain ⟨A14, c14, hv14, _, _⟩ := Kd.R_reads HR14.out
              rw [List.length_map] at hv14
              subst hv14
              clear hall hfl hgl HI HE
              go_wp2_with fail
              have htyp : ∀ k, (Value.slice A14 fl.length c14).ownBlock = some k → ∃ cells, wr.heap[k]? = some (.cells cells 102 (0, 0)) := Kd.R_typed HR14.out
              have hbase : ∀ k, (Value.slice A14 fl.length c14).ownBlock = some k → r4 + 1 ≤ k := Kd.R_base HR14.out
              refine (sortf_any HG.out HLEN.out fl (fun k hk => ((HFL.out.1 k).1 hk).1) (by have := HFLN.out; have := HLEN.out; omega) (r4 + 1) A14 c14 HR14.out).mono ?_
              rintro e w5 ⟨rfl, fs, hp, hT5, hc5⟩
              have HFP := Aside0.mk hp
              have HC5 := Aside0.mk hc5
              have HG5 := Aside0.mk (HG.out.row102 hT5 htyp)
              have HB5 := Aside0.mk (below_touch HB.out hT5 (fun k hk => by have := hbase k hk; have := HR4.out; omega) (by have := HMB.out; omega))
              have HR5 := Aside0.mk (show (Kd.raw 1).R 102 w5 (r4 + 1) (fun _ => True) u13 (gl.map fun k => [pkey gn k]) from Kd.R_mono (Kd.R_step (Kd.R_tight rfl HR13.out) (fun k hk hlt => hT5.block k hlt (fun hs => HOW.out k hk.symm hs))) (fun _ _ => trivial))
              clear htyp hbase hp hT5 hc5 HG HB HR13 HR14 HOW
              go_wp2_with fail
              go_loopg [108] fl.length (fun kq v108 w' => ∃ (q : Nat) (pb sb : Nat → Option Nat) (PL SL : Nat → List Nat), v108 = .int .i64 (q : Int) ∧ Aside0 (kq + q = fl.length) ∧ Aside0 (Gr nds.length (mb + 1 + 1) (tyN nds) ob gn pb sb PL SL (fun _ => 0) (fun _ => 0) w') ∧ Aside0 (Below mb w w') ∧ Aside0 (GI nds.length (fun i k => k ∈ DJ i) (fun x => x ∈ fs.take q) PL SL) ∧
                Aside0 ((Kd.raw 1).R 102 w' (r4 + 1) (fun _ => True) u13 (gl.map fun k => [pkey gn k])) ∧ Aside0 (∀ t, t < fl.length → ∃ g, A14 = some ⟨g, 0, none⟩ ∧ w'.cell? ⟨g, t, none⟩ = some (pkey gn (fs.getD t 0))))
              case atStart => exact ⟨0, _, _, _, _, rfl, ⟨by omega⟩, HG5, HB5, ⟨by have h := HGI.out; simpa using h⟩, HR5, HC5⟩
              case round =>
                clear HG5 HB5 HR5 HC5
                obtain ⟨q, pb5, sb5, PL5, SL5, rfl, HKQ, HG, HB, HI5, HR5, HC5⟩ := hrel
                by_cases cq : (q : Int) < (fl.length : Int)
                · have hqr : q < fl.length := by omega
                  have hcq := decide_eq_true cq
                  have hcqn : decide (q < fl.length) = true := decide_eq_true hqr
                  have hq0 : (0 : Int) ≤ (q : Int) := by omega
                  obtain ⟨g, hA, hcg⟩ := HC5.out q hqr
                  subst hA
                  have hqs : q < fs.length := by rw [HFP.out.length_eq]; exact hqr
                  obtain ⟨f, hf⟩ : ∃ f, f = fs.getD q 0 := ⟨_, rfl⟩
                  have hfg : fs[q] = f := by rw [hf, List.getD_eq_getElem?_getD, List.getElem?_eq_getElem hqs]; rfl
                  rw [← hf] at hcg
                  have hfm : f ∈ fl := HFP.out.mem_iff.1 (by rw [← hfg]; exact List.getElem_mem hqs)
                  have hfn : f < nds.length := ((HFL.out.1 f).1 hfm).1
                  have hfnd : fs.Nodup := HFP.out.nodup_iff.2 HFL.out.2
                  have HFR := Aside0.mk (show f ∉ fs.take q by
                    intro hm
                    have hsplit : fs = fs.take q ++ fs.drop q := (List.take_append_drop q fs).symm
                    have hnd2 : (fs.take q ++ fs.drop q).Nodup := by rw [← hsplit]; exact hfnd
                    have hd : f ∈ fs.drop q := by
                      rw [List.drop_eq_getElem_cons hqs, hfg]; simp
                    exact (List.nodup_append.1 hnd2).2.2 f hm f hd rfl)
                  have HTK := Aside0.mk (show fs.take (q + 1) = fs.take q ++ [f] by rw [List.take_add_one, List.getElem?_eq_getElem hqs, hfg]; rfl)
                  have HFN := Aside0.mk hfn
                  have hnode := (HG.out.node f hfn).2
                  have hc1 : wr.cell? ⟨gn f, 1, none⟩ = some (.map (pb5 f)) := (blk_cell hnode 1).trans rfl
                  obtain ⟨o8, hr8, hI8⟩ := range_run (P := Tryz.prog) (T := 107) Tryz.underlying107 (pb5 f) (HG.out.pm f hfn)
                  obtain ⟨r5, hr5⟩ : ∃ r5, r5 = wr.heap.size := ⟨_, rfl⟩
                  obtain ⟨w8, hw8⟩ : ∃ w8, w8 = wr.alloc o8 := ⟨_, rfl⟩
                  rw [← hr5, ← hw8] at hr8 hI8
                  have hT8 : Touch (fun _ => False) wr w8 := by rw [hw8]; exact (Touch.refl _ _).alloc _
                  have HI8 := Aside0.mk hI8
                  have HG8 := Aside0.mk (HG.out.new hT8)
                  have HB8 := Aside0.mk (below_touch HB.out hT8 (fun k hk => hk.elim) (by have := HMB.out; omega))
                  have HR8 := Aside0.mk (R_touch HR5.out rfl hT8 (fun k hk => hk.elim))
                  have HC8 := Aside0.mk (show ∀ t, t < fl.length → ∃ g', (some ⟨g, 0, none⟩ : Option Addr) = some ⟨g', 0, none⟩ ∧ w8.cell? ⟨g', t, none⟩ = some (pkey gn (fs.getD t 0)) from fun t ht => by
                    obtain ⟨g', h1, h2⟩ := HC5.out t ht
                    exact ⟨g', h1, hT8.cell h2 (fun h => h)⟩)
                  have HRB := Aside0.mk (show mb + 1 + 1 ≤ r5 by rw [hr5]; have h1 := (HG.out.node f hfn).1; have h2 := blk_lt hnode; omega)
                  unfold pkey at hcg
                  clear hf hfg hfm hfn hfnd hnode hI8 hT8 hw8 hr5 cq
                  have HW8 := Aside0.mk (show Rows2 gn (r4 + 1) u13 gl fs g fl.length w8 from ⟨HR8.out, fun t ht => (by obtain ⟨g', h1, h2⟩ := HC8.out t ht; injection h1 with h1; injection h1 with h1 _ _; subst h1; exact h2)⟩)
                  have HGP := Aside0.mk (show 0 < fl.length by omega)
                  clear HR8 HC8 HR5 HC5 HG HB
                  go_wp2_with fail
                  clear hr8 hc1 hcg
                  obtain ⟨n5, rfl⟩ : ∃ n5, n5 = gk := ⟨_, rfl⟩
                  obtain ⟨wr5, rfl⟩ : ∃ wr5, wr5 = wr := ⟨_, rfl⟩
                  go_loopg [21] (PL5 f).length (fun kq v21 w' => ∃ (Dp : List Nat) (pb6 sb6 : Nat → Option Nat) (PL6 SL6 : Nat → List Nat), Aside0 (kq + Dp.length = (PL5 f).length) ∧ Aside0 (IterO w' r5 (pb5 f) (pkey gn) yes (PL5 f) Dp) ∧ Aside0 (Gr nds.length (mb + 1 + 1) (tyN nds) ob gn pb6 sb6 PL6 SL6 (fun _ => 0) (fun _ => 0) w') ∧ Aside0 (Below mb w w') ∧ Aside0 (P6 f Dp PL5 SL5 PL6 SL6) ∧
                    Aside0 (PL6 f = PL5 f ∧ SL6 f = SL5 f ∧ pb6 f = pb5 f ∧ sb6 f = sb5 f) ∧ Aside0 (Rows2 gn (r4 + 1) u13 gl fs g fl.length w'))
                  case atStart => exact ⟨[], _, _, _, _, ⟨by simp⟩, HI8, HG8, HB8, ⟨P6.nil f PL5 SL5⟩, ⟨rfl, rfl, rfl, rfl⟩, HW8⟩
                  case round =>
                    clear HI8 HG8 HB8 HW8
                    obtain ⟨Dp, pb6, sb6, PL6, SL6, HK6, HI6, HG6, HB6, HP6, HEQ6, HW6⟩ := hrel
                    rcases next_cases (P := Tryz.prog) HI6.out 0 with ⟨hall, hrun⟩ | ⟨p, w9, hpL, hpD, hrun, hT9, hI9, hen⟩
                    · have HDP := Aside0.mk (show ∀ i, i ∈ Dp ↔ i ∈ PL5 f from fun i => ⟨fun h => HI6.out.sub.2 i h, fun h => hall i h⟩)
                      have hnodef := (HG6.out.node f HFN.out).2
                      have hc2 : wr.cell? ⟨gn f, 2, none⟩ = some (.map (sb6 f)) := (blk_cell hnodef 2).trans rfl
                      obtain ⟨o10, hr10, hI10⟩ := range_run (P := Tryz.prog) (T := 107) Tryz.underlying107 (sb6 f) (HG6.out.sm f HFN.out)
                      obtain ⟨r7, hr7⟩ : ∃ r7, r7 = wr.heap.size := ⟨_, rfl⟩
                      obtain ⟨w10, hw10⟩ : ∃ w10, w10 = wr.alloc o10 := ⟨_, rfl⟩
                      rw [← hr7, ← hw10] at hr10 hI10
                      have hT10 : Touch (fun _ => False) wr w10 := by rw [hw10]; exact (Touch.refl _ _).alloc _
                      have HI10 := Aside0.mk hI10
                      have HG10 := Aside0.mk (HG6.out.new hT10)
                      have HB10 := Aside0.mk (below_touch HB6.out hT10 (fun k hk => hk.elim) (by have := HMB.out; omega))
                      have HW10 := Aside0.mk (HW6.out.keep hT10 (fun k hk => hk.elim) (fun h => h))
                      have HRC := Aside0.mk (show mb + 1 + 1 ≤ r7 by rw [hr7]; have h1 := (HG6.out.node f HFN.out).1; have h2 := blk_lt hnodef; omega)
                      clear hall hnodef hI10 hT10 hw10 hr7 HI6 HG6 HB6 HW6
                      go_wp2_with fail
                      clear hr10 hc2 hrun
                      obtain ⟨n6, rfl⟩ : ∃ n6, n6 = gk := ⟨_, rfl⟩
                      obtain ⟨wr6, rfl⟩ : ∃ wr6, wr6 = wr := ⟨_, rfl⟩
                      go_loopg [23] (SL6 f).length (fun kq v23 w' => ∃ (Dt : List Nat) (PL8 : Nat → List Nat), Aside0 (kq + Dt.length = (SL6 f).length) ∧ Aside0 (IterO w' r7 (sb6 f) (pkey gn) yes (SL6 f) Dt) ∧ Aside0 (Gr nds.length (mb + 1 + 1) (tyN nds) ob gn pb6 sb6 PL8 SL6 (fun _ => 0) (fun _ => 0) w') ∧ Aside0 (Below mb w w') ∧ Aside0 (P8 f Dt PL6 PL8) ∧ Aside0 (Rows2 gn (r4 + 1) u13 gl fs g fl.length w'))
                      case atStart => exact ⟨[], _, ⟨by simp⟩, HI10, HG10, HB10, ⟨P8.nil f PL6⟩, HW10⟩
                      case round =>
                        clear HI10 HG10 HB10 HW10
                        obtain ⟨Dt, PL8, HK8, HI8, HG8, HB8, HP8, HW8⟩ := hrel
                        rcases next_cases (P := Tryz.prog) HI8.out 0 with ⟨hall, hrun⟩ | ⟨s, w11, hsL, hsD, hrun, hT11, hI11, hen⟩
                        · have HDT := Aside0.mk (show ∀ j, j ∈ Dt ↔ j ∈ SL5 f from fun j => by rw [← HEQ6.out.2.1]; exact ⟨fun h => HI8.out.sub.2 j h, fun h => hall j h⟩)
                          clear hall
                          go_wp2_with fail
                          go_roundg (n5 - 1)
                          case measure => have := HKQ.out; omega
                          case rel =>
                            have hn1 : (q : Int) + 1 ≤ 9223372036854775807 := by have := HFLN.out; have := HLEN.out; omega
                            refine ⟨q + 1, _, _, _, _, congrArg (Value.int .i64) (by unfold wrap64; omega), ⟨by have := HKQ.out; omega⟩, HG8, HB8, ⟨?_⟩, ⟨HW8.out.gl_⟩, ⟨fun t ht => ⟨g, rfl, HW8.out.fs_ t ht⟩⟩⟩
                            have h := HI5.out.took HFN.out HFR.out (took_of (n := nds.length) HP6.out HDP.out HP8.out HDT.out)
                            rw [HTK.out]
                            have e : (fun x => x ∈ fs.take q ∨ x = f) = (fun x => x ∈ fs.take q ++ [f]) := by funext x; simp
                            rw [← e]
                            exact h
                        · have hG11 := HG8.out.iter HI8.out.it hT11
                          have hsn : s < nds.length := (HG8.out.sl f HFN.out).1 s hsL
                          have hit7 := HI8.out.it
                          have HW11 := Aside0.mk (HW8.out.keep hT11 (fun k hk ⟨cells, hc⟩ => by
                            obtain ⟨m, a, s', c, hit⟩ := hit7
                            rw [hk, hit] at hc; cases hc) (fun hk => by
                            obtain ⟨m, a, s', c, hit⟩ := hit7
                            have h0 := HW8.out.fs_ 0 HGP.out
                            rw [hk] at h0
                            simp [World.cell?, hit] at h0))
                          have HB11 := Aside0.mk (below_touch HB8.out hT11 (fun k hk => by have := HRC.out; omega) (by have := HMB.out; omega))
                          have hs5 : s ∈ SL5 f := by rw [← HEQ6.out.2.1]; exact hsL
                          have hRs : ¬ s ∈ fs.take q := HI5.out.cls f HFN.out HFR.out s hs5
                          have hfp : f ∈ PL8 s := by
                            rw [HP8.out.1 s hsD f, HP6.out.2.2 s f]
                            exact .inl ((HI5.out.inv f s HFN.out hsn HFR.out hRs).1 hs5)
                          have hpb : ∃ b, pb6 s = some b := by
                            cases hb : pb6 s with
                            | none =>
                              have := hG11.pm s hsn
                              rw [hb] at this
                              have hnil : PL8 s = [] := this
                              rw [hnil] at hfp; cases hfp
                            | some b => exact ⟨b, rfl⟩
                          obtain ⟨b, hb⟩ := hpb
                          have hnodes := (hG11.node s hsn).2
                          have hcp : w11.cell? ⟨gn s, 1, none⟩ = some (.map (some b)) := by rw [← hb]; exact (blk_cell hnodes 1).trans rfl
                          obtain ⟨w12, hdr, hG12, hT12⟩ := del_p hG11 hsn HFN.out hb 0
                          have hsp : ∀ k, pb6 s = some k → mb + 1 + 1 ≤ k ∧ k < w11.heap.size ∧ ∀ m a s c, w11.heap[k]? ≠ some (.mapIter m a s c) := fun k hk => hG11.spot_p hsn (.inr hk)
                          have HG12 := Aside0.mk hG12
                          have HB12 := Aside0.mk (below_touch HB11.out hT12 (fun k hk => by have := (hsp k hk).1; omega) (by have := HMB.out; omega))
                          have HI12 := Aside0.mk (iter_keeps hI11 hT12 (fun k hk => (hsp k hk).2.2) (fun c hc hs => hG11.ps s f c hsn HFN.out hs hc))
                          have HW12 := Aside0.mk (HW11.out.keep hT12 (fun k hk => hG11.spot_row_p hsn (.inr hk)) (fun hk => (hG11.not_ptr (HW11.out.fs_ 0 HGP.out) s hsn).2.1 hk))
                          have HNP := Aside0.mk (show (PL8 s).Nodup from (hG11.pl s hsn).2)
                          have HSD := Aside0.mk hsD
                          unfold pkey at hrun hen
                          clear hit7 hs5 hRs hfp hb hnodes hG12 hT12 hsp hI11 hT11 hsD hsL hsn hG11 HG8 HI8 HB8 HW8 HB11 HW11
                          go_wp2_with ((with_reducible refine gate_builtin (b := .delete) (xs := #[.tmp 163, .tmp 164]) rfl ?_); refine wp_delete rfl rfl rfl rfl rfl hdr ?_; clear hdr hcp hrun hen)
                          go_roundg (gk - 1)
                          case measure =>
                            have h1 := HK8.out
                            have h2 := nodup_sub_length _ _ HI12.out.sub.1 HI12.out.sub.2
                            simp at h2; omega
                          case rel => exact ⟨Dt ++ [s], _, ⟨by
                            have h1 := HK8.out
                            have h2 := nodup_sub_length _ _ HI12.out.sub.1 HI12.out.sub.2
                            simp at h2 ⊢; omega⟩, HI12, HG12, HB12, ⟨HP8.out.step HSD.out HNP.out⟩, HW12⟩
                    · have hG9 := HG6.out.iter HI6.out.it hT9
                      have hpn : p < nds.length := (HG6.out.pl f HFN.out).1 p (by rw [HEQ6.out.1]; exact hpL)
                      have hneq := neq_nodes hG9 hpn HFN.out
                      have hit6 := HI6.out.it
                      have HW9 := Aside0.mk (HW6.out.keep hT9 (fun k hk ⟨cells, hc⟩ => by
                        obtain ⟨m, a, s', c, hit⟩ := hit6
                        rw [hk, hit] at hc; cases hc) (fun hk => by
                        obtain ⟨m, a, s', c, hit⟩ := hit6
                        have h0 := HW6.out.fs_ 0 HGP.out
                        rw [hk] at h0
                        simp [World.cell?, hit] at h0))
                      have HB9 := Aside0.mk (below_touch HB6.out hT9 (fun k hk => by have := HRB.out; omega) (by have := HMB.out; omega))
                      have HG9 := Aside0.mk hG9
                      have HI9 := Aside0.mk hI9
                      have HPN := Aside0.mk hpn
                      have HPD := Aside0.mk hpD
                      have HPL := Aside0.mk hpL
                      unfold pkey at hrun hen
                      clear hG9 hpn hit6 hT9 hI9 hpD hpL HG6 HI6 HB6 HW6
                      by_cases cp : p = f
                      · have hpf : (!decide (p = f)) = false := by simp [cp]
                        rw [hpf] at hneq
                        have HCP := Aside0.mk cp
                        clear cp hpf
                        go_wp2_with fail
                        go_roundg (gk - 1)
                        case measure =>
                          have h1 := HK6.out
                          have h2 := nodup_sub_length _ _ HI9.out.sub.1 HI9.out.sub.2
                          simp at h2; omega
                        case rel => exact ⟨Dp ++ [p], _, _, _, _, ⟨by
                          have h1 := HK6.out
                          have h2 := nodup_sub_length _ _ HI9.out.sub.1 HI9.out.sub.2
                          simp at h2 ⊢; omega⟩, HI9, HG9, HB9, ⟨by rw [HCP.out]; exact HP6.out.skip⟩, HEQ6, HW9⟩
                      · have hpf : (!decide (p = f)) = true := by simp [cp]
                        rw [hpf] at hneq
                        have HCP := Aside0.mk cp
                        clear cp hpf
                        have hnodef := (HG9.out.node f HFN.out).2
                        have hc2 : w9.cell? ⟨gn f, 2, none⟩ = some (.map (sb6 f)) := (blk_cell hnodef 2).trans rfl
                        obtain ⟨o10, hr10, hI10⟩ := range_run (P := Tryz.prog) (T := 107) Tryz.underlying107 (sb6 f) (HG9.out.sm f HFN.out)
                        obtain ⟨r6, hr6⟩ : ∃ r6, r6 = w9.heap.size := ⟨_, rfl⟩
                        obtain ⟨w10, hw10⟩ : ∃ w10, w10 = w9.alloc o10 := ⟨_, rfl⟩
                        rw [← hr6, ← hw10] at hr10 hI10
                        have hT10 : Touch (fun _ => False) w9 w10 := by rw [hw10]; exact (Touch.refl _ _).alloc _
                        have HI10 := Aside0.mk hI10
                        have HIP10 := Aside0.mk (iter_keeps HI9.out hT10 (fun k hk => hk.elim) (fun b hb h => h))
                        have HG10 := Aside0.mk (HG9.out.new hT10)
                        have HB10 := Aside0.mk (below_touch HB9.out hT10 (fun k hk => hk.elim) (by have := HMB.out; omega))
                        have HW10 := Aside0.mk (HW9.out.keep hT10 (fun k hk => hk.elim) (fun h => h))
                        have HRC := Aside0.mk (show mb + 1 + 1 ≤ r6 ∧ r6 ≠ r5 by rw [hr6]; have h1 := (HG9.out.node f HFN.out).1; have h2 := blk_lt hnodef; have h3 := HI9.out.lt; omega)
                        clear hnodef hI10 hT10 hw10 hr6 HI9 HG9 HB9 HW9
                        go_wp2_with fail
                        clear hr10 hc2 hneq hrun hen
                        obtain ⟨n6, rfl⟩ : ∃ n6, n6 = gk := ⟨_, rfl⟩
                        obtain ⟨wr6, rfl⟩ : ∃ wr6, wr6 = wr := ⟨_, rfl⟩
                        go_loopg [22] (SL6 f).length (fun kq v22 w' => ∃ (Ds : List Nat) (pb7 sb7 : Nat → Option Nat) (PL7 SL7 : Nat → List Nat), Aside0 (kq + Ds.length = (SL6 f).length) ∧ Aside0 (IterO w' r6 (sb6 f) (pkey gn) yes (SL6 f) Ds) ∧ Aside0 (IterO w' r5 (pb5 f) (pkey gn) yes (PL5 f) (Dp ++ [p])) ∧ Aside0 (Gr nds.length (mb + 1 + 1) (tyN nds) ob gn pb7 sb7 PL7 SL7 (fun _ => 0) (fun _ => 0) w') ∧ Aside0 (Below mb w w') ∧ Aside0 (P7 f p Ds PL6 SL6 PL7 SL7) ∧
                          Aside0 (PL7 f = PL6 f ∧ SL7 f = SL6 f ∧ pb7 f = pb6 f ∧ sb7 f = sb6 f) ∧ Aside0 (Rows2 gn (r4 + 1) u13 gl fs g fl.length w'))
                        case atStart => exact ⟨[], _, _, _, _, ⟨by simp⟩, HI10, HIP10, HG10, HB10, ⟨P7.nil f p PL6 SL6⟩, ⟨rfl, rfl, rfl, rfl⟩, HW10⟩
                        case round =>
                          clear HI10 HIP10 HG10 HB10 HW10
                          obtain ⟨Ds, pb7, sb7, PL7, SL7, HK7, HI7, HIP7, HG7, HB7, HP7, HEQ7, HW7⟩ := hrel
                          rcases next_cases (P := Tryz.prog) HI7.out 0 with ⟨hall, hrun⟩ | ⟨s, w11, hsL, hsD, hrun, hT11, hI11, hen⟩
                          · have HDS := Aside0.mk (show ∀ j, j ∈ Ds ↔ j ∈ SL5 f from fun j => by rw [← HEQ6.out.2.1]; exact ⟨fun h => HI7.out.sub.2 j h, fun h => hall j h⟩)
                            have hfp : f ∈ SL7 p := by
                              have h0 : ¬ p ∈ fs.take q := HI5.out.clp f HFN.out HFR.out p HPL.out
                              exact (HP7.out.2.1 f).2 (.inl ((HP6.out.1 p (.inr HPD.out) f).2 ((HI5.out.inv p f HPN.out HFN.out h0 HFR.out).2 HPL.out)))
                            have hsb : ∃ b, sb7 p = some b := by
                              cases hb : sb7 p with
                              | none =>
                                have := HG7.out.sm p HPN.out
                                rw [hb] at this
                                have hnil : SL7 p = [] := this
                                rw [hnil] at hfp; cases hfp
                              | some b => exact ⟨b, rfl⟩
                            obtain ⟨b, hb⟩ := hsb
                            have hnodep := (HG7.out.node p HPN.out).2
                            have hcp : wr.cell? ⟨gn p, 2, none⟩ = some (.map (some b)) := by rw [← hb]; exact (blk_cell hnodep 2).trans rfl
                            have hdel := fun tys => del_s HG7.out HPN.out HFN.out hb tys
                            have HSB := Aside0.mk hb
                            obtain ⟨w12, hdr, hG12, hT12⟩ := hdel 0
                            have hsp : ∀ k, sb7 p = some k → mb + 1 + 1 ≤ k ∧ k < wr.heap.size ∧ ∀ m a s c, wr.heap[k]? ≠ some (.mapIter m a s c) := fun k hk => HG7.out.spot_s HPN.out (.inr hk)
                            have HG12 := Aside0.mk hG12
                            have HB12 := Aside0.mk (below_touch HB7.out hT12 (fun k hk => by have := (hsp k hk).1; omega) (by have := HMB.out; omega))
                            have HIP12 := Aside0.mk (iter_keeps HIP7.out hT12 (fun k hk => (hsp k hk).2.2) (fun c hc hs => HG7.out.ps f p c HFN.out HPN.out (by rw [HEQ7.out.2.2.1, HEQ6.out.2.2.1]; exact hc) hs))
                            have HW12 := Aside0.mk (HW7.out.keep hT12 (fun k hk => HG7.out.spot_row_s HPN.out (.inr hk)) (fun hk => (HG7.out.not_ptr (HW7.out.fs_ 0 HGP.out) p HPN.out).2.2 hk))
                            have HNP := Aside0.mk (show (SL7 p).Nodup from (HG7.out.sl p HPN.out).2)
                            clear hall hfp hb hnodep hdel hG12 hT12 hsp
                            go_wp2_with ((with_reducible refine gate_builtin (b := .delete) (xs := #[.tmp 149, .tmp 150]) rfl ?_); refine wp_delete rfl rfl rfl rfl rfl hdr ?_; clear hdr hcp hrun)
                            go_roundg (n6 - 1)
                            case measure =>
                              have h1 := HK6.out
                              have h2 := nodup_sub_length _ _ HIP12.out.sub.1 HIP12.out.sub.2
                              simp at h2; omega
                            case rel => exact ⟨Dp ++ [p], _, _, _, _, ⟨by
                              have h1 := HK6.out
                              have h2 := nodup_sub_length _ _ HIP12.out.sub.1 HIP12.out.sub.2
                              simp at h2 ⊢; omega⟩, HIP12, HG12, HB12, ⟨HP6.out.step HCP.out HPD.out HP7.out HDS.out (fun i hi j => by rw [updL_ne _ _ hi]) (fun j => by rw [updL_at, HNP.out.mem_erase_iff]; exact ⟨fun h => ⟨h.2, h.1⟩, fun h => ⟨h.2, h.1⟩⟩)⟩,
                              ⟨HEQ7.out.1.trans HEQ6.out.1, by rw [updL_ne _ _ (fun e => HCP.out e.symm)]; exact HEQ7.out.2.1.trans HEQ6.out.2.1, HEQ7.out.2.2.1.trans HEQ6.out.2.2.1, HEQ7.out.2.2.2.trans HEQ6.out.2.2.2⟩, HW12⟩
                          · have hG11 := HG7.out.iter HI7.out.it hT11
                            have hsn : s < nds.length := (HG7.out.sl f HFN.out).1 s (by rw [HEQ7.out.2.1]; exact hsL)
                            have hneq := neq_nodes hG11 hsn HFN.out
                            have hit7 := HI7.out.it
                            have HW11 := Aside0.mk (HW7.out.keep hT11 (fun k hk ⟨cells, hc⟩ => by
                              obtain ⟨m, a, s', c, hit⟩ := hit7
                              rw [hk, hit] at hc; cases hc) (fun hk => by
                              obtain ⟨m, a, s', c, hit⟩ := hit7
                              have h0 := HW7.out.fs_ 0 HGP.out
                              rw [hk] at h0
                              simp [World.cell?, hit] at h0))
                            have HB11 := Aside0.mk (below_touch HB7.out hT11 (fun k hk => by have := HRC.out.1; omega) (by have := HMB.out; omega))
                            have HIP11 := Aside0.mk (HIP7.out.same (hT11.block _ HIP7.out.lt (by have := HRC.out.2; omega)) (fun b hb => hT11.block _ (by have h := HG7.out.pm f HFN.out; rw [HEQ7.out.2.2.1, HEQ6.out.2.2.1, hb] at h; exact MapO.lt h) (fun e => by
                              obtain ⟨m, a, s', c, hit⟩ := hit7
                              have h := HG7.out.pm f HFN.out
                              rw [HEQ7.out.2.2.1, HEQ6.out.2.2.1, hb] at h
                              obtain ⟨es, c', ho⟩ := MapL.obj h
                              rw [e, hit] at ho; cases ho)))
                            have HG11 := Aside0.mk hG11
                            have HI11 := Aside0.mk hI11
                            have HSN := Aside0.mk hsn
                            unfold pkey at hrun hen
                            clear hG11 hsn hit7 hT11 hI11 hsD hsL HG7 HI7 HIP7 HB7 HW7
                            by_cases cs : s = f
                            · have hsf : (!decide (s = f)) = false := by simp [cs]
                              rw [hsf] at hneq
                              have HCS := Aside0.mk cs
                              clear cs hsf
                              go_wp2_with fail
                              go_roundg (gk - 1)
                              case measure =>
                                have h1 := HK7.out
                                have h2 := nodup_sub_length _ _ HI11.out.sub.1 HI11.out.sub.2
                                simp at h2; omega
                              case rel => exact ⟨Ds ++ [s], _, _, _, _, ⟨by
                                have h1 := HK7.out
                                have h2 := nodup_sub_length _ _ HI11.out.sub.1 HI11.out.sub.2
                                simp at h2 ⊢; omega⟩, HI11, HIP11, HG11, HB11, ⟨by rw [HCS.out]; exact HP7.out.skip⟩, HEQ7, HW11⟩
                            · have hsf : (!decide (s = f)) = true := by simp [cs]
                              rw [hsf] at hneq
                              have HCS := Aside0.mk cs
                              clear cs hsf
                              go_wp2_with fail
                              refine (add_s HG11.out HPN.out HSN.out).mono ?_
                              rintro e w12 ⟨rfl, sb8, hsb8, _, hG12, hT12⟩
                              have hsp : ∀ k, (k = gn p ∨ sb7 p = some k) → mb + 1 + 1 ≤ k ∧ k < w11.heap.size ∧ ∀ m a s c, w11.heap[k]? ≠ some (.mapIter m a s c) := fun k hk => HG11.out.spot_s HPN.out hk
                              have hnm : ∀ c, (∃ es cl, w11.heap[c]? = some (.map es cl)) → c ≠ gn p := fun c ⟨es, cl, ho⟩ e => by
                                have := (HG11.out.node p HPN.out).2
                                rw [← e, ho] at this; cases this
                              have HG12 := Aside0.mk hG12
                              have HSB8 := Aside0.mk (hsb8 f (fun e => HCP.out e.symm))
                              have HB12 := Aside0.mk (below_touch HB11.out hT12 (fun k hk => by have := (hsp k hk).1; omega) (by have := HMB.out; omega))
                              have HIP12 := Aside0.mk (iter_keeps HIP11.out hT12 (fun k hk => (hsp k hk).2.2) (fun c hc hs => by
                                have hc' : pb7 f = some c := by rw [HEQ7.out.2.2.1, HEQ6.out.2.2.1]; exact hc
                                rcases hs with hs | hs
                                · have h := HG11.out.pm f HFN.out
                                  rw [hc'] at h
                                  exact hnm c (MapL.obj h) hs
                                · exact HG11.out.ps f p c HFN.out HPN.out hc' hs))
                              have HI12 := Aside0.mk (iter_keeps HI11.out hT12 (fun k hk => (hsp k hk).2.2) (fun c hc hs => by
                                have hc' : sb7 f = some c := by rw [HEQ7.out.2.2.2]; exact hc
                                rcases hs with hs | hs
                                · have h := HG11.out.sm f HFN.out
                                  rw [hc'] at h
                                  exact hnm c (MapL.obj h) hs
                                · exact HCP.out (HG11.out.sinj p f c HPN.out HFN.out hs hc')))
                              have HW12 := Aside0.mk (HW11.out.keep hT12 (fun k hk => HG11.out.spot_row_s HPN.out hk) (fun hk => by
                                have h := HG11.out.not_ptr (HW11.out.fs_ 0 HGP.out) p HPN.out
                                rcases hk with hk | hk
                                · exact h.1 hk
                                · exact h.2.2 hk))
                              clear hG12 hT12 hsp hnm hsb8 hneq hrun hen HG11 HI11 HIP11 HB11 HW11
                              go_wp2_with fail
                              refine (add_p HG12.out HSN.out HPN.out).mono ?_
                              rintro e w13 ⟨rfl, pb8, hpb8, _, hG13, hT13⟩
                              have hsp : ∀ k, (k = gn s ∨ pb7 s = some k) → mb + 1 + 1 ≤ k ∧ k < w12.heap.size ∧ ∀ m a s c, w12.heap[k]? ≠ some (.mapIter m a s c) := fun k hk => HG12.out.spot_p HSN.out hk
                              have hnm : ∀ c, (∃ es cl, w12.heap[c]? = some (.map es cl)) → c ≠ gn s := fun c ⟨es, cl, ho⟩ e => by
                                have := (HG12.out.node s HSN.out).2
                                rw [← e, ho] at this; cases this
                              have HG13 := Aside0.mk hG13
                              have HPB8 := Aside0.mk (hpb8 f (fun e => HCS.out e.symm))
                              have HB13 := Aside0.mk (below_touch HB12.out hT13 (fun k hk => by have := (hsp k hk).1; omega) (by have := HMB.out; omega))
                              have HIP13 := Aside0.mk (iter_keeps HIP12.out hT13 (fun k hk => (hsp k hk).2.2) (fun c hc hs => by
                                have hc' : pb7 f = some c := by rw [HEQ7.out.2.2.1, HEQ6.out.2.2.1]; exact hc
                                rcases hs with hs | hs
                                · have h := HG12.out.pm f HFN.out
                                  rw [hc'] at h
                                  exact hnm c (MapL.obj h) hs
                                · exact HCS.out (HG12.out.pinj s f c HSN.out HFN.out hs hc')))
                              have HI13 := Aside0.mk (iter_keeps HI12.out hT13 (fun k hk => (hsp k hk).2.2) (fun c hc hs => by
                                have hc' : sb8 f = some c := by rw [HSB8.out, HEQ7.out.2.2.2]; exact hc
                                rcases hs with hs | hs
                                · have h := HG12.out.sm f HFN.out
                                  rw [hc'] at h
                                  exact hnm c (MapL.obj h) hs
                                · exact HG12.out.ps s f c HSN.out HFN.out hs hc'))
                              have HW13 := Aside0.mk (HW12.out.keep hT13 (fun k hk => HG12.out.spot_row_p HSN.out hk) (fun hk => by
                                have h := HG12.out.not_ptr (HW12.out.fs_ 0 HGP.out) s HSN.out
                                rcases hk with hk | hk
                                · exact h.1 hk
                                · exact h.2.1 hk))
                              clear hG13 hT13 hsp hnm hpb8 HG12 HI12 HIP12 HB12 HW12
                              go_wp2_with fail
                              go_roundg (gk - 1)
                              case measure =>
                                have h1 := HK7.out
                                have h2 := nodup_sub_length _ _ HI13.out.sub.1 HI13.out.sub.2
                                simp at h2; omega
                              case rel => exact ⟨Ds ++ [s], _, _, _, _, ⟨by
                                have h1 := HK7.out
                                have h2 := nodup_sub_length _ _ HI13.out.sub.1 HI13.out.sub.2
                                simp at h2 ⊢; omega⟩, HI13, HIP13, HG13, HB13, ⟨HP7.out.step HCS.out⟩,
                                ⟨by rw [updL_ne _ _ (fun e => HCS.out e.symm)]; exact HEQ7.out.1, by rw [updL_ne _ _ (fun e => HCP.out e.symm)]; exact HEQ7.out.2.1, HPB8.out.trans HEQ7.out.2.2.1, HSB8.out.trans HEQ7.out.2.2.2⟩, HW13⟩
                · have hcq := decide_eq_false cq
                  have hcqn : decide (q < fl.length) = false := decide_eq_false (by omega)
                  have HGF := Aside0.mk (show GI nds.length (fun i k => k ∈ DJ i) (fun x => x < nds.length ∧ tyN nds x = 94) PL5 SL5 by
                    have h := HI5.out
                    have hq : q = fs.length := by have := HKQ.out; have := HFP.out.length_eq; omega
                    rw [hq, List.take_length] at h
                    have e : (fun x => x ∈ fs) = (fun x => x < nds.length ∧ tyN nds x = 94) := by
                      funext x
                      exact propext ((HFP.out.mem_iff).trans (HFL.out.1 x))
                    rw [e] at h
                    exact h)
                  obtain ⟨A13, c13, hv13, _, _⟩ := Kd.R_reads HR5.out
                  rw [List.length_map] at hv13
                  subst hv13
                  clear cq HC5
                  go_wp2_with fail
                  obtain ⟨n5, rfl⟩ : ∃ n5, n5 = gk := ⟨_, rfl⟩
                  obtain ⟨wr5, rfl⟩ : ∃ wr5, wr5 = wr := ⟨_, rfl⟩
                  go_loopg [168] gl.length (fun kq v168 w' => ∃ (t : Nat) (ix nd : Nat → Int), v168 = .int .i64 (t : Int) ∧ Aside0 (kq + t = gl.length) ∧ Aside0 (Gr nds.length (mb + 1 + 1) (tyN nds) ob gn pb5 sb5 PL5 SL5 ix nd w') ∧ Aside0 (Below mb w w') ∧ Aside0 ((Kd.raw 1).R 102 w' (r4 + 1) (fun _ => True) (.slice A13 gl.length c13) (gl.map fun k => [pkey gn k])) ∧
                    Aside0 (∀ u, u < t → ix (gl.getD u 0) = (u : Int) ∧ nd (gl.getD u 0) = ((SL5 (gl.getD u 0)).length : Int)))
                  case atStart => exact ⟨0, _, _, rfl, ⟨by omega⟩, HG, HB, HR5, ⟨fun u hu => by omega⟩⟩
                  case round =>
                    clear HG HB HR5
                    obtain ⟨t, ix, nd, rfl, HKT, HG, HB, HR5, HXS⟩ := hrel
                    by_cases ct : (t : Int) < (gl.length : Int)
                    · have htr : t < gl.length := by omega
                      have hct := decide_eq_true ct
                      have hctn : decide (t < gl.length) = true := decide_eq_true htr
                      have ht0 : (0 : Int) ≤ (t : Int) := by omega
                      obtain ⟨g9, cap9, cel9, hv9, _, hcel9, hc9⟩ := rows_cells HR5.out (by omega)
                      injection hv9 with hA9 _ hcap9
                      subst hA9
                      subst hcap9
                      obtain ⟨k, hk⟩ : ∃ k, k = gl.getD t 0 := ⟨_, rfl⟩
                      have hck := (hc9 t htr).1
                      rw [← hk] at hck
                      unfold pkey at hck
                      have hgk : gl[t] = k := by rw [hk, List.getD_eq_getElem?_getD, List.getElem?_eq_getElem htr]; rfl
                      have hkn : k < nds.length := ((HGL.out.1 k).1 (by rw [← hgk]; exact List.getElem_mem htr)).1
                      have hnode := (HG.out.node k hkn).2
                      have hc2 : wr.cell? ⟨gn k, 2, none⟩ = some (.map (sb5 k)) := (blk_cell hnode 2).trans rfl
                      have hc3 : wr.cell? ⟨gn k, 3, none⟩ = some (.int .i64 (ix k)) := (blk_cell hnode 3).trans rfl
                      have hc4 : wr.cell? ⟨gn k, 4, none⟩ = some (.int .i64 (nd k)) := (blk_cell hnode 4).trans rfl
                      have hf3 : wr.frozen? ⟨gn k, 3, none⟩ = false := blk_frozen hnode 3
                      have hf4 : wr.frozen? ⟨gn k, 4, none⟩ = false := blk_frozen hnode 4
                      have hG3 := HG.out.set3 hkn (t : Int)
                      have hln := len_mapO (w := wr.setCell ⟨gn k, 3, none⟩ (.int .i64 (t : Int))) (T := 107) Tryz.underlying107 3 (hG3.sm k hkn) #[107] rfl
                      have HG4 := Aside0.mk (hG3.set4 hkn ((SL5 k).length : Int))
                      have HR6 := Aside0.mk (Kd.R_set (Kd.R_set HR5.out hnode (fun q hq => by rcases List.mem_cons.1 hq with rfl | hq; decide; cases hq) 3 (.int .i64 (t : Int))) (hG3.node k hkn).2 (fun q hq => by rcases List.mem_cons.1 hq with rfl | hq; decide; cases hq) 4 (.int .i64 ((SL5 k).length : Int)))
                      have HB4 := Aside0.mk (show Below mb w ((wr.setCell ⟨gn k, 3, none⟩ (.int .i64 (t : Int))).setCell ⟨gn k, 4, none⟩ (.int .i64 ((SL5 k).length : Int))) from below_touch HB.out (show Touch (fun q => q = gn k) wr _ from Touch.set_ (S := fun q => q = gn k) (Touch.set_ (S := fun q => q = gn k) (Touch.refl _ _) (fun _ => rfl) _) (fun _ => rfl) _) (fun q hq => by have := (HG.out.node k hkn).1; omega) (by have := HMB.out; omega))
                      have HK := Aside0.mk hk
                      have HTR := Aside0.mk htr
                      clear hnode hG3 hcel9 hc9 hgk hk ct HG HB HR5
                      go_wp2_with fail
                      go_roundg (gk - 1)
                      case measure => have := HKT.out; omega
                      case rel =>
                        have hn1 : (t : Int) + 1 ≤ 9223372036854775807 := by have := HGLN.out; have := HLEN.out; omega
                        refine ⟨t + 1, _, _, congrArg (Value.int .i64) (by unfold wrap64; omega), ⟨by have := HKT.out; omega⟩, HG4, HB4, HR6, ⟨fun u hu => ?_⟩⟩
                        by_cases e : u = t
                        · subst e
                          rw [← HK.out]
                          exact ⟨if_pos rfl, if_pos rfl⟩
                        · have hne : gl.getD u 0 ≠ k := fun e' => by
                            rw [HK.out] at e'
                            exact e (getD_inj HGL.out.2 (by have := HTR.out; omega) HTR.out e')
                          have h := HXS.out u (by omega)
                          exact ⟨(if_neg hne).trans h.1, (if_neg hne).trans h.2⟩
                    · have hct := decide_eq_false ct
                      have hctn : decide (t < gl.length) = false := decide_eq_false (by omega)
                      have HTE := Aside0.mk (show t = gl.length by have := HKT.out; omega)
                      clear ct
                      go_wp2_with fail
                      go_ret
                      have hmb := HMB.out
                      exact ⟨_, gn, pb5, sb5, PL5, SL5, ix, nd, gl, rfl, Kd.R_lower HR5.out (by have := HR4.out; omega), HG.out.lower (by omega), by rw [hmb]; exact HB.out, HGL.out.1, HGL.out.2, HGF.out, by have h := HXS.out; rw [HTE.out] at h; exact h⟩
            · have hjn := HDN.out j hjL
              have hG3 := HG.out.iter HI.out.it hT3
              have hc0 : w3.cell? ⟨gn j, 0, none⟩ = some (okey (tyN nds) ob j) := (blk_cell (hG3.node j hjn).2 0).trans rfl
              have HG3 := Aside0.mk hG3
              have HI3 := Aside0.mk hI3
              have HB3 := Aside0.mk (below_touch HB.out hT3 (fun k hk => by have := HR4.out; omega) (by have := HMB.out; omega))
              have hit := HI.out.it
              have hnit : ∀ k, k = r4 → ¬ ∃ cells, wr.heap[k]? = some (.cells cells 102 (0, 0)) := fun k hk ⟨cells, hc⟩ => by
                obtain ⟨m, a, s, c, hit⟩ := hit
                rw [hk, hit] at hc; cases hc
              have HR133 := Aside0.mk (R_touch HR13.out rfl hT3 hnit)
              have HR143 := Aside0.mk (R_touch HR14.out rfl hT3 hnit)
              have HS3 := Aside0.mk (show r4 + 1 ≤ w3.heap.size by have := HI.out.lt; have := hT3.size; omega)
              have HEL := Aside0.mk (show E2.length ≤ nds.length from nodup_lt_length _ _ HI.out.sub.1 (fun k hk => HDN.out k (HI.out.sub.2 k hk)))
              obtain ⟨A13, c13, hv13, _, _⟩ := Kd.R_reads HR13.out
              obtain ⟨A14, c14, hv14, _, _⟩ := Kd.R_reads HR14.out
              generalize hl13 : ((E2.filter fun i => decide (tyN nds i ≠ 94)).map fun k => [pkey gn k]).length = l13 at hv13
              generalize hl14 : ((E2.filter fun i => decide (tyN nds i = 94)).map fun k => [pkey gn k]).length = l14 at hv14
              subst hv13
              subst hv14
              unfold pkey at hrun hen
              clear hG3 hit hnit hT3 hI3 hjL hjE hl13 hl14 HR13 HR14 HG HI HB
              by_cases cj : tyN nds j = 94
              · have hta := taF_yes (tyN nds) ob j cj w3
                have HCJ := Aside0.mk cj
                clear cj
                go_wp2_with ((with_reducible refine gate_builtin (b := .append) (xs := #[.tmp 96, .tmp 98]) rfl ?_); at_builtin; refine Kd.R_append (Kd.raw 1) (W := w3) (w0 := w3) (r4 + 1) rfl (.tmp 96) (.tmp 98) 96 102 (.pointer none) 8 rfl Tryz.underlying96 info102 rfl (by decide) (by omega) (.slice A14 l14 c14) ((E2.filter fun i => decide (tyN nds i = 94)).map fun k => [pkey gn k]) [pkey gn j] [pkey gn j] (fun _ => True) (fun _ => False) rfl (by first | rfl | (simp; done) | (simp; rfl)) ?aP (fun _ hk => hk.elim) (fun _ _ => trivial) ?aO ?aB ?aS ?aL ?_; (case aP => exact ⟨rfl, rfl, fun u hu => (by simp at hu; subst hu; rfl)⟩); (case aO => exact HR143.out); (case aB => exact Below.refl _ _); (case aS => exact HS3.out); (case aL => have := HEL.out; have := HLEN.out; rw [List.length_map]; have := List.length_filter_le (fun i => decide (tyN nds i = 94)) E2; omega); intro v99 w5 ho hb hg hat; have HT5 := Aside0.mk (Touch.of_grown hg); have HR5 := Aside0.mk ho; have HAT := Aside0.mk hat; clear ho hb hg hat)
                have htyp : ∀ k, (Value.slice A14 l14 c14).ownBlock = some k → ∃ cells, w3.heap[k]? = some (.cells cells 102 (0, 0)) := Kd.R_typed HR143.out
                have hbase : ∀ k, (Value.slice A14 l14 c14).ownBlock = some k → r4 + 1 ≤ k := Kd.R_base HR143.out
                have HG5 := Aside0.mk (HG3.out.row102 HT5.out htyp)
                have HI5 := Aside0.mk (iter_keeps HI3.out HT5.out (fun k hk m a s c e => (by obtain ⟨cells, hc⟩ := htyp k hk; rw [hc] at e; cases e)) (fun b hb hs => by injection hb with hb; subst hb; have := hbase _ hs; have := HR4.out; omega))
                have HB5 := Aside0.mk (below_touch HB3.out HT5.out (fun k hk => by have := hbase k hk; have := HR4.out; omega) (by have := HMB.out; omega))
                have HRK := Aside0.mk (show (Kd.raw 1).R 102 w5 (r4 + 1) (fun _ => True) (.slice A13 l13 c13) ((E2.filter fun i => decide (tyN nds i ≠ 94)).map fun k => [pkey gn k]) from Kd.R_mono (Kd.R_step (Kd.R_tight rfl HR133.out) (fun k hk hlt => HT5.out.block k hlt (fun hs => HOW.out k hk.symm hs))) (fun _ _ => trivial))
                have HOW5 := Aside0.mk (show ∀ k, (Value.slice A13 l13 c13).ownBlock = some k → v99.ownBlock ≠ some k from fun k h1 h2 => by
                  rcases HAT.out with hat | ⟨b, hb, hle⟩
                  · rw [hat] at h2; exact HOW.out k h1 h2
                  · rw [hb] at h2; injection h2 with h2; have := Kd.R_lt HR133.out k h1; omega)
                clear htyp hbase
                go_roundg (gk - 1)
                case measure =>
                  have h1 := HKE2.out
                  have h2 := nodup_sub_length _ _ HI5.out.sub.1 HI5.out.sub.2
                  simp at h2; omega
                case rel => exact ⟨E2 ++ [j], ⟨by
                  have h1 := HKE2.out
                  have h2 := nodup_sub_length _ _ HI5.out.sub.1 HI5.out.sub.2
                  simp at h2 ⊢; omega⟩, HI5, HG5, HB5, ⟨by rw [List.filter_append]; simp [HCJ.out]; simpa using HRK.out⟩, ⟨by rw [List.filter_append]; simp [HCJ.out]; simpa using HR5.out⟩, HOW5⟩
              · have hta := taF_no (tyN nds) ob j cj w3
                have HCJ := Aside0.mk cj
                clear cj
                go_wp2_with ((with_reducible refine gate_builtin (b := .append) (xs := #[.tmp 100, .tmp 102]) rfl ?_); at_builtin; refine Kd.R_append (Kd.raw 1) (W := w3) (w0 := w3) (r4 + 1) rfl (.tmp 100) (.tmp 102) 96 102 (.pointer none) 8 rfl Tryz.underlying96 info102 rfl (by decide) (by omega) (.slice A13 l13 c13) ((E2.filter fun i => decide (tyN nds i ≠ 94)).map fun k => [pkey gn k]) [pkey gn j] [pkey gn j] (fun _ => True) (fun _ => False) rfl (by first | rfl | (simp; done) | (simp; rfl)) ?aP (fun _ hk => hk.elim) (fun _ _ => trivial) ?aO ?aB ?aS ?aL ?_; (case aP => exact ⟨rfl, rfl, fun u hu => (by simp at hu; subst hu; rfl)⟩); (case aO => exact HR133.out); (case aB => exact Below.refl _ _); (case aS => exact HS3.out); (case aL => have := HEL.out; have := HLEN.out; rw [List.length_map]; have := List.length_filter_le (fun i => decide (tyN nds i ≠ 94)) E2; omega); intro v99 w5 ho hb hg hat; have HT5 := Aside0.mk (Touch.of_grown hg); have HR5 := Aside0.mk ho; have HAT := Aside0.mk hat; clear ho hb hg hat)
                have htyp : ∀ k, (Value.slice A13 l13 c13).ownBlock = some k → ∃ cells, w3.heap[k]? = some (.cells cells 102 (0, 0)) := Kd.R_typed HR133.out
                have hbase : ∀ k, (Value.slice A13 l13 c13).ownBlock = some k → r4 + 1 ≤ k := Kd.R_base HR133.out
                have HG5 := Aside0.mk (HG3.out.row102 HT5.out htyp)
                have HI5 := Aside0.mk (iter_keeps HI3.out HT5.out (fun k hk m a s c e => (by obtain ⟨cells, hc⟩ := htyp k hk; rw [hc] at e; cases e)) (fun b hb hs => by injection hb with hb; subst hb; have := hbase _ hs; have := HR4.out; omega))
                have HB5 := Aside0.mk (below_touch HB3.out HT5.out (fun k hk => by have := hbase k hk; have := HR4.out; omega) (by have := HMB.out; omega))
                have HRK := Aside0.mk (show (Kd.raw 1).R 102 w5 (r4 + 1) (fun _ => True) (.slice A14 l14 c14) ((E2.filter fun i => decide (tyN nds i = 94)).map fun k => [pkey gn k]) from Kd.R_mono (Kd.R_step (Kd.R_tight rfl HR143.out) (fun k hk hlt => HT5.out.block k hlt (fun hs => HOW.out k hs hk.symm))) (fun _ _ => trivial))
                have HOW5 := Aside0.mk (show ∀ k, v99.ownBlock = some k → (Value.slice A14 l14 c14).ownBlock ≠ some k from fun k h1 h2 => by
                  rcases HAT.out with hat | ⟨b, hb, hle⟩
                  · rw [hat] at h1; exact HOW.out k h1 h2
                  · rw [hb] at h1; injection h1 with h1; have := Kd.R_lt HR143.out k h2; omega)
                clear htyp hbase
                go_roundg (gk - 1)
                case measure =>
                  have h1 := HKE2.out
                  have h2 := nodup_sub_length _ _ HI5.out.sub.1 HI5.out.sub.2
                  simp at h2; omega
                case rel => exact ⟨E2 ++ [j], ⟨by
                  have h1 := HKE2.out
                  have h2 := nodup_sub_length _ _ HI5.out.sub.1 HI5.out.sub.2
                  simp at h2 ⊢; omega⟩, HI5, HG5, HB5, ⟨by rw [List.filter_append]; simp [HCJ.out]; simpa using HR5.out⟩, ⟨by rw [List.filter_append]; simp [HCJ.out]; simpa using HRK.out⟩, HOW5⟩
        · have hjn := HDN.out j hjL
          have HJN := Aside0.mk hjn
          have HJE := Aside0.mk hjE
          have hT3' : Touch (fun k => mb ≤ k) w w3 := by
            have h := below_touch HB.out hT3 (fun k hk => by have := HR2.out; omega) (by have := HMB.out; omega)
            exact ⟨h.os, h.tape, h.output, h.size, fun k hk hn => h.block k (by omega)⟩
          have hB3 := HBU.out.touch hT3' (fun k hk hlt => by have := HBU.out.lt; have := HMB.out; omega)
          have hlk := hB3.look hjn false
          have hlk' : (Instr.lookup 66 (.map (some om)) (okey (tyN nds) ob j) false).run Tryz.prog w3 = .ok (.pointer (some ⟨di j, 0, none⟩)) w3 := hlk
          obtain ⟨_, _, _, hdmB, lv, ms, hdc, _⟩ := hB3.dec j hjn
          have hdc2 : w3.cell? ⟨di j, 2, none⟩ = some (.map (some (dm j))) := (blk_cell hdc 2).trans rfl
          obtain ⟨o4, hr4, hI4⟩ := range_run (P := Tryz.prog) (T := 87) Tryz.underlying87 (some (dm j)) (hB3.dep j hjn)
          obtain ⟨r3, hr3⟩ : ∃ r3, r3 = w3.heap.size := ⟨_, rfl⟩
          obtain ⟨w4, hw4⟩ : ∃ w4, w4 = w3.alloc o4 := ⟨_, rfl⟩
          rw [← hr3, ← hw4] at hr4 hI4
          have hT4 : Touch (fun _ => False) w3 w4 := by rw [hw4]; exact (Touch.refl _ _).alloc _
          have HI4 := Aside0.mk hI4
          have HIO := Aside0.mk (hI3.same (hT4.block _ hI3.lt (fun h => h)) (fun b hb => by injection hb with hb; subst hb; exact hT4.block _ (by have := HM.out.lt; have := hT3.size; omega) (fun h => h)))
          have HM4 := Aside0.mk ((HM.out.same (hT3.block _ HM.out.lt (by have := HR2.out; omega))).same (hT4.block _ (by have := HM.out.lt; have := hT3.size; omega) (fun h => h)))
          have HG4 := Aside0.mk ((HG.out.iter HI.out.it hT3).new hT4)
          have HB4 := Aside0.mk (below_touch (below_touch HB.out hT3 (fun k hk => by have := HR2.out; omega) (by have := HMB.out; omega)) hT4 (fun k hk => hk.elim) (by have := HMB.out; omega))
          have HR3 := Aside0.mk (show mb + 1 + 1 ≤ r3 ∧ r3 ≠ r2 by
            have h1 := HI.out.lt; have h2 := hT3.size; have h3 := HR2.out; omega)
          have HDM := Aside0.mk (show dm j < mb by have := HBU.out.lt; have := HMB.out; omega)
          have HDN2 := Aside0.mk (hB3.depn j hjn)
          unfold pkey at hrun hen
          clear hlk hdc hI4 hI3 hT3 hT3' hB3 hT4 hw4 hr3 hjL hjE hjn hdmB HI HM HG HB
          go_wp2_with fail
          clear hlk' hdc2 hr4 hrun hen
          obtain ⟨n1, rfl⟩ : ∃ n1, n1 = gk := ⟨_, rfl⟩
          obtain ⟨wq, rfl⟩ : ∃ wq, wq = wr := ⟨_, rfl⟩
          go_loopg [9] (DJ j).length (fun kq v9 w' => ∃ (F : List Nat) (pb sb : Nat → Option Nat) (PL SL : Nat → List Nat), Aside0 (kq + F.length = (DJ j).length) ∧ Aside0 (IterO w' r3 (some (dm j)) (okey (tyN nds) ob) yes (DJ j) F) ∧ Aside0 (IterO w' r2 (some mb) (okey (tyN nds) ob) (pkey gn) D (E ++ [j])) ∧ Aside0 (MapL w' mb (okey (tyN nds) ob) (pkey gn) D) ∧ Aside0 (Gr nds.length (mb + 1 + 1) (tyN nds) ob gn pb sb PL SL (fun _ => 0) (fun _ => 0) w') ∧ Aside0 (Below mb w w') ∧ Aside0 (EdI nds.length DJ E j F PL SL))
          case atStart => exact ⟨[], _, _, _, _, ⟨by simp⟩, HI4, HIO, HM4, HG4, HB4, ⟨HE.out.toI j⟩⟩
          case round =>
            clear HI4 HIO HM4 HG4 HB4
            obtain ⟨F, pb2, sb2, PL2, SL2, HKF, HI4, HIO, HM4, HG4, HB4, HE4⟩ := hrel
            rcases next_cases (P := Tryz.prog) HI4.out 0 with ⟨hall, hrun⟩ | ⟨d, w5, hdL, hdF, hrun, hT5, hI5, hen⟩
            · have HALF := Aside0.mk (show ∀ k, k ∈ F ↔ k ∈ DJ j from fun k => ⟨HI4.out.sub.2 k, hall k⟩)
              clear hall
              go_wp2_with fail
              go_roundg (n1 - 1)
              case measure =>
                have h1 := HKE.out
                have h2 := nodup_sub_length _ _ HIO.out.sub.1 HIO.out.sub.2
                simp at h2; omega
              case rel => exact ⟨E ++ [j], _, _, _, _, ⟨by
                have h1 := HKE.out
                have h2 := nodup_sub_length _ _ HIO.out.sub.1 HIO.out.sub.2
                simp at h2 ⊢; omega⟩, HIO, HM4, HG4, HB4, ⟨HE4.out.toO HALF.out⟩⟩
            · have hdn := HDN2.out d hdL
              have hta := ta_okey (tyN nds) ob d (tyN_oty _ _) w5
              have hT5' : Touch (fun k => mb ≤ k) w w5 := by
                have h := below_touch HB4.out hT5 (fun k hk => by have := HR3.out; omega) (by have := HMB.out; omega)
                exact ⟨h.os, h.tape, h.output, h.size, fun k hk hn => h.block k (by omega)⟩
              have hB5 := HBU.out.touch hT5' (fun k hk hlt => by have := HBU.out.lt; have := HMB.out; omega)
              have hM5 := HM4.out.same (hT5.block _ HM4.out.lt (by have := HR3.out; omega))
              have hka := key_okey hB5.objs (K := 105) Tryz.underlying105 (pkey gn) D HDN.out d hdn
              have hlm : (Instr.lookup 115 (.map (some mb)) (okey (tyN nds) ob d) false).run Tryz.prog w5 = .ok (pkey gn d) w5 := lookup_found (P := Tryz.prog) (T := 115) Tryz.underlying115 hM5 hka (HALL.out d hdn) dec_iff false
              unfold pkey at hlm
              have HG5 := Aside0.mk (HG4.out.iter HI4.out.it hT5)
              have HI5 := Aside0.mk hI5
              have HIO5 := Aside0.mk (HIO.out.same (hT5.block _ HIO.out.lt (by have := HR3.out; omega)) (fun b hb => by injection hb with hb; subst hb; exact hT5.block _ HM4.out.lt (by have := HR3.out; omega)))
              have HM5 := Aside0.mk hM5
              have HB5 := Aside0.mk (below_touch HB4.out hT5 (fun k hk => by have := HR3.out; omega) (by have := HMB.out; omega))
              have HDN3 := Aside0.mk hdn
              clear hT5' hB5 hM5 hka hI5 hT5 hdL hdF hdn
              go_wp2_with fail
              refine (add_s HG5.out HJN.out HDN3.out).mono ?_
              rintro e w6 ⟨rfl, sb3, _, _, hG6, hT6⟩
              have hS6 : ∀ k, (k = gn j ∨ sb2 j = some k) → mb + 1 + 1 ≤ k ∧ k < w5.heap.size ∧ ∀ m a s c, w5.heap[k]? ≠ some (.mapIter m a s c) := fun k hk => HG5.out.spot_s HJN.out hk
              have HG6 := Aside0.mk hG6
              have HI6 := Aside0.mk (iter_keeps HI5.out hT6 (fun k hk => (hS6 k hk).2.2) (fun b hb hs => by injection hb with hb; subst hb; have := (hS6 _ hs).1; have := HDM.out; omega))
              have HIO6 := Aside0.mk (iter_keeps HIO5.out hT6 (fun k hk => (hS6 k hk).2.2) (fun b hb hs => by injection hb with hb; subst hb; have := (hS6 _ hs).1; omega))
              have HM6 := Aside0.mk (HM5.out.same (hT6.block _ HM5.out.lt (fun hs => by have := (hS6 _ hs).1; omega)))
              have HB6 := Aside0.mk (below_touch HB5.out hT6 (fun k hk => by have := (hS6 k hk).1; omega) (by have := HMB.out; omega))
              clear hG6 hT6 hS6 hlm hta hrun hen HG5 HI5 HIO5 HM5 HB5
              go_wp2_with fail
              refine (add_p HG6.out HDN3.out HJN.out).mono ?_
              rintro e w7 ⟨rfl, pb3, _, _, hG7, hT7⟩
              have hS7 : ∀ k, (k = gn d ∨ pb2 d = some k) → mb + 1 + 1 ≤ k ∧ k < w6.heap.size ∧ ∀ m a s c, w6.heap[k]? ≠ some (.mapIter m a s c) := fun k hk => HG6.out.spot_p HDN3.out hk
              have HG7 := Aside0.mk hG7
              have HI7 := Aside0.mk (iter_keeps HI6.out hT7 (fun k hk => (hS7 k hk).2.2) (fun b hb hs => by injection hb with hb; subst hb; have := (hS7 _ hs).1; have := HDM.out; omega))
              have HIO7 := Aside0.mk (iter_keeps HIO6.out hT7 (fun k hk => (hS7 k hk).2.2) (fun b hb hs => by injection hb with hb; subst hb; have := (hS7 _ hs).1; omega))
              have HM7 := Aside0.mk (HM6.out.same (hT7.block _ HM6.out.lt (fun hs => by have := (hS7 _ hs).1; omega)))
              have HB7 := Aside0.mk (below_touch HB6.out hT7 (fun k hk => by have := (hS7 k hk).1; omega) (by have := HMB.out; omega))
              clear hG7 hT7 hS7 HG6 HI6 HIO6 HM6 HB6
              go_wp2_with fail
              go_roundg (gk - 1)
              case measure =>
                have h1 := HKF.out
                have h2 := nodup_sub_length _ _ HI7.out.sub.1 HI7.out.sub.2
                simp at h2; omega
              case rel => exact ⟨F ++ [d], _, _, _, _, ⟨by
                have h1 := HKF.out
                have h2 := nodup_sub_length _ _ HI7.out.sub.1 HI7.out.sub.2
                simp at h2 ⊢; omega⟩, HI7, HIO7, HM7, HG7, HB7, ⟨HE4.out.step⟩⟩
    · have hjn : j < nds.length := List.mem_range.1 hjL
      have hta := ta_okey (tyN nds) ob j (tyN_oty _ _) w3
      -- the world in which the node's cell lies
      have HT3 := Aside0.mk hT3
      have HI3 := Aside0.mk hI3
      have HS3 := Aside0.mk (Nat.le_trans HS.out HT3.out.size)
      obtain ⟨w4, hw4⟩ : ∃ w4, w4 = w3.alloc (.cells #[okey (tyN nds) ob j, .map none, .map none, .int .i64 0, .int .i64 0] 109) := ⟨_, rfl⟩
      have hT34 : Touch (fun _ => False) w3 w4 := by rw [hw4]; exact (Touch.refl _ _).alloc _
      have hne : mb ≠ mb + 1 := by omega
      have hM4 : MapL w4 mb (okey (tyN nds) ob) (pkey (upd gn j w3.heap.size)) D := ((HM.out.same (HT3.out.block _ HM.out.lt hne)).same (hT34.block _ (by have := HM.out.lt; have := HT3.out.size; omega) (fun h => h))).congr (fun i hi => ⟨rfl, by unfold pkey; rw [upd_ne gn _ (show i ≠ j from fun e => hjD (e ▸ hi))]⟩)
      have hO4 : Objs w4 nds.length (tyN nds) ob := (HBW.out.objs.same (fun i hi => HT3.out.block _ (HBW.out.objs.lt i hi) (by have := (HBW.out.obj i hi).2.1; have := HBU.out.lt; have := HMB.out; omega))).same (fun i hi => hT34.block _ (by have := HBW.out.objs.lt i hi; have := HT3.out.size; omega) (fun h => h))
      have hka := key_okey hO4 (K := 105) Tryz.underlying105 (pkey (upd gn j w3.heap.size)) D (fun k hk => List.mem_range.1 (HI.out.sub.2 k hk)) j hjn
      obtain ⟨o5, hu5, hM5⟩ := update_absent (P := Tryz.prog) (T := 115) Tryz.underlying115 hM4 hka (dec_absent hjD) hjD
      have hT5 := touch_set w4 mb o5
      obtain ⟨w5, hw5⟩ : ∃ w5, w5 = setBlock w4 mb o5 := ⟨_, rfl⟩
      rw [← hw5] at hu5 hM5 hT5
      rw [show pkey (upd gn j w3.heap.size) j = .pointer (some ⟨w3.heap.size, 0, none⟩) by unfold pkey; rw [upd_at]] at hu5
      have HM5 := Aside0.mk hM5
      have HG5 := Aside0.mk (show Gn nds (mb + 1 + 1) ob (upd gn j w3.heap.size) (D ++ [j]) w5 from ⟨fun i hi => by
        rcases List.mem_append.1 hi with hi | hi
        · have hij : i ≠ j := fun e => hjD (e ▸ hi)
          rw [upd_ne gn _ hij]
          obtain ⟨h1, h2⟩ := HG.out.node i hi
          exact ⟨h1, hT5.blk (hT34.blk (HT3.out.blk h2 (by omega)) (fun h => h)) (by omega)⟩
        · simp at hi; subst hi
          rw [upd_at]
          exact ⟨HS3.out, hT5.blk (by rw [hw4]; exact heap_alloc_new w3 _) (by have := HS3.out; omega)⟩, fun i hi q hq he => by
        have hlt : ∀ i ∈ D, gn i < w3.heap.size := fun i hi => by have := blk_lt (HG.out.node i hi).2; have := HT3.out.size; omega
        rcases List.mem_append.1 hi with h1 | h1 <;> rcases List.mem_append.1 hq with h2 | h2
        · rw [upd_ne gn _ (show i ≠ j from fun e => hjD (e ▸ h1)), upd_ne gn _ (show q ≠ j from fun e => hjD (e ▸ h2))] at he
          exact HG.out.inj i h1 q h2 he
        · simp at h2; subst h2
          rw [upd_ne gn _ (show i ≠ q from fun e => hjD (e ▸ h1)), upd_at] at he
          have := hlt i h1; omega
        · simp at h1; subst h1
          rw [upd_ne gn _ (show q ≠ i from fun e => hjD (e ▸ h2)), upd_at] at he
          have := hlt q h2; omega
        · simp at h1 h2; rw [h1, h2]⟩)
      have HI5 := Aside0.mk (show IterO w5 (mb + 1) (some om) (okey (tyN nds) ob) (dkey di) (List.range nds.length) (D ++ [j]) from (HI3.out.same (hT34.block _ HI3.out.lt (fun h => h)) (fun b hb => by injection hb with hb; subst hb; exact hT34.block _ (by have := HBW.out.om_.lt; have := HT3.out.size; omega) (fun h => h))).same (hT5.block _ (by have := HI3.out.lt; have := hT34.size; omega) (by omega)) (fun b hb => by
        injection hb with hb; subst hb
        exact hT5.block _ (by have := HBW.out.om_.lt; have := HT3.out.size; have := hT34.size; omega) (by have := HBU.out.lt; have := HMB.out; omega)))
      have HB5 := Aside0.mk (show Below mb w w5 from below_touch (below_touch (below_touch HB.out HT3.out (fun k hk => by omega) (by have := HMB.out; omega)) hT34 (fun k hk => hk.elim) (by have := HMB.out; omega)) hT5 (fun k hk => by omega) (by have := HMB.out; omega))
      have HS5 := Aside0.mk (show mb + 1 + 1 ≤ w5.heap.size by have := HS3.out; have := hT34.size; have := hT5.size; omega)
      have HJN := Aside0.mk hjn
      unfold okey at hrun hen hta
      have hu5' : (Instr.mapUpdate 115 (.map (some mb)) (.iface (tyN nds j) (.pointer (some ⟨ob j, 0, none⟩))) (.pointer (some ⟨w3.heap.size, 0, none⟩))).run Tryz.prog (w3.alloc (.cells #[.iface (tyN nds j) (.pointer (some ⟨ob j, 0, none⟩)), .map none, .map none, .int .i64 0, .int .i64 0] 109)) = .ok () w5 := by rw [hw4] at hu5; exact hu5
      clear hu5 hka hO4 hM4 hT34 hT5 hM5 hT3 hI3 hjL hjD hne hw5 hw4 hjn
      go_wp2_with fail
      go_roundg (gk - 1)
      case measure =>
        have h1 := HK.out
        have h2 := nodup_sub_length _ _ HI5.out.sub.1 HI5.out.sub.2
        simp at h2; omega
      case rel => exact ⟨D ++ [j], _, ⟨by
        have h1 := HK.out
        have h2 := nodup_sub_length _ _ HI5.out.sub.1 HI5.out.sub.2
        simp at h2 ⊢; omega⟩, HI5, HM5, HG5, HB5, HS5⟩

end
end Go.Proofs.YtgaadjgfjiljjaaGreat
