/- build (36): the walk. Conditions: nodes such as NdsOk says. -/
import Derived.Test.YtgaadjgfjiljjaaGreatXg
import Derived.StillTailTactics
namespace Go.Proofs.YtgaadjgfjiljjaaGreat
open Go.RowKit Go.Proofs.YtgaadjgfjiljjaaGreatW.PrintWords Go.Proofs.YtgaadjgfjiljjaaGreatW.PrintLast Go.Proofs.YtgaadjgfjiljjaaGreatW.PrintMore
open Go.ChangeMaps (setBlock)
set_option linter.unusedVariables false
set_option linter.unusedSimpArgs false

theorem info82 : (Tryz.prog.info? 82).map (fun i => (i.zero, i.size, i.bytes)) = some (some .nilIface, 1, 16) := by kernel_rfl
theorem info75 : (Tryz.prog.info? 75).map (fun i => (i.zero, i.size, i.bytes)) = some (some (.pointer none), 1, 8) := by kernel_rfl

def BuildPost (nds : List Nd) (w : World) (e : Ending) (w' : World) : Prop := ∃ (lb om nf ck : Nat) (ob di dm : Nat → Nat) (DJ : Nat → List Nat),
  e = .returned (.tuple #[.pointer (some ⟨ck, 0, none⟩), .slice (some ⟨lb, 0, none⟩) nds.length nds.length]) ∧ Built nds w.heap.size w'.heap.size nf ck lb om ob di dm DJ w' ∧ w.heap.size ≤ lb ∧ w.heap.size ≤ om ∧
  w'.heap[nf]? = some (.cells #[.slice none 0 0] 65 (0, 0)) ∧ w'.heap[ck]? = some (.cells #[.map (some om), .pointer (some ⟨nf, 0, none⟩), .slice none 0 0] 70 (0, 0)) ∧ Below w.heap.size w w' ∧
  (∀ j, j < nds.length → ∀ k : Nat, k ∈ DJ j ↔ ∃ j', j' < nds.length ∧ (j' = j ∨ ((rd_Nd nds j').gr = (rd_Nd nds j).gr ∧ 0 < (rd_Nd nds j).gr)) ∧ (k : Int) ∈ (rd_Nd nds j').dp)

def SpecD (nds : List Nd) (dm : Nat → Nat) (i : Nat) (DL : Nat → List Nat) : Prop := ∀ j, j < nds.length → ∀ k : Nat, k ∈ DL (dm j) ↔ ∃ j', j' < i ∧ dm j' = dm j ∧ (k : Int) ∈ (rd_Nd nds j').dp
def SpecI (nds : List Nd) (dm : Nat → Nat) (i q : Nat) (DL : Nat → List Nat) : Prop := ∀ j, j < nds.length → ∀ k : Nat, k ∈ DL (dm j) ↔ (∃ j', j' < i ∧ dm j' = dm j ∧ (k : Int) ∈ (rd_Nd nds j').dp) ∨ (dm i = dm j ∧ (k : Int) ∈ (rd_Nd nds i).dp.take q)
theorem SpecD.toI {nds : List Nd} {dm : Nat → Nat} {i : Nat} {DL : Nat → List Nat} (h : SpecD nds dm i DL) : SpecI nds dm i 0 DL := fun j hj k => by rw [h j hj k]; simp
theorem SpecI.toD {nds : List Nd} {dm : Nat → Nat} {i q : Nat} {DL : Nat → List Nat} (h : SpecI nds dm i q DL) (hq : q = (rd_Nd nds i).dp.length) : SpecD nds dm (i + 1) DL := fun j hj k => by
  rw [h j hj k, hq, List.take_length]
  constructor
  · rintro (⟨j', h1, h2, h3⟩ | ⟨h2, h3⟩)
    · exact ⟨j', by omega, h2, h3⟩
    · exact ⟨i, by omega, h2, h3⟩
  · rintro ⟨j', h1, h2, h3⟩
    by_cases e : j' = i
    · subst e; exact .inr ⟨h2, h3⟩
    · exact .inl ⟨j', by omega, h2, h3⟩
theorem SpecI.step {nds : List Nd} {dm : Nat → Nat} {i q : Nat} {DL : Nat → List Nat} (h : SpecI nds dm i q DL) (hq : q < (rd_Nd nds i).dp.length) (t : Nat) (ht : (t : Int) = rd (rd_Nd nds i).dp (q : Int)) : SpecI nds dm i (q + 1) (fun b => if b = dm i then addL (DL b) t else DL b) := fun j hj k => by
  have e : (rd_Nd nds i).dp.take (q + 1) = (rd_Nd nds i).dp.take q ++ [(t : Int)] := by
    rw [List.take_add_one, List.getElem?_eq_getElem hq, ht]
    unfold rd
    rw [Int.toNat_natCast, List.getD_eq_getElem?_getD, List.getElem?_eq_getElem hq]; rfl
  show k ∈ (if dm j = dm i then addL (DL (dm j)) t else DL (dm j)) ↔ _
  rw [e, List.mem_append, List.mem_singleton]
  by_cases hd : dm j = dm i
  · rw [if_pos hd, addL_mem, h j hj k]
    constructor
    · rintro ((h1 | h1) | h1)
      · exact .inl h1
      · exact .inr ⟨h1.1, .inl h1.2⟩
      · exact .inr ⟨hd.symm, .inr (by omega)⟩
    · rintro (h1 | ⟨h1, h2 | h2⟩)
      · exact .inl (.inl h1)
      · exact .inl (.inr ⟨h1, h2⟩)
      · exact .inr (by omega)
  · rw [if_neg hd, h j hj k]
    constructor
    · rintro (h1 | h1)
      · exact .inl h1
      · exact absurd h1.1.symm hd
    · rintro (h1 | h1)
      · exact .inl h1
      · exact absurd h1.1.symm hd

set_option maxHeartbeats 8000000 in
set_option maxRecDepth 100000 in
theorem build_of {nds : List Nd} (hp : NdsOk nds) (A0 : Option Addr) (c0 : Nat) (w : World) (hr0 : Kd.C kNd w A0 nds.length nds) (hc0 : nds.length ≤ c0) :
    Calls Tryz.prog 36 #[.slice A0 nds.length c0] w (BuildPost nds w) := by
  have hu85 := Tryz.underlying85
  have hu82 := Tryz.underlying82
  have hmk := run_make_row' (P := Tryz.prog) 60 82 .nilIface 16 Tryz.underlying60 info82 rfl .i64 .i64 nds.length (by have := hp.len; omega) (by have := hp.len; omega)
  have HP := Aside0.mk hp
  have HR0 := Aside0.mk hr0
  have HC0 := Aside0.mk hc0
  have HL := Aside0.mk hp.len
  clear hp hr0 hc0
  have hmm := @run_makeMap Tryz.prog
  go_enter Tryz.func36, Tryz.ntmps36
  go_wp2_with fail
  have HI := Aside0.mk (bu_init nds w _ rfl)
  generalize hw5 : ((((w.alloc (Obj.cells (madeCells #[Value.nilIface] nds.length) 82)).alloc (Obj.map #[] 0)).alloc (Obj.map #[] 0)).alloc (Obj.cells #[Value.slice none 0 0] 65)).alloc (Obj.cells #[Value.map (some (w.heap.size + 1 + 1)), Value.pointer (some ⟨w.heap.size + 1 + 1 + 1, 0, none⟩), Value.slice none 0 0] 70) = w5
  rw [hw5] at HI
  clear hw5
  generalize hck : w.heap.size + 1 + 1 + 1 + 1 = ck at HI ⊢
  generalize hnf : w.heap.size + 1 + 1 + 1 = nf at HI ⊢
  generalize hom : w.heap.size + 1 + 1 = om at HI ⊢
  generalize hgm : w.heap.size + 1 = gm at HI ⊢
  generalize hlb : w.heap.size = lb at HI ⊢
  clear hlb hgm hom hnf hck
  go_loopg [26] nds.length (fun kq v26 w' => ∃ (j : Nat) (ob di dm : Nat → Nat) (LG : List Nat) (lw : Nat → Nat), v26 = .int .i64 (j : Int) ∧ Aside0 (kq + j = nds.length) ∧ Aside0 (On nds w lb gm om nf ck j ob w') ∧ Aside0 (Dn nds w gm ck j 0 ob di dm LG lw w') ∧ Aside0 (MapL w' om (okey (tyN nds) ob) (dkey di) (List.range j)))
  case atStart => exact ⟨0, fun _ => 0, fun _ => 0, fun _ => 0, [], fun _ => 0, rfl, ⟨by omega⟩, ⟨HI.out.1⟩, ⟨HI.out.2.1⟩, ⟨HI.out.2.2⟩⟩
  case round =>
    clear HI
    obtain ⟨j, ob, di, dm, LG, lw, rfl, HK, HO, HD, HM⟩ := hrel
    by_cases cj : (j : Int) < (nds.length : Int)
    · have hjr : j < nds.length := by omega
      have hcj := decide_eq_true cj
      have hcjn : decide (j < nds.length) = true := decide_eq_true hjr
      have hj0 : (0 : Int) ≤ (j : Int) := by omega
      obtain ⟨ad, Ax, cx, e, hy0, hy1, hy2, hy3, hy4, hlo, hCo⟩ := at_Nd HR0.out j hjr
      subst e
      have hb := HO.out.below
      replace hy0 := (hb.cell (World.block_lt_of_cell? w _ hy0)).trans hy0
      replace hy1 := (hb.cell (World.block_lt_of_cell? w _ hy1)).trans hy1
      replace hy2 := (hb.cell (World.block_lt_of_cell? w _ hy2)).trans hy2
      replace hy3 := (hb.cell (World.block_lt_of_cell? w _ hy3)).trans hy3
      replace hy4 := (hb.cell (World.block_lt_of_cell? w _ hy4)).trans hy4
      clear hb hlo hCo
      have HN64 := Aside0.mk (show (j : Int) + 1 ≤ 9223372036854775807 by have := HL.out; omega)
      have hok := HP.out.kd (rd_Nd nds j) (rdNd_mem hjr)
      have HG := Aside0.mk (HP.out.ini (rd_Nd nds j) (rdNd_mem hjr))
      have HG0 := Aside0.mk (HP.out.gr (rd_Nd nds j) (rdNd_mem hjr))
      obtain ⟨X, hX⟩ : ∃ X, X = rd_Nd nds j := ⟨_, rfl⟩
      rw [← hX] at hy0 hy1 hy2 hy3 hy4 hok HG HG0
      obtain ⟨xk, xo, xi, xg, xd⟩ := X
      have HX := Aside0.mk hX
      clear hX
      simp only at hy0 hy1 hy2 hy3 hy4 hok
      have hbl : lb < wr.heap.size := blk_lt HO.out.l
      have hbl1 : lb < wr.heap.size + 1 := by omega
      have hbl2 : lb < wr.heap.size + 1 + 1 := by omega
      have hbl3 : lb < wr.heap.size + 1 + 1 + 1 := by omega
      have hbl4 : lb < wr.heap.size + 1 + 1 + 1 + 1 := by omega
      have hfl : wr.frozen? ⟨lb, j, none⟩ = false := blk_frozen HO.out.l j
      have hcl : wr.cell? ⟨lb, j, none⟩ = some .nilIface := by rw [blk_cell HO.out.l j, lCells_get _ _ _ _ hjr, if_neg (Nat.lt_irrefl _)]
      have HCKL := Aside0.mk (blk_lt HO.out.ck_)
      rcases hok with rfl | rfl | rfl

      · have hty : tyN nds j = 90 := by unfold tyN; rw [← HX.out]; rfl
        have HT3 := Aside0.mk (show Touch (fun k => k = lb) wr ((((wr.setCell ⟨lb, j, none⟩ (.iface 90 (.pointer (some ⟨wr.heap.size + 1 + 1, 0, none⟩)))).alloc (.cells #[.int .i64 0, .int .u32 xo, .bool xi, .int .i64 xg, .slice Ax xd.length cx] 85)).alloc (.cells #[.string ⟨#[]⟩, .int .u32 xo, .int .i64 (j : Int)] 78)).alloc (.cells #[.string ⟨#[]⟩, .int .u32 xo, .int .i64 (j : Int)] 91)) from (((Touch.set_ (S := fun k => k = lb) (Touch.refl _ _) (fun _ => rfl) _).alloc _).alloc _).alloc _)
        have HO3 := Aside0.mk (show On nds w lb gm om nf ck (j + 1) (upd ob j (wr.heap.size + 1 + 1)) ((((wr.setCell ⟨lb, j, none⟩ (.iface 90 (.pointer (some ⟨wr.heap.size + 1 + 1, 0, none⟩)))).alloc (.cells #[.int .i64 0, .int .u32 xo, .bool xi, .int .i64 xg, .slice Ax xd.length cx] 85)).alloc (.cells #[.string ⟨#[]⟩, .int .u32 xo, .int .i64 (j : Int)] 78)).alloc (.cells #[.string ⟨#[]⟩, .int .u32 xo, .int .i64 (j : Int)] 91)) from HO.out.step HT3.out (by omega) (by
          refine (heap_alloc_old _ _ (by simp; omega)).trans ((heap_alloc_old _ _ (by simp; omega)).trans ((heap_alloc_old _ _ (by simp; omega)).trans ?_))
          exact blk_put HO.out.l j _ (by rw [← hty]; exact lCells_step _ _ _ _ hjr)) (by
          rw [hty, ← HX.out]
          have h := heap_alloc_new (((wr.setCell ⟨lb, j, none⟩ (.iface 90 (.pointer (some ⟨wr.heap.size + 1 + 1, 0, none⟩)))).alloc (.cells #[.int .i64 0, .int .u32 xo, .bool xi, .int .i64 xg, .slice Ax xd.length cx] 85)).alloc (.cells #[.string ⟨#[]⟩, .int .u32 xo, .int .i64 (j : Int)] 78)) (.cells #[.string ⟨#[]⟩, .int .u32 xo, .int .i64 (j : Int)] 91)
          simp only [sz_alloc, sz_set] at h
          exact h))
        have HD3 := Aside0.mk (show Dn nds w gm ck j 0 (upd ob j (wr.heap.size + 1 + 1)) di dm LG lw ((((wr.setCell ⟨lb, j, none⟩ (.iface 90 (.pointer (some ⟨wr.heap.size + 1 + 1, 0, none⟩)))).alloc (.cells #[.int .i64 0, .int .u32 xo, .bool xi, .int .i64 xg, .slice Ax xd.length cx] 85)).alloc (.cells #[.string ⟨#[]⟩, .int .u32 xo, .int .i64 (j : Int)] 78)).alloc (.cells #[.string ⟨#[]⟩, .int .u32 xo, .int .i64 (j : Int)] 91)) from (HD.out.touch (S := fun k => k = lb) HT3.out (fun k hk => by
          subst hk
          have ord := HO.out.ord
          exact ⟨by omega, fun i hi => (by obtain ⟨h1, h2, _⟩ := HD.out.dis i hi; exact ⟨by omega, by omega⟩), fun ⟨cells, hc⟩ => (by rw [HO.out.l] at hc; injection hc with hc; injection hc with _ hc _; exact absurd hc (by decide))⟩)).ob_step _)
        have HM3 := Aside0.mk (show MapL ((((wr.setCell ⟨lb, j, none⟩ (.iface 90 (.pointer (some ⟨wr.heap.size + 1 + 1, 0, none⟩)))).alloc (.cells #[.int .i64 0, .int .u32 xo, .bool xi, .int .i64 xg, .slice Ax xd.length cx] 85)).alloc (.cells #[.string ⟨#[]⟩, .int .u32 xo, .int .i64 (j : Int)] 78)).alloc (.cells #[.string ⟨#[]⟩, .int .u32 xo, .int .i64 (j : Int)] 91)) om (okey (tyN nds) (upd ob j (wr.heap.size + 1 + 1))) (dkey di) (List.range j) from (HM.out.same (HT3.out.block _ HM.out.lt (by have := HO.out.ord; omega))).congr (fun i hi => ⟨by unfold okey; rw [upd_ne _ _ (by have := List.mem_range.1 hi; omega)], rfl⟩))
        have hg0 : (rd_Nd nds j).gr = 0 := by have h1 := HG.out; have h0 := HG0.out; rw [← HX.out]; simp only at h1 h0 ⊢; exact Classical.byContradiction fun hne => absurd (h1 (by omega)).1 (by decide)
        have HO5 := Aside0.mk ((HO3.out.touch (S := fun _ => False) (((Touch.refl _ _).alloc (.map #[] 0)).alloc (.cells #[.slice none 0 0, .bool xi, .map (some (wr.heap.size + 1 + 1 + 1))] 93)) (fun _ h => h.elim)))
        have HMM := Aside0.mk (MapL.same (w' := (((((wr.setCell ⟨lb, j, none⟩ (.iface 90 (.pointer (some ⟨wr.heap.size + 1 + 1, 0, none⟩)))).alloc (.cells #[.int .i64 0, .int .u32 xo, .bool xi, .int .i64 xg, .slice Ax xd.length cx] 85)).alloc (.cells #[.string ⟨#[]⟩, .int .u32 xo, .int .i64 (j : Int)] 78)).alloc (.cells #[.string ⟨#[]⟩, .int .u32 xo, .int .i64 (j : Int)] 91)).alloc (.map #[] 0)).alloc (.cells #[.slice none 0 0, .bool xi, .map (some (wr.heap.size + 1 + 1 + 1))] 93)) (mapL_new ((((wr.setCell ⟨lb, j, none⟩ (.iface 90 (.pointer (some ⟨wr.heap.size + 1 + 1, 0, none⟩)))).alloc (.cells #[.int .i64 0, .int .u32 xo, .bool xi, .int .i64 xg, .slice Ax xd.length cx] 85)).alloc (.cells #[.string ⟨#[]⟩, .int .u32 xo, .int .i64 (j : Int)] 78)).alloc (.cells #[.string ⟨#[]⟩, .int .u32 xo, .int .i64 (j : Int)] 91)) (okey (tyN nds) (upd ob j (wr.heap.size + 1 + 1))) yes) (heap_alloc_old _ _ (by simp)))
        have HD5 := Aside0.mk (HD3.out.fresh (b := xi) (y := 0) (m := wr.heap.size + 1 + 1 + 1) (d := wr.heap.size + 1 + 1 + 1 + 1) (below_alloc (below_alloc (Below.refl _ _) (.map #[] 0)) (.cells #[.slice none 0 0, .bool xi, .map (some (wr.heap.size + 1 + 1 + 1))] 93)) (by simp) (by simp) (by have := HCKL.out; simp; omega) (by
          have h := heap_alloc_new (((((wr.setCell ⟨lb, j, none⟩ (.iface 90 (.pointer (some ⟨wr.heap.size + 1 + 1, 0, none⟩)))).alloc (.cells #[.int .i64 0, .int .u32 xo, .bool xi, .int .i64 xg, .slice Ax xd.length cx] 85)).alloc (.cells #[.string ⟨#[]⟩, .int .u32 xo, .int .i64 (j : Int)] 78)).alloc (.cells #[.string ⟨#[]⟩, .int .u32 xo, .int .i64 (j : Int)] 91)).alloc (.map #[] 0)) (.cells #[.slice none 0 0, .bool xi, .map (some (wr.heap.size + 1 + 1 + 1))] 93)
          simp only [sz_alloc, sz_set] at h
          exact h) (.inl (by rw [← HX.out])) (by have h := HMM.out; simp only [sz_alloc, sz_set] at h; exact h) (fun i hi h => by omega) (LG' := LG) ((HD3.out.gm_.same ((below_alloc (below_alloc (Below.refl _ _) _) _).block _ HD3.out.gm_.lt)).congr (dkey_congr (fun r hr => upd_ne _ _ (by have := (HD3.out.rep r hr).1; omega)))) (fun r hr => .inl hr) (fun r hr => hr) (fun h => by omega))
        have HM5 := Aside0.mk ((HM3.out.same ((below_alloc (below_alloc (Below.refl _ _) (.map #[] 0)) (.cells #[.slice none 0 0, .bool xi, .map (some (wr.heap.size + 1 + 1 + 1))] 93)).block _ HM3.out.lt)).congr (dkey_range (wr.heap.size + 1 + 1 + 1 + 1)))
        clear HO3 HD3 HM3 HMM HT3
        go_wp2_with fail
        generalize hw5 : (((((wr.setCell ⟨lb, j, none⟩ (.iface 90 (.pointer (some ⟨wr.heap.size + 1 + 1, 0, none⟩)))).alloc (.cells #[.int .i64 0, .int .u32 xo, .bool xi, .int .i64 xg, .slice Ax xd.length cx] 85)).alloc (.cells #[.string ⟨#[]⟩, .int .u32 xo, .int .i64 (j : Int)] 78)).alloc (.cells #[.string ⟨#[]⟩, .int .u32 xo, .int .i64 (j : Int)] 91)).alloc (.map #[] 0)).alloc (.cells #[.slice none 0 0, .bool xi, .map (some (wr.heap.size + 1 + 1 + 1))] 93) = w5 at HO5 HD5 HM5 ⊢
        clear hw5 hfl hcl hy0 hy1 hy2 hy3 hy4
        generalize hdn : wr.heap.size + 1 + 1 + 1 + 1 = dn at HO5 HD5 HM5 ⊢
        generalize hmn : wr.heap.size + 1 + 1 + 1 = mn at HO5 HD5 HM5 ⊢
        generalize hbn : wr.heap.size + 1 + 1 = bn at HO5 HD5 HM5 ⊢
        clear hdn hmn hbn
        obtain ⟨w7, hrun7, hO7, hD7, hM7⟩ := bu_tail (HO5.out.touch (S := fun _ => False) (Touch.refl _ _).drew (fun _ h => h.elim)) (HD5.out.touch (S := fun _ => False) (Touch.refl _ _).drew (fun _ h => h.elim)) (HM5.out.same (w' := w5.drew) rfl)
        rw [show dkey (upd di j dn) j = .pointer (some ⟨dn, 0, none⟩) by unfold dkey; rw [upd_at]] at hrun7
        have HO7 := Aside0.mk hO7
        have HD7 := Aside0.mk hD7
        have HM7 := Aside0.mk hM7
        have hck0 : w5.cell? ⟨ck, 0, none⟩ = some (.map (some om)) := (blk_cell HO5.out.ck_ 0).trans rfl
        have hlj : w5.cell? ⟨lb, j, none⟩ = some (okey (tyN nds) (upd ob j bn) j) := by rw [blk_cell HO5.out.l j, lCells_get _ _ _ _ hjr, if_pos (Nat.lt_succ_self _)]
        clear hO7 hD7 hM7 HO5 HD5 HM5
        go_still_tail 9, (by kernel_rfl)
        change wpList _ _ _ _ _ w5.drew
        refine wp_update rfl rfl rfl rfl rfl rfl hrun7 ?_
        clear hrun7 hck0 hlj
        go_wp2_with fail
        go_roundg (gk - 1)
        case measure => have := HK.out; omega
        case rel =>
          have hn64 := HN64.out
          exact ⟨j + 1, _, _, _, _, _, congrArg (Value.int .i64) (by unfold wrap64; omega), ⟨by have := HK.out; omega⟩, HO7, HD7, HM7⟩
      · by_cases cg : 0 < xg
        · have hty : tyN nds j = 75 := by unfold tyN; rw [← HX.out]; rfl
          have HT3 := Aside0.mk (show Touch (fun k => k = lb) wr ((((wr.setCell ⟨lb, j, none⟩ (.iface 75 (.pointer (some ⟨wr.heap.size + 1 + 1, 0, none⟩)))).alloc (.cells #[.int .i64 1, .int .u32 xo, .bool xi, .int .i64 xg, .slice Ax xd.length cx] 85)).alloc (.cells #[.string ⟨#[]⟩, .int .u32 xo, .int .i64 (j : Int)] 78)).alloc (.cells #[.string ⟨#[]⟩, .int .u32 xo, .int .i64 (j : Int)] 80)) from (((Touch.set_ (S := fun k => k = lb) (Touch.refl _ _) (fun _ => rfl) _).alloc _).alloc _).alloc _)
          have HO3 := Aside0.mk (show On nds w lb gm om nf ck (j + 1) (upd ob j (wr.heap.size + 1 + 1)) ((((wr.setCell ⟨lb, j, none⟩ (.iface 75 (.pointer (some ⟨wr.heap.size + 1 + 1, 0, none⟩)))).alloc (.cells #[.int .i64 1, .int .u32 xo, .bool xi, .int .i64 xg, .slice Ax xd.length cx] 85)).alloc (.cells #[.string ⟨#[]⟩, .int .u32 xo, .int .i64 (j : Int)] 78)).alloc (.cells #[.string ⟨#[]⟩, .int .u32 xo, .int .i64 (j : Int)] 80)) from HO.out.step HT3.out (by omega) (by
            refine (heap_alloc_old _ _ (by simp; omega)).trans ((heap_alloc_old _ _ (by simp; omega)).trans ((heap_alloc_old _ _ (by simp; omega)).trans ?_))
            exact blk_put HO.out.l j _ (by rw [← hty]; exact lCells_step _ _ _ _ hjr)) (by
            rw [hty, ← HX.out]
            have h := heap_alloc_new (((wr.setCell ⟨lb, j, none⟩ (.iface 75 (.pointer (some ⟨wr.heap.size + 1 + 1, 0, none⟩)))).alloc (.cells #[.int .i64 1, .int .u32 xo, .bool xi, .int .i64 xg, .slice Ax xd.length cx] 85)).alloc (.cells #[.string ⟨#[]⟩, .int .u32 xo, .int .i64 (j : Int)] 78)) (.cells #[.string ⟨#[]⟩, .int .u32 xo, .int .i64 (j : Int)] 80)
            simp only [sz_alloc, sz_set] at h
            exact h))
          have HD3 := Aside0.mk (show Dn nds w gm ck j 0 (upd ob j (wr.heap.size + 1 + 1)) di dm LG lw ((((wr.setCell ⟨lb, j, none⟩ (.iface 75 (.pointer (some ⟨wr.heap.size + 1 + 1, 0, none⟩)))).alloc (.cells #[.int .i64 1, .int .u32 xo, .bool xi, .int .i64 xg, .slice Ax xd.length cx] 85)).alloc (.cells #[.string ⟨#[]⟩, .int .u32 xo, .int .i64 (j : Int)] 78)).alloc (.cells #[.string ⟨#[]⟩, .int .u32 xo, .int .i64 (j : Int)] 80)) from (HD.out.touch (S := fun k => k = lb) HT3.out (fun k hk => by
            subst hk
            have ord := HO.out.ord
            exact ⟨by omega, fun i hi => (by obtain ⟨h1, h2, _⟩ := HD.out.dis i hi; exact ⟨by omega, by omega⟩), fun ⟨cells, hc⟩ => (by rw [HO.out.l] at hc; injection hc with hc; injection hc with _ hc _; exact absurd hc (by decide))⟩)).ob_step _)
          have HM3 := Aside0.mk (show MapL ((((wr.setCell ⟨lb, j, none⟩ (.iface 75 (.pointer (some ⟨wr.heap.size + 1 + 1, 0, none⟩)))).alloc (.cells #[.int .i64 1, .int .u32 xo, .bool xi, .int .i64 xg, .slice Ax xd.length cx] 85)).alloc (.cells #[.string ⟨#[]⟩, .int .u32 xo, .int .i64 (j : Int)] 78)).alloc (.cells #[.string ⟨#[]⟩, .int .u32 xo, .int .i64 (j : Int)] 80)) om (okey (tyN nds) (upd ob j (wr.heap.size + 1 + 1))) (dkey di) (List.range j) from (HM.out.same (HT3.out.block _ HM.out.lt (by have := HO.out.ord; omega))).congr (fun i hi => ⟨by unfold okey; rw [upd_ne _ _ (by have := List.mem_range.1 hi; omega)], rfl⟩))
          have HCG := Aside0.mk cg
          have cgb := decide_eq_true cg
          clear cg HT3
          by_cases hrep : ∃ r ∈ LG, (rd_Nd nds r).gr = xg
          · obtain ⟨r, hrL, hre⟩ := hrep
            have hag := HD3.out.again hrL (by rw [hre, ← HX.out])
            have hdi : ∃ dix, dix = upd di j (di r) := ⟨_, rfl⟩
            have hdm : ∃ dmx, dmx = upd dm j (dm r) := ⟨_, rfl⟩
            obtain ⟨dix, hdix⟩ := hdi
            obtain ⟨dmx, hdmx⟩ := hdm
            have hlkf := fun W (h : Dn nds w gm ck j 0 (upd ob j (wr.heap.size + 1 + 1)) di dm LG lw W) => look_found h hrL
            rw [hre] at hlkf
            have HLK := Aside0.mk hlkf
            have HDA := Aside0.mk hag
            have HMA := Aside0.mk (HM3.out.congr (dkey_range (F := okey (tyN nds) (upd ob j (wr.heap.size + 1 + 1))) (di r)))
            rw [← hdix] at HDA HMA
            rw [← hdmx] at HDA
            have HDI := Aside0.mk (show dix j = di r by rw [hdix, upd_at])
            have HMI := Aside0.mk (show dmx j = dm r by rw [hdmx, upd_at])
            clear hag hlkf hdix hdmx hrL hre HM3
            generalize hdz : di r = dz at HDA HMA HDI
            generalize hmz : dm r = mz at HMI
            have HDZ := Aside0.mk hdz
            clear hmz hdz
            go_wp2_with (first | ((with_reducible refine gate_dst (N := 69) rfl ?_); generalize hw3 : ((((wr.setCell ⟨lb, j, none⟩ (.iface 75 (.pointer (some ⟨wr.heap.size + 1 + 1, 0, none⟩)))).alloc (.cells #[.int .i64 1, .int .u32 xo, .bool xi, .int .i64 xg, .slice Ax xd.length cx] 85)).alloc (.cells #[.string ⟨#[]⟩, .int .u32 xo, .int .i64 (j : Int)] 78)).alloc (.cells #[.string ⟨#[]⟩, .int .u32 xo, .int .i64 (j : Int)] 80)) = wz at HO3 HD3 HDA HMA ⊢; clear hw3; have hlk := HLK.out _ HD3.out; rw [HDZ.out] at hlk; have HOz := HO3; have HDz := HDA; have HMz := HMA; clear HO3 HDA HMA; generalize hobn : upd ob j (wr.heap.size + 1 + 1) = obn at HOz HDz HMz; obtain ⟨hq1, hq2, lv, ms, b, hblk, _, hRl, hms, hml, _⟩ := HDz.out.dis j (Nat.lt_succ_self j); rw [HDI.out] at hblk hRl; have HBK := Aside0.mk hblk; have HRL := Aside0.mk hRl; have HMS := Aside0.mk hms; have HML := Aside0.mk (hml.2 (by rw [HDI.out])); have hcz0 : wz.cell? ⟨dz, 0, none⟩ = some lv := (blk_cell HBK.out 0).trans rfl; have hfz0 : wz.frozen? ⟨dz, 0, none⟩ = false := blk_frozen HBK.out 0; obtain ⟨A86, c86, hlv, _, _⟩ := Kd.R_reads hRl; rw [List.length_map] at hlv; subst hlv; have hbob : wr.heap.size + 1 + 1 = obn j := (by rw [← hobn, upd_at]); clear hq1 hq2 hblk hRl hms hml hobn; refine wp_lookup rfl rfl rfl rfl rfl hlk ?_; clear hlk) | ((with_reducible refine gate_builtin (b := .append) (xs := #[.tmp 83, .tmp 85]) rfl ?_); at_builtin; (try rw [hbob]); refine Kd.R_append (Kd.raw 1) (W := wz) (w0 := w) w.heap.size rfl (.tmp 83) (.tmp 85) 72 75 (.pointer none) 8 rfl Tryz.underlying72 info75 rfl (by decide) (by omega) (.slice A86 ms.length c86) (ms.map fun m => [pkey obn m]) [pkey obn j] [pkey obn j] (fun k => (if k < wz.heap.size then lw k else dz) = dz) (fun _ => False) rfl (by first | rfl | (simp; done) | (simp; rfl)) ?aP (fun _ hk => hk.elim) ?aF ?aO ?aB ?aS ?aL ?_; (case aP => exact ⟨rfl, rfl, fun u hu => (by simp at hu; subst hu; rfl)⟩); (case aF => exact fun k hk => if_neg (Nat.not_lt.2 hk)); (case aO => exact Kd.R_mono (Kd.R_bound HRL.out) (fun k hk => by have h0 := hk.1; rw [if_pos hk.2.2.1]; exact h0)); (case aB => exact HOz.out.below); (case aS => exact HOz.out.below.size); (case aL => have := HML.out; have := HL.out; simp; omega); intro v86 w4 ho hb hg hat; have HT4 := Aside0.mk (show Touch (fun k => (Value.slice A86 ms.length c86).ownBlock = some k) wz w4 from Touch.of_grown hg); obtain ⟨A87, c87, hv86, _, _⟩ := Kd.R_reads ho; rw [show (ms.map (fun m => [pkey obn m]) ++ [[pkey obn j]]).length = ms.length + 1 from (by simp)] at hv86; subst hv86; have HR4 := Aside0.mk ho; have hfz4 : w4.frozen? ⟨dz, 0, none⟩ = false := (HT4.out.frozen (p := ⟨dz, 0, none⟩) (blk_lt HBK.out) (fun he => Kd.R_ne HRL.out HBK.out (by decide) he.symm)).trans hfz0; have hfz41 : w4.frozen? ⟨dz, 1, none⟩ = false := (HT4.out.frozen (p := ⟨dz, 1, none⟩) (blk_lt HBK.out) (fun he => Kd.R_ne HRL.out HBK.out (by decide) he.symm)).trans (blk_frozen HBK.out 1); have hcz40 : w4.cell? ⟨dz, 0, none⟩ = some (.slice A86 ms.length c86) := (HT4.out.cell (p := ⟨dz, 0, none⟩) ((blk_cell HBK.out 0).trans rfl) (fun he => Kd.R_ne HRL.out HBK.out (by decide) he.symm)); have hcz41 : w4.cell? ⟨dz, 1, none⟩ = some (.bool b) := (HT4.out.cell (p := ⟨dz, 1, none⟩) ((blk_cell HBK.out 1).trans rfl) (fun he => Kd.R_ne HRL.out HBK.out (by decide) he.symm)); clear ho hb hg hat hcz0 hfz0))
            have hput := Dn.put (w1 := w4) (v1 := .slice A87 (ms.length + 1) c87) (Sz := wz.heap.size) HP.out HDz.out HDI.out.symm hjr (by rw [← HX.out]; exact HCG.out) (lv := .slice A86 ms.length c86) (ms := ms) (b := b) (by rw [HDI.out]; exact HBK.out) HMS.out (by have := HML.out; omega) (Nat.le_refl _) (by rw [HDI.out]; exact HRL.out) (by rw [HDI.out]; exact HR4.out) HT4.out
            rw [HDI.out] at hput
            have HD5 := Aside0.mk hput.1
            have HO5 := Aside0.mk (HOz.out.touch hput.2 (fun k hk => by
              rcases hk with hk | hk
              · exact ⟨Kd.R_base HRL.out k hk, .inr (.inr (Kd.R_typed HRL.out k hk))⟩
              · rw [hk]; exact ⟨by have h1 := (HDz.out.dis j (Nat.lt_succ_self j)).1; rw [HDI.out] at h1; have := HOz.out.ord; omega, .inr (.inl ⟨_, HBK.out⟩)⟩))
            have HM5 := Aside0.mk (HMz.out.same (hput.2.block _ HMz.out.lt (fun hk => by
              obtain ⟨es, c, hm⟩ := HMz.out.obj
              rcases hk with hk | hk
              · obtain ⟨cells, hc⟩ := Kd.R_typed HRL.out _ hk; rw [hm] at hc; cases hc
              · rw [hk, HBK.out] at hm; cases hm)))
            clear hput
            generalize hw5 : (w4.setCell ⟨dz, 0, none⟩ (.slice A87 (ms.length + 1) c87)).setCell ⟨dz, 1, none⟩ (.bool true) = w5 at HO5 HD5 HM5 ⊢
            clear hw5 HDz HOz HMz HBK HRL HMS HML HT4 HR4 hfz4 hfz41 hcz40 hcz41 hbob
            obtain ⟨w7, hrun7, hO7, hD7, hM7⟩ := bu_tail (HO5.out.touch (S := fun _ => False) (Touch.refl _ _).drew (fun _ h => h.elim)) (HD5.out.touch (S := fun _ => False) (Touch.refl _ _).drew (fun _ h => h.elim)) (HM5.out.same (w' := w5.drew) rfl)
            rw [show dkey dix j = .pointer (some ⟨dz, 0, none⟩) by unfold dkey; rw [HDI.out]] at hrun7
            have HO7 := Aside0.mk hO7
            have HD7 := Aside0.mk hD7
            have HM7 := Aside0.mk hM7
            have hck0 : w5.cell? ⟨ck, 0, none⟩ = some (.map (some om)) := (blk_cell HO5.out.ck_ 0).trans rfl
            have hlj : w5.cell? ⟨lb, j, none⟩ = some (okey (tyN nds) obn j) := by rw [blk_cell HO5.out.l j, lCells_get _ _ _ _ hjr, if_pos (Nat.lt_succ_self _)]
            clear hO7 hD7 hM7 HO5 HD5 HM5
            go_still_tail 9, (by kernel_rfl)
            change wpList _ _ _ _ _ w5.drew
            refine wp_update rfl rfl rfl rfl rfl rfl hrun7 ?_
            clear hrun7 hck0 hlj
            go_wp2_with fail
            go_roundg (gk - 1)
            case measure => have := HK.out; omega
            case rel =>
              have hn64 := HN64.out
              exact ⟨j + 1, _, _, _, _, _, congrArg (Value.int .i64) (by unfold wrap64; omega), ⟨by have := HK.out; omega⟩, HO7, HD7, HM7⟩
          · have HRX := Aside0.mk (show (rd_Nd nds j).gr = xg by rw [← HX.out])
            have HRN := Aside0.mk (show ∀ r ∈ LG, (rd_Nd nds r).gr ≠ (rd_Nd nds j).gr from fun r hr he => hrep ⟨r, hr, by rw [he, HRX.out]⟩)
            have HNB := Aside0.mk (show (((((wr.setCell ⟨lb, j, none⟩ (.iface 75 (.pointer (some ⟨wr.heap.size + 1 + 1, 0, none⟩)))).alloc (.cells #[.int .i64 1, .int .u32 xo, .bool xi, .int .i64 xg, .slice Ax xd.length cx] 85)).alloc (.cells #[.string ⟨#[]⟩, .int .u32 xo, .int .i64 (j : Int)] 78)).alloc (.cells #[.string ⟨#[]⟩, .int .u32 xo, .int .i64 (j : Int)] 80))).heap[wr.heap.size]? = some (.cells #[.int .i64 1, .int .u32 xo, .bool xi, .int .i64 xg, .slice Ax xd.length cx] 85 (0, 0)) by
              refine (heap_alloc_old _ _ (by rw [sz_alloc, sz_alloc, sz_set]; omega)).trans ((heap_alloc_old _ _ (by rw [sz_alloc, sz_set]; omega)).trans ?_)
              have h := heap_alloc_new (wr.setCell ⟨lb, j, none⟩ (.iface 75 (.pointer (some ⟨wr.heap.size + 1 + 1, 0, none⟩)))) (.cells #[.int .i64 1, .int .u32 xo, .bool xi, .int .i64 xg, .slice Ax xd.length cx] 85)
              simp only [sz_set] at h
              exact h)
            clear hrep
            go_wp2_with (first | ((with_reducible refine gate_dst (N := 69) rfl ?_); generalize hw3 : ((((wr.setCell ⟨lb, j, none⟩ (.iface 75 (.pointer (some ⟨wr.heap.size + 1 + 1, 0, none⟩)))).alloc (.cells #[.int .i64 1, .int .u32 xo, .bool xi, .int .i64 xg, .slice Ax xd.length cx] 85)).alloc (.cells #[.string ⟨#[]⟩, .int .u32 xo, .int .i64 (j : Int)] 78)).alloc (.cells #[.string ⟨#[]⟩, .int .u32 xo, .int .i64 (j : Int)] 80)) = w3 at HO3 HD3 HM3 HNB ⊢; clear hw3; have hlk := look_absent HD3.out xg (fun r hr he => HRN.out r hr (he.trans HRX.out.symm)); obtain ⟨wz, hrunz, hOz, hDz, hMz⟩ := group_new HO3.out HD3.out HM3.out (by rw [HRX.out]; exact HCG.out) HRN.out rfl; rw [HRX.out] at hrunz; generalize hdz : w3.heap.size + 1 = dz at hrunz hDz hMz; obtain ⟨dix, hdix⟩ : ∃ d, d = upd di j dz := ⟨_, rfl⟩; rw [← hdix] at hDz hMz; obtain ⟨dmx, hdmx⟩ : ∃ d, d = upd dm j w3.heap.size := ⟨_, rfl⟩; rw [← hdmx] at hDz; have HDI := Aside0.mk (show dix j = dz from (by rw [hdix, upd_at])); have HOz := Aside0.mk hOz; have HDz := Aside0.mk hDz; have HMz := Aside0.mk hMz; have hcx3 : w3.cell? ⟨wr.heap.size, 3, none⟩ = some (.int .i64 xg) := (blk_cell HNB.out 3).trans rfl; have hnl : wr.heap.size < w3.heap.size := blk_lt HNB.out; have hnl1 : wr.heap.size < dz := (by omega); clear hOz hDz hMz hdix hdmx HO3 HD3 HM3; generalize hobn : upd ob j (wr.heap.size + 1 + 1) = obn at HOz HDz HMz; obtain ⟨hq1, hq2, lv, ms, b, hblk, _, hRl, hms, hml, _⟩ := HDz.out.dis j (Nat.lt_succ_self j); rw [HDI.out] at hblk hRl; have HBK := Aside0.mk hblk; have HRL := Aside0.mk hRl; have HMS := Aside0.mk hms; have HML := Aside0.mk (hml.2 (by rw [HDI.out])); have hcz0 : wz.cell? ⟨dz, 0, none⟩ = some lv := (blk_cell HBK.out 0).trans rfl; have hfz0 : wz.frozen? ⟨dz, 0, none⟩ = false := blk_frozen HBK.out 0; obtain ⟨A86, c86, hlv, _, _⟩ := Kd.R_reads hRl; rw [List.length_map] at hlv; subst hlv; have hbob : wr.heap.size + 1 + 1 = obn j := (by rw [← hobn, upd_at]); clear hq1 hq2 hblk hRl hms hml hobn; refine wp_lookup rfl rfl rfl rfl rfl hlk ?_; clear hlk) | ((with_reducible refine gate_builtin (b := .append) (xs := #[.tmp 83, .tmp 85]) rfl ?_); at_builtin; (try rw [hbob]); refine Kd.R_append (Kd.raw 1) (W := wz) (w0 := w) w.heap.size rfl (.tmp 83) (.tmp 85) 72 75 (.pointer none) 8 rfl Tryz.underlying72 info75 rfl (by decide) (by omega) (.slice A86 ms.length c86) (ms.map fun m => [pkey obn m]) [pkey obn j] [pkey obn j] (fun k => (if k < wz.heap.size then lw k else dz) = dz) (fun _ => False) rfl (by first | rfl | (simp; done) | (simp; rfl)) ?aP (fun _ hk => hk.elim) ?aF ?aO ?aB ?aS ?aL ?_; (case aP => exact ⟨rfl, rfl, fun u hu => (by simp at hu; subst hu; rfl)⟩); (case aF => exact fun k hk => if_neg (Nat.not_lt.2 hk)); (case aO => exact Kd.R_mono (Kd.R_bound HRL.out) (fun k hk => by have h0 := hk.1; rw [if_pos hk.2.2.1]; exact h0)); (case aB => exact HOz.out.below); (case aS => exact HOz.out.below.size); (case aL => have := HML.out; have := HL.out; simp; omega); intro v86 w4 ho hb hg hat; have HT4 := Aside0.mk (show Touch (fun k => (Value.slice A86 ms.length c86).ownBlock = some k) wz w4 from Touch.of_grown hg); obtain ⟨A87, c87, hv86, _, _⟩ := Kd.R_reads ho; rw [show (ms.map (fun m => [pkey obn m]) ++ [[pkey obn j]]).length = ms.length + 1 from (by simp)] at hv86; subst hv86; have HR4 := Aside0.mk ho; have hfz4 : w4.frozen? ⟨dz, 0, none⟩ = false := (HT4.out.frozen (p := ⟨dz, 0, none⟩) (blk_lt HBK.out) (fun he => Kd.R_ne HRL.out HBK.out (by decide) he.symm)).trans hfz0; have hfz41 : w4.frozen? ⟨dz, 1, none⟩ = false := (HT4.out.frozen (p := ⟨dz, 1, none⟩) (blk_lt HBK.out) (fun he => Kd.R_ne HRL.out HBK.out (by decide) he.symm)).trans (blk_frozen HBK.out 1); have hcz40 : w4.cell? ⟨dz, 0, none⟩ = some (.slice A86 ms.length c86) := (HT4.out.cell (p := ⟨dz, 0, none⟩) ((blk_cell HBK.out 0).trans rfl) (fun he => Kd.R_ne HRL.out HBK.out (by decide) he.symm)); have hcz41 : w4.cell? ⟨dz, 1, none⟩ = some (.bool b) := (HT4.out.cell (p := ⟨dz, 1, none⟩) ((blk_cell HBK.out 1).trans rfl) (fun he => Kd.R_ne HRL.out HBK.out (by decide) he.symm)); clear ho hb hg hat hcz0 hfz0))
            have hput := Dn.put (w1 := w4) (v1 := .slice A87 (ms.length + 1) c87) (Sz := wz.heap.size) HP.out HDz.out HDI.out.symm hjr (by rw [← HX.out]; exact HCG.out) (lv := .slice A86 ms.length c86) (ms := ms) (b := b) (by rw [HDI.out]; exact HBK.out) HMS.out (by have := HML.out; omega) (Nat.le_refl _) (by rw [HDI.out]; exact HRL.out) (by rw [HDI.out]; exact HR4.out) HT4.out
            rw [HDI.out] at hput
            have HD5 := Aside0.mk hput.1
            have HO5 := Aside0.mk (HOz.out.touch hput.2 (fun k hk => by
              rcases hk with hk | hk
              · exact ⟨Kd.R_base HRL.out k hk, .inr (.inr (Kd.R_typed HRL.out k hk))⟩
              · rw [hk]; exact ⟨by have h1 := (HDz.out.dis j (Nat.lt_succ_self j)).1; rw [HDI.out] at h1; have := HOz.out.ord; omega, .inr (.inl ⟨_, HBK.out⟩)⟩))
            have HM5 := Aside0.mk (HMz.out.same (hput.2.block _ HMz.out.lt (fun hk => by
              obtain ⟨es, c, hm⟩ := HMz.out.obj
              rcases hk with hk | hk
              · obtain ⟨cells, hc⟩ := Kd.R_typed HRL.out _ hk; rw [hm] at hc; cases hc
              · rw [hk, HBK.out] at hm; cases hm)))
            clear hput
            generalize hw5 : (w4.setCell ⟨dz, 0, none⟩ (.slice A87 (ms.length + 1) c87)).setCell ⟨dz, 1, none⟩ (.bool true) = w5 at HO5 HD5 HM5 ⊢
            clear hw5 HDz HOz HMz HBK HRL HMS HML HT4 HR4 hfz4 hfz41 hcz40 hcz41 hbob
            obtain ⟨w7, hrun7, hO7, hD7, hM7⟩ := bu_tail (HO5.out.touch (S := fun _ => False) (Touch.refl _ _).drew (fun _ h => h.elim)) (HD5.out.touch (S := fun _ => False) (Touch.refl _ _).drew (fun _ h => h.elim)) (HM5.out.same (w' := w5.drew) rfl)
            rw [show dkey dix j = .pointer (some ⟨dz, 0, none⟩) by unfold dkey; rw [HDI.out]] at hrun7
            have HO7 := Aside0.mk hO7
            have HD7 := Aside0.mk hD7
            have HM7 := Aside0.mk hM7
            have hck0 : w5.cell? ⟨ck, 0, none⟩ = some (.map (some om)) := (blk_cell HO5.out.ck_ 0).trans rfl
            have hlj : w5.cell? ⟨lb, j, none⟩ = some (okey (tyN nds) obn j) := by rw [blk_cell HO5.out.l j, lCells_get _ _ _ _ hjr, if_pos (Nat.lt_succ_self _)]
            clear hO7 hD7 hM7 HO5 HD5 HM5
            go_still_tail 9, (by kernel_rfl)
            change wpList _ _ _ _ _ w5.drew
            refine wp_update rfl rfl rfl rfl rfl rfl hrun7 ?_
            clear hrun7 hck0 hlj
            go_wp2_with fail
            go_roundg (gk - 1)
            case measure => have := HK.out; omega
            case rel =>
              have hn64 := HN64.out
              exact ⟨j + 1, _, _, _, _, _, congrArg (Value.int .i64) (by unfold wrap64; omega), ⟨by have := HK.out; omega⟩, HO7, HD7, HM7⟩
        · have cg0 : xg = 0 := by have h0 := HG0.out; simp only at h0; omega
          subst cg0
          clear cg
          have hty : tyN nds j = 75 := by unfold tyN; rw [← HX.out]; rfl
          have HT3 := Aside0.mk (show Touch (fun k => k = lb) wr ((((wr.setCell ⟨lb, j, none⟩ (.iface 75 (.pointer (some ⟨wr.heap.size + 1 + 1, 0, none⟩)))).alloc (.cells #[.int .i64 1, .int .u32 xo, .bool xi, .int .i64 0, .slice Ax xd.length cx] 85)).alloc (.cells #[.string ⟨#[]⟩, .int .u32 xo, .int .i64 (j : Int)] 78)).alloc (.cells #[.string ⟨#[]⟩, .int .u32 xo, .int .i64 (j : Int)] 80)) from (((Touch.set_ (S := fun k => k = lb) (Touch.refl _ _) (fun _ => rfl) _).alloc _).alloc _).alloc _)
          have HO3 := Aside0.mk (show On nds w lb gm om nf ck (j + 1) (upd ob j (wr.heap.size + 1 + 1)) ((((wr.setCell ⟨lb, j, none⟩ (.iface 75 (.pointer (some ⟨wr.heap.size + 1 + 1, 0, none⟩)))).alloc (.cells #[.int .i64 1, .int .u32 xo, .bool xi, .int .i64 0, .slice Ax xd.length cx] 85)).alloc (.cells #[.string ⟨#[]⟩, .int .u32 xo, .int .i64 (j : Int)] 78)).alloc (.cells #[.string ⟨#[]⟩, .int .u32 xo, .int .i64 (j : Int)] 80)) from HO.out.step HT3.out (by omega) (by
            refine (heap_alloc_old _ _ (by simp; omega)).trans ((heap_alloc_old _ _ (by simp; omega)).trans ((heap_alloc_old _ _ (by simp; omega)).trans ?_))
            exact blk_put HO.out.l j _ (by rw [← hty]; exact lCells_step _ _ _ _ hjr)) (by
            rw [hty, ← HX.out]
            have h := heap_alloc_new (((wr.setCell ⟨lb, j, none⟩ (.iface 75 (.pointer (some ⟨wr.heap.size + 1 + 1, 0, none⟩)))).alloc (.cells #[.int .i64 1, .int .u32 xo, .bool xi, .int .i64 0, .slice Ax xd.length cx] 85)).alloc (.cells #[.string ⟨#[]⟩, .int .u32 xo, .int .i64 (j : Int)] 78)) (.cells #[.string ⟨#[]⟩, .int .u32 xo, .int .i64 (j : Int)] 80)
            simp only [sz_alloc, sz_set] at h
            exact h))
          have HD3 := Aside0.mk (show Dn nds w gm ck j 0 (upd ob j (wr.heap.size + 1 + 1)) di dm LG lw ((((wr.setCell ⟨lb, j, none⟩ (.iface 75 (.pointer (some ⟨wr.heap.size + 1 + 1, 0, none⟩)))).alloc (.cells #[.int .i64 1, .int .u32 xo, .bool xi, .int .i64 0, .slice Ax xd.length cx] 85)).alloc (.cells #[.string ⟨#[]⟩, .int .u32 xo, .int .i64 (j : Int)] 78)).alloc (.cells #[.string ⟨#[]⟩, .int .u32 xo, .int .i64 (j : Int)] 80)) from (HD.out.touch (S := fun k => k = lb) HT3.out (fun k hk => by
            subst hk
            have ord := HO.out.ord
            exact ⟨by omega, fun i hi => (by obtain ⟨h1, h2, _⟩ := HD.out.dis i hi; exact ⟨by omega, by omega⟩), fun ⟨cells, hc⟩ => (by rw [HO.out.l] at hc; injection hc with hc; injection hc with _ hc _; exact absurd hc (by decide))⟩)).ob_step _)
          have HM3 := Aside0.mk (show MapL ((((wr.setCell ⟨lb, j, none⟩ (.iface 75 (.pointer (some ⟨wr.heap.size + 1 + 1, 0, none⟩)))).alloc (.cells #[.int .i64 1, .int .u32 xo, .bool xi, .int .i64 0, .slice Ax xd.length cx] 85)).alloc (.cells #[.string ⟨#[]⟩, .int .u32 xo, .int .i64 (j : Int)] 78)).alloc (.cells #[.string ⟨#[]⟩, .int .u32 xo, .int .i64 (j : Int)] 80)) om (okey (tyN nds) (upd ob j (wr.heap.size + 1 + 1))) (dkey di) (List.range j) from (HM.out.same (HT3.out.block _ HM.out.lt (by have := HO.out.ord; omega))).congr (fun i hi => ⟨by unfold okey; rw [upd_ne _ _ (by have := List.mem_range.1 hi; omega)], rfl⟩))
          have hg0 : (rd_Nd nds j).gr = 0 := by rw [← HX.out]
          have HO5 := Aside0.mk ((HO3.out.touch (S := fun _ => False) (((Touch.refl _ _).alloc (.map #[] 0)).alloc (.cells #[.slice none 0 0, .bool xi, .map (some (wr.heap.size + 1 + 1 + 1))] 93)) (fun _ h => h.elim)))
          have HMM := Aside0.mk (MapL.same (w' := (((((wr.setCell ⟨lb, j, none⟩ (.iface 75 (.pointer (some ⟨wr.heap.size + 1 + 1, 0, none⟩)))).alloc (.cells #[.int .i64 1, .int .u32 xo, .bool xi, .int .i64 0, .slice Ax xd.length cx] 85)).alloc (.cells #[.string ⟨#[]⟩, .int .u32 xo, .int .i64 (j : Int)] 78)).alloc (.cells #[.string ⟨#[]⟩, .int .u32 xo, .int .i64 (j : Int)] 80)).alloc (.map #[] 0)).alloc (.cells #[.slice none 0 0, .bool xi, .map (some (wr.heap.size + 1 + 1 + 1))] 93)) (mapL_new ((((wr.setCell ⟨lb, j, none⟩ (.iface 75 (.pointer (some ⟨wr.heap.size + 1 + 1, 0, none⟩)))).alloc (.cells #[.int .i64 1, .int .u32 xo, .bool xi, .int .i64 0, .slice Ax xd.length cx] 85)).alloc (.cells #[.string ⟨#[]⟩, .int .u32 xo, .int .i64 (j : Int)] 78)).alloc (.cells #[.string ⟨#[]⟩, .int .u32 xo, .int .i64 (j : Int)] 80)) (okey (tyN nds) (upd ob j (wr.heap.size + 1 + 1))) yes) (heap_alloc_old _ _ (by simp)))
          have HD5 := Aside0.mk (HD3.out.fresh (b := xi) (y := 0) (m := wr.heap.size + 1 + 1 + 1) (d := wr.heap.size + 1 + 1 + 1 + 1) (below_alloc (below_alloc (Below.refl _ _) (.map #[] 0)) (.cells #[.slice none 0 0, .bool xi, .map (some (wr.heap.size + 1 + 1 + 1))] 93)) (by simp) (by simp) (by have := HCKL.out; simp; omega) (by
            have h := heap_alloc_new (((((wr.setCell ⟨lb, j, none⟩ (.iface 75 (.pointer (some ⟨wr.heap.size + 1 + 1, 0, none⟩)))).alloc (.cells #[.int .i64 1, .int .u32 xo, .bool xi, .int .i64 0, .slice Ax xd.length cx] 85)).alloc (.cells #[.string ⟨#[]⟩, .int .u32 xo, .int .i64 (j : Int)] 78)).alloc (.cells #[.string ⟨#[]⟩, .int .u32 xo, .int .i64 (j : Int)] 80)).alloc (.map #[] 0)) (.cells #[.slice none 0 0, .bool xi, .map (some (wr.heap.size + 1 + 1 + 1))] 93)
            simp only [sz_alloc, sz_set] at h
            exact h) (.inl (by rw [← HX.out])) (by have h := HMM.out; simp only [sz_alloc, sz_set] at h; exact h) (fun i hi h => by omega) (LG' := LG) ((HD3.out.gm_.same ((below_alloc (below_alloc (Below.refl _ _) _) _).block _ HD3.out.gm_.lt)).congr (dkey_congr (fun r hr => upd_ne _ _ (by have := (HD3.out.rep r hr).1; omega)))) (fun r hr => .inl hr) (fun r hr => hr) (fun h => by omega))
          have HM5 := Aside0.mk ((HM3.out.same ((below_alloc (below_alloc (Below.refl _ _) (.map #[] 0)) (.cells #[.slice none 0 0, .bool xi, .map (some (wr.heap.size + 1 + 1 + 1))] 93)).block _ HM3.out.lt)).congr (dkey_range (wr.heap.size + 1 + 1 + 1 + 1)))
          clear HO3 HD3 HM3 HMM HT3
          go_wp2_with fail
          generalize hw5 : (((((wr.setCell ⟨lb, j, none⟩ (.iface 75 (.pointer (some ⟨wr.heap.size + 1 + 1, 0, none⟩)))).alloc (.cells #[.int .i64 1, .int .u32 xo, .bool xi, .int .i64 0, .slice Ax xd.length cx] 85)).alloc (.cells #[.string ⟨#[]⟩, .int .u32 xo, .int .i64 (j : Int)] 78)).alloc (.cells #[.string ⟨#[]⟩, .int .u32 xo, .int .i64 (j : Int)] 80)).alloc (.map #[] 0)).alloc (.cells #[.slice none 0 0, .bool xi, .map (some (wr.heap.size + 1 + 1 + 1))] 93) = w5 at HO5 HD5 HM5 ⊢
          clear hw5 hfl hcl hy0 hy1 hy2 hy3 hy4
          generalize hdn : wr.heap.size + 1 + 1 + 1 + 1 = dn at HO5 HD5 HM5 ⊢
          generalize hmn : wr.heap.size + 1 + 1 + 1 = mn at HO5 HD5 HM5 ⊢
          generalize hbn : wr.heap.size + 1 + 1 = bn at HO5 HD5 HM5 ⊢
          clear hdn hmn hbn
          obtain ⟨w7, hrun7, hO7, hD7, hM7⟩ := bu_tail (HO5.out.touch (S := fun _ => False) (Touch.refl _ _).drew (fun _ h => h.elim)) (HD5.out.touch (S := fun _ => False) (Touch.refl _ _).drew (fun _ h => h.elim)) (HM5.out.same (w' := w5.drew) rfl)
          rw [show dkey (upd di j dn) j = .pointer (some ⟨dn, 0, none⟩) by unfold dkey; rw [upd_at]] at hrun7
          have HO7 := Aside0.mk hO7
          have HD7 := Aside0.mk hD7
          have HM7 := Aside0.mk hM7
          have hck0 : w5.cell? ⟨ck, 0, none⟩ = some (.map (some om)) := (blk_cell HO5.out.ck_ 0).trans rfl
          have hlj : w5.cell? ⟨lb, j, none⟩ = some (okey (tyN nds) (upd ob j bn) j) := by rw [blk_cell HO5.out.l j, lCells_get _ _ _ _ hjr, if_pos (Nat.lt_succ_self _)]
          clear hO7 hD7 hM7 HO5 HD5 HM5
          go_still_tail 9, (by kernel_rfl)
          change wpList _ _ _ _ _ w5.drew
          refine wp_update rfl rfl rfl rfl rfl rfl hrun7 ?_
          clear hrun7 hck0 hlj
          go_wp2_with fail
          go_roundg (gk - 1)
          case measure => have := HK.out; omega
          case rel =>
            have hn64 := HN64.out
            exact ⟨j + 1, _, _, _, _, _, congrArg (Value.int .i64) (by unfold wrap64; omega), ⟨by have := HK.out; omega⟩, HO7, HD7, HM7⟩
      · have hty : tyN nds j = 94 := by unfold tyN; rw [← HX.out]; rfl
        have HT3 := Aside0.mk (show Touch (fun k => k = lb) wr ((((wr.setCell ⟨lb, j, none⟩ (.iface 94 (.pointer (some ⟨wr.heap.size + 1 + 1, 0, none⟩)))).alloc (.cells #[.int .i64 2, .int .u32 xo, .bool xi, .int .i64 xg, .slice Ax xd.length cx] 85)).alloc (.cells #[.string ⟨#[]⟩, .int .u32 xo, .int .i64 (j : Int)] 78)).alloc (.cells #[.string ⟨#[]⟩, .int .u32 xo, .int .i64 (j : Int)] 95)) from (((Touch.set_ (S := fun k => k = lb) (Touch.refl _ _) (fun _ => rfl) _).alloc _).alloc _).alloc _)
        have HO3 := Aside0.mk (show On nds w lb gm om nf ck (j + 1) (upd ob j (wr.heap.size + 1 + 1)) ((((wr.setCell ⟨lb, j, none⟩ (.iface 94 (.pointer (some ⟨wr.heap.size + 1 + 1, 0, none⟩)))).alloc (.cells #[.int .i64 2, .int .u32 xo, .bool xi, .int .i64 xg, .slice Ax xd.length cx] 85)).alloc (.cells #[.string ⟨#[]⟩, .int .u32 xo, .int .i64 (j : Int)] 78)).alloc (.cells #[.string ⟨#[]⟩, .int .u32 xo, .int .i64 (j : Int)] 95)) from HO.out.step HT3.out (by omega) (by
          refine (heap_alloc_old _ _ (by simp; omega)).trans ((heap_alloc_old _ _ (by simp; omega)).trans ((heap_alloc_old _ _ (by simp; omega)).trans ?_))
          exact blk_put HO.out.l j _ (by rw [← hty]; exact lCells_step _ _ _ _ hjr)) (by
          rw [hty, ← HX.out]
          have h := heap_alloc_new (((wr.setCell ⟨lb, j, none⟩ (.iface 94 (.pointer (some ⟨wr.heap.size + 1 + 1, 0, none⟩)))).alloc (.cells #[.int .i64 2, .int .u32 xo, .bool xi, .int .i64 xg, .slice Ax xd.length cx] 85)).alloc (.cells #[.string ⟨#[]⟩, .int .u32 xo, .int .i64 (j : Int)] 78)) (.cells #[.string ⟨#[]⟩, .int .u32 xo, .int .i64 (j : Int)] 95)
          simp only [sz_alloc, sz_set] at h
          exact h))
        have HD3 := Aside0.mk (show Dn nds w gm ck j 0 (upd ob j (wr.heap.size + 1 + 1)) di dm LG lw ((((wr.setCell ⟨lb, j, none⟩ (.iface 94 (.pointer (some ⟨wr.heap.size + 1 + 1, 0, none⟩)))).alloc (.cells #[.int .i64 2, .int .u32 xo, .bool xi, .int .i64 xg, .slice Ax xd.length cx] 85)).alloc (.cells #[.string ⟨#[]⟩, .int .u32 xo, .int .i64 (j : Int)] 78)).alloc (.cells #[.string ⟨#[]⟩, .int .u32 xo, .int .i64 (j : Int)] 95)) from (HD.out.touch (S := fun k => k = lb) HT3.out (fun k hk => by
          subst hk
          have ord := HO.out.ord
          exact ⟨by omega, fun i hi => (by obtain ⟨h1, h2, _⟩ := HD.out.dis i hi; exact ⟨by omega, by omega⟩), fun ⟨cells, hc⟩ => (by rw [HO.out.l] at hc; injection hc with hc; injection hc with _ hc _; exact absurd hc (by decide))⟩)).ob_step _)
        have HM3 := Aside0.mk (show MapL ((((wr.setCell ⟨lb, j, none⟩ (.iface 94 (.pointer (some ⟨wr.heap.size + 1 + 1, 0, none⟩)))).alloc (.cells #[.int .i64 2, .int .u32 xo, .bool xi, .int .i64 xg, .slice Ax xd.length cx] 85)).alloc (.cells #[.string ⟨#[]⟩, .int .u32 xo, .int .i64 (j : Int)] 78)).alloc (.cells #[.string ⟨#[]⟩, .int .u32 xo, .int .i64 (j : Int)] 95)) om (okey (tyN nds) (upd ob j (wr.heap.size + 1 + 1))) (dkey di) (List.range j) from (HM.out.same (HT3.out.block _ HM.out.lt (by have := HO.out.ord; omega))).congr (fun i hi => ⟨by unfold okey; rw [upd_ne _ _ (by have := List.mem_range.1 hi; omega)], rfl⟩))
        have hg0 : (rd_Nd nds j).gr = 0 := by have h1 := HG.out; have h0 := HG0.out; rw [← HX.out]; simp only at h1 h0 ⊢; exact Classical.byContradiction fun hne => absurd (h1 (by omega)).1 (by decide)
        have HO5 := Aside0.mk ((HO3.out.touch (S := fun _ => False) (((Touch.refl _ _).alloc (.map #[] 0)).alloc (.cells #[.slice none 0 0, .bool xi, .map (some (wr.heap.size + 1 + 1 + 1))] 93)) (fun _ h => h.elim)))
        have HMM := Aside0.mk (MapL.same (w' := (((((wr.setCell ⟨lb, j, none⟩ (.iface 94 (.pointer (some ⟨wr.heap.size + 1 + 1, 0, none⟩)))).alloc (.cells #[.int .i64 2, .int .u32 xo, .bool xi, .int .i64 xg, .slice Ax xd.length cx] 85)).alloc (.cells #[.string ⟨#[]⟩, .int .u32 xo, .int .i64 (j : Int)] 78)).alloc (.cells #[.string ⟨#[]⟩, .int .u32 xo, .int .i64 (j : Int)] 95)).alloc (.map #[] 0)).alloc (.cells #[.slice none 0 0, .bool xi, .map (some (wr.heap.size + 1 + 1 + 1))] 93)) (mapL_new ((((wr.setCell ⟨lb, j, none⟩ (.iface 94 (.pointer (some ⟨wr.heap.size + 1 + 1, 0, none⟩)))).alloc (.cells #[.int .i64 2, .int .u32 xo, .bool xi, .int .i64 xg, .slice Ax xd.length cx] 85)).alloc (.cells #[.string ⟨#[]⟩, .int .u32 xo, .int .i64 (j : Int)] 78)).alloc (.cells #[.string ⟨#[]⟩, .int .u32 xo, .int .i64 (j : Int)] 95)) (okey (tyN nds) (upd ob j (wr.heap.size + 1 + 1))) yes) (heap_alloc_old _ _ (by simp)))
        have HD5 := Aside0.mk (HD3.out.fresh (b := xi) (y := 0) (m := wr.heap.size + 1 + 1 + 1) (d := wr.heap.size + 1 + 1 + 1 + 1) (below_alloc (below_alloc (Below.refl _ _) (.map #[] 0)) (.cells #[.slice none 0 0, .bool xi, .map (some (wr.heap.size + 1 + 1 + 1))] 93)) (by simp) (by simp) (by have := HCKL.out; simp; omega) (by
          have h := heap_alloc_new (((((wr.setCell ⟨lb, j, none⟩ (.iface 94 (.pointer (some ⟨wr.heap.size + 1 + 1, 0, none⟩)))).alloc (.cells #[.int .i64 2, .int .u32 xo, .bool xi, .int .i64 xg, .slice Ax xd.length cx] 85)).alloc (.cells #[.string ⟨#[]⟩, .int .u32 xo, .int .i64 (j : Int)] 78)).alloc (.cells #[.string ⟨#[]⟩, .int .u32 xo, .int .i64 (j : Int)] 95)).alloc (.map #[] 0)) (.cells #[.slice none 0 0, .bool xi, .map (some (wr.heap.size + 1 + 1 + 1))] 93)
          simp only [sz_alloc, sz_set] at h
          exact h) (.inl (by rw [← HX.out])) (by have h := HMM.out; simp only [sz_alloc, sz_set] at h; exact h) (fun i hi h => by omega) (LG' := LG) ((HD3.out.gm_.same ((below_alloc (below_alloc (Below.refl _ _) _) _).block _ HD3.out.gm_.lt)).congr (dkey_congr (fun r hr => upd_ne _ _ (by have := (HD3.out.rep r hr).1; omega)))) (fun r hr => .inl hr) (fun r hr => hr) (fun h => by omega))
        have HM5 := Aside0.mk ((HM3.out.same ((below_alloc (below_alloc (Below.refl _ _) (.map #[] 0)) (.cells #[.slice none 0 0, .bool xi, .map (some (wr.heap.size + 1 + 1 + 1))] 93)).block _ HM3.out.lt)).congr (dkey_range (wr.heap.size + 1 + 1 + 1 + 1)))
        clear HO3 HD3 HM3 HMM HT3
        go_wp2_with fail
        generalize hw5 : (((((wr.setCell ⟨lb, j, none⟩ (.iface 94 (.pointer (some ⟨wr.heap.size + 1 + 1, 0, none⟩)))).alloc (.cells #[.int .i64 2, .int .u32 xo, .bool xi, .int .i64 xg, .slice Ax xd.length cx] 85)).alloc (.cells #[.string ⟨#[]⟩, .int .u32 xo, .int .i64 (j : Int)] 78)).alloc (.cells #[.string ⟨#[]⟩, .int .u32 xo, .int .i64 (j : Int)] 95)).alloc (.map #[] 0)).alloc (.cells #[.slice none 0 0, .bool xi, .map (some (wr.heap.size + 1 + 1 + 1))] 93) = w5 at HO5 HD5 HM5 ⊢
        clear hw5 hfl hcl hy0 hy1 hy2 hy3 hy4
        generalize hdn : wr.heap.size + 1 + 1 + 1 + 1 = dn at HO5 HD5 HM5 ⊢
        generalize hmn : wr.heap.size + 1 + 1 + 1 = mn at HO5 HD5 HM5 ⊢
        generalize hbn : wr.heap.size + 1 + 1 = bn at HO5 HD5 HM5 ⊢
        clear hdn hmn hbn
        obtain ⟨w7, hrun7, hO7, hD7, hM7⟩ := bu_tail (HO5.out.touch (S := fun _ => False) (Touch.refl _ _).drew (fun _ h => h.elim)) (HD5.out.touch (S := fun _ => False) (Touch.refl _ _).drew (fun _ h => h.elim)) (HM5.out.same (w' := w5.drew) rfl)
        rw [show dkey (upd di j dn) j = .pointer (some ⟨dn, 0, none⟩) by unfold dkey; rw [upd_at]] at hrun7
        have HO7 := Aside0.mk hO7
        have HD7 := Aside0.mk hD7
        have HM7 := Aside0.mk hM7
        have hck0 : w5.cell? ⟨ck, 0, none⟩ = some (.map (some om)) := (blk_cell HO5.out.ck_ 0).trans rfl
        have hlj : w5.cell? ⟨lb, j, none⟩ = some (okey (tyN nds) (upd ob j bn) j) := by rw [blk_cell HO5.out.l j, lCells_get _ _ _ _ hjr, if_pos (Nat.lt_succ_self _)]
        clear hO7 hD7 hM7 HO5 HD5 HM5
        go_still_tail 9, (by kernel_rfl)
        change wpList _ _ _ _ _ w5.drew
        refine wp_update rfl rfl rfl rfl rfl rfl hrun7 ?_
        clear hrun7 hck0 hlj
        go_wp2_with fail
        go_roundg (gk - 1)
        case measure => have := HK.out; omega
        case rel =>
          have hn64 := HN64.out
          exact ⟨j + 1, _, _, _, _, _, congrArg (Value.int .i64) (by unfold wrap64; omega), ⟨by have := HK.out; omega⟩, HO7, HD7, HM7⟩
    · have hcj := decide_eq_false cj
      have hcjn : decide (j < nds.length) = false := decide_eq_false (by omega)
      have hjn : j = nds.length := by have := HK.out; omega
      clear cj
      subst hjn
      have HGRP := Aside0.mk HD.out.grp
      have HDD := Aside0.mk (Dd.of_Dn HD.out)
      have HRNG := Aside0.mk (show w.heap.size ≤ lb ∧ w.heap.size ≤ om by have := HO.out.ord; omega)
      clear HD HK
      go_wp2_with fail
      go_loopg [111] nds.length (fun kq v111 w' => ∃ (i : Nat) (DL : Nat → List Nat), v111 = .int .i64 (i : Int) ∧ Aside0 (kq + i = nds.length) ∧ Aside0 (On nds w lb gm om nf ck nds.length ob w') ∧ Aside0 (Dd nds w ck ob di dm DL w') ∧ Aside0 (MapL w' om (okey (tyN nds) ob) (dkey di) (List.range nds.length)) ∧ Aside0 (SpecD nds dm i DL))
      case atStart => exact ⟨0, fun _ => [], rfl, ⟨by omega⟩, HO, HDD, HM, ⟨fun j hj k => ⟨fun h => (by cases h), fun ⟨j', h, _⟩ => by omega⟩⟩⟩
      case round =>
        clear HO HDD HM
        obtain ⟨i, DL, rfl, HK, HO, HDD, HM, HSP⟩ := hrel
        by_cases ci : (i : Int) < (nds.length : Int)
        · have hir : i < nds.length := by omega
          have hci := decide_eq_true ci
          have hcin : decide (i < nds.length) = true := decide_eq_true hir
          have hi0 : (0 : Int) ≤ (i : Int) := by omega
          obtain ⟨ad, Ax, cx, e, hy0, hy1, hy2, hy3, hy4, hlo, hCo⟩ := at_Nd HR0.out i hir
          subst e
          have hb := HO.out.below
          replace hy0 := (hb.cell (World.block_lt_of_cell? w _ hy0)).trans hy0
          replace hy1 := (hb.cell (World.block_lt_of_cell? w _ hy1)).trans hy1
          replace hy2 := (hb.cell (World.block_lt_of_cell? w _ hy2)).trans hy2
          replace hy3 := (hb.cell (World.block_lt_of_cell? w _ hy3)).trans hy3
          replace hy4 := (hb.cell (World.block_lt_of_cell? w _ hy4)).trans hy4
          have HCI := Aside0.mk hCo
          clear hb hlo hCo
          have HN64 := Aside0.mk (show (i : Int) + 1 ≤ 9223372036854775807 by have := HL.out; omega)
          have HDPL := Aside0.mk (HP.out.dl (rd_Nd nds i) (rdNd_mem hir))
          have HDPR := Aside0.mk (HP.out.dp (rd_Nd nds i) (rdNd_mem hir))
          obtain ⟨X, hX⟩ : ∃ X, X = rd_Nd nds i := ⟨_, rfl⟩
          rw [← hX] at hy0 hy1 hy2 hy3 hy4 HCI HDPL HDPR
          obtain ⟨xk, xo, xi, xg, xd⟩ := X
          have HX := Aside0.mk hX
          clear hX ci
          simp only at hy0 hy1 hy2 hy3 hy4
          go_wp2_with fail
          have HO2 := Aside0.mk (HO.out.touch (S := fun _ => False) ((Touch.refl _ _).alloc (.cells #[.int .i64 xk, .int .u32 xo, .bool xi, .int .i64 xg, .slice Ax xd.length cx] 85)) (fun _ h => h.elim))
          have hTa : Touch (fun _ => False) wr (wr.alloc (.cells #[.int .i64 xk, .int .u32 xo, .bool xi, .int .i64 xg, .slice Ax xd.length cx] 85)) := (Touch.refl _ _).alloc _
          have HM2 := Aside0.mk (HM.out.same (hTa.block _ HM.out.lt (fun h => h)))
          have HDD2 := Aside0.mk (show Dd nds w ck ob di dm DL (wr.alloc (.cells #[.int .i64 xk, .int .u32 xo, .bool xi, .int .i64 xg, .slice Ax xd.length cx] 85)) from ⟨fun j hj => (by
            obtain ⟨q1, q2, lv, ms, q3, q4, q5⟩ := HDD.out.dec j hj
            exact ⟨q1, q2, lv, ms, hTa.blk q3 (fun h => h), R_touch q4 rfl hTa (fun _ h => h.elim), q5⟩), fun j hj => (HDD.out.dep j hj).same (hTa.block _ (HDD.out.dep j hj).lt (fun h => h)), HDD.out.depn, HDD.out.same⟩)
          clear HO HDD HM hTa hy0 hy1 hy2 hy3 hy4
          generalize hwq : wr.alloc (.cells #[.int .i64 xk, .int .u32 xo, .bool xi, .int .i64 xg, .slice Ax xd.length cx] 85) = wq at HO2 HDD2 HM2 ⊢
          clear hwq
          obtain ⟨n1, rfl⟩ : ∃ n1, n1 = gk := ⟨_, rfl⟩
          obtain ⟨wp, rfl⟩ : ∃ wp, wp = wr := ⟨_, rfl⟩
          go_loopg [119] xd.length (fun kq v119 w' => ∃ (q : Nat) (DL : Nat → List Nat), v119 = .int .i64 (q : Int) ∧ Aside0 (kq + q = xd.length) ∧ Aside0 (On nds w lb gm om nf ck nds.length ob w') ∧ Aside0 (Dd nds w ck ob di dm DL w') ∧ Aside0 (MapL w' om (okey (tyN nds) ob) (dkey di) (List.range nds.length)) ∧ Aside0 (SpecI nds dm i q DL))
          case atStart => exact ⟨0, DL, rfl, ⟨by omega⟩, HO2, HDD2, HM2, ⟨HSP.out.toI⟩⟩
          case round =>
            clear HO2 HDD2 HM2
            obtain ⟨q, DL2, rfl, HKQ, HO2, HDD2, HM2, HSI⟩ := hrel
            by_cases cq : (q : Int) < (xd.length : Int)
            · have hqr : q < xd.length := by omega
              have hcq := decide_eq_true cq
              have hcqn : decide (q < xd.length) = true := decide_eq_true hqr
              have hq0 : (0 : Int) ≤ (q : Int) := by omega
              obtain ⟨ax, eax, hxq⟩ := Kd.at_int HCI.out (q : Int) hq0 cq
              subst eax
              replace hxq := (HO2.out.below.cell (World.block_lt_of_cell? w _ hxq)).trans hxq
              rw [Int.toNat_natCast] at hxq
              have hmem : rd xd (q : Int) ∈ xd := by
                unfold rd; rw [Int.toNat_natCast, List.getD_eq_getElem?_getD, List.getElem?_eq_getElem hqr]; exact List.getElem_mem hqr
              have hrr := HDPR.out _ hmem
              obtain ⟨t, ht⟩ := Int.eq_ofNat_of_zero_le hrr.1
              rw [ht] at hxq hrr
              have HTT := Aside0.mk ht
              have htr : t < nds.length := by omega
              have htri : (t : Int) < (nds.length : Int) := hrr.2
              have ht0 : (0 : Int) ≤ (t : Int) := hrr.1
              clear hmem hrr ht cq
              obtain ⟨w7, hrun7, hO7, hD7, hM7⟩ := Dd.put (w := wr.drew) (HO2.out.touch (S := fun _ => False) (Touch.refl _ _).drew (fun _ h => h.elim)) (show Dd nds w ck ob di dm DL2 wr.drew from ⟨fun j hj => (by
                obtain ⟨q1, q2, lv, ms, q3, q4, q5⟩ := HDD2.out.dec j hj
                exact ⟨q1, q2, lv, ms, q3, R_touch q4 rfl (S := fun _ => False) (Touch.refl _ _).drew (fun _ h => h.elim), q5⟩), fun j hj => (HDD2.out.dep j hj).same rfl, HDD2.out.depn, HDD2.out.same⟩) (HM2.out.same (w' := wr.drew) rfl) hir htr
              have HO7 := Aside0.mk hO7
              have HD7 := Aside0.mk hD7
              have HM7 := Aside0.mk hM7
              have HRUN7 := Aside0.mk hrun7
              obtain ⟨_, _, lv, ms, hdc, _⟩ := HDD2.out.dec i hir
              have hck0 : wr.cell? ⟨ck, 0, none⟩ = some (.map (some om)) := (blk_cell HO2.out.ck_ 0).trans rfl
              have hli : wr.cell? ⟨lb, i, none⟩ = some (okey (tyN nds) ob i) := by rw [blk_cell HO2.out.l i, lCells_get _ _ _ _ hir, if_pos hir]
              have hlt : wr.cell? ⟨lb, t, none⟩ = some (okey (tyN nds) ob t) := by rw [blk_cell HO2.out.l t, lCells_get _ _ _ _ htr, if_pos htr]
              have hlook := look_obj (w := wr.drew) (HO2.out.touch (S := fun _ => False) (Touch.refl _ _).drew (fun _ h => h.elim)) (HM2.out.same (w' := wr.drew) rfl) hir
              have hdc2 : wr.cell? ⟨di i, 2, none⟩ = some (.map (some (dm i))) := (blk_cell hdc 2).trans rfl
              unfold okey at hli hlook hlt
              unfold dkey at hlook
              clear hO7 hD7 hM7 hrun7 hdc
              go_wp2_with fail
              go_still_tail 16, (by kernel_rfl)
              change wpList _ _ _ _ _ wr.drew
              refine wp_update rfl rfl rfl rfl rfl rfl HRUN7.out ?_
              clear HRUN7 hck0 hli hlt hlook hdc2 hxq
              go_wp2_with fail
              go_roundg (gk - 1)
              case measure => have := HKQ.out; omega
              case rel =>
                exact ⟨q + 1, _, congrArg (Value.int .i64) (by have h0 := HDPL.out; have h1 : xd.length ≤ 2147483647 := h0; unfold wrap64; omega), ⟨by have := HKQ.out; omega⟩, HO7, HD7, HM7, ⟨HSI.out.step (by rw [← HX.out]; exact hqr) t (by rw [← HX.out]; exact HTT.out.symm)⟩⟩
            · have hcq := decide_eq_false cq
              have hcqn : decide (q < xd.length) = false := decide_eq_false (by omega)
              have HQE := Aside0.mk (show q = xd.length by have := HKQ.out; omega)
              clear cq
              go_wp2_with fail
              go_roundg (n1 - 1)
              case measure => have := HK.out; omega
              case rel =>
                have hn64 := HN64.out
                exact ⟨i + 1, DL2, congrArg (Value.int .i64) (by unfold wrap64; omega), ⟨by have := HK.out; omega⟩, HO2, HDD2, HM2, ⟨HSI.out.toD (by rw [← HX.out]; exact HQE.out)⟩⟩
        · have hci := decide_eq_false ci
          have hcin : decide (i < nds.length) = false := decide_eq_false (by omega)
          have HIE := Aside0.mk (show i = nds.length by have := HK.out; omega)
          clear ci
          go_wp2_with fail
          go_ret2
          refine ⟨lb, om, nf, ck, ob, di, dm, fun j => DL (dm j), rfl, Built.of HO.out HDD.out HM.out (fun _ _ => rfl), HRNG.out.1, HRNG.out.2, HO.out.nf_, HO.out.ck_, HO.out.below, fun j hj k => ?_⟩
          have hsp := HSP.out
          rw [HIE.out] at hsp
          show k ∈ DL (dm j) ↔ _
          rw [hsp j hj k]
          constructor
          · rintro ⟨j', h1, h2, h3⟩
            refine ⟨j', h1, ?_, h3⟩
            rcases HDD.out.same j' j h1 hj (.inr h2) with h | ⟨h, h'⟩
            · exact .inl h
            · exact .inr ⟨h, by rw [← h]; exact h'⟩
          · rintro ⟨j', h1, h2, h3⟩
            refine ⟨j', h1, ?_, h3⟩
            rcases h2 with h | ⟨h, h'⟩
            · rw [h]
            · exact (HGRP.out j' j h1 hj h (by rw [h]; exact h')).2

end Go.Proofs.YtgaadjgfjiljjaaGreat
