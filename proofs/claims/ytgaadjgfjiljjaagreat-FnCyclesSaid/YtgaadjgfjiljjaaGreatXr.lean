/- InitOrder (30): the walk. Conditions: nodes such as NdsOk says. -/
import Derived.Test.YtgaadjgfjiljjaaGreatXq
namespace Go.Proofs.YtgaadjgfjiljjaaGreat
open Go.RowKit Go.Proofs.YtgaadjgfjiljjaaGreatW.PrintWords Go.Proofs.YtgaadjgfjiljjaaGreatW.PrintLast Go.Proofs.YtgaadjgfjiljjaaGreatW.PrintMore
open Go.ChangeMaps (setBlock)
set_option linter.unusedVariables false
set_option linter.unusedSimpArgs false

/-- The cells of a row of one-cell elements. -/
theorem rowc {α : Type} {e : Nat} {w : World} {b : Nat} {ok : Nat → Prop} {A : Option Addr} {L c : Nat} {D : List α} {f : α → Value} (d0 : α) (hR : (Kd.raw 1).R e w b ok (.slice A L c) (D.map fun k => [f k])) :
    L = D.length ∧ ∀ i, i < D.length → ∃ g, A = some ⟨g, 0, none⟩ ∧ w.cell? ⟨g, i, none⟩ = some (f (D.getD i d0)) := by
  have hL := (Kd.R_reads' hR).1
  rw [List.length_map] at hL
  subst hL
  refine ⟨rfl, fun t ht => ?_⟩
  obtain ⟨g, cap, hv, hg, hlt, cel, hcel⟩ := Kd.R_form hR (by rw [List.length_map]; omega)
  rw [List.length_map] at hv
  injection hv with hA _ hc
  subst hA; subst hc
  obtain ⟨c, hcl, hM, hcc, hfr⟩ := Kd.R_elem hR [] (t : Int) (by omega) (by omega)
  have hx : c = [f (D.getD t d0)] := by
    have h := hM.1
    rw [Int.toNat_natCast, List.getD_eq_getElem?_getD, List.getElem?_map, List.getElem?_eq_getElem ht] at h
    rw [h, List.getD_eq_getElem?_getD, List.getElem?_eq_getElem ht]; rfl
  have h1 := hcc 0 _ (by rw [hx]; rfl)
  rw [Int.toNat_natCast, show t * (Kd.raw 1).sz + 0 = t from by show t * 1 + 0 = t; omega] at h1
  exact ⟨g, rfl, h1⟩

def nat2 (l : List (List Nat)) : List (List Int) := l.map fun o => o.map Int.ofNat

/-- What is plain of what InitOrder answers. -/
structure IOk (nds : List Nd) (outs cys : List (List Nat)) (DJ : Nat → List Nat) (pops : List Nat) (SL : Nat → List Nat) (gl : List Nat) : Prop where
  dj : DJSpec nds DJ
  pu : ∃ (di : Nat → Nat) (E : List Nat), Pu nds di DJ SL gl pops [] outs cys E
  two : Two nds SL gl pops []
  gl_ : (∀ i, i ∈ gl ↔ (i < nds.length ∧ tyN nds i ≠ 94)) ∧ gl.Nodup
  gi : ∃ PL : Nat → List Nat, GI nds.length (fun i k => k ∈ DJ i) (fun x => x < nds.length ∧ tyN nds x = 94) PL SL

def InitPost (nds : List Nd) (w : World) (e : Ending) (w' : World) : Prop := ∃ (v1 v2 : Value) (outs cys : List (List Nat)) (DJ : Nat → List Nat) (pops : List Nat) (SL : Nat → List Nat) (gl : List Nat), e = .returned (.tuple #[v1, v2]) ∧
  (Kd.slice 3 (Kd.int .i64)).R 28 w' w.heap.size (fun _ => True) v1 (nat2 outs) ∧ (Kd.slice 3 (Kd.int .i64)).R 28 w' w.heap.size (fun _ => True) v2 (nat2 cys) ∧ Below w.heap.size w w' ∧ IOk nds outs cys DJ pops SL gl

set_option maxHeartbeats 8000000 in
set_option maxRecDepth 100000 in
theorem InitOrder_of {nds : List Nd} (hp : NdsOk nds) (A0 : Option Addr) (c0 : Nat) (w : World) (hr0 : Kd.C kNd w A0 nds.length nds) (hc0 : nds.length ≤ c0) :
    Calls Tryz.prog 30 #[.slice A0 nds.length c0] w (InitPost nds w) := by
  have HP := Aside0.mk hp
  have HR0 := Aside0.mk hr0
  have HC0 := Aside0.mk hc0
  have hu80 := Tryz.underlying80
  have hu78 := Tryz.underlying78
  have hu74 := Tryz.underlying74
  clear hp hr0 hc0
  go_enter Tryz.func30, Tryz.ntmps30
  go_wp2_with fail
  refine (build_of HP.out _ _ _ HR0.out HC0.out).mono ?_
  rintro e w1 ⟨lb, om, nf, ck, ob, di, dm, DJ, rfl, hBu, hlb, hom, hnf, hck, hBl, hspec⟩
  have HBU := Aside0.mk hBu
  have HBL := Aside0.mk hBl
  have HNF := Aside0.mk hnf
  have HLB := Aside0.mk hlb
  have HCK := Aside0.mk hck
  have HSPEC := Aside0.mk (show DJSpec nds DJ from hspec)
  clear hBu hlb hom hnf hck hBl hspec
  go_wp2_with fail
  refine (initOrder_of HBU.out HP.out.len HBL.out.size HNF.out HCK.out).mono ?_
  rintro e w2 ⟨outs, cys, sv, cv, gl, pops, PL, SL, E, G0, rfl, hBu2, hnf2, hck2, hO, hbG, hGw, hT, hPu, hTw, hgl, hgn, hGI⟩
  have HOK := Aside0.mk (show IOk nds outs cys DJ pops SL gl from ⟨HSPEC.out, ⟨di, E, hPu⟩, hTw, ⟨hgl, hgn⟩, ⟨PL, hGI⟩⟩)
  have HB2 := Aside0.mk hBu2
  have HBL2 := Aside0.mk (show Below w.heap.size w w2 from Touch.below_of (S := fun k => k = nf ∨ k = ck) HBL.out hT (fun k hk h => by have h1 := HBU.out.lt; have h2 := HLB.out; omega))
  have HPL := Aside0.mk (show outs.length ≤ 4096 ∧ cys.length ≤ 4096 ∧ (∀ o ∈ outs, o.length ≤ 4096 ∧ ∀ m ∈ o, m < nds.length) ∧ (∀ c ∈ cys, c.length ≤ 4096 ∧ ∀ m ∈ c, m < nds.length) by
    have h1 := hPu.pm.length_eq
    have h2 := nodup_lt_length _ _ hgn (fun i hi => ((hgl i).1 hi).1)
    have h3 := HP.out.len
    have h4 := hPu.ol
    simp at h1
    refine ⟨by omega, by omega, fun o ho => ⟨by have := (hPu.oo o ho).1; omega, (hPu.oo o ho).2⟩, fun c hc => ?_⟩
    obtain ⟨x, _, _, h5, h6, _⟩ := hPu.cyc c hc
    exact ⟨by omega, h5⟩)
  obtain ⟨ips, hil, hiR, hiE⟩ := hO.s_
  obtain ⟨cvs, hcl, hcR, hcE⟩ := hO.c_
  obtain ⟨As, cs, hsv, _, _⟩ := Kd.R_reads hiR
  obtain ⟨Ac, cc, hcv, _, _⟩ := Kd.R_reads hcR
  rw [List.length_map] at hsv hcv
  subst hsv hcv
  have HIC := Aside0.mk (rowc 0 hiR).2
  have HIE := Aside0.mk (And.intro hil hiE)
  have HCC := Aside0.mk (rowc Value.nilIface hcR).2
  have HCE := Aside0.mk (And.intro hcl hcE)
  have ck1 : w2.cell? ⟨ck, 1, none⟩ = some (.pointer (some ⟨nf, 0, none⟩)) := (blk_cell hck2 1).trans rfl
  have HCK2 := Aside0.mk (show w2.cell? ⟨ck, 2, none⟩ = some (.slice Ac cvs.length cc) from (blk_cell hck2 2).trans rfl)
  have nf0 : w2.cell? ⟨nf, 0, none⟩ = some (.slice As ips.length cs) := (blk_cell hnf2 0).trans rfl
  clear hBu2 hnf2 hck2 hO hbG hGw hT hPu hTw hgl hgn hGI hil hiR hiE hcl hcR hcE
  go_wp2_with fail
  clear ck1 nf0
  go_loopg [2, 31] outs.length (fun kq v2 v31 w' => ∃ (i : Nat), v31 = .int .i64 (i : Int) ∧ Aside0 (kq + i = outs.length) ∧ Aside0 (Below w2.heap.size w2 w') ∧ Aside0 ((Kd.slice 3 (Kd.int .i64)).R 28 w' w2.heap.size (fun _ => True) v2 (nat2 (outs.take i))))
  case atStart => exact ⟨0, rfl, ⟨by omega⟩, ⟨Below.refl _ _⟩, ⟨Kd.R_nil _ _ _ _ _⟩⟩
  case round =>
    obtain ⟨i, rfl, HK, HB, HR⟩ := hrel
    have HBW := Aside0.mk (show Below w2.heap.size w2 wr from HB.out)
    by_cases ci : (i : Int) < (ips.length : Int)
    · have hci := decide_eq_true ci
      have hir : i < outs.length := by have := HIE.out.1; omega
      have hirn : i < ips.length := by omega
      have hcin : decide (i < ips.length) = true := decide_eq_true (by omega)
      have hi0 : (0 : Int) ≤ (i : Int) := by omega
      obtain ⟨g, hA, hcg⟩ := HIC.out i (by omega)
      subst hA
      obtain ⟨lv, hlv, hlR⟩ := HIE.out.2 i hir
      obtain ⟨o, ho⟩ : ∃ o, o = outs.getD i [] := ⟨_, rfl⟩
      rw [← ho] at hlR
      obtain ⟨A3, c3, hv3, _, _⟩ := Kd.R_reads hlR
      rw [List.length_map] at hv3
      subst hv3
      have HOC := Aside0.mk (rowc 0 hlR).2
      obtain ⟨ip, hip⟩ : ∃ ip, ip = ips.getD i 0 := ⟨_, rfl⟩
      rw [← hip] at hcg hlv
      have hcg' : wr.cell? ⟨g, i, none⟩ = some (.pointer (some ⟨ip, 0, none⟩)) := (HBW.out.cell (World.block_lt_of_cell? _ _ hcg)).trans hcg
      have hcl' : wr.cell? ⟨ip, 0, none⟩ = some (.slice A3 o.length c3) := (HBW.out.cell (blk_lt hlv)).trans ((blk_cell hlv 0).trans rfl)
      have hom : o ∈ outs := by rw [ho, List.getD_eq_getElem?_getD, List.getElem?_eq_getElem hir]; exact List.getElem_mem hir
      have HOM := Aside0.mk (HPL.out.2.2.1 o hom)
      have HTK := Aside0.mk (show nat2 (outs.take (i + 1)) = nat2 (outs.take i) ++ [o.map Int.ofNat] by
        unfold nat2
        rw [List.take_add_one, List.getElem?_eq_getElem hir, show outs[i] = o by rw [ho, List.getD_eq_getElem?_getD, List.getElem?_eq_getElem hir]; rfl, List.map_append]; rfl)
      have HIR := Aside0.mk hir
      have HTL := Aside0.mk (show ((nat2 (outs.take i)).length + 1) * 24 ≤ 140737488355328 by
        have h1 := HPL.out
        unfold nat2
        rw [List.length_map, List.length_take]; omega)
      clear ho hlR hcg hom ci hip hlv
      go_wp2_with fail
      clear hcg' hcl'
      obtain ⟨n1, rfl⟩ : ∃ n1, n1 = gk := ⟨_, rfl⟩
      obtain ⟨wb, rfl⟩ : ∃ wb, wb = wr := ⟨_, rfl⟩
      go_loopg [8, 40] o.length (fun kq v8 v40 w' => ∃ (j : Nat), v40 = .int .i64 (j : Int) ∧ Aside0 (kq + j = o.length) ∧ Aside0 (Below wb.heap.size wb w') ∧ Aside0 ((Kd.int .i64).R 3 w' wb.heap.size (fun _ => True) v8 ((o.take j).map Int.ofNat)))
      case atStart => exact ⟨0, rfl, ⟨by omega⟩, ⟨Below.refl _ _⟩, ⟨Kd.R_nil _ _ _ _ _⟩⟩
      case round =>
        obtain ⟨j, rfl, HKJ, HBJ, HRJ⟩ := hrel
        have HBJ2 := Aside0.mk (show Below w2.heap.size w2 wr from below_step HBW.out HBJ.out)
        by_cases cj : (j : Int) < (o.length : Int)
        · have hcj := decide_eq_true cj
          have hjr : j < o.length := by omega
          have hcjn : decide (j < o.length) = true := decide_eq_true hjr
          have hj0 : (0 : Int) ≤ (j : Int) := by omega
          obtain ⟨g3, hA3, hcg3⟩ := HOC.out j hjr
          subst hA3
          obtain ⟨d, hd⟩ : ∃ d, d = o.getD j 0 := ⟨_, rfl⟩
          rw [← hd] at hcg3
          have hdo : o[j]'hjr = d := by rw [hd, List.getD_eq_getElem?_getD, List.getElem?_eq_getElem hjr]; rfl
          have hdn : d < nds.length := HOM.out.2 d (by rw [← hdo]; exact List.getElem_mem hjr)
          have hob := (HB2.out.obj d hdn).2.2
          have hcg3' : wr.cell? ⟨g3, j, none⟩ = some (pkey ob d) := (HBJ2.out.cell (World.block_lt_of_cell? _ _ hcg3)).trans hcg3
          have hnum : wr.cell? ⟨ob d, 2, none⟩ = some (.int .i64 (d : Int)) := (HBJ2.out.cell (blk_lt hob)).trans ((blk_cell hob 2).trans rfl)
          unfold pkey at hcg3'
          have HTJ := Aside0.mk (show (o.take (j + 1)).map Int.ofNat = (o.take j).map Int.ofNat ++ [(d : Int)] by rw [List.take_add_one, List.getElem?_eq_getElem hjr, hdo, List.map_append]; rfl)
          have HTJL := Aside0.mk (show ((o.take j).map Int.ofNat).length ≤ 4096 by simp; have := HOM.out.1; omega)
          have HNUM := Aside0.mk hnum
          clear hd hdo hdn hob hcg3 cj
          obtain ⟨Av, cvv, hvj, _, _⟩ := Kd.R_reads HRJ.out
          subst hvj
          have HRL := Aside0.mk (show ((o.take j).map Int.ofNat).length = j by rw [List.length_map, List.length_take]; omega)
          go_wp2_with ((with_reducible refine gate_builtin (b := .append) (xs := #[.tmp 44, .tmp 50]) rfl ?_); at_builtin; refine Kd.R_append (Kd.int .i64) (W := wr) (w0 := wr) wb.heap.size rfl (.tmp 44) (.tmp 50) 28 3 (.int .i64 0) 8 rfl Tryz.underlying28 info3 rfl (by decide) (by omega) (.slice Av ((o.take j).map Int.ofNat).length cvv) ((o.take j).map Int.ofNat) (d : Int) [.int .i64 (d : Int)] (fun _ => True) (fun _ => False) (by first | rfl | (simp; done) | (simp; rfl)) (by first | rfl | (simp; done) | (simp; rfl)) ?aP (fun _ hk => hk.elim) (fun _ _ => trivial) ?aO ?aB ?aS ?aL ?_; (case aP => exact rfl); (case aO => exact HRJ.out); (case aB => exact Below.refl _ _); (case aS => exact HBJ.out.size); (case aL => have := HTJL.out; omega); intro v99 w5 ho5 hb5 hg5 hat5; have HR5 := Aside0.mk ho5; have HB5 := Aside0.mk (show Below wb.heap.size wb w5 from Touch.below_of HBJ.out (Touch.of_grown hg5) (fun k hk h => by have := Kd.R_base HRJ.out k h; omega)); clear ho5 hb5 hg5 hat5)
          go_roundg (gk - 1)
          case measure => have := HKJ.out; omega
          case rel => exact ⟨j + 1, congrArg (Value.int .i64) (by have := HOM.out.1; unfold wrap64; omega), ⟨by have := HKJ.out; omega⟩, HB5, ⟨by rw [HTJ.out]; exact HR5.out⟩⟩
        · have hcj := decide_eq_false cj
          have hcjn : decide (j < o.length) = false := decide_eq_false (by omega)
          have hjp : j = o.length := by have := HKJ.out; omega
          have hRF := HRJ.out
          rw [hjp, List.take_length] at hRF
          have HRF := Aside0.mk (show (Kd.int .i64).R 3 wr w2.heap.size (fun k => wb.heap.size ≤ k) u8 (o.map Int.ofNat) from Kd.R_lower (Kd.R_mono (Kd.R_bound hRF) (fun k hk => hk.2.1)) HB.out.size)
          have HRO := Aside0.mk (show (Kd.slice 3 (Kd.int .i64)).R 28 wr w2.heap.size (fun _ => True) u2 (nat2 (outs.take i)) from Kd.R_below HR.out HBJ.out)
          have HROL := Aside0.mk (show ∀ k, wb.heap.size ≤ k → some k ≠ (u2).ownBlock from fun k hk e => by have := Kd.R_lt HR.out k e.symm; omega)
          obtain ⟨Ai, ci, hvi, _, _⟩ := Kd.R_reads hRF
          rw [List.length_map] at hvi
          obtain ⟨Ao, co, hvo, _, _⟩ := Kd.R_reads HR.out
          have HVI := Aside0.mk hvi
          have HVO := Aside0.mk hvo
          subst hvi hvo
          clear cj hjp hRF
          go_wp2_with ((with_reducible refine gate_builtin (b := .append) (xs := #[.tmp 53, .tmp 55]) rfl ?_); at_builtin; refine Kd.R_append (Kd.slice 3 (Kd.int .i64)) (W := wr) (w0 := wr) w2.heap.size rfl (.tmp 53) (.tmp 55) 36 28 (.slice none 0 0) 24 rfl Tryz.underlying36 info28 rfl (by decide) (by omega) (.slice Ao (nat2 (outs.take i)).length co) (nat2 (outs.take i)) (o.map Int.ofNat) [.slice Ai o.length ci] (fun _ => True) (fun k => wb.heap.size ≤ k) (by first | rfl | (simp; done) | (simp; rfl)) (by first | rfl | (simp; done) | (simp; rfl)) ?aP (fun k hk => ⟨trivial, HROL.out k hk⟩) (fun _ _ => trivial) ?aO ?aB ?aS ?aL ?_; (case aP => exact ⟨_, rfl, HRF.out⟩); (case aO => exact HRO.out); (case aB => exact Below.refl _ _); (case aS => exact Nat.le_trans HB.out.size HBJ.out.size); (case aL => exact HTL.out); intro v99 w5 ho5 hb5 hg5 hat5; have HR5 := Aside0.mk ho5; have HB5 := Aside0.mk (show Below w2.heap.size w2 w5 from Touch.below_of (below_step HB.out HBJ.out) (Touch.of_grown hg5) (fun k hk h => by have := Kd.R_base HRO.out k h; omega)); clear ho5 hb5 hg5 hat5)
          go_roundg (n1 - 1)
          case measure => have := HK.out; have := HIR.out; omega
          case rel => exact ⟨i + 1, congrArg (Value.int .i64) (by have := HIR.out; have := HPL.out; unfold wrap64; omega), ⟨by have := HK.out; have := HIR.out; omega⟩, HB5, ⟨by rw [HTK.out]; exact HR5.out⟩⟩
    · have hci := decide_eq_false ci
      have hcin : decide (i < ips.length) = false := decide_eq_false (by omega)
      have hip : i = outs.length := by have h1 := HK.out; have h2 := HIE.out.1; omega
      have hRF := HR.out
      rw [hip, List.take_length] at hRF
      have HR1 := Aside0.mk hRF
      obtain ⟨A1, c1, hv1, _, _⟩ := Kd.R_reads hRF
      have HB23 := Aside0.mk (show Below w2.heap.size w2 wr from HB.out)
      obtain ⟨w3, rfl⟩ : ∃ w3, w3 = wr := ⟨_, rfl⟩
      have hck2 : w3.cell? ⟨ck, 2, none⟩ = some (.slice Ac cvs.length cc) := (HB23.out.cell (World.block_lt_of_cell? _ _ HCK2.out)).trans HCK2.out
      subst hv1
      clear ci hip hRF HR HB HBW
      go_wp2_with fail
      clear hck2
      go_loopg [3, 63] cys.length (fun kq v3 v63 w' => ∃ (i : Nat), v63 = .int .i64 (i : Int) ∧ Aside0 (kq + i = cys.length) ∧ Aside0 (Below w3.heap.size w3 w') ∧ Aside0 ((Kd.slice 3 (Kd.int .i64)).R 28 w' w3.heap.size (fun _ => True) v3 (nat2 (cys.take i))))
      case atStart => exact ⟨0, rfl, ⟨by omega⟩, ⟨Below.refl _ _⟩, ⟨Kd.R_nil _ _ _ _ _⟩⟩
      case round =>
        obtain ⟨i, rfl, HK, HB, HR⟩ := hrel
        have HBW := Aside0.mk (show Below w2.heap.size w2 wr from below_step HB23.out HB.out)
        by_cases ci : (i : Int) < (cvs.length : Int)
        · have hci := decide_eq_true ci
          have hir : i < cys.length := by have := HCE.out.1; omega
          have hirn : i < cvs.length := by omega
          have hcin : decide (i < cvs.length) = true := decide_eq_true (by omega)
          have hi0 : (0 : Int) ≤ (i : Int) := by omega
          obtain ⟨g, hA, hcg⟩ := HCC.out i (by omega)
          subst hA
          have hlR := HCE.out.2 i hir
          obtain ⟨o, ho⟩ : ∃ o, o = cys.getD i [] := ⟨_, rfl⟩
          rw [← ho] at hlR
          obtain ⟨A3, c3, hv3, _, _⟩ := Kd.R_reads hlR
          rw [List.length_map] at hv3
          rw [hv3] at hcg hlR
          have HOC := Aside0.mk (rowc 0 hlR).2
          have hcg' : wr.cell? ⟨g, i, none⟩ = some (.slice A3 o.length c3) := (HBW.out.cell (World.block_lt_of_cell? _ _ hcg)).trans hcg
          have hom : o ∈ cys := by rw [ho, List.getD_eq_getElem?_getD, List.getElem?_eq_getElem hir]; exact List.getElem_mem hir
          have HOM := Aside0.mk (HPL.out.2.2.2 o hom)
          have HTK := Aside0.mk (show nat2 (cys.take (i + 1)) = nat2 (cys.take i) ++ [o.map Int.ofNat] by
            unfold nat2
            rw [List.take_add_one, List.getElem?_eq_getElem hir, show cys[i] = o by rw [ho, List.getD_eq_getElem?_getD, List.getElem?_eq_getElem hir]; rfl, List.map_append]; rfl)
          have HIR := Aside0.mk hir
          have HTL := Aside0.mk (show ((nat2 (cys.take i)).length + 1) * 24 ≤ 140737488355328 by
            have h1 := HPL.out
            unfold nat2
            rw [List.length_map, List.length_take]; omega)
          clear ho hlR hcg hom ci hv3
          go_wp2_with fail
          clear hcg'
          obtain ⟨n1, rfl⟩ : ∃ n1, n1 = gk := ⟨_, rfl⟩
          obtain ⟨wb, rfl⟩ : ∃ wb, wb = wr := ⟨_, rfl⟩
          go_loopg [13, 69] o.length (fun kq v13 v69 w' => ∃ (j : Nat), v69 = .int .i64 (j : Int) ∧ Aside0 (kq + j = o.length) ∧ Aside0 (Below wb.heap.size wb w') ∧ Aside0 ((Kd.int .i64).R 3 w' wb.heap.size (fun _ => True) v13 ((o.take j).map Int.ofNat)))
          case atStart => exact ⟨0, rfl, ⟨by omega⟩, ⟨Below.refl _ _⟩, ⟨Kd.R_nil _ _ _ _ _⟩⟩
          case round =>
            obtain ⟨j, rfl, HKJ, HBJ, HRJ⟩ := hrel
            have HBJ2 := Aside0.mk (show Below w2.heap.size w2 wr from below_step HBW.out HBJ.out)
            by_cases cj : (j : Int) < (o.length : Int)
            · have hcj := decide_eq_true cj
              have hjr : j < o.length := by omega
              have hcjn : decide (j < o.length) = true := decide_eq_true hjr
              have hj0 : (0 : Int) ≤ (j : Int) := by omega
              obtain ⟨g3, hA3, hcg3⟩ := HOC.out j hjr
              subst hA3
              obtain ⟨d, hd⟩ : ∃ d, d = o.getD j 0 := ⟨_, rfl⟩
              rw [← hd] at hcg3
              have hdo : o[j]'hjr = d := by rw [hd, List.getD_eq_getElem?_getD, List.getElem?_eq_getElem hjr]; rfl
              have hdn : d < nds.length := HOM.out.2 d (by rw [← hdo]; exact List.getElem_mem hjr)
              have hob := (HB2.out.obj d hdn).2.2
              have hcg3' : wr.cell? ⟨g3, j, none⟩ = some (okey (tyN nds) ob d) := (HBJ2.out.cell (World.block_lt_of_cell? _ _ hcg3)).trans hcg3
              have hnum : wr.cell? ⟨ob d, 2, none⟩ = some (.int .i64 (d : Int)) := (HBJ2.out.cell (blk_lt hob)).trans ((blk_cell hob 2).trans rfl)
              unfold okey at hcg3'
              have HTJ := Aside0.mk (show (o.take (j + 1)).map Int.ofNat = (o.take j).map Int.ofNat ++ [(d : Int)] by rw [List.take_add_one, List.getElem?_eq_getElem hjr, hdo, List.map_append]; rfl)
              have HTJL := Aside0.mk (show ((o.take j).map Int.ofNat).length ≤ 4096 by simp; have := HOM.out.1; omega)
              have HNUM := Aside0.mk hnum
              clear hd hdo hdn hob hcg3 cj hnum
              obtain ⟨Av, cvv, hvj, _, _⟩ := Kd.R_reads HRJ.out
              subst hvj
              have HRL := Aside0.mk (show ((o.take j).map Int.ofNat).length = j by rw [List.length_map, List.length_take]; omega)
              go_wp2_with fail
              refine (number_calls (tyN nds d) (ob d) (tyN_oty _ _) (d : Int) _ HNUM.out).mono ?_
              rintro e w4 ⟨rfl, rfl⟩
              go_wp2_with ((with_reducible refine gate_builtin (b := .append) (xs := #[.tmp 73, .tmp 76]) rfl ?_); at_builtin; refine Kd.R_append (Kd.int .i64) (W := wr) (w0 := wr) wb.heap.size rfl (.tmp 73) (.tmp 76) 28 3 (.int .i64 0) 8 rfl Tryz.underlying28 info3 rfl (by decide) (by omega) (.slice Av ((o.take j).map Int.ofNat).length cvv) ((o.take j).map Int.ofNat) (d : Int) [.int .i64 (d : Int)] (fun _ => True) (fun _ => False) (by first | rfl | (simp; done) | (simp; rfl)) (by first | rfl | (simp; done) | (simp; rfl)) ?aP (fun _ hk => hk.elim) (fun _ _ => trivial) ?aO ?aB ?aS ?aL ?_; (case aP => exact rfl); (case aO => exact HRJ.out); (case aB => exact Below.refl _ _); (case aS => exact HBJ.out.size); (case aL => have := HTJL.out; omega); intro v99 w5 ho5 hb5 hg5 hat5; have HR5 := Aside0.mk ho5; have HB5 := Aside0.mk (show Below wb.heap.size wb w5 from Touch.below_of HBJ.out (Touch.of_grown hg5) (fun k hk h => by have := Kd.R_base HRJ.out k h; omega)); clear ho5 hb5 hg5 hat5)
              go_roundg (gk - 1)
              case measure => have := HKJ.out; omega
              case rel => exact ⟨j + 1, congrArg (Value.int .i64) (by have := HOM.out.1; unfold wrap64; omega), ⟨by have := HKJ.out; omega⟩, HB5, ⟨by rw [HTJ.out]; exact HR5.out⟩⟩
            · have hcj := decide_eq_false cj
              have hcjn : decide (j < o.length) = false := decide_eq_false (by omega)
              have hjp : j = o.length := by have := HKJ.out; omega
              have hRF := HRJ.out
              rw [hjp, List.take_length] at hRF
              have HRF := Aside0.mk (show (Kd.int .i64).R 3 wr w3.heap.size (fun k => wb.heap.size ≤ k) u13 (o.map Int.ofNat) from Kd.R_lower (Kd.R_mono (Kd.R_bound hRF) (fun k hk => hk.2.1)) HB.out.size)
              have HRO := Aside0.mk (show (Kd.slice 3 (Kd.int .i64)).R 28 wr w3.heap.size (fun _ => True) u3 (nat2 (cys.take i)) from Kd.R_below HR.out HBJ.out)
              have HROL := Aside0.mk (show ∀ k, wb.heap.size ≤ k → some k ≠ (u3).ownBlock from fun k hk e => by have := Kd.R_lt HR.out k e.symm; omega)
              obtain ⟨Ai, ci, hvi, _, _⟩ := Kd.R_reads hRF
              rw [List.length_map] at hvi
              obtain ⟨Ao, co, hvo, _, _⟩ := Kd.R_reads HR.out
              have HVI := Aside0.mk hvi
              have HVO := Aside0.mk hvo
              subst hvi hvo
              clear cj hjp hRF
              go_wp2_with ((with_reducible refine gate_builtin (b := .append) (xs := #[.tmp 79, .tmp 81]) rfl ?_); at_builtin; refine Kd.R_append (Kd.slice 3 (Kd.int .i64)) (W := wr) (w0 := wr) w3.heap.size rfl (.tmp 79) (.tmp 81) 36 28 (.slice none 0 0) 24 rfl Tryz.underlying36 info28 rfl (by decide) (by omega) (.slice Ao (nat2 (cys.take i)).length co) (nat2 (cys.take i)) (o.map Int.ofNat) [.slice Ai o.length ci] (fun _ => True) (fun k => wb.heap.size ≤ k) (by first | rfl | (simp; done) | (simp; rfl)) (by first | rfl | (simp; done) | (simp; rfl)) ?aP (fun k hk => ⟨trivial, HROL.out k hk⟩) (fun _ _ => trivial) ?aO ?aB ?aS ?aL ?_; (case aP => exact ⟨_, rfl, HRF.out⟩); (case aO => exact HRO.out); (case aB => exact Below.refl _ _); (case aS => exact Nat.le_trans HB.out.size HBJ.out.size); (case aL => exact HTL.out); intro v99 w5 ho5 hb5 hg5 hat5; have HR5 := Aside0.mk ho5; have HB5 := Aside0.mk (show Below w3.heap.size w3 w5 from Touch.below_of (below_step HB.out HBJ.out) (Touch.of_grown hg5) (fun k hk h => by have := Kd.R_base HRO.out k h; omega)); clear ho5 hb5 hg5 hat5)
              go_roundg (n1 - 1)
              case measure => have := HK.out; have := HIR.out; omega
              case rel => exact ⟨i + 1, congrArg (Value.int .i64) (by have := HIR.out; have := HPL.out; unfold wrap64; omega), ⟨by have := HK.out; have := HIR.out; omega⟩, HB5, ⟨by rw [HTK.out]; exact HR5.out⟩⟩
        · have hci := decide_eq_false ci
          have hcin : decide (i < cvs.length) = false := decide_eq_false (by omega)
          have hip : i = cys.length := by have h1 := HK.out; have h2 := HCE.out.1; omega
          have hRF := HR.out
          rw [hip, List.take_length] at hRF
          obtain ⟨A2, c2, hv2, _, _⟩ := Kd.R_reads hRF
          subst hv2
          have HRX := Aside0.mk hRF
          clear ci hip hRF
          go_wp2_with fail
          go_ret2
          exact ⟨_, _, outs, cys, DJ, pops, SL, gl, rfl, Kd.R_lower (Kd.R_below HR1.out HB.out) HBL2.out.size, Kd.R_lower HRX.out (Nat.le_trans HBL2.out.size HB23.out.size), below_step HBL2.out HBW.out, HOK.out⟩

end Go.Proofs.YtgaadjgfjiljjaaGreat
