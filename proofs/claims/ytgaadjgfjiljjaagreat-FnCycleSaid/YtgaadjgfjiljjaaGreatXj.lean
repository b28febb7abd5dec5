/- FindPath (32): the walk. Conditions: nodes such as NdsOk says. -/
import Derived.Test.YtgaadjgfjiljjaaGreatXi
import Derived.Test.YtgaadjgfjiljjaaGreatXh
import Derived.Deep.RegionHeld3
import Derived.Test.YtgaadjgfjiljjaaGreatXc
namespace Go.Proofs.YtgaadjgfjiljjaaGreat
open Go.RowKit Go.Proofs.YtgaadjgfjiljjaaGreatW.PrintWords Go.Proofs.YtgaadjgfjiljjaaGreatW.PrintLast Go.Proofs.YtgaadjgfjiljjaaGreatW.PrintMore
open Go.ChangeMaps (setBlock)
set_option linter.unusedVariables false
set_option linter.unusedSimpArgs false

theorem raw_cells {nds : List Nd} {ob : Nat → Nat} {w : World} {b : Nat} {ok : Nat → Prop} {A : Option Addr} {L c : Nat} {p : List Nat} (hR : (Kd.raw 1).R 82 w b ok (.slice A L c) (p.map fun k => [okey (tyN nds) ob k])) :
    L = p.length ∧ ∀ i, i < p.length → ∃ g, A = some ⟨g, 0, none⟩ ∧ w.cell? ⟨g, i, none⟩ = some (okey (tyN nds) ob (p.getD i 0)) := by
  have hL := (Kd.R_reads' hR).1
  rw [List.length_map] at hL
  subst hL
  refine ⟨rfl, fun t ht => ?_⟩
  obtain ⟨g, cap, hv, hg, hlt, cel, hcel⟩ := Kd.R_form hR (by rw [List.length_map]; omega)
  rw [List.length_map] at hv
  injection hv with hA _ hc
  subst hA; subst hc
  obtain ⟨c, hcl, hM, hcc, hfr⟩ := Kd.R_elem hR [] (t : Int) (by omega) (by omega)
  have hx : c = [okey (tyN nds) ob (p.getD t 0)] := by
    have h := hM.1
    rw [Int.toNat_natCast, List.getD_eq_getElem?_getD, List.getElem?_map, List.getElem?_eq_getElem ht] at h
    rw [h, List.getD_eq_getElem?_getD, List.getElem?_eq_getElem ht]; rfl
  have h1 := hcc 0 _ (by rw [hx]; rfl)
  rw [Int.toNat_natCast, show t * (Kd.raw 1).sz + 0 = t from by show t * 1 + 0 = t; omega] at h1
  exact ⟨g, rfl, h1⟩

/-- What each object refers to, as build has it. -/
def DJSpec (nds : List Nd) (DJ : Nat → List Nat) : Prop := ∀ j, j < nds.length → ∀ k : Nat, k ∈ DJ j ↔ ∃ j', j' < nds.length ∧ (j' = j ∨ ((rd_Nd nds j').gr = (rd_Nd nds j).gr ∧ 0 < (rd_Nd nds j).gr)) ∧ (k : Int) ∈ (rd_Nd nds j').dp

def PathPost (nds : List Nd) (f t : Nat) (w : World) (e : Ending) (w' : World) : Prop := ∃ (v : Value) (l : List Int) (DJ : Nat → List Nat), e = .returned v ∧ (Kd.int .i64).R 3 w' w.heap.size (fun _ => True) v l ∧ Below w.heap.size w w' ∧ DJSpec nds DJ ∧
  ((l = [] ∧ ∃ SL : List Nat, f ∈ SL ∧ ∀ x ∈ SL, ∀ k ∈ DJ x, k ≠ t ∧ k ∈ SL) ∨ (∃ p : List Nat, p ≠ [] ∧ (∀ k ∈ p, k < nds.length) ∧ PathOk DJ f t p ∧ l = p.map Int.ofNat))

set_option maxHeartbeats 8000000 in
set_option maxRecDepth 100000 in
theorem FindPath_of {nds : List Nd} (hp : NdsOk nds) (A0 : Option Addr) (c0 : Nat) (f t : Nat) (hf : f < nds.length) (ht : t < nds.length) (w : World) (hr0 : Kd.C kNd w A0 nds.length nds) (hc0 : nds.length ≤ c0) :
    Calls Tryz.prog 32 #[.slice A0 nds.length c0, .int .i64 (f : Int), .int .i64 (t : Int)] w (PathPost nds f t w) := by
  have hu82 := Tryz.underlying82
  have hmm := @run_makeMap Tryz.prog
  have HP := Aside0.mk hp
  have HR0 := Aside0.mk hr0
  have HC0 := Aside0.mk hc0
  have hfi : (f : Int) < (nds.length : Int) := by omega
  have hti : (t : Int) < (nds.length : Int) := by omega
  have hf0 : (0 : Int) ≤ (f : Int) := by omega
  have ht0 : (0 : Int) ≤ (t : Int) := by omega
  clear hp hr0 hc0
  go_enter Tryz.func32, Tryz.ntmps32
  go_wp2_with (go_at_call 36; refine (build_of HP.out _ _ _ HR0.out HC0.out).mono ?_; rintro e w1 ⟨lb, om, nf, ck, ob, di, dm, DJ, rfl, hBu, hlb, hom, hnf, hck, hBl, hspec⟩; have HBU := Aside0.mk hBu; have HBL := Aside0.mk hBl; have HSPEC := Aside0.mk (show DJSpec nds DJ from hspec); have hck0 : w1.cell? ⟨ck, 0, none⟩ = some (.map (some om)) := (blk_cell hck 0).trans rfl; clear hBu hlb hom hnf hck hBl hspec)
  have hlf : w1.cell? ⟨lb, f, none⟩ = some (okey (tyN nds) ob f) := by rw [blk_cell HBU.out.l f, lCells_get _ _ _ _ hf, if_pos hf]
  have hlt : w1.cell? ⟨lb, t, none⟩ = some (okey (tyN nds) ob t) := by rw [blk_cell HBU.out.l t, lCells_get _ _ _ _ ht, if_pos ht]
  have hlbl := blk_lt HBU.out.l
  have hlck : ck < w1.heap.size := World.block_lt_of_cell? w1 _ hck0
  have HT2 := Aside0.mk (show Touch (fun _ => False) w1 (w1.alloc (.map #[] 0)).drew from ((Touch.refl _ _).alloc _).drew)
  have HB2 := Aside0.mk (HBU.out.touch HT2.out (fun _ h => h.elim))
  have HM2 := Aside0.mk (show MapL (w1.alloc (.map #[] 0)).drew w1.heap.size (okey (tyN nds) ob) yes [] from (mapL_new w1 (okey (tyN nds) ob) yes).same rfl)
  have HLEN := Aside0.mk HP.out.len
  have HFT := Aside0.mk (And.intro hf ht)
  go_wp2_with fail
  go_region_held3 (fun w' => w'.cell? ⟨ck, 0, none⟩ = some (.map (some om)) ∧ w'.cell? ⟨lb, f, none⟩ = some (okey (tyN nds) ob f) ∧ w'.cell? ⟨lb, t, none⟩ = some (okey (tyN nds) ob t)) (first | go_keep | (exact ⟨HS1.out, HS2.out, HS3.out⟩))
    (first | (go_at_call 39; refine (findPath_of nds.length HB2.out w1.heap.size f t [] HM2.out (Nat.le_refl _) (fun k h => (by cases h)) HFT.out.1 HFT.out.2 HLEN.out (by simp)).mono ?_; rintro e w3 ⟨v, SL, rfl, hM3, hT3, _, hSn, hor⟩; obtain ⟨A3, L3, c3, hv3⟩ : ∃ A L c, v = .slice A L c := (hor.elim (fun h => ⟨_, _, _, h.1⟩) (fun ⟨p, _, _, _, _, hR⟩ => (Kd.R_slice hR).elim fun A h => h.elim fun c h => ⟨_, _, _, h⟩)); subst hv3; have HT3 := Aside0.mk hT3; have HM3 := Aside0.mk hM3; have HSN := Aside0.mk hSn; have HOR := Aside0.mk hor; have HS1 := Aside0.mk (show w3.cell? ⟨ck, 0, none⟩ = some (.map (some om)) from HT3.out.cell (HT2.out.cell hck0 (fun h => h)) (by simp only; omega)); have HS2 := Aside0.mk (show w3.cell? ⟨lb, f, none⟩ = some (okey (tyN nds) ob f) from HT3.out.cell (HT2.out.cell hlf (fun h => h)) (by simp only; omega)); have HS3 := Aside0.mk (show w3.cell? ⟨lb, t, none⟩ = some (okey (tyN nds) ob t) from HT3.out.cell (HT2.out.cell hlt (fun h => h)) (by simp only; omega)); clear hM3 hT3 hSn hor))
  have hpp : ∃ p : List Nat, (∀ k ∈ p, k < nds.length) ∧ p.length ≤ 4096 ∧ L3 = p.length ∧ (∀ i, i < p.length → ∃ g, A3 = some ⟨g, 0, none⟩ ∧ w3.cell? ⟨g, i, none⟩ = some (okey (tyN nds) ob (p.getD i 0))) ∧
      ((p = [] ∧ ∃ SL : List Nat, f ∈ SL ∧ ∀ x ∈ SL, ∀ k ∈ DJ x, k ≠ t ∧ k ∈ SL) ∨ (p ≠ [] ∧ PathOk DJ f t p)) := by
    rcases HOR.out with ⟨hv, hfm, hcl⟩ | ⟨p, hp0, hpn, hpl, hpo, hR⟩
    · injection hv with h1 h2 h3
      exact ⟨[], fun k h => (by cases h), by simp, h2, fun i h => (by simp at h), .inl ⟨rfl, SL, hfm, fun x hx => hcl x hx (by simp)⟩⟩
    · have h := raw_cells hR
      refine ⟨p, hpn, ?_, h.1, h.2, .inr ⟨hp0, hpo⟩⟩
      have := nodup_lt_length _ _ HM3.out.nodup HSN.out
      have := HLEN.out
      simp at hpl; omega
  obtain ⟨p, hpn, hpl, rfl, hpc, hpf⟩ := hpp
  have HPN := Aside0.mk hpn
  have HPL := Aside0.mk hpl
  have HPC := Aside0.mk hpc
  have HPF := Aside0.mk hpf
  have HBW := Aside0.mk (show Below w.heap.size w w3 from Touch.below_of (S := fun k => k = w1.heap.size) HBL.out ((HT2.out.mono (fun _ _ h => h.elim)).trans HT3.out (fun k hk h => h)) (fun k hk h => by have := HBL.out.size; omega))
  have HB3 := Aside0.mk ((HB2.out.touch HT3.out (fun k hk hlt => by omega)))
  have HW3 := Aside0.mk HBW.out.size
  clear hpn hpl hpc hpf hck0 hlf hlt HS1 HS2 HS3 HOR HM3 HSN HT3 HM2 HB2 HT2
  go_wp2_with fail
  go_loopg [9, 32] p.length (fun kq v9 v32 w' => ∃ (i : Nat), v32 = .int .i64 (i : Int) ∧ Aside0 (kq + i = p.length) ∧ Aside0 (Below w3.heap.size w3 w') ∧ Aside0 ((Kd.int .i64).R 3 w' w3.heap.size (fun _ => True) v9 ((p.take i).map Int.ofNat)))
  case atStart => exact ⟨0, rfl, ⟨by omega⟩, ⟨Below.refl _ _⟩, ⟨Kd.R_nil _ _ _ _ _⟩⟩
  case round =>
    obtain ⟨i, rfl, HK, HB, HR⟩ := hrel
    by_cases ci : (i : Int) < (p.length : Int)
    · have hir : i < p.length := by omega
      have hci := decide_eq_true ci
      have hcin : decide (i < p.length) = true := decide_eq_true hir
      have hi0 : (0 : Int) ≤ (i : Int) := by omega
      obtain ⟨g, hA, hcg⟩ := HPC.out i hir
      subst hA
      obtain ⟨d, hd⟩ : ∃ d, d = p.getD i 0 := ⟨_, rfl⟩
      rw [← hd] at hcg
      have hcg' : wr.cell? ⟨g, i, none⟩ = some (okey (tyN nds) ob d) := (HB.out.cell (World.block_lt_of_cell? _ _ hcg)).trans hcg
      unfold okey at hcg'
      have hdp : p[i]'hir = d := by rw [hd, List.getD_eq_getElem?_getD, List.getElem?_eq_getElem hir]; rfl
      have hdn : d < nds.length := HPN.out d (by rw [← hdp]; exact List.getElem_mem hir)
      have hob := HB3.out.obj d hdn
      have HN2 := Aside0.mk (show wr.cell? ⟨ob d, 2, none⟩ = some (.int .i64 (d : Int)) from (HB.out.cell (blk_lt hob.2.2)).trans ((blk_cell hob.2.2 2).trans rfl))
      have HTK := Aside0.mk (show (p.take (i + 1)).map Int.ofNat = (p.take i).map Int.ofNat ++ [(d : Int)] by rw [List.take_add_one, List.getElem?_eq_getElem hir, hdp, List.map_append]; rfl)
      have HTL := Aside0.mk (show ((p.take i).map Int.ofNat).length ≤ 4096 by simp; have := HPL.out; omega)
      clear hd hcg hdp hdn hob ci
      go_wp2_with (first
        | (go_at_call 38; refine (number_calls (tyN nds d) (ob d) (tyN_oty _ _) (d : Int) _ HN2.out).mono ?_; rintro e w4 ⟨rfl, rfl⟩)
        | ((with_reducible refine gate_builtin (b := .append) (xs := #[.tmp 36, .tmp 39]) rfl ?_); at_builtin; refine Kd.R_append (Kd.int .i64) (W := wr) (w0 := wr) w3.heap.size rfl (.tmp 36) (.tmp 39) 28 3 (.int .i64 0) 8 rfl Tryz.underlying28 info3 rfl (by decide) (by omega) u9 ((p.take i).map Int.ofNat) (d : Int) [.int .i64 (d : Int)] (fun _ => True) (fun _ => False) rfl (by first | rfl | (simp; done) | (simp; rfl)) ?aP (fun _ hk => hk.elim) (fun _ _ => trivial) ?aO ?aB ?aS ?aL ?_; (case aP => exact rfl); (case aO => exact HR.out); (case aB => exact Below.refl _ _); (case aS => exact HB.out.size); (case aL => have := HTL.out; omega); intro v40 w5 ho hb hg hat; have HR5 := Aside0.mk ho; have HB5 := Aside0.mk (show Below w3.heap.size w3 w5 from Touch.below_of HB.out (Touch.of_grown hg) (fun k hk h => by have := Kd.R_base HR.out k h; omega)); clear ho hb hg hat))
      go_roundg (gk - 1)
      case measure => have := HK.out; omega
      case rel => exact ⟨i + 1, congrArg (Value.int .i64) (by have := HPL.out; unfold wrap64; omega), ⟨by have := HK.out; omega⟩, HB5, ⟨by rw [HTK.out]; exact HR5.out⟩⟩
    · have hci := decide_eq_false ci
      have hcin : decide (i < p.length) = false := decide_eq_false (by omega)
      have hip : i = p.length := by have := HK.out; omega
      have HRF := Aside0.mk (show (Kd.int .i64).R 3 wr w.heap.size (fun _ => True) u9 (p.map Int.ofNat) by
        have h := HR.out
        rw [hip, List.take_length] at h
        exact Kd.R_lower h HW3.out)
      clear ci hip
      obtain ⟨A9, c9, hv9, _, _⟩ := Kd.R_reads HRF.out
      rw [List.length_map] at hv9
      subst hv9
      go_wp2_with fail
      go_ret
      refine ⟨_, p.map Int.ofNat, DJ, rfl, HRF.out, below_step HBW.out HB.out, HSPEC.out, ?_⟩
      rcases HPF.out with ⟨h1, h2⟩ | ⟨h1, h2⟩
      · exact .inl ⟨by rw [h1]; rfl, h2⟩
      · exact .inr ⟨p, h1, HPN.out, h2, rfl⟩

end Go.Proofs.YtgaadjgfjiljjaaGreat

/- impl.Path (17), over declarations; what it says of references. Conditions: PkgOk. -/
namespace Go.Proofs.YtgaadjgfjiljjaaGreat
open Go.RowKit Go.Proofs.YtgaadjgfjiljjaaGreatW.PrintWords Go.Proofs.YtgaadjgfjiljjaaGreatW.PrintLast Go.Proofs.YtgaadjgfjiljjaaGreatW.PrintMore
set_option linter.unusedVariables false
set_option linter.unusedSimpArgs false

theorem nds_mem {p : List It} {x : Nd} (h : x ∈ ndsL p) : ∃ j r, j < p.length ∧ x = ndOf p j r := by
  unfold ndsL ndsN at h
  obtain ⟨j, hj, hx⟩ := List.mem_flatMap.1 h
  obtain ⟨i, hi, rfl⟩ := List.mem_map.1 hx
  exact ⟨j, _, List.mem_range.1 hj, rfl⟩
theorem ndsOk_of {p : List It} (hp : PkgOk p) : NdsOk (ndsL p) := by
  refine ⟨by rw [ndsL_length]; exact hp.tot, fun x hx => ?_, fun x hx => ?_, fun x hx hg => ?_, fun x hx r hr => ?_, fun x hx => ?_⟩
  all_goals obtain ⟨j, r', hj, rfl⟩ := nds_mem hx
  · unfold ndOf
    simp only
    split
    · exact .inr (.inr rfl)
    · split
      · exact .inl rfl
      · exact .inr (.inl rfl)
  · unfold ndOf
    simp only
    split <;> omega
  · unfold ndOf at hg ⊢
    simp only at hg ⊢
    by_cases h1 : (itA p j).f0 = 1
    · rw [h1]; simp
    · rw [if_neg h1] at hg; omega
  · rw [ndsL_length]
    exact hp.refs _ (itA_mem hj) r hr
  · exact hp.short _ (itA_mem hj)

/-- What build's nodes refer to is what the declarations refer to. -/
theorem dj_refs {p : List It} (hp : PkgOk p) {DJ : Nat → List Nat} (h : DJSpec (ndsL p) DJ) (r : Nat) (hr : r < totN p) (k : Nat) : k ∈ DJ r ↔ (k : Int) ∈ refsN p (ow p r) := by
  rw [h r (by rw [ndsL_length]; exact hr) k]
  have dpe : ∀ j, j < totN p → (rd_Nd (ndsL p) j).dp = refsN p (ow p j) := fun j hj => by rw [rd_ndsL p j hj]; rfl
  have gre : ∀ j, j < totN p → (rd_Nd (ndsL p) j).gr = if (itA p (ow p j)).f0 = 1 then ((ow p j : Nat) : Int) + 1 else 0 := fun j hj => by rw [rd_ndsL p j hj]; rfl
  constructor
  · rintro ⟨j', h1, h2, h3⟩
    rw [ndsL_length] at h1
    rw [dpe j' h1] at h3
    rcases h2 with h2 | ⟨h2, h2'⟩
    · rw [← h2]; exact h3
    · rw [gre r hr] at h2 h2'
      rw [gre j' h1] at h2
      by_cases e : (itA p (ow p r)).f0 = 1
      · rw [if_pos e] at h2
        by_cases e' : (itA p (ow p j')).f0 = 1
        · rw [if_pos e'] at h2
          have : ow p j' = ow p r := by omega
          rw [← this]; exact h3
        · rw [if_neg e'] at h2; omega
      · rw [if_neg e] at h2'; omega
  · intro h3
    exact ⟨r, by rw [ndsL_length]; exact hr, .inl rfl, by rw [dpe r hr]; exact h3⟩

/-- What Path answers. -/
def PSpec (p : List It) (f t : Nat) (l : List Int) : Prop :=
  (l = [] ∧ ¬ Reach (fun _ => true) p (ow p f) t) ∨
  (∃ q : List Nat, q ≠ [] ∧ (∀ k ∈ q, k < totN p) ∧ l = q.map Int.ofNat ∧ q.head? = some t ∧ (∀ i, i + 1 < q.length → ((q.getD i 0 : Nat) : Int) ∈ refsN p (ow p (q.getD (i + 1) 0))) ∧
    (∀ x, q.getLast? = some x → (x : Int) ∈ refsN p (ow p f)) ∧ Reach (fun _ => true) p (ow p f) t)

theorem path_spec {p : List It} (hp : PkgOk p) {DJ : Nat → List Nat} (h : DJSpec (ndsL p) DJ) (f t : Nat) (hf : f < totN p) (l : List Int)
    (ho : (l = [] ∧ ∃ SL : List Nat, f ∈ SL ∧ ∀ x ∈ SL, ∀ k ∈ DJ x, k ≠ t ∧ k ∈ SL) ∨ (∃ q : List Nat, q ≠ [] ∧ (∀ k ∈ q, k < (ndsL p).length) ∧ PathOk DJ f t q ∧ l = q.map Int.ofNat)) : PSpec p f t l := by
  have hrange : ∀ r k : Nat, r < totN p → (k : Int) ∈ refsN p (ow p r) → k < totN p := fun r k hr hk => by
    have := hp.refs _ (itA_mem (ow_spec p r hr).1) _ hk; omega
  rcases ho with ⟨hl, SL, hfS, hcl⟩ | ⟨q, hq0, hqn, ⟨hh, hc, hlast⟩, hl⟩
  · refine .inl ⟨hl, fun hR => ?_⟩
    have key : ∀ r, Reach (fun _ => true) p (ow p f) r → r < totN p ∧ r ≠ t ∧ r ∈ SL := fun r hr => by
      induction hr with
      | base hb =>
        have := hcl f hfS _ ((dj_refs hp h f hf _).2 hb)
        exact ⟨hrange _ _ hf hb, this.1, this.2⟩
      | step _ _ hm ih =>
        have := hcl _ ih.2.2 _ ((dj_refs hp h _ ih.1 _).2 hm)
        exact ⟨hrange _ _ ih.1 hm, this.1, this.2⟩
    exact (key t hR).2.1 rfl
  · rw [ndsL_length] at hqn
    have hmem : ∀ i, i < q.length → q.getD i 0 < totN p := fun i hi => by
      rw [List.getD_eq_getElem?_getD, List.getElem?_eq_getElem hi]; exact hqn _ (List.getElem_mem hi)
    have hc' : ∀ i, i + 1 < q.length → ((q.getD i 0 : Nat) : Int) ∈ refsN p (ow p (q.getD (i + 1) 0)) := fun i hi => (dj_refs hp h _ (hmem _ hi) _).1 (hc i hi)
    have hl' : ∀ x, q.getLast? = some x → (x : Int) ∈ refsN p (ow p f) := fun x hx => (dj_refs hp h f hf _).1 (hlast x hx)
    have hpos := List.length_pos_iff.2 hq0
    have key : ∀ d i, i + d + 1 = q.length → Reach (fun _ => true) p (ow p f) (q.getD i 0) := fun d => by
      induction d with
      | zero =>
        intro i hi
        refine .base (hl' _ ?_)
        rw [List.getLast?_eq_getElem?, List.getD_eq_getElem?_getD, show q.length - 1 = i by omega, List.getElem?_eq_getElem (show i < q.length by omega)]; rfl
      | succ d ih =>
        intro i hi
        exact .step (ih (i + 1) (by omega)) rfl (hc' i (by omega))
    have h0 : q.getD 0 0 = t := by
      cases q with
      | nil => exact absurd rfl hq0
      | cons a q => simp at hh; subst hh; rfl
    exact .inr ⟨q, hq0, hqn, hl, hh, hc', hl', by rw [← h0]; exact key (q.length - 1) 0 (by omega)⟩

def PathP (p : List It) (f t : Nat) (w : World) (e : Ending) (w' : World) : Prop := ∃ (v : Value) (l : List Int), e = .returned v ∧ (Kd.int .i64).R 3 w' w.heap.size (fun _ => True) v l ∧ Below w.heap.size w w' ∧ PSpec p f t l

set_option maxHeartbeats 8000000 in
set_option maxRecDepth 100000 in
theorem Path_of {p : List It} (hp : PkgOk p) (A0 : Option Addr) (c0 : Nat) (f t : Nat) (hf : f < totN p) (ht : t < totN p) (w : World) (hr0 : Kd.C kIt w A0 p.length p) (hc0 : p.length ≤ c0) :
    Calls Tryz.prog 17 #[.slice A0 p.length c0, .int .i64 (f : Int), .int .i64 (t : Int)] w (PathP p f t w) := by
  have HP := Aside0.mk hp
  have HR0 := Aside0.mk hr0
  have HC0 := Aside0.mk hc0
  have HFT := Aside0.mk (And.intro hf ht)
  clear hp hr0 hc0 hf ht
  go_enter Tryz.func17, Tryz.ntmps17
  go_wp2_with (first
    | (go_at_call 31; refine (nodes_of HP.out _ _ _ HR0.out HC0.out).mono ?_; rintro e w1 ⟨v1, rfl, hN, hB⟩; obtain ⟨A1, c1, hv1, hl1, hC1⟩ := Kd.N_reads hN; subst hv1; have HC1 := Aside0.mk hC1; have HL1 := Aside0.mk hl1; have HB1 := Aside0.mk hB; clear hN hB hl1 hC1)
    | (go_at_call 32; refine (FindPath_of (ndsOk_of HP.out) _ _ f t (by rw [ndsL_length]; exact HFT.out.1) (by rw [ndsL_length]; exact HFT.out.2) _ HC1.out HL1.out).mono ?_; rintro e w2 ⟨v2, l, DJ, rfl, hR, hB, hD, ho⟩; have HR2 := Aside0.mk hR; have HB2 := Aside0.mk hB; have HS2 := Aside0.mk (path_spec HP.out hD f t HFT.out.1 l ho); clear hR hB hD ho))
  obtain ⟨A2, c2, hv2, _, _⟩ := Kd.R_reads HR2.out
  subst hv2
  go_wp2_with fail
  go_ret
  exact ⟨_, l, rfl, Kd.R_lower HR2.out HB1.out.size, below_step HB1.out HB2.out, HS2.out⟩

end Go.Proofs.YtgaadjgfjiljjaaGreat
