/- FnPath (5): whatever the declarations and the two numbers, the answer is true. No condition but that the argument lies as a list of declarations. -/
import Derived.Test.YtgaadjgfjiljjaaGreatXs
import Derived.Test.YtgaadjgfjiljjaaGreatXd
import Derived.Deep.RegionHeld3
import Derived.Test.YtgaadjgfjiljjaaGreatXb
import Derived.Lib.SmallJoins
namespace Go.Proofs.YtgaadjgfjiljjaaGreat
open Go.RowKit Go.Proofs.YtgaadjgfjiljjaaGreatW.PrintWords Go.Proofs.YtgaadjgfjiljjaaGreatW.PrintLast Go.Proofs.YtgaadjgfjiljjaaGreatW.PrintMore
set_option linter.unusedVariables false
set_option linter.unusedSimpArgs false

theorem wrapE (x : Int) : IntKind.i64.wrap x = wrap64 x := by rw [IntKind.wrap_i64]; unfold wrap64; first | rfl | omega
theorem intc {w : World} {b : Nat} {ok : Nat → Prop} {A : Option Addr} {L c : Nat} {D : List Int} (hR : (Kd.int .i64).R 3 w b ok (.slice A L c) D) :
    L = D.length ∧ ∀ i, i < D.length → ∃ g, A = some ⟨g, 0, none⟩ ∧ w.cell? ⟨g, i, none⟩ = some (.int .i64 (D.getD i 0)) := by
  have h3 := Kd.R_reads' hR
  have hL := h3.1
  subst hL
  refine ⟨rfl, fun t ht => ?_⟩
  obtain ⟨g, cap, hv, _, _, _, _⟩ := Kd.R_form hR (by omega)
  injection hv with hA _ hc
  subst hA; subst hc
  obtain ⟨ad, he, hx⟩ := Kd.at_int h3.2.2 (t : Int) (by omega) (by omega)
  injection he with he
  subst he
  rw [Int.toNat_natCast] at hx
  refine ⟨g, rfl, ?_⟩
  rw [← add_plain]
  exact hx.trans (by unfold rd; rw [Int.toNat_natCast])

set_option maxHeartbeats 4000000 in
set_option maxRecDepth 100000 in
theorem fnPath_any (l : List It) (P0 : Nat → Prop) (A0 : Option Addr) (c0 : Nat) (f t : Int) (w : World) (hv : Kd.V kIt 46 w w.heap.size P0 (.slice A0 l.length c0) l) :
    Calls Tryz.prog 5 #[.slice A0 l.length c0, .int .i64 f, .int .i64 t] w fun e w' => e = .returned (.bool true) ∧ Below w.heap.size w w' := by
  obtain ⟨kz, rz, hz, hz2⟩ := fits_f l
  have HV := Aside0.mk hv
  have HC := Aside0.mk (Kd.V_reads' hv).2.2
  have HL := Aside0.mk (Kd.V_reads' hv).2.1
  have HZ := Aside0.mk hz
  have HZ2 := Aside0.mk hz2
  clear hv hz hz2
  go_enter Tryz.func5, Tryz.ntmps5
  go_wp2_with fail
  refine (laws_zzFits1.calls kz A0 c0 l rz w HC.out HL.out HZ.out).mono ?_
  rintro e w1 ⟨rfl, hb1⟩
  have HB1 := Aside0.mk (show Below w.heap.size w w1 by first | exact hb1 | exact hb1.below)
  clear hb1
  cases rz with
  | false =>
    go_wp2_with fail
    go_ret
    exact ⟨rfl, HB1.out⟩
  | true =>
    obtain ⟨hl, hsh⟩ := HZ2.out rfl
    obtain ⟨kr, hr⟩ := read_f l hl
    have HR := Aside0.mk hr
    have HSH := Aside0.mk hsh
    clear hr hsh hl
    go_wp2_with fail
    refine (laws_read.calls kr P0 A0 c0 l l w1 (Kd.V_below HV.out HB1.out) HR.out).mono ?_
    rintro e w2 ⟨v2, rfl, hN, hB⟩
    obtain ⟨A2, c2, hv2, hl2, hC2⟩ := Kd.N_reads hN
    subst hv2
    have HC2 := Aside0.mk hC2
    have HL2 := Aside0.mk hl2
    have HB2 := Aside0.mk (below_step HB1.out hB)
    clear hN hB hl2 hC2
    go_wp2_with fail
    refine (fit_of l A2 c2 w2 HC2.out HL2.out HSH.out).mono ?_
    rintro e w3 ⟨b, rfl, hfit, hB⟩
    have HFIT := Aside0.mk hfit
    have HB3 := Aside0.mk (below_step HB2.out hB)
    have HC3 := Aside0.mk (Kd.C_below HC2.out hB)
    clear hfit hB
    cases b with
    | false =>
      go_wp2_with fail
      go_ret
      exact ⟨rfl, HB3.out⟩
    | true =>
      have HP := Aside0.mk (HFIT.out rfl).ok
      obtain ⟨kc, hc⟩ := count_f HP.out
      have HCT := Aside0.mk hc
      clear hc
      by_cases f0 : f < 0
      · have hf0 := decide_eq_true f0
        go_wp2_with fail
        go_ret
        exact ⟨rfl, HB3.out⟩
      · have hf0 := decide_eq_false f0
        go_wp2_with fail
        refine (spec_Package_Count.calls kc A2 c2 l (totN l : Int) w3 HC3.out HL2.out HCT.out).mono ?_
        rintro e w4 ⟨rfl, hB⟩
        have HB4 := Aside0.mk (below_step HB3.out (show Below w3.heap.size w3 w4 by first | exact hB | exact hB.below))
        have HC4 := Aside0.mk (Kd.C_below HC3.out (show Below w3.heap.size w3 w4 by first | exact hB | exact hB.below))
        clear hB
        by_cases f1 : (totN l : Int) ≤ f
        · have hf1 := decide_eq_true f1
          go_wp2_with fail
          go_ret
          exact ⟨rfl, HB4.out⟩
        · have hf1 := decide_eq_false f1
          by_cases t0 : t < 0
          · have ht0 := decide_eq_true t0
            go_wp2_with fail
            go_ret
            exact ⟨rfl, HB4.out⟩
          · have ht0 := decide_eq_false t0
            go_wp2_with fail
            refine (spec_Package_Count.calls kc A2 c2 l (totN l : Int) w4 HC4.out HL2.out HCT.out).mono ?_
            rintro e w5 ⟨rfl, hB⟩
            have HB5 := Aside0.mk (below_step HB4.out (show Below w4.heap.size w4 w5 by first | exact hB | exact hB.below))
            have HC5 := Aside0.mk (Kd.C_below HC4.out (show Below w4.heap.size w4 w5 by first | exact hB | exact hB.below))
            clear hB
            by_cases t1 : (totN l : Int) ≤ t
            · have ht1 := decide_eq_true t1
              go_wp2_with fail
              go_ret
              exact ⟨rfl, HB5.out⟩
            · have ht1 := decide_eq_false t1
              have HF0 := Aside0.mk (show 0 ≤ f ∧ 0 ≤ t ∧ f < totN l ∧ t < totN l by omega)
              go_wp2_with fail
              have hf4 := HF0.out
              obtain ⟨fn, rfl⟩ : ∃ n : Nat, f = (n : Int) := ⟨f.toNat, by omega⟩
              obtain ⟨tn, rfl⟩ : ∃ n : Nat, t = (n : Int) := ⟨t.toNat, by omega⟩
              have HFT := Aside0.mk (show fn < totN l ∧ tn < totN l by omega)
              have HC0 := Aside0.mk (Kd.C_below HC.out HB5.out)
              clear f0 f1 t0 t1 hf4 HF0
              refine (Path_of HP.out A0 c0 fn tn HFT.out.1 HFT.out.2 w5 HC0.out HL.out).mono ?_
              rintro e w6 ⟨v6, g, rfl, hR6, hB6, hS6⟩
              have HB6 := Aside0.mk (below_step HB5.out hB6)
              have HC6 := Aside0.mk (Kd.C_below HC5.out hB6)
              obtain ⟨A6, c6, hv6, _, _⟩ := Kd.R_reads hR6
              subst hv6
              have HR6 := Aside0.mk hR6
              have HS6 := Aside0.mk hS6
              clear hR6 hB6 hS6
              go_wp2_with fail
              refine (leads_of HP.out A2 c2 fn tn HFT.out.1 HFT.out.2 w6 HC6.out HL2.out).mono ?_
              rintro e w7 ⟨r, rfl, hr, hB7⟩
              have HB67 := Aside0.mk hB7
              have HB7 := Aside0.mk (below_step HB6.out hB7)
              have HC7 := Aside0.mk (Kd.C_below HC6.out hB7)
              have HRR := Aside0.mk hr
              clear hr hB7
              cases r with
              | false =>
                have hg : g = [] := by
                  rcases HS6.out with ⟨h, _⟩ | ⟨q, _, _, _, _, _, _, h⟩
                  · exact h
                  · have := HRR.out.2 h; cases this
                subst hg
                go_wp2_with fail
                refine (works_of w7).mono ?_
                rintro e w8 ⟨rfl, hB8⟩
                have HB8 := Aside0.mk (below_step HB7.out hB8)
                clear hB8
                go_wp2_with fail
                go_ret
                exact ⟨rfl, HB8.out⟩
              | true =>
                obtain ⟨q, hq0, hqn, hgq, hq1, hq2, hq3⟩ : ∃ q : List Nat, q ≠ [] ∧ (∀ k ∈ q, k < totN l) ∧ g = q.map Int.ofNat ∧ q.head? = some tn ∧ (∀ i, i + 1 < q.length → ((q.getD i 0 : Nat) : Int) ∈ refsN l (ow l (q.getD (i + 1) 0))) ∧ (∀ x, q.getLast? = some x → (x : Int) ∈ refsN l (ow l fn)) := by
                  rcases HS6.out with ⟨_, h⟩ | ⟨q, h1, h2, h3, h4, h5, h6, _⟩
                  · exact absurd (HRR.out.1 rfl) h
                  · exact ⟨q, h1, h2, h3, h4, h5, h6⟩
                have hgl : g.length = q.length := by rw [hgq, List.length_map]
                have hgd : ∀ i, i < q.length → g.getD i 0 = ((q.getD i 0 : Nat) : Int) := fun i hi => by
                  rw [hgq, List.getD_eq_getElem?_getD, List.getElem?_map, List.getElem?_eq_getElem hi, List.getD_eq_getElem?_getD, List.getElem?_eq_getElem hi]; rfl
                have hpos : 0 < q.length := List.length_pos_iff.2 hq0
                have hqle : q.length ≤ 9223372036854775807 := by
                  have := (Kd.R_reads' HR6.out).2.2.2.1
                  omega
                have hcells := (intc HR6.out).2
                rw [hgl] at hcells
                obtain ⟨g6, hA6, hc0⟩ := hcells 0 hpos
                subst hA6
                have HCELL := Aside0.mk (show ∀ i, i < q.length → w7.cell? ⟨g6, i, none⟩ = some (.int .i64 ((q.getD i 0 : Nat) : Int)) from fun i hi => by
                  obtain ⟨g', hg', hc'⟩ := hcells i hi
                  injection hg' with hg'
                  injection hg' with hg' _ _
                  subst hg'
                  rw [hgd i hi] at hc'
                  exact (HB67.out.cell (World.block_lt_of_cell? _ _ hc')).trans hc')
                have hh0 : q.getD 0 0 = tn := by
                  cases q with
                  | nil => exact absurd rfl hq0
                  | cons a r => simp at hq1; subst hq1; rfl
                have hc07 : w7.cell? ⟨g6, 0, none⟩ = some (.int .i64 (tn : Int)) := by rw [← hh0]; exact HCELL.out 0 hpos
                rw [hgl] at HR6 ⊢
                have HQ := Aside0.mk (And.intro hqn (And.intro hq2 hq3))
                have HPOS := Aside0.mk hpos
                have HQLE := Aside0.mk hqle
                have hz : ((q.length : Int) == 0) = false := beq_false_of_ne (by omega)
                have hw1 : wrap64 ((q.length : Int) - 1) = ((q.length - 1 : Nat) : Int) := by unfold wrap64; omega
                clear hq0 hqn hgq hq1 hq2 hq3 hgl hgd hcells hc0 hh0 hqle
                go_wp2_with fail
                rw [hw1]
                clear hc07 hz hw1
                go_loopg [67] (q.length - 1) (fun kq v67 w' => ∃ (i : Nat), v67 = .int .i64 (i : Int) ∧ Aside0 (kq + i = q.length - 1) ∧ Aside0 (Below w7.heap.size w7 w'))
                case atStart => exact ⟨0, rfl, ⟨by omega⟩, ⟨Below.refl _ _⟩⟩
                case round =>
                  obtain ⟨i, rfl, HK, HBW⟩ := hrel
                  have hql := HQLE.out
                  by_cases ci : (i : Int) < ((q.length - 1 : Nat) : Int)
                  · have hci := decide_eq_true ci
                    have hcin : decide (i < q.length - 1) = true := decide_eq_true (by omega)
                    have hi1 : i + 1 < q.length := by omega
                    have hi2 : (i : Int) + 1 < (q.length : Int) := by omega
                    have hi0 : i < q.length := by omega
                    have hi3 : (i : Int) < (q.length : Int) := by omega
                    have hi4 : (0 : Int) ≤ (i : Int) := by omega
                    have hi5 : (0 : Int) ≤ (i : Int) + 1 := by omega
                    have hw : wrap64 ((i : Int) + 1) = (i : Int) + 1 := by unfold wrap64; omega
                    have hwi : IntKind.i64.wrap ((i : Int) + 1) = (i : Int) + 1 := (wrapE _).trans hw
                    have hn : ((i : Int) + 1).toNat = i + 1 := by omega
                    obtain ⟨kf, r, hf, hr⟩ := refers_f HP.out (q.getD (i + 1) 0) (HQ.out.1 _ (getD_mem hi1)) ((q.getD i 0 : Nat) : Int)
                    have hrt : r = true := hr.2 (HQ.out.2.1 i hi1)
                    subst hrt
                    have HF := Aside0.mk hf
                    have hce0 : wr.cell? ⟨g6, i, none⟩ = some (.int .i64 ((q.getD i 0 : Nat) : Int)) := (HBW.out.cell (World.block_lt_of_cell? _ _ (HCELL.out i hi0))).trans (HCELL.out i hi0)
                    have hce1 : wr.cell? ⟨g6, i + 1, none⟩ = some (.int .i64 ((q.getD (i + 1) 0 : Nat) : Int)) := (HBW.out.cell (World.block_lt_of_cell? _ _ (HCELL.out (i + 1) hi1))).trans (HCELL.out (i + 1) hi1)
                    have HCE := Aside0.mk (And.intro hce0 hce1)
                    obtain ⟨qa, hqa⟩ : ∃ qa, qa = q.getD i 0 := ⟨_, rfl⟩
                    obtain ⟨qb, hqb⟩ : ∃ qb, qb = q.getD (i + 1) 0 := ⟨_, rfl⟩
                    rw [← hqa] at hce0 HCE HF
                    rw [← hqb] at hce1 HCE HF
                    have HCD := Aside0.mk (show Kd.C kIt wr.drew A2 l.length l from Kd.C_below HC7.out (below_drew HBW.out))
                    have hgl : g6 < wr.heap.size := World.block_lt_of_cell? _ _ hce0
                    clear hf hr ci hql hqa hqb
                    go_wp2_with fail
                    go_region_held3 (fun w' => w'.cell? ⟨g6, i, none⟩ = some (.int .i64 (qa : Int)) ∧ w'.cell? ⟨g6, i + 1, none⟩ = some (.int .i64 (qb : Int))) (first | go_keep | (exact ⟨HS1.out, HS2.out⟩))
                      (first | (go_at_call 15; refine (laws_refers.calls kf A2 c2 l (qb : Int) (qa : Int) true _ HCD.out HL2.out HF.out).mono ?_; rintro e w8 ⟨rfl, hB8⟩; have HB8 := Aside0.mk (show Below w7.heap.size w7 w8 from below_step (below_drew HBW.out) hB8); have HS1 := Aside0.mk (show w8.cell? ⟨g6, i, none⟩ = some (.int .i64 (qa : Int)) from (hB8.cell (show g6 < wr.drew.heap.size from hgl)).trans HCE.out.1); have HS2 := Aside0.mk (show w8.cell? ⟨g6, i + 1, none⟩ = some (.int .i64 (qb : Int)) from (hB8.cell (show g6 < wr.drew.heap.size from hgl)).trans HCE.out.2); clear hB8))
                    go_wp2_with fail
                    go_roundg (gk - 1)
                    case measure => have := HK.out; omega
                    case rel => exact ⟨i + 1, congrArg (Value.int .i64) (by have := HQLE.out; first | omega | (unfold wrap64; omega)), ⟨by have := HK.out; omega⟩, HB8⟩
                  · have hci := decide_eq_false ci
                    have hcin : decide (i < q.length - 1) = false := decide_eq_false (by omega)
                    have hpos := HPOS.out
                    have hlast : q.length - 1 < q.length := by omega
                    have hw1 : wrap64 ((q.length : Int) - 1) = ((q.length - 1 : Nat) : Int) := by unfold wrap64; omega
                    have hli : ((q.length - 1 : Nat) : Int) < (q.length : Int) := by omega
                    have hl0 : (0 : Int) ≤ ((q.length - 1 : Nat) : Int) := by omega
                    obtain ⟨x, hx⟩ : ∃ x, x = q.getD (q.length - 1) 0 := ⟨_, rfl⟩
                    have hgl : q.getLast? = some x := by rw [hx, List.getLast?_eq_getElem?, List.getD_eq_getElem?_getD, List.getElem?_eq_getElem hlast]; rfl
                    obtain ⟨kf, r, hf, hr⟩ := refers_f HP.out fn HFT.out.1 (x : Int)
                    have hrt : r = true := hr.2 (HQ.out.2.2 x hgl)
                    subst hrt
                    have hcl := HCELL.out (q.length - 1) hlast
                    rw [← hx] at hcl
                    have hcl' : wr.cell? ⟨g6, q.length - 1, none⟩ = some (.int .i64 (x : Int)) := (HBW.out.cell (World.block_lt_of_cell? _ _ hcl)).trans hcl
                    have HF := Aside0.mk hf
                    clear hx hgl hf hr hcl ci hlast
                    go_wp2_with fail
                    refine (laws_refers.calls kf A2 c2 l (fn : Int) (x : Int) true wr (Kd.C_below HC7.out HBW.out) HL2.out HF.out).mono ?_
                    rintro e w8 ⟨rfl, hB8⟩
                    have HB8 := Aside0.mk (below_step HB7.out (below_step HBW.out hB8))
                    clear hB8 hcl'
                    go_wp2_with fail
                    refine (works_of w8).mono ?_
                    rintro e w9 ⟨rfl, hB9⟩
                    have HB9 := Aside0.mk (below_step HB8.out hB9)
                    clear hB9
                    go_wp2_with fail
                    go_ret
                    exact ⟨rfl, HB9.out⟩
end Go.Proofs.YtgaadjgfjiljjaaGreat

/- A list of declarations that came in, laid open. Conditions: that it reads. -/
namespace Go.Proofs.YtgaadjgfjiljjaaGreat
open Go.ChangeShapes Go.WideShapes Go.ChangeAt Go.RowKit Go.Deep Go.Proofs.YtgaadjgfjiljjaaGreatW.PrintWords
set_option linter.unusedVariables false
set_option linter.unusedSimpArgs false

instance : Inhabited It := ⟨zIt⟩

theorem same_cell {W W' : World} (h : ∀ k, k < W.heap.size → W'.heap[k]? = W.heap[k]?) {p : Addr} {v : Value} (hc : W.cell? p = some v) : W'.cell? p = some v :=
  (World.cell?_of_block (w := W) (h p.block (World.block_lt_of_cell? W _ hc))).trans hc

set_option maxRecDepth 100000 in
theorem open_it {H : Type} {enc : TypeId × Value → H} {W : World} {n : Nat} {cs : List Value} {x : DataW H × List MemPlace} (h : DataW.trod enc Tryz.prog W 0 (fun _ => true) true n 46 cs = some x) :
    ∃ it : It, cs.length = 3 ∧ ∀ W' : World, (∀ k, k < W.heap.size → W'.heap[k]? = W.heap[k]?) → kIt.K W' it cs := by
  obtain ⟨y0, y1, y2, m, _, hl, h0, h1, h2⟩ := trod_struct3 Tryz.underlying46 h
  have hsz : Tryz.prog.cellsOf 46 = 3 := by kernel_rfl
  have hs3 : Tryz.prog.cellsOf 3 = 1 := by kernel_rfl
  have hs28 : Tryz.prog.cellsOf 28 = 1 := by kernel_rfl
  rw [hsz] at hl
  match cs, hl with
  | [u0, u1, u2], _ =>
    have h0' : DataW.trod enc Tryz.prog W 0 (fun _ => true) true m 3 [u0] = some y0 := by simpa [hs3] using h0
    have h1' : DataW.trod enc Tryz.prog W 0 (fun _ => true) true m 3 [u1] = some y1 := by simpa [hs3] using h1
    have h2' : DataW.trod enc Tryz.prog W 0 (fun _ => true) true m 28 [u2] = some y2 := by simpa [hs28] using h2
    obtain ⟨a, e0, _, _⟩ := DataW.trod_int Tryz.underlying3 h0'
    obtain ⟨b, e1, _, _⟩ := DataW.trod_int Tryz.underlying3 h1'
    simp at e0 e1
    subst e0 e1
    rcases open_ints Tryz.underlying28 Tryz.underlying3 hs3 h2' with ⟨e2, _⟩ | ⟨ad, len, cap, zs, e2, _, hlc, hcm, hz, _, hcell, _⟩
    · simp at e2
      subst e2
      refine ⟨⟨a, b, []⟩, rfl, fun W' _ => ⟨[.int .i64 a], [.int .i64 b, .slice none 0 0], rfl, rfl, [.int .i64 b], [.slice none 0 0], rfl, rfl, ⟨none, 0, rfl, Nat.le_refl _, rfl, by simp, fun h => absurd h (by simp)⟩⟩⟩
    · simp at e2
      subst e2
      have hzl : zs.length = cap := by simpa using hz
      have hmx : maxLen = 9223372036854775807 := rfl
      refine ⟨⟨a, b, zs.take len⟩, rfl, fun W' hW' => ⟨[.int .i64 a], [.int .i64 b, .slice (some ad) len cap], rfl, rfl, [.int .i64 b], [.slice (some ad) len cap], rfl, rfl, ⟨some ad, cap, ?_, ?_, rfl, ?_, fun _ => ⟨ad, rfl, fun j p hj => ⟨[.int .i64 p], rfl, rfl, fun q u hq => ?_⟩⟩⟩⟩⟩
      · show [Value.slice (some ad) len cap] = [Value.slice (some ad) (zs.take len).length cap]
        rw [List.length_take, hzl, Nat.min_eq_left hlc]
      · show (zs.take len).length ≤ cap
        rw [List.length_take]; omega
      · show (zs.take len).length ≤ 9223372036854775807
        rw [List.length_take]; omega
      · rcases q with _ | q
        · simp at hq
          subst hq
          have hj' : (zs.take len)[j]? = some p := hj
          obtain ⟨hjl, hjp⟩ := List.getElem?_eq_some_iff.1 hj'
          rw [List.length_take] at hjl
          have hc := hcell j (by omega)
          rw [List.getElem_take] at hjp
          rw [List.getD_eq_getElem?_getD, List.getElem?_eq_getElem (show j < zs.length by omega), Option.getD_some, hjp] at hc
          have h9 := same_cell hW' hc
          rw [show j * (Kd.int .i64).sz + 0 = j from by show j * 1 + 0 = j; omega]
          exact h9
        · simp at hq

set_option maxRecDepth 100000 in
theorem open_items {H : Type} {enc : TypeId × Value → H} {W : World} {fuel : Nat} {A : Option Addr} {len cap : Nat} {x : DataW H × List MemPlace} (h : DataW.trod enc Tryz.prog W 0 (fun _ => true) true fuel 22 [.slice A len cap] = some x) :
    ∃ l : List It, l.length = len ∧ len ≤ cap ∧ ∀ W' : World, (∀ k, k < W.heap.size → W'.heap[k]? = W.heap[k]?) → Kd.C kIt W' A len l := by
  rcases open_slice (t := 22) (e := 46) Tryz.underlying22 h with ⟨hcs, _⟩ | ⟨a, len', cap', m, n', D, Pl, hcs, _, hl, hm, hmm, _, hel⟩
  · simp at hcs
    obtain ⟨rfl, rfl, rfl⟩ := hcs
    exact ⟨[], rfl, Nat.le_refl _, fun W' _ => ⟨rfl, by omega, fun h => absurd h (by omega)⟩⟩
  · simp at hcs
    obtain ⟨rfl, rfl, rfl⟩ := hcs
    have hcap : m = cap := by simpa using hmm
    have hsz : Tryz.prog.cellsOf 46 = 3 := by kernel_rfl
    rw [hsz] at hel
    have hex : ∀ i, i < len → ∃ it : It, ∀ W' : World, (∀ k, k < W.heap.size → W'.heap[k]? = W.heap[k]?) → ∃ c, c.length = 3 ∧ kIt.K W' it c ∧ ∀ q u, c[q]? = some u → W'.cell? (a.add (i * 3 + q)) = some u := fun i hi => by
      obtain ⟨cs', h1, h2⟩ := hel i (by omega)
      obtain ⟨it, h3, h4⟩ := open_it h2
      obtain ⟨_, _, hcell⟩ := World.cells?_some h1
      refine ⟨it, fun W' hW' => ⟨cs', h3, h4 W' hW', fun q u hq => ?_⟩⟩
      rw [← Deep.add_add]
      exact same_cell hW' ((hcell q (by have := (List.getElem?_eq_some_iff.1 hq).1; omega)).trans hq)
    obtain ⟨f, hf⟩ := choose_lt hex
    refine ⟨(List.range len).map f, by simp, hl, fun W' hW' => ⟨by simp, by have : maxLen = 9223372036854775807 := rfl; omega, fun _ => ⟨a, rfl, fun j p hj => ?_⟩⟩⟩
    have hjl : j < len := by
      have := (List.getElem?_eq_some_iff.1 hj).1
      simpa using this
    rw [List.getElem?_map, List.getElem?_range hjl] at hj
    simp at hj
    subst hj
    obtain ⟨c, h1, h2, h3⟩ := hf j hjl W' hW'
    exact ⟨c, h1, h2, h3⟩
end Go.Proofs.YtgaadjgfjiljjaaGreat
