/- Contracts of given, ints, lists, refers, Count: what each call returns. Conditions: those that each theorem names. (Lines written by the kit's print.sh for this seat, turned.) -/
import Derived.Test.YtgaadjgfjiljjaaGreatXa
import Derived.WalkSpells
import Derived.WalkLawsBesides
namespace Go.Proofs.YtgaadjgfjiljjaaGreat
open Go.RowKit Go.Proofs.YtgaadjgfjiljjaaGreatW.PrintWords Go.Proofs.YtgaadjgfjiljjaaGreatW.PrintLast Go.Proofs.YtgaadjgfjiljjaaGreatW.PrintMore
attribute [local go_sem] max2_int min2_int max_two min_two max_three min_three max_four min_four
set_option linter.unusedVariables false
set_option linter.unusedSimpArgs false

/-! ### laws_given: function 28 -/
def laws_given.l0 : Nat → List (It) → List (It) → Int → Int → Option ((List (It)))
  | 0, _, _, _, _ => none
  | k + 1, x3, x6, x7, x8 => if x8 < x7 then (if 0 ≤ x8 then (if x8 < (x6.length : Int) then (if x3.length < 3518437208883 then (laws_given.l0 k (x3 ++ [(⟨(rd_It x6 x8).f0, (rd_It x6 x8).f1, (rd_It x6 x8).f2⟩ : It)]) x6 x7 (wrap64 (x8 + 1))) else (none)) else (none)) else (none)) else (some x3)
def laws_given.f (k : Nat) (l0 : List (It)) : Option ((List (It))) := laws_given.l0 k ([] : List (It)) l0 (l0.length : Int) 0
theorem laws_given.mono_l : ∀ k, (∀ y0 y1 y2 y3, LeO (laws_given.l0 k y0 y1 y2 y3) (laws_given.l0 (k + 1) y0 y1 y2 y3))
  | 0 => fun _ _ _ _ r h => by simp [laws_given.l0] at h
  | k + 1 => by
    have ih0 := laws_given.mono_l k
    · intro y0 y1 y2 y3
      unfold laws_given.l0
      repeat' first
      | (with_reducible exact ih0 _ _ _ _)
      | (with_reducible exact LeO.refl _)
      | (with_reducible exact LeO.none _)
      | (with_reducible refine LeO.ite ?_ ?_)
      | (with_reducible refine LeO.bind ?_ (fun _ => ?_))
      | exact ih0 _ _ _ _
      | exact LeO.none _
      | refine LeO.ite ?_ ?_
      | refine LeO.bind ?_ (fun _ => ?_)
theorem laws_given.mono : ∀ a0 k, LeO (laws_given.f k a0) (laws_given.f (k + 1) a0) := by
  intro a0 k
  have ih0 := laws_given.mono_l k
  unfold laws_given.f
  repeat' first
      | (with_reducible exact ih0 _ _ _ _)
      | (with_reducible exact LeO.refl _)
      | (with_reducible exact LeO.none _)
      | (with_reducible refine LeO.ite ?_ ?_)
      | (with_reducible refine LeO.bind ?_ (fun _ => ?_))
      | exact ih0 _ _ _ _
      | exact LeO.none _
      | refine LeO.ite ?_ ?_
      | refine LeO.bind ?_ (fun _ => ?_)
set_option maxHeartbeats 8000000 in
set_option maxRecDepth 100000 in
theorem laws_given.calls (k : Nat) (P0_ : Nat → Prop) (A0 : Option Addr) (c0 : Nat) (l0 : List (It)) (r : List (It)) (w : World) (hs0 : Kd.V kIt 31 w w.heap.size (fun k_ => P0_ k_) (.slice A0 l0.length c0) l0) (h : laws_given.f k l0 = some r) :
    Calls Tryz.prog 28 #[.slice A0 l0.length c0] w fun e w' => ∃ v0_ : Value, e = .returned (v0_) ∧ Kd.N kIt 46 w' w.heap.size (fun k_ => (P0_ k_ ∨ w.heap.size ≤ k_)) v0_ r ∧ Below w.heap.size w w' := by
  have hu31 := Tryz.underlying31
  have hu46 := Tryz.underlying46
  have HO0 := Aside0.mk (show Kd.V kIt 31 w w.heap.size (fun k_ => (P0_ k_ ∨ w.heap.size ≤ k_)) (.slice A0 l0.length c0) l0 from Kd.V_mono hs0 (fun k_ hk => .inl hk))
  have HB := Aside0.mk (Below.refl w.heap.size w)
  have H : (laws_given.l0 k ([] : List (It)) l0 (l0.length : Int) 0) = some r := h
  clear h
  have H' := Aside0.mk H
  clear H
  go_enter Tryz.func28, Tryz.ntmps28
  go_wp2
  go_loopg [3, 8] k (fun kq v3 v8 w' => ∃ (x3_1 : List (It)) (x8_1 : Int), v8 = .int .i64 x8_1 ∧ Aside0 (laws_given.l0 kq x3_1 l0 (l0.length : Int) x8_1 = some r) ∧ Aside0 (kq ≤ k) ∧ Aside0 (Kd.N kIt 46 w' w.heap.size (fun k_ => (P0_ k_ ∨ w.heap.size ≤ k_)) v3 x3_1) ∧ Aside0 (Kd.V kIt 31 w' w.heap.size (fun k_ => (P0_ k_ ∨ w.heap.size ≤ k_) ∧ some k_ ≠ (v3 : Value).ownBlock) (.slice A0 l0.length c0) l0) ∧ Aside0 (Below w.heap.size w w'))
  case atStart => exact ⟨(([] : List (It))), (0), (by first | rfl | (simp; done) | (simp [*]; done)), H', ⟨Nat.le_refl _⟩, ⟨by first | exact Kd.S_nil _ _ _ _ _ | exact Kd.N_nil _ _ _ _ _ | exact Kd.V_nil _ _ _ _ _ | exact Kd.Q_nil _ _ _ _ _ | exact Kd.R_nil _ _ _ _ _⟩, ⟨by (with_reducible repeat (first | apply Kd.V_alloc | apply Kd.V_drewN | apply Kd.V_drew)); exact Kd.V_mono HO0.out (fun _ hk => ⟨hk, (by simp [Value.ownBlock])⟩)⟩, ⟨by repeat (first | (with_reducible first | exact HB.out | apply below_alloc | apply pw_below_drewN | apply below_drew1) | exact HB.out)⟩⟩
  case round =>
    clear H'
    obtain ⟨x3_1, x8_1, rfl, HA, HK1, HO_3, HO_6, HB⟩ := hrel
    cases gk with
    | zero => exact absurd HA.out (by simp [laws_given.l0])
    | succ k1 =>
      have H := HA.out
      clear HA
      simp only [laws_given.l0] at H
      by_cases c2 : x8_1 < (l0.length : Int)
      · rw [if_pos c2] at H
        have c2b0 : decide (x8_1 < (l0.length : Int)) = true := decide_eq_true c2
        clear c2
        by_cases c3 : 0 ≤ x8_1
        · rw [if_pos c3] at H
          have c3b0 : decide (0 ≤ x8_1) = true := decide_eq_true c3
          clear c3
          by_cases c4 : x8_1 < (l0.length : Int)
          · rw [if_pos c4] at H
            have c4b0 : decide (x8_1 < (l0.length : Int)) = true := decide_eq_true c4
            clear c4
            by_cases c5 : x3_1.length < 3518437208883
            · rw [if_pos c5] at H
              have LMc5 := Aside0.mk c5
              clear c5
              obtain ⟨y148, hy148⟩ : ∃ y_ : List (It), y_ = (x3_1 ++ [(⟨(rd_It l0 x8_1).f0, (rd_It l0 x8_1).f1, (rd_It l0 x8_1).f2⟩ : It)]) := ⟨_, rfl⟩
              replace H : (laws_given.l0 k1 y148 l0 (l0.length : Int) (wrap64 (x8_1 + 1))) = some r := by first | (rw [hy148]; with_reducible exact H) | (have H2_ := (Option.bind_some _ _).symm.trans H; rw [hy148]; with_reducible exact H2_) | (have H2_ := (Option.bind_some _ _).symm.trans H; with_reducible exact H2_) | with_reducible exact H | (rw [hy148]; exact H) | exact H
              have Ny148 := Aside0.mk hy148
              clear hy148
              have H' := Aside0.mk H
              clear H
              have p146 : 0 ≤ (x8_1 : Int) := of_decide_eq_true (by first | (with_reducible assumption) | assumption)
              have q146 : x8_1 < (l0.length : Int) := of_decide_eq_true (by first | (with_reducible assumption) | assumption)
              obtain ⟨ad146, A146_2, c146_2, e146, hx146_0, hx146_1, hx146_2, hl146_2, hi146_2⟩ := at_It (Kd.V_reads' HO_6.out).2.2 x8_1 p146 q146
              cases e146
              obtain ⟨ce146, hce146, hMe146, hcc146⟩ := Kd.V_get HO_6.out zIt x8_1 p146 (by first | exact q146 | exact of_decide_eq_true (by first | (with_reducible assumption) | assumption) | (have e_ := (Kd.V_reads' HO_6.out).1; omega))
              obtain ⟨ua146_2, uc146_2, rfl, ul146_2, ge146_2⟩ := kIt_openF hMe146
              have hv146_2 := hcc146 2 _ rfl
              rw [add_field _ _ 2 (by omega)] at hv146_2
              replace hv146_2 := Option.some.inj (hv146_2.symm.trans hx146_2)
              injection hv146_2 with hva_ hvn_ hvc_
              rw [hva_] at ge146_2
              rw [hvc_] at ul146_2
              have HL146_2 := Aside0.mk (show Kd.V (Kd.int .i64) 3 _ w.heap.size _ _ ((rd_It l0 x8_1).f2) from Kd.V_mk ul146_2 ge146_2)
              clear hva_ hvn_ hvc_ ge146_2 ul146_2
              clear hcc146 hce146
              have HR146_2 := Aside0.mk hi146_2
              have HC146_2 := Aside0.mk hl146_2
              clear hi146_2 hl146_2
              replace p146 := eq_true p146
              replace q146 := eq_true q146
              go_wp2_with (first | ((with_reducible refine gate_dst (N := 5) rfl ?_); refine box_event ?hg (N := 5) ?hd (cs := #[.int .i64 0, .int .i64 0, .slice none 0 0]) (t := 31) ?hr ?_; (case hd => rfl); (case hg => rfl); (case hr => first | (go_simp; done) | (go_simp; rfl)); intro gb147 hg w6 hbox hb; have n0_ := Aside0.mk (Kd.N_below (Kd.N_elderB (by (with_reducible repeat (first | apply Kd.N_alloc | apply Kd.N_drewN | apply Kd.N_drew)); exact HO_3.out) gb147 (Nat.le_of_eq hg.symm)) hb); have n1_ := Aside0.mk (Kd.V_below (Kd.V_elderB (by (with_reducible repeat (first | apply Kd.V_alloc | apply Kd.V_drewN | apply Kd.V_drew)); exact HO_6.out) gb147 (Nat.le_of_eq hg.symm)) hb); have n2_ := Aside0.mk (Kd.V_below (Kd.V_elderB (by (with_reducible repeat (first | apply Kd.V_alloc | apply Kd.V_drewN | apply Kd.V_drew)); exact HL146_2.out) gb147 (Nat.le_of_eq hg.symm)) hb); have n3_ := Aside0.mk (Kd.C_below (by repeat (first | (with_reducible exact HR146_2.out) | (with_reducible refine Kd.C_alloc ?_ _) | (with_reducible refine Kd.C_drewN ?_ _) | (with_reducible refine Kd.C_drew ?_) | exact HR146_2.out)) hb); have n4_ := Aside0.mk (below_step (by repeat (first | (with_reducible first | exact HB.out | apply below_alloc | apply pw_below_drewN | apply below_drew1) | exact HB.out)) hb); have n5_ := Aside0.mk (hbox); have n6_ := Aside0.mk ((by rw [hg]; exact (below_size (by repeat (first | (with_reducible first | exact HB.out | apply below_alloc | apply pw_below_drewN | apply below_drew1) | exact HB.out))) : w.heap.size ≤ gb147)); have n7_ := Aside0.mk ((by rw [hg]; exact (below_size (by repeat (first | (with_reducible first | exact HB.out | apply below_alloc | apply pw_below_drewN | apply below_drew1) | exact HB.out))) : w.heap.size ≤ gb147)); clear HO_3; clear HO_6; clear HL146_2; clear HR146_2; clear HB; have HO_3 := n0_; have HO_6 := n1_; have HL146_2 := n2_; have HR146_2 := n3_; have HB := n4_; have BK147 := n5_; have GW147 := n6_; have GE147 := n7_; clear n0_ n1_ n2_ n3_ n4_ n5_ n6_ n7_; clear hb hbox hg; have hcz7_0 : w6.cell? ⟨gb147, 0, none⟩ = some (.int .i64 0) := (blk_cell BK147.out 0).trans rfl; have hcz7_1 : w6.cell? ⟨gb147, 1, none⟩ = some (.int .i64 0) := (blk_cell BK147.out 1).trans rfl; have hcz7_2 : w6.cell? ⟨gb147, 2, none⟩ = some (.slice none 0 0) := (blk_cell BK147.out 2).trans rfl; have hfz7_0 := blk_frozen BK147.out 0; have hfz7_1 := blk_frozen BK147.out 1; have hfz7_2 := blk_frozen BK147.out 2) | ((with_reducible refine gate_store (t := 31) (p := 5) rfl ?_); refine store_event (t := 31) (p := 5) (v := ?vo_w8) (w1 := (((w6.setCell ⟨gb147, 0, none⟩ (.int .i64 ((rd_It l0 x8_1).f0))).setCell ⟨gb147, 1, none⟩ (.int .i64 ((rd_It l0 x8_1).f1))).setCell ⟨gb147, 2, none⟩ (.slice A146_2 ((rd_It l0 x8_1).f2).length c146_2))) ?hg ?ho ?hn ?hr ?_; (case ho => rfl); (case hg => rfl); (case hn => rfl); (case hr => first | (go_simp; done) | (go_simp; rfl)); intro w8 hw; have n0_ : Aside0 (Kd.N kIt 46 w8 w.heap.size (fun k_ => (P0_ k_ ∨ w.heap.size ≤ k_) ∧ k_ ≠ gb147) u3 x3_1) := ⟨(by rw [hw]; exact (by (with_reducible repeat (first | apply Kd.N_alloc | apply Kd.N_drewN | apply Kd.N_drew)); exact Kd.N_mono (Kd.N_far (p := ⟨gb147, 2, none⟩) (Kd.N_far (p := ⟨gb147, 1, none⟩) (Kd.N_far (p := ⟨gb147, 0, none⟩) (Kd.N_mono HO_3.out (fun k_ hk => (⟨hk, hk.2⟩ : _ ∧ k_ ≠ gb147))) (fun _ hk => hk.2) (.int .i64 ((rd_It l0 x8_1).f0))) (fun _ hk => hk.2) (.int .i64 ((rd_It l0 x8_1).f1))) (fun _ hk => hk.2) (.slice A146_2 ((rd_It l0 x8_1).f2).length c146_2)) (fun _ hk => ⟨hk.1.1, hk.1.2⟩)))⟩; have n1_ : Aside0 (Kd.V kIt 31 w8 w.heap.size (fun k_ => (P0_ k_ ∨ w.heap.size ≤ k_) ∧ some k_ ≠ (u3 : Value).ownBlock ∧ k_ ≠ gb147) (.slice (some ad146) l0.length c0) l0) := ⟨(by rw [hw]; exact (by (with_reducible repeat (first | apply Kd.V_alloc | apply Kd.V_drewN | apply Kd.V_drew)); exact Kd.V_mono (Kd.V_far (p := ⟨gb147, 2, none⟩) (Kd.V_far (p := ⟨gb147, 1, none⟩) (Kd.V_far (p := ⟨gb147, 0, none⟩) (Kd.V_mono HO_6.out (fun k_ hk => (⟨hk, hk.2⟩ : _ ∧ k_ ≠ gb147))) (fun _ hk => hk.2) (.int .i64 ((rd_It l0 x8_1).f0))) (fun _ hk => hk.2) (.int .i64 ((rd_It l0 x8_1).f1))) (fun _ hk => hk.2) (.slice A146_2 ((rd_It l0 x8_1).f2).length c146_2)) (fun _ hk => ⟨hk.1.1.1, ⟨hk.1.1.2, hk.1.2⟩⟩)))⟩; have n2_ : Aside0 (Kd.V (Kd.int .i64) 3 w8 w.heap.size (fun k_ => (P0_ k_ ∨ w.heap.size ≤ k_) ∧ some k_ ≠ (u3 : Value).ownBlock ∧ k_ ≠ gb147) (.slice A146_2 ((rd_It l0 x8_1).f2).length c146_2) ((rd_It l0 x8_1).f2)) := ⟨(by rw [hw]; exact (by (with_reducible repeat (first | apply Kd.V_alloc | apply Kd.V_drewN | apply Kd.V_drew)); exact Kd.V_mono (Kd.V_far (p := ⟨gb147, 2, none⟩) (Kd.V_far (p := ⟨gb147, 1, none⟩) (Kd.V_far (p := ⟨gb147, 0, none⟩) (Kd.V_mono HL146_2.out (fun k_ hk => (⟨hk, hk.2⟩ : _ ∧ k_ ≠ gb147))) (fun _ hk => hk.2) (.int .i64 ((rd_It l0 x8_1).f0))) (fun _ hk => hk.2) (.int .i64 ((rd_It l0 x8_1).f1))) (fun _ hk => hk.2) (.slice A146_2 ((rd_It l0 x8_1).f2).length c146_2)) (fun _ hk => ⟨hk.1.1.1, ⟨hk.1.1.2, hk.1.2⟩⟩)))⟩; have n3_ : Aside0 (w8.heap[gb147]? = some (.cells #[.int .i64 ((rd_It l0 x8_1).f0), .int .i64 ((rd_It l0 x8_1).f1), .slice A146_2 ((rd_It l0 x8_1).f2).length c146_2] 31 (0, 0))) := ⟨(by rw [hw]; exact (by (with_reducible repeat (first | refine blk_drewN ?_ _ | refine blk_drew ?_ | refine blk_alloc ?_ _)); refine blk_put (cs := #[.int .i64 ((rd_It l0 x8_1).f0), .int .i64 ((rd_It l0 x8_1).f1), .slice none 0 0]) ?_ 2 _ rfl; (with_reducible repeat (first | refine blk_drewN ?_ _ | refine blk_drew ?_ | refine blk_alloc ?_ _)); refine blk_put (cs := #[.int .i64 ((rd_It l0 x8_1).f0), .int .i64 0, .slice none 0 0]) ?_ 1 _ rfl; (with_reducible repeat (first | refine blk_drewN ?_ _ | refine blk_drew ?_ | refine blk_alloc ?_ _)); refine blk_put (cs := #[.int .i64 0, .int .i64 0, .slice none 0 0]) ?_ 0 _ rfl; (with_reducible repeat (first | refine blk_drewN ?_ _ | refine blk_drew ?_ | refine blk_alloc ?_ _)); exact BK147.out))⟩; have n4_ : Aside0 (Below w.heap.size w w8) := ⟨(by rw [hw]; exact (by repeat (first | (with_reducible first | exact HB.out | apply below_alloc | apply pw_below_drewN | apply below_drew1 | refine below_set ?_ GE147.out) | exact HB.out)))⟩; clear hw; clear HO_3; clear HO_6; clear HL146_2; clear BK147; clear HB; have HO_3 := n0_; have HO_6 := n1_; have HL146_2 := n2_; have BK147 := n3_; have HB := n4_; clear n0_ n1_ n2_ n3_ n4_; have hcz9_0 : w8.cell? ⟨gb147, 0, none⟩ = some (.int .i64 ((rd_It l0 x8_1).f0)) := (blk_cell BK147.out 0).trans rfl; have hcz9_1 : w8.cell? ⟨gb147, 1, none⟩ = some (.int .i64 ((rd_It l0 x8_1).f1)) := (blk_cell BK147.out 1).trans rfl; have hcz9_2 : w8.cell? ⟨gb147, 2, none⟩ = some (.slice A146_2 ((rd_It l0 x8_1).f2).length c146_2) := (blk_cell BK147.out 2).trans rfl; have hfz9_0 := blk_frozen BK147.out 0; have hfz9_1 := blk_frozen BK147.out 1; have hfz9_2 := blk_frozen BK147.out 2) | ((with_reducible refine gate_builtin (b := .append) (xs := #[.tmp 12, .tmp 20]) rfl ?_); at_builtin; refine Kd.N_append kIt (w0 := w) w.heap.size rfl (.tmp 12) (.tmp 20) 22 46 (.agg #[(.int .i64 0), (.int .i64 0), (.slice none 0 0)]) 40 rfl Tryz.underlying22 info46 rfl (by decide) (by omega) u3 x3_1 (⟨(rd_It l0 x8_1).f0, (rd_It l0 x8_1).f1, (rd_It l0 x8_1).f2⟩ : It) [.int .i64 ((rd_It l0 x8_1).f0), .int .i64 ((rd_It l0 x8_1).f1), .slice A146_2 ((rd_It l0 x8_1).f2).length c146_2] (fun k_ => (P0_ k_ ∨ w.heap.size ≤ k_) ∧ k_ ≠ gb147) (fun k_ => ((fun k_ => (P0_ k_ ∨ w.heap.size ≤ k_) ∧ k_ ≠ gb147)) k_ ∧ some k_ ≠ (u3 : Value).ownBlock) rfl rfl ?aP (fun _ hk => hk) ?aF ?aO ?aB ?aS ?aL ?_; (case aP => exact (kIt_mkF _ _ (⟨(rd_It l0 x8_1).f0, (rd_It l0 x8_1).f1, (rd_It l0 x8_1).f2⟩ : It) (Kd.V_reads' (Kd.V_mono (ok' := (fun k_ => ((fun k_ => (P0_ k_ ∨ w.heap.size ≤ k_) ∧ k_ ≠ gb147)) k_ ∧ some k_ ≠ (u3 : Value).ownBlock)) (HL146_2.out) (fun k_ hk => ⟨⟨hk.1, hk.2.2⟩, hk.2.1⟩))).2.1 (Kd.V_F (Kd.V_mono (ok' := (fun k_ => ((fun k_ => (P0_ k_ ∨ w.heap.size ≤ k_) ∧ k_ ≠ gb147)) k_ ∧ some k_ ≠ (u3 : Value).ownBlock)) (HL146_2.out) (fun k_ hk => ⟨⟨hk.1, hk.2.2⟩, hk.2.1⟩))))); (case aB => exact (by repeat (first | (with_reducible first | exact HB.out | apply below_alloc | apply pw_below_drewN | apply below_drew1 | refine below_set ?_ GE147.out) | exact HB.out))); (case aF => exact (fun k_ hk => ⟨(.inr (Nat.le_trans (below_size (by repeat (first | (with_reducible first | exact HB.out | apply below_alloc | apply pw_below_drewN | apply below_drew1 | refine below_set ?_ GE147.out) | exact HB.out))) hk)), Kd.freshB (g := gb147) (o := .cells #[.int .i64 ((rd_It l0 x8_1).f0), .int .i64 ((rd_It l0 x8_1).f1), .slice A146_2 ((rd_It l0 x8_1).f2).length c146_2] 31 (0, 0)) (by (with_reducible repeat (first | refine blk_drewN ?_ _ | refine blk_drew ?_ | refine blk_alloc ?_ _)); exact BK147.out) k_ hk⟩)); (case aO => exact (by (with_reducible repeat (first | apply Kd.N_alloc | apply Kd.N_drewN | apply Kd.N_drew)); exact HO_3.out)); (case aS => exact (below_size (by repeat (first | (with_reducible first | exact HB.out | apply below_alloc | apply pw_below_drewN | apply below_drew1 | refine below_set ?_ GE147.out) | exact HB.out)))); (case aL => have := LMc5.out; omega); intro v149 w10 ho hb hg hat; rw [← Ny148.out] at ho; have n0_ := Aside0.mk (Kd.V_afterv (ok := (fun k_ => (P0_ k_ ∨ w.heap.size ≤ k_) ∧ k_ ≠ gb147)) (by (with_reducible repeat (first | apply Kd.V_alloc | apply Kd.V_drewN | apply Kd.V_drew)); exact Kd.V_mono HO_6.out (fun _ hk => ⟨⟨hk.1, hk.2.2⟩, hk.2.1⟩)) hg hat); have n1_ := Aside0.mk (Kd.V_afterv (ok := (fun k_ => (P0_ k_ ∨ w.heap.size ≤ k_) ∧ k_ ≠ gb147)) (by (with_reducible repeat (first | apply Kd.V_alloc | apply Kd.V_drewN | apply Kd.V_drew)); exact Kd.V_mono HL146_2.out (fun _ hk => ⟨⟨hk.1, hk.2.2⟩, hk.2.1⟩)) hg hat); have n2_ := Aside0.mk (blk_grown (g := gb147) (o := .cells #[.int .i64 ((rd_It l0 x8_1).f0), .int .i64 ((rd_It l0 x8_1).f1), .slice A146_2 ((rd_It l0 x8_1).f2).length c146_2] 31 (0, 0)) (by (with_reducible repeat (first | refine blk_drewN ?_ _ | refine blk_drew ?_ | refine blk_alloc ?_ _)); exact BK147.out) hg (Kd.N_ne HO_3.out BK147.out (by decide))); have n3_ := Aside0.mk (hb); have n4_ := Aside0.mk (ho); clear HO_6; clear HL146_2; clear BK147; clear HB; clear HO_3; have HO_6 := n0_; have HL146_2 := n1_; have BK147 := n2_; have HB := n3_; have HO150 := n4_; clear n0_ n1_ n2_ n3_ n4_; clear ho hb hg hat))
              go_roundg k1
              case measure => have := HK1.out; omega
              case rel => exact ⟨(y148), (wrap64 (x8_1 + 1)), (by first | rfl | (simp; done) | (simp [*]; done)), H', ⟨by have := HK1.out; omega⟩, ⟨by (with_reducible repeat (first | apply Kd.N_alloc | apply Kd.N_drewN | apply Kd.N_drew)); exact Kd.N_mono HO150.out (fun _ hk => hk.1)⟩, ⟨by (with_reducible repeat (first | apply Kd.V_alloc | apply Kd.V_drewN | apply Kd.V_drew)); exact Kd.V_mono HO_6.out (fun _ hk => ⟨hk.1.1, hk.2⟩)⟩, ⟨by repeat (first | (with_reducible first | exact HB.out | apply below_alloc | apply pw_below_drewN | apply below_drew1 | refine below_set ?_ GE147.out) | exact HB.out)⟩⟩
            · rw [if_neg c5] at H
              exact absurd H (by simp)
          · rw [if_neg c4] at H
            exact absurd H (by simp)
        · rw [if_neg c3] at H
          exact absurd H (by simp)
      · rw [if_neg c2] at H
        have c2b0 : decide (x8_1 < (l0.length : Int)) = false := decide_eq_false c2
        clear c2
        obtain rfl := Option.some.inj H
        go_wp2
        go_ret
        exact ⟨_, by first | rfl | (simp [errW_none, errW_some] <;> rfl) | (simp [*, errW_none, errW_some] <;> rfl), by (with_reducible repeat (first | apply Kd.N_alloc | apply Kd.N_drewN | apply Kd.N_drew)); exact HO_3.out, by repeat (first | (with_reducible first | exact HB.out | apply below_alloc | apply pw_below_drewN | apply below_drew1) | exact HB.out)⟩


/-! ### laws_ints: function 35 -/
def laws_ints.l0 : Nat → List Int → List Int → Int → Int → Option (Bool)
  | 0, _, _, _, _ => none
  | k + 1, x0, x1, x12, x13 => if x13 < x12 then (if 0 ≤ x13 then (if x13 < (x0.length : Int) then (if x13 < (x1.length : Int) then (if (rd x0 x13) = (rd x1 x13) then (laws_ints.l0 k x0 x1 x12 (wrap64 (x13 + 1))) else (some false)) else (none)) else (none)) else (none)) else (some true)
def laws_ints.f (k : Nat) (l0 : List Int) (l1 : List Int) : Option (Bool) := if (l0.length : Int) = (l1.length : Int) then (laws_ints.l0 k l0 l1 (l0.length : Int) 0) else (some false)
theorem laws_ints.mono_l : ∀ k, (∀ y0 y1 y2 y3, LeO (laws_ints.l0 k y0 y1 y2 y3) (laws_ints.l0 (k + 1) y0 y1 y2 y3))
  | 0 => fun _ _ _ _ r h => by simp [laws_ints.l0] at h
  | k + 1 => by
    have ih0 := laws_ints.mono_l k
    · intro y0 y1 y2 y3
      unfold laws_ints.l0
      repeat' first
      | (with_reducible exact ih0 _ _ _ _)
      | (with_reducible exact LeO.refl _)
      | (with_reducible exact LeO.none _)
      | (with_reducible refine LeO.ite ?_ ?_)
      | (with_reducible refine LeO.bind ?_ (fun _ => ?_))
      | exact ih0 _ _ _ _
      | exact LeO.none _
      | refine LeO.ite ?_ ?_
      | refine LeO.bind ?_ (fun _ => ?_)
theorem laws_ints.mono : ∀ a0 a1 k, LeO (laws_ints.f k a0 a1) (laws_ints.f (k + 1) a0 a1) := by
  intro a0 a1 k
  have ih0 := laws_ints.mono_l k
  unfold laws_ints.f
  repeat' first
      | (with_reducible exact ih0 _ _ _ _)
      | (with_reducible exact LeO.refl _)
      | (with_reducible exact LeO.none _)
      | (with_reducible refine LeO.ite ?_ ?_)
      | (with_reducible refine LeO.bind ?_ (fun _ => ?_))
      | exact ih0 _ _ _ _
      | exact LeO.none _
      | refine LeO.ite ?_ ?_
      | refine LeO.bind ?_ (fun _ => ?_)
set_option maxHeartbeats 8000000 in
set_option maxRecDepth 100000 in
theorem laws_ints.calls (k : Nat) (A0 : Option Addr) (c0 : Nat) (l0 : List Int) (A1 : Option Addr) (c1 : Nat) (l1 : List Int) (r : Bool) (w : World) (hr0 : Kd.C (Kd.int .i64) w A0 l0.length l0) (hc0 : l0.length ≤ c0) (hr1 : Kd.C (Kd.int .i64) w A1 l1.length l1) (hc1 : l1.length ≤ c1) (h : laws_ints.f k l0 l1 = some r) :
    Calls Tryz.prog 35 #[.slice A0 l0.length c0, .slice A1 l1.length c1] w fun e w' => e = .returned (.bool r) ∧ Drawn0 w w' := by
  have HR0 := Aside0.mk hr0
  have HC0 := Aside0.mk hc0
  clear hr0 hc0
  have HR1 := Aside0.mk hr1
  have HC1 := Aside0.mk hc1
  clear hr1 hc1
  have H : (if (l0.length : Int) = (l1.length : Int) then (laws_ints.l0 k l0 l1 (l0.length : Int) 0) else (some false)) = some r := h
  clear h
  by_cases c3 : (l0.length : Int) = (l1.length : Int)
  · rw [if_pos c3] at H
    have c3b0 : ((l0.length : Int) == (l1.length : Int)) = true := beq_iff_eq.mpr c3
    have c3b1 : ((l0.length : Int) != (l1.length : Int)) = false := bne_eq_false_iff_eq.mpr c3
    have c3b2 : (l0.length == l1.length) = true := by first | simpa using c3 | (simp at c3 ⊢; omega)
    clear c3
    have H' := Aside0.mk H
    clear H
    go_enter Tryz.func35, Tryz.ntmps35
    go_wp2
    repeat (go_quiet (fail); try go_wp2)
    go_loopg [13] k (fun kq v13 w' => ∃ (x13_1 : Int), v13 = .int .i64 x13_1 ∧ Aside0 (laws_ints.l0 kq l0 l1 (l0.length : Int) x13_1 = some r) ∧ Aside0 (kq ≤ k) ∧ Drawn0 w w')
    case atStart => exact ⟨(0), (by first | rfl | (simp; done) | (simp [*]; done)), H', ⟨Nat.le_refl _⟩, by repeat (first | exact Drawn0.refl _ | apply Drawn0.step)⟩
    case round =>
      clear H'
      try clear c1
      try clear p2
      try clear c3
      try clear c3b0
      try clear c3b1
      try clear c3b2
      obtain ⟨x13_1, rfl, HA, HK1, ⟨m1, rfl⟩⟩ := hrel
      cases gk with
      | zero => exact absurd HA.out (by simp [laws_ints.l0])
      | succ k1 =>
        have H := HA.out
        clear HA
        simp only [laws_ints.l0] at H
        by_cases c4 : x13_1 < (l0.length : Int)
        · rw [if_pos c4] at H
          have c4b0 : decide (x13_1 < (l0.length : Int)) = true := decide_eq_true c4
          clear c4
          by_cases c5 : 0 ≤ x13_1
          · rw [if_pos c5] at H
            have c5b0 : decide (0 ≤ x13_1) = true := decide_eq_true c5
            clear c5
            by_cases c6 : x13_1 < (l0.length : Int)
            · rw [if_pos c6] at H
              have c6b0 : decide (x13_1 < (l0.length : Int)) = true := decide_eq_true c6
              clear c6
              by_cases c7 : x13_1 < (l1.length : Int)
              · rw [if_pos c7] at H
                have c7b0 : decide (x13_1 < (l1.length : Int)) = true := decide_eq_true c7
                clear c7
                by_cases c8 : (rd l0 x13_1) = (rd l1 x13_1)
                · rw [if_pos c8] at H
                  have c8b0 : ((rd l0 x13_1) == (rd l1 x13_1)) = true := beq_iff_eq.mpr c8
                  have c8b1 : ((rd l0 x13_1) != (rd l1 x13_1)) = false := bne_eq_false_iff_eq.mpr c8
                  clear c8
                  have H' := Aside0.mk H
                  clear H
                  have p154 : 0 ≤ (x13_1 : Int) := of_decide_eq_true (by first | (with_reducible assumption) | assumption)
                  have q154 : x13_1 < (l0.length : Int) := of_decide_eq_true (by first | (with_reducible assumption) | assumption)
                  obtain ⟨ad154, e154, hx154_0⟩ := Kd.at_int HR0.out x13_1 p154 q154
                  cases e154
                  replace p154 := eq_true p154
                  replace q154 := eq_true q154
                  have p155 : 0 ≤ (x13_1 : Int) := of_decide_eq_true (by first | (with_reducible assumption) | assumption)
                  have q155 : x13_1 < (l1.length : Int) := of_decide_eq_true (by first | (with_reducible assumption) | assumption)
                  obtain ⟨ad155, e155, hx155_0⟩ := Kd.at_int HR1.out x13_1 p155 q155
                  cases e155
                  replace p155 := eq_true p155
                  replace q155 := eq_true q155
                  go_wp2
                  repeat (go_quiet (fail); try go_wp2)
                  go_roundg k1
                  case measure => have := HK1.out; omega
                  case rel => exact ⟨(wrap64 (x13_1 + 1)), (by first | rfl | (simp; done) | (simp [*]; done)), H', ⟨by have := HK1.out; omega⟩, by repeat (first | exact Drawn0.refl _ | apply Drawn0.step)⟩
                · rw [if_neg c8] at H
                  have c8b0 : ((rd l0 x13_1) == (rd l1 x13_1)) = false := beq_eq_false_iff_ne.mpr c8
                  have c8b1 : ((rd l0 x13_1) != (rd l1 x13_1)) = true := bne_iff_ne.mpr c8
                  obtain rfl := Option.some.inj H
                  have p154 : 0 ≤ (x13_1 : Int) := of_decide_eq_true (by first | (with_reducible assumption) | assumption)
                  have q154 : x13_1 < (l0.length : Int) := of_decide_eq_true (by first | (with_reducible assumption) | assumption)
                  obtain ⟨ad154, e154, hx154_0⟩ := Kd.at_int HR0.out x13_1 p154 q154
                  cases e154
                  replace p154 := eq_true p154
                  replace q154 := eq_true q154
                  have p155 : 0 ≤ (x13_1 : Int) := of_decide_eq_true (by first | (with_reducible assumption) | assumption)
                  have q155 : x13_1 < (l1.length : Int) := of_decide_eq_true (by first | (with_reducible assumption) | assumption)
                  obtain ⟨ad155, e155, hx155_0⟩ := Kd.at_int HR1.out x13_1 p155 q155
                  cases e155
                  replace p155 := eq_true p155
                  replace q155 := eq_true q155
                  go_wp2
                  repeat (go_quiet (fail); try go_wp2)
                  go_ret
                  exact ⟨by first | rfl | (simp; done) | (simp [*]; done), by repeat (first | exact Drawn0.refl _ | apply Drawn0.step)⟩
              · rw [if_neg c7] at H
                exact absurd H (by simp)
            · rw [if_neg c6] at H
              exact absurd H (by simp)
          · rw [if_neg c5] at H
            exact absurd H (by simp)
        · rw [if_neg c4] at H
          have c4b0 : decide (x13_1 < (l0.length : Int)) = false := decide_eq_false c4
          clear c4
          obtain rfl := Option.some.inj H
          go_wp2
          repeat (go_quiet (fail); try go_wp2)
          go_ret
          exact ⟨by first | rfl | (simp; done) | (simp [*]; done), by repeat (first | exact Drawn0.refl _ | apply Drawn0.step)⟩
  · rw [if_neg c3] at H
    have c3b0 : ((l0.length : Int) == (l1.length : Int)) = false := beq_eq_false_iff_ne.mpr c3
    have c3b1 : ((l0.length : Int) != (l1.length : Int)) = true := bne_iff_ne.mpr c3
    have c3b2 : (l0.length == l1.length) = false := by first | simpa using c3 | (simp at c3 ⊢; omega)
    obtain rfl := Option.some.inj H
    go_enter Tryz.func35, Tryz.ntmps35
    go_wp2
    repeat (go_quiet (fail); try go_wp2)
    go_ret
    exact ⟨by first | rfl | (simp; done) | (simp [*]; done), by repeat (first | exact Drawn0.refl _ | apply Drawn0.step)⟩


/-! ### laws_lists: function 29 -/
def laws_lists.l0 : Nat → List (List Int) → List (List Int) → Int → Int → Option (Bool)
  | 0, _, _, _, _ => none
  | k + 1, x0, x1, x12, x13 => if x13 < x12 then (if 0 ≤ x13 then (if x13 < (x0.length : Int) then (if x13 < (x1.length : Int) then ((laws_ints.f k (rd_L1 x0 x13) (rd_L1 x1 x13)).bind fun t158 => (if t158 = true then (laws_lists.l0 k x0 x1 x12 (wrap64 (x13 + 1))) else (some false))) else (none)) else (none)) else (none)) else (some true)
def laws_lists.f (k : Nat) (l0 : List (List Int)) (l1 : List (List Int)) : Option (Bool) := if (l0.length : Int) = (l1.length : Int) then (laws_lists.l0 k l0 l1 (l0.length : Int) 0) else (some false)
theorem laws_lists.mono_l : ∀ k, (∀ y0 y1 y2 y3, LeO (laws_lists.l0 k y0 y1 y2 y3) (laws_lists.l0 (k + 1) y0 y1 y2 y3))
  | 0 => fun _ _ _ _ r h => by simp [laws_lists.l0] at h
  | k + 1 => by
    have ih0 := laws_lists.mono_l k
    · intro y0 y1 y2 y3
      unfold laws_lists.l0
      repeat' first
      | (with_reducible exact ih0 _ _ _ _)
      | (with_reducible exact laws_ints.mono _ _ _)
      | (with_reducible exact LeO.refl _)
      | (with_reducible exact LeO.none _)
      | (with_reducible refine LeO.ite ?_ ?_)
      | (with_reducible refine LeO.bind ?_ (fun _ => ?_))
      | exact ih0 _ _ _ _
      | exact laws_ints.mono _ _ _
      | exact LeO.none _
      | refine LeO.ite ?_ ?_
      | refine LeO.bind ?_ (fun _ => ?_)
theorem laws_lists.mono : ∀ a0 a1 k, LeO (laws_lists.f k a0 a1) (laws_lists.f (k + 1) a0 a1) := by
  intro a0 a1 k
  have ih0 := laws_lists.mono_l k
  unfold laws_lists.f
  repeat' first
      | (with_reducible exact ih0 _ _ _ _)
      | (with_reducible exact laws_ints.mono _ _ _)
      | (with_reducible exact LeO.refl _)
      | (with_reducible exact LeO.none _)
      | (with_reducible refine LeO.ite ?_ ?_)
      | (with_reducible refine LeO.bind ?_ (fun _ => ?_))
      | exact ih0 _ _ _ _
      | exact laws_ints.mono _ _ _
      | exact LeO.none _
      | refine LeO.ite ?_ ?_
      | refine LeO.bind ?_ (fun _ => ?_)
set_option maxHeartbeats 8000000 in
set_option maxRecDepth 100000 in
theorem laws_lists.calls (k : Nat) (A0 : Option Addr) (c0 : Nat) (l0 : List (List Int)) (A1 : Option Addr) (c1 : Nat) (l1 : List (List Int)) (r : Bool) (w : World) (hr0 : Kd.C (Kd.slice 3 (Kd.int .i64)) w A0 l0.length l0) (hc0 : l0.length ≤ c0) (hr1 : Kd.C (Kd.slice 3 (Kd.int .i64)) w A1 l1.length l1) (hc1 : l1.length ≤ c1) (h : laws_lists.f k l0 l1 = some r) :
    Calls Tryz.prog 29 #[.slice A0 l0.length c0, .slice A1 l1.length c1] w fun e w' => e = .returned (.bool r) ∧ Drawn0 w w' := by
  have HR0 := Aside0.mk hr0
  have HC0 := Aside0.mk hc0
  clear hr0 hc0
  have HR1 := Aside0.mk hr1
  have HC1 := Aside0.mk hc1
  clear hr1 hc1
  have H : (if (l0.length : Int) = (l1.length : Int) then (laws_lists.l0 k l0 l1 (l0.length : Int) 0) else (some false)) = some r := h
  clear h
  by_cases c3 : (l0.length : Int) = (l1.length : Int)
  · rw [if_pos c3] at H
    have c3b0 : ((l0.length : Int) == (l1.length : Int)) = true := beq_iff_eq.mpr c3
    have c3b1 : ((l0.length : Int) != (l1.length : Int)) = false := bne_eq_false_iff_eq.mpr c3
    have c3b2 : (l0.length == l1.length) = true := by first | simpa using c3 | (simp at c3 ⊢; omega)
    clear c3
    have H' := Aside0.mk H
    clear H
    go_enter Tryz.func29, Tryz.ntmps29
    go_wp2
    repeat (go_quiet (fail); try go_wp2)
    go_loopg [13] k (fun kq v13 w' => ∃ (x13_1 : Int), v13 = .int .i64 x13_1 ∧ Aside0 (laws_lists.l0 kq l0 l1 (l0.length : Int) x13_1 = some r) ∧ Aside0 (kq ≤ k) ∧ Drawn0 w w')
    case atStart => exact ⟨(0), (by first | rfl | (simp; done) | (simp [*]; done)), H', ⟨Nat.le_refl _⟩, by repeat (first | exact Drawn0.refl _ | apply Drawn0.step)⟩
    case round =>
      clear H'
      try clear c1
      try clear c2
      try clear p2
      try clear c3
      try clear c3b0
      try clear c3b1
      try clear c3b2
      obtain ⟨x13_1, rfl, HA, HK1, ⟨m1, rfl⟩⟩ := hrel
      cases gk with
      | zero => exact absurd HA.out (by simp [laws_lists.l0])
      | succ k1 =>
        have H := HA.out
        clear HA
        simp only [laws_lists.l0] at H
        by_cases c4 : x13_1 < (l0.length : Int)
        · rw [if_pos c4] at H
          have c4b0 : decide (x13_1 < (l0.length : Int)) = true := decide_eq_true c4
          clear c4
          by_cases c5 : 0 ≤ x13_1
          · rw [if_pos c5] at H
            have c5b0 : decide (0 ≤ x13_1) = true := decide_eq_true c5
            clear c5
            by_cases c6 : x13_1 < (l0.length : Int)
            · rw [if_pos c6] at H
              have c6b0 : decide (x13_1 < (l0.length : Int)) = true := decide_eq_true c6
              clear c6
              by_cases c7 : x13_1 < (l1.length : Int)
              · rw [if_pos c7] at H
                have c7b0 : decide (x13_1 < (l1.length : Int)) = true := decide_eq_true c7
                clear c7
                replace H := Option.bind_eq_some_iff.mp H
                obtain ⟨t158, A80, H⟩ := H
                replace H : (if t158 = true then (laws_lists.l0 k1 l0 l1 (l0.length : Int) (wrap64 (x13_1 + 1))) else (some false)) = some r := H
                have A8 := Aside0.mk A80
                clear A80
                by_cases c9 : t158 = true
                · subst c9
                  have H1 : (laws_lists.l0 k1 l0 l1 (l0.length : Int) (wrap64 (x13_1 + 1))) = some r := by rw [if_pos rfl] at H; exact H
                  clear H
                  have H := H1
                  clear H1
                  have H' := Aside0.mk H
                  clear H
                  have p156 : 0 ≤ (x13_1 : Int) := of_decide_eq_true (by first | (with_reducible assumption) | assumption)
                  have q156 : x13_1 < (l0.length : Int) := of_decide_eq_true (by first | (with_reducible assumption) | assumption)
                  obtain ⟨ad156, A156_0, c156_0, e156, hx156_0, hl156_0, hi156_0⟩ := at_L1 HR0.out x13_1 p156 q156
                  cases e156
                  have HR156_0 := Aside0.mk hi156_0
                  have HC156_0 := Aside0.mk hl156_0
                  clear hi156_0 hl156_0
                  replace p156 := eq_true p156
                  replace q156 := eq_true q156
                  have p157 : 0 ≤ (x13_1 : Int) := of_decide_eq_true (by first | (with_reducible assumption) | assumption)
                  have q157 : x13_1 < (l1.length : Int) := of_decide_eq_true (by first | (with_reducible assumption) | assumption)
                  obtain ⟨ad157, A157_0, c157_0, e157, hx157_0, hl157_0, hi157_0⟩ := at_L1 HR1.out x13_1 p157 q157
                  cases e157
                  have HR157_0 := Aside0.mk hi157_0
                  have HC157_0 := Aside0.mk hl157_0
                  clear hi157_0 hl157_0
                  replace p157 := eq_true p157
                  replace q157 := eq_true q157
                  go_wp2_with (first | (go_at_call 35; (with_reducible refine (laws_ints.calls k1 _ _ (rd_L1 l0 x13_1) _ _ (rd_L1 l1 x13_1) true _ ?side1 ?side2 ?side3 ?side4 A8.out).mono ?_); (case side1 => repeat (first | exact HR156_0.out | (with_reducible refine Kd.C_alloc ?_ _) | (with_reducible refine Kd.C_drewN ?_ _) | (with_reducible refine Kd.C_drew ?_))); (case side2 => exact HC156_0.out); (case side3 => repeat (first | exact HR157_0.out | (with_reducible refine Kd.C_alloc ?_ _) | (with_reducible refine Kd.C_drewN ?_ _) | (with_reducible refine Kd.C_drew ?_))); (case side4 => exact HC157_0.out); rintro e w' ⟨rfl, ⟨nd, rfl⟩⟩; (try first | exact ⟨rfl, _, World.drewN_drewN _ _ _⟩ | exact ⟨rfl, _, Eq.trans (World.drewN_drewN _ _ _) (congrArg (World.drewN _) (Nat.add_assoc _ _ _))⟩)))
                  repeat (go_quiet (first | (go_at_call 35; (with_reducible refine (laws_ints.calls k1 _ _ (rd_L1 l0 x13_1) _ _ (rd_L1 l1 x13_1) true _ ?side1 ?side2 ?side3 ?side4 A8.out).mono ?_); (case side1 => repeat (first | exact HR156_0.out | (with_reducible refine Kd.C_alloc ?_ _) | (with_reducible refine Kd.C_drewN ?_ _) | (with_reducible refine Kd.C_drew ?_))); (case side2 => exact HC156_0.out); (case side3 => repeat (first | exact HR157_0.out | (with_reducible refine Kd.C_alloc ?_ _) | (with_reducible refine Kd.C_drewN ?_ _) | (with_reducible refine Kd.C_drew ?_))); (case side4 => exact HC157_0.out); rintro e w' ⟨rfl, ⟨nd, rfl⟩⟩; (try first | exact ⟨rfl, _, World.drewN_drewN _ _ _⟩ | exact ⟨rfl, _, Eq.trans (World.drewN_drewN _ _ _) (congrArg (World.drewN _) (Nat.add_assoc _ _ _))⟩))); try go_wp2_with (first | (go_at_call 35; (with_reducible refine (laws_ints.calls k1 _ _ (rd_L1 l0 x13_1) _ _ (rd_L1 l1 x13_1) true _ ?side1 ?side2 ?side3 ?side4 A8.out).mono ?_); (case side1 => repeat (first | exact HR156_0.out | (with_reducible refine Kd.C_alloc ?_ _) | (with_reducible refine Kd.C_drewN ?_ _) | (with_reducible refine Kd.C_drew ?_))); (case side2 => exact HC156_0.out); (case side3 => repeat (first | exact HR157_0.out | (with_reducible refine Kd.C_alloc ?_ _) | (with_reducible refine Kd.C_drewN ?_ _) | (with_reducible refine Kd.C_drew ?_))); (case side4 => exact HC157_0.out); rintro e w' ⟨rfl, ⟨nd, rfl⟩⟩; (try first | exact ⟨rfl, _, World.drewN_drewN _ _ _⟩ | exact ⟨rfl, _, Eq.trans (World.drewN_drewN _ _ _) (congrArg (World.drewN _) (Nat.add_assoc _ _ _))⟩))))
                  go_roundg k1
                  case measure => have := HK1.out; omega
                  case rel => exact ⟨(wrap64 (x13_1 + 1)), (by first | rfl | (simp; done) | (simp [*]; done)), H', ⟨by have := HK1.out; omega⟩, by repeat (first | exact Drawn0.refl _ | apply Drawn0.step)⟩
                · replace c9 := Bool.eq_false_iff.mpr c9
                  subst c9
                  have H1 : (some false) = some r := by rw [if_neg (show ¬ (false = true) by decide)] at H; exact H
                  clear H
                  have H := H1
                  clear H1
                  obtain rfl := Option.some.inj H
                  have p156 : 0 ≤ (x13_1 : Int) := of_decide_eq_true (by first | (with_reducible assumption) | assumption)
                  have q156 : x13_1 < (l0.length : Int) := of_decide_eq_true (by first | (with_reducible assumption) | assumption)
                  obtain ⟨ad156, A156_0, c156_0, e156, hx156_0, hl156_0, hi156_0⟩ := at_L1 HR0.out x13_1 p156 q156
                  cases e156
                  have HR156_0 := Aside0.mk hi156_0
                  have HC156_0 := Aside0.mk hl156_0
                  clear hi156_0 hl156_0
                  replace p156 := eq_true p156
                  replace q156 := eq_true q156
                  have p157 : 0 ≤ (x13_1 : Int) := of_decide_eq_true (by first | (with_reducible assumption) | assumption)
                  have q157 : x13_1 < (l1.length : Int) := of_decide_eq_true (by first | (with_reducible assumption) | assumption)
                  obtain ⟨ad157, A157_0, c157_0, e157, hx157_0, hl157_0, hi157_0⟩ := at_L1 HR1.out x13_1 p157 q157
                  cases e157
                  have HR157_0 := Aside0.mk hi157_0
                  have HC157_0 := Aside0.mk hl157_0
                  clear hi157_0 hl157_0
                  replace p157 := eq_true p157
                  replace q157 := eq_true q157
                  go_wp2_with (first | (go_at_call 35; (with_reducible refine (laws_ints.calls k1 _ _ (rd_L1 l0 x13_1) _ _ (rd_L1 l1 x13_1) false _ ?side1 ?side2 ?side3 ?side4 A8.out).mono ?_); (case side1 => repeat (first | exact HR156_0.out | (with_reducible refine Kd.C_alloc ?_ _) | (with_reducible refine Kd.C_drewN ?_ _) | (with_reducible refine Kd.C_drew ?_))); (case side2 => exact HC156_0.out); (case side3 => repeat (first | exact HR157_0.out | (with_reducible refine Kd.C_alloc ?_ _) | (with_reducible refine Kd.C_drewN ?_ _) | (with_reducible refine Kd.C_drew ?_))); (case side4 => exact HC157_0.out); rintro e w' ⟨rfl, ⟨nd, rfl⟩⟩; (try first | exact ⟨rfl, _, World.drewN_drewN _ _ _⟩ | exact ⟨rfl, _, Eq.trans (World.drewN_drewN _ _ _) (congrArg (World.drewN _) (Nat.add_assoc _ _ _))⟩)))
                  repeat (go_quiet (first | (go_at_call 35; (with_reducible refine (laws_ints.calls k1 _ _ (rd_L1 l0 x13_1) _ _ (rd_L1 l1 x13_1) false _ ?side1 ?side2 ?side3 ?side4 A8.out).mono ?_); (case side1 => repeat (first | exact HR156_0.out | (with_reducible refine Kd.C_alloc ?_ _) | (with_reducible refine Kd.C_drewN ?_ _) | (with_reducible refine Kd.C_drew ?_))); (case side2 => exact HC156_0.out); (case side3 => repeat (first | exact HR157_0.out | (with_reducible refine Kd.C_alloc ?_ _) | (with_reducible refine Kd.C_drewN ?_ _) | (with_reducible refine Kd.C_drew ?_))); (case side4 => exact HC157_0.out); rintro e w' ⟨rfl, ⟨nd, rfl⟩⟩; (try first | exact ⟨rfl, _, World.drewN_drewN _ _ _⟩ | exact ⟨rfl, _, Eq.trans (World.drewN_drewN _ _ _) (congrArg (World.drewN _) (Nat.add_assoc _ _ _))⟩))); try go_wp2_with (first | (go_at_call 35; (with_reducible refine (laws_ints.calls k1 _ _ (rd_L1 l0 x13_1) _ _ (rd_L1 l1 x13_1) false _ ?side1 ?side2 ?side3 ?side4 A8.out).mono ?_); (case side1 => repeat (first | exact HR156_0.out | (with_reducible refine Kd.C_alloc ?_ _) | (with_reducible refine Kd.C_drewN ?_ _) | (with_reducible refine Kd.C_drew ?_))); (case side2 => exact HC156_0.out); (case side3 => repeat (first | exact HR157_0.out | (with_reducible refine Kd.C_alloc ?_ _) | (with_reducible refine Kd.C_drewN ?_ _) | (with_reducible refine Kd.C_drew ?_))); (case side4 => exact HC157_0.out); rintro e w' ⟨rfl, ⟨nd, rfl⟩⟩; (try first | exact ⟨rfl, _, World.drewN_drewN _ _ _⟩ | exact ⟨rfl, _, Eq.trans (World.drewN_drewN _ _ _) (congrArg (World.drewN _) (Nat.add_assoc _ _ _))⟩))))
                  go_ret
                  exact ⟨by first | rfl | (simp; done) | (simp [*]; done), by repeat (first | exact Drawn0.refl _ | apply Drawn0.step)⟩
              · rw [if_neg c7] at H
                exact absurd H (by simp)
            · rw [if_neg c6] at H
              exact absurd H (by simp)
          · rw [if_neg c5] at H
            exact absurd H (by simp)
        · rw [if_neg c4] at H
          have c4b0 : decide (x13_1 < (l0.length : Int)) = false := decide_eq_false c4
          clear c4
          obtain rfl := Option.some.inj H
          go_wp2
          repeat (go_quiet (fail); try go_wp2)
          go_ret
          exact ⟨by first | rfl | (simp; done) | (simp [*]; done), by repeat (first | exact Drawn0.refl _ | apply Drawn0.step)⟩
  · rw [if_neg c3] at H
    have c3b0 : ((l0.length : Int) == (l1.length : Int)) = false := beq_eq_false_iff_ne.mpr c3
    have c3b1 : ((l0.length : Int) != (l1.length : Int)) = true := bne_iff_ne.mpr c3
    have c3b2 : (l0.length == l1.length) = false := by first | simpa using c3 | (simp at c3 ⊢; omega)
    obtain rfl := Option.some.inj H
    go_enter Tryz.func29, Tryz.ntmps29
    go_wp2
    repeat (go_quiet (fail); try go_wp2)
    go_ret
    exact ⟨by first | rfl | (simp; done) | (simp [*]; done), by repeat (first | exact Drawn0.refl _ | apply Drawn0.step)⟩


/-! ### laws_refers: function 15 -/
mutual
def laws_refers.l0 : Nat → List (It) → Int → Int → List (It) → Int → Int → Option (Bool)
  | 0, _, _, _, _, _, _ => none
  | k + 1, x0, x1, x2, x13, x14, x15 => if x15 < x14 then (if 0 ≤ x15 then (if x15 < (x13.length : Int) then ((spec_Package_Objects.f k x0 x15).bind fun t167 => (laws_refers.l1 k x0 x1 x2 x13 x14 x15 t167 (t167.length : Int) 0 ((rd_It x13 x15).f0) ((rd_It x13 x15).f1) ((rd_It x13 x15).f2))) else (none)) else (none)) else (some false)
def laws_refers.l1 : Nat → List (It) → Int → Int → List (It) → Int → Int → List Int → Int → Int → Int → Int → List Int → Option (Bool)
  | 0, _, _, _, _, _, _, _, _, _, _, _, _ => none
  | k + 1, x0, x1, x2, x13, x14, x15, x22, x23, x24, x167000, x167001, x167002 => if x24 < x23 then (if 0 ≤ x24 then (if x24 < (x22.length : Int) then (laws_refers.l2 k x0 x1 x2 (rd x22 x24) x13 x14 x15 x22 x23 x24 x167002 (x167002.length : Int) 0 x167000 x167001 x167002) else (none)) else (none)) else (laws_refers.l0 k x0 x1 x2 x13 x14 (wrap64 (x15 + 1)))
def laws_refers.l2 : Nat → List (It) → Int → Int → Int → List (It) → Int → Int → List Int → Int → Int → List Int → Int → Int → Int → Int → List Int → Option (Bool)
  | 0, _, _, _, _, _, _, _, _, _, _, _, _, _, _, _, _ => none
  | k + 1, x0, x1, x2, x10, x13, x14, x15, x22, x23, x24, x29, x30, x31, x167000, x167001, x167002 => if x31 < x30 then (if 0 ≤ x31 then (if x31 < (x29.length : Int) then (if x10 = x1 then (if (rd x29 x31) = x2 then (some true) else (laws_refers.l2 k x0 x1 x2 x10 x13 x14 x15 x22 x23 x24 x29 x30 (wrap64 (x31 + 1)) x167000 x167001 x167002)) else (laws_refers.l2 k x0 x1 x2 x10 x13 x14 x15 x22 x23 x24 x29 x30 (wrap64 (x31 + 1)) x167000 x167001 x167002)) else (none)) else (none)) else (laws_refers.l1 k x0 x1 x2 x13 x14 x15 x22 x23 (wrap64 (x24 + 1)) x167000 x167001 x167002)
end
def laws_refers.f (k : Nat) (l0 : List (It)) (a1 : Int) (a2 : Int) : Option (Bool) := laws_refers.l0 k l0 a1 a2 l0 (l0.length : Int) 0
theorem laws_refers.mono_l : ∀ k, (∀ y0 y1 y2 y3 y4 y5, LeO (laws_refers.l0 k y0 y1 y2 y3 y4 y5) (laws_refers.l0 (k + 1) y0 y1 y2 y3 y4 y5)) ∧ (∀ y0 y1 y2 y3 y4 y5 y6 y7 y8 y9 y10 y11, LeO (laws_refers.l1 k y0 y1 y2 y3 y4 y5 y6 y7 y8 y9 y10 y11) (laws_refers.l1 (k + 1) y0 y1 y2 y3 y4 y5 y6 y7 y8 y9 y10 y11)) ∧ (∀ y0 y1 y2 y3 y4 y5 y6 y7 y8 y9 y10 y11 y12 y13 y14 y15, LeO (laws_refers.l2 k y0 y1 y2 y3 y4 y5 y6 y7 y8 y9 y10 y11 y12 y13 y14 y15) (laws_refers.l2 (k + 1) y0 y1 y2 y3 y4 y5 y6 y7 y8 y9 y10 y11 y12 y13 y14 y15))
  | 0 => ⟨fun _ _ _ _ _ _ r h => by simp [laws_refers.l0] at h, fun _ _ _ _ _ _ _ _ _ _ _ _ r h => by simp [laws_refers.l1] at h, fun _ _ _ _ _ _ _ _ _ _ _ _ _ _ _ _ r h => by simp [laws_refers.l2] at h⟩
  | k + 1 => by
    obtain ⟨ih0, ih1, ih2⟩ := laws_refers.mono_l k
    refine ⟨?_, ?_, ?_⟩
    · intro y0 y1 y2 y3 y4 y5
      unfold laws_refers.l0
      repeat' first
      | (with_reducible exact ih0 _ _ _ _ _ _)
      | (with_reducible exact ih1 _ _ _ _ _ _ _ _ _ _ _ _)
      | (with_reducible exact ih2 _ _ _ _ _ _ _ _ _ _ _ _ _ _ _ _)
      | (with_reducible exact spec_Package_Objects.mono _ _ _)
      | (with_reducible exact LeO.refl _)
      | (with_reducible exact LeO.none _)
      | (with_reducible refine LeO.ite ?_ ?_)
      | (with_reducible refine LeO.bind ?_ (fun _ => ?_))
      | exact ih0 _ _ _ _ _ _
      | exact ih1 _ _ _ _ _ _ _ _ _ _ _ _
      | exact ih2 _ _ _ _ _ _ _ _ _ _ _ _ _ _ _ _
      | exact spec_Package_Objects.mono _ _ _
      | exact LeO.none _
      | refine LeO.ite ?_ ?_
      | refine LeO.bind ?_ (fun _ => ?_)
    · intro y0 y1 y2 y3 y4 y5 y6 y7 y8 y9 y10 y11
      unfold laws_refers.l1
      repeat' first
      | (with_reducible exact ih0 _ _ _ _ _ _)
      | (with_reducible exact ih1 _ _ _ _ _ _ _ _ _ _ _ _)
      | (with_reducible exact ih2 _ _ _ _ _ _ _ _ _ _ _ _ _ _ _ _)
      | (with_reducible exact spec_Package_Objects.mono _ _ _)
      | (with_reducible exact LeO.refl _)
      | (with_reducible exact LeO.none _)
      | (with_reducible refine LeO.ite ?_ ?_)
      | (with_reducible refine LeO.bind ?_ (fun _ => ?_))
      | exact ih0 _ _ _ _ _ _
      | exact ih1 _ _ _ _ _ _ _ _ _ _ _ _
      | exact ih2 _ _ _ _ _ _ _ _ _ _ _ _ _ _ _ _
      | exact spec_Package_Objects.mono _ _ _
      | exact LeO.none _
      | refine LeO.ite ?_ ?_
      | refine LeO.bind ?_ (fun _ => ?_)
    · intro y0 y1 y2 y3 y4 y5 y6 y7 y8 y9 y10 y11 y12 y13 y14 y15
      unfold laws_refers.l2
      repeat' first
      | (with_reducible exact ih0 _ _ _ _ _ _)
      | (with_reducible exact ih1 _ _ _ _ _ _ _ _ _ _ _ _)
      | (with_reducible exact ih2 _ _ _ _ _ _ _ _ _ _ _ _ _ _ _ _)
      | (with_reducible exact spec_Package_Objects.mono _ _ _)
      | (with_reducible exact LeO.refl _)
      | (with_reducible exact LeO.none _)
      | (with_reducible refine LeO.ite ?_ ?_)
      | (with_reducible refine LeO.bind ?_ (fun _ => ?_))
      | exact ih0 _ _ _ _ _ _
      | exact ih1 _ _ _ _ _ _ _ _ _ _ _ _
      | exact ih2 _ _ _ _ _ _ _ _ _ _ _ _ _ _ _ _
      | exact spec_Package_Objects.mono _ _ _
      | exact LeO.none _
      | refine LeO.ite ?_ ?_
      | refine LeO.bind ?_ (fun _ => ?_)
theorem laws_refers.mono : ∀ a0 a1 a2 k, LeO (laws_refers.f k a0 a1 a2) (laws_refers.f (k + 1) a0 a1 a2) := by
  intro a0 a1 a2 k
  obtain ⟨ih0, ih1, ih2⟩ := laws_refers.mono_l k
  unfold laws_refers.f
  repeat' first
      | (with_reducible exact ih0 _ _ _ _ _ _)
      | (with_reducible exact ih1 _ _ _ _ _ _ _ _ _ _ _ _)
      | (with_reducible exact ih2 _ _ _ _ _ _ _ _ _ _ _ _ _ _ _ _)
      | (with_reducible exact spec_Package_Objects.mono _ _ _)
      | (with_reducible exact LeO.refl _)
      | (with_reducible exact LeO.none _)
      | (with_reducible refine LeO.ite ?_ ?_)
      | (with_reducible refine LeO.bind ?_ (fun _ => ?_))
      | exact ih0 _ _ _ _ _ _
      | exact ih1 _ _ _ _ _ _ _ _ _ _ _ _
      | exact ih2 _ _ _ _ _ _ _ _ _ _ _ _ _ _ _ _
      | exact spec_Package_Objects.mono _ _ _
      | exact LeO.none _
      | refine LeO.ite ?_ ?_
      | refine LeO.bind ?_ (fun _ => ?_)
set_option maxHeartbeats 8000000 in
set_option maxRecDepth 100000 in
theorem laws_refers.calls (k : Nat) (A0 : Option Addr) (c0 : Nat) (l0 : List (It)) (a1 : Int) (a2 : Int) (r : Bool) (w : World) (hr0 : Kd.C kIt w A0 l0.length l0) (hc0 : l0.length ≤ c0) (h : laws_refers.f k l0 a1 a2 = some r) :
    Calls Tryz.prog 15 #[.slice A0 l0.length c0, .int .i64 a1, .int .i64 a2] w fun e w' => e = .returned (.bool r) ∧ Below w.heap.size w w' := by
  have hu31 := Tryz.underlying31
  have HR0 := Aside0.mk hr0
  have HC0 := Aside0.mk hc0
  clear hr0 hc0
  have HB := Aside0.mk (Below.refl w.heap.size w)
  have H : (laws_refers.l0 k l0 a1 a2 l0 (l0.length : Int) 0) = some r := h
  clear h
  have H' := Aside0.mk H
  clear H
  go_enter Tryz.func15, Tryz.ntmps15
  go_wp2
  go_loopg [15] k (fun kq v15 w' => ∃ (x15_1 : Int), v15 = .int .i64 x15_1 ∧ Aside0 (laws_refers.l0 kq l0 a1 a2 l0 (l0.length : Int) x15_1 = some r) ∧ Aside0 (kq ≤ k) ∧ Aside0 (Below w.heap.size w w'))
  case atStart => exact ⟨(0), (by first | rfl | (simp; done) | (simp [*]; done)), H', ⟨Nat.le_refl _⟩, ⟨by repeat (first | (with_reducible first | exact HB.out | apply below_alloc | apply pw_below_drewN | apply below_drew1) | exact HB.out)⟩⟩
  case round =>
    clear H'
    try clear c1
    try clear p2
    obtain ⟨x15_1, rfl, HA, HK1, HB⟩ := hrel
    cases gk with
    | zero => exact absurd HA.out (by simp [laws_refers.l0])
    | succ k1 =>
      have H := HA.out
      clear HA
      simp only [laws_refers.l0] at H
      by_cases c4 : x15_1 < (l0.length : Int)
      · rw [if_pos c4] at H
        have c4b0 : decide (x15_1 < (l0.length : Int)) = true := decide_eq_true c4
        clear c4
        by_cases c5 : 0 ≤ x15_1
        · rw [if_pos c5] at H
          have c5b0 : decide (0 ≤ x15_1) = true := decide_eq_true c5
          clear c5
          by_cases c6 : x15_1 < (l0.length : Int)
          · rw [if_pos c6] at H
            have c6b0 : decide (x15_1 < (l0.length : Int)) = true := decide_eq_true c6
            clear c6
            replace H := Option.bind_eq_some_iff.mp H
            obtain ⟨t167, A70, H⟩ := H
            replace H : (laws_refers.l1 k1 l0 a1 a2 l0 (l0.length : Int) x15_1 t167 (t167.length : Int) 0 ((rd_It l0 x15_1).f0) ((rd_It l0 x15_1).f1) ((rd_It l0 x15_1).f2)) = some r := H
            have A7 := Aside0.mk A70
            clear A70
            have H' := Aside0.mk H
            clear H
            have p165 : 0 ≤ (x15_1 : Int) := of_decide_eq_true (by first | (with_reducible assumption) | assumption)
            have q165 : x15_1 < (l0.length : Int) := of_decide_eq_true (by first | (with_reducible assumption) | assumption)
            obtain ⟨ad165, A165_2, c165_2, e165, hx165_0, hx165_1, hx165_2, hl165_2, hi165_2⟩ := at_It HR0.out x15_1 p165 q165
            cases e165
            replace hx165_0 := (HB.out.cell (World.block_lt_of_cell? w _ hx165_0)).trans hx165_0
            replace hx165_1 := (HB.out.cell (World.block_lt_of_cell? w _ hx165_1)).trans hx165_1
            replace hx165_2 := (HB.out.cell (World.block_lt_of_cell? w _ hx165_2)).trans hx165_2
            have HR165_2 := Aside0.mk hi165_2
            have HC165_2 := Aside0.mk hl165_2
            clear hi165_2 hl165_2
            replace p165 := eq_true p165
            replace q165 := eq_true q165
            go_wp2_with (first | ((with_reducible refine gate_dst (N := 8) rfl ?_); refine box_event ?hg (N := 8) ?hd (cs := #[.int .i64 0, .int .i64 0, .slice none 0 0]) (t := 31) ?hr ?_; (case hd => rfl); (case hg => rfl); (case hr => first | (go_simp; done) | (go_simp; rfl)); intro gb166 hg w8 hbox hb; have n0_ := Aside0.mk (below_step (by repeat (first | (with_reducible first | exact HB.out | apply below_alloc | apply pw_below_drewN | apply below_drew1) | exact HB.out)) hb); have n1_ := Aside0.mk (hbox); have n2_ := Aside0.mk ((by rw [hg]; exact (below_size (by repeat (first | (with_reducible first | exact HB.out | apply below_alloc | apply pw_below_drewN | apply below_drew1) | exact HB.out))) : w.heap.size ≤ gb166)); have n3_ := Aside0.mk ((by rw [hg]; exact (below_size (by repeat (first | (with_reducible first | exact HB.out | apply below_alloc | apply pw_below_drewN | apply below_drew1) | exact HB.out))) : w.heap.size ≤ gb166)); clear HB; have HB := n0_; have BK166 := n1_; have GW166 := n2_; have GE166 := n3_; clear n0_ n1_ n2_ n3_; clear hb hbox hg; have hcz9_0 : w8.cell? ⟨gb166, 0, none⟩ = some (.int .i64 0) := (blk_cell BK166.out 0).trans rfl; have hcz9_1 : w8.cell? ⟨gb166, 1, none⟩ = some (.int .i64 0) := (blk_cell BK166.out 1).trans rfl; have hcz9_2 : w8.cell? ⟨gb166, 2, none⟩ = some (.slice none 0 0) := (blk_cell BK166.out 2).trans rfl; have hfz9_0 := blk_frozen BK166.out 0; have hfz9_1 := blk_frozen BK166.out 1; have hfz9_2 := blk_frozen BK166.out 2) | ((with_reducible refine gate_callee (f := 9) rfl ?_); refine goesL_ (some 22) rfl rfl Tryz.func9 (by kernel_rfl) rfl #[.slice (some ad165) l0.length c0, .int .i64 x15_1] rfl (by (try simp only [List.map_toArray, List.map_cons, List.map_nil]); first | done | rfl | (simp only [List.length_drop, List.length_take]; rfl)) ?_; (with_reducible refine (spec_Package_Objects.calls k1 _ _ l0 x15_1 t167 _ ?side1 ?side2 A7.out).mono ?_); (case side1 => exact Kd.C_below HR0.out (by repeat (first | (with_reducible first | exact HB.out | apply below_alloc | apply pw_below_drewN | apply below_drew1 | refine below_set ?_ GE166.out) | exact HB.out))); (case side2 => exact HC0.out); rintro e w10 ⟨v168, rfl, ho0, hb⟩; refine ⟨_, rfl, ?_⟩; have n0_ := Aside0.mk (Kd.R_lower ho0 (below_size (by repeat (first | (with_reducible first | exact HB.out | apply below_alloc | apply pw_below_drewN | apply below_drew1 | refine below_set ?_ GE166.out) | exact HB.out)))); have n1_ := Aside0.mk (blk_below (g := gb166) (o := .cells #[.int .i64 ((rd_It l0 x15_1).f0), .int .i64 ((rd_It l0 x15_1).f1), .slice A165_2 ((rd_It l0 x15_1).f2).length c165_2] 31 (0, 0)) (by (with_reducible repeat (first | refine blk_drewN ?_ _ | refine blk_drew ?_ | refine blk_alloc ?_ _)); refine blk_put (cs := #[.int .i64 ((rd_It l0 x15_1).f0), .int .i64 ((rd_It l0 x15_1).f1), .slice none 0 0]) ?_ 2 _ rfl; (with_reducible repeat (first | refine blk_drewN ?_ _ | refine blk_drew ?_ | refine blk_alloc ?_ _)); refine blk_put (cs := #[.int .i64 ((rd_It l0 x15_1).f0), .int .i64 0, .slice none 0 0]) ?_ 1 _ rfl; (with_reducible repeat (first | refine blk_drewN ?_ _ | refine blk_drew ?_ | refine blk_alloc ?_ _)); refine blk_put (cs := #[.int .i64 0, .int .i64 0, .slice none 0 0]) ?_ 0 _ rfl; (with_reducible repeat (first | refine blk_drewN ?_ _ | refine blk_drew ?_ | refine blk_alloc ?_ _)); exact BK166.out) hb); have n2_ := Aside0.mk (below_step (by repeat (first | (with_reducible first | exact HB.out | apply below_alloc | apply pw_below_drewN | apply below_drew1 | refine below_set ?_ GE166.out) | exact HB.out)) hb); clear BK166; clear HB; have HO169 := n0_; have BK166 := n1_; have HB := n2_; clear n0_ n1_ n2_; (try clear hb); (try clear hb2); (try clear hk); (try clear hi); (try clear ho0); obtain ⟨Ao11, co11, eo11⟩ := Kd.R_slice HO169.out; subst eo11))
            go_loopg [24] k1 (fun kq v24 w' => ∃ (x24_2 : Int), v24 = .int .i64 x24_2 ∧ Aside0 (laws_refers.l1 kq l0 a1 a2 l0 (l0.length : Int) x15_1 t167 (t167.length : Int) x24_2 ((rd_It l0 x15_1).f0) ((rd_It l0 x15_1).f1) ((rd_It l0 x15_1).f2) = some r) ∧ Aside0 (kq ≤ k1) ∧ Aside0 (Kd.R (Kd.int .i64) 3 w' w.heap.size (fun _ => True) (.slice Ao11 t167.length co11) t167) ∧ Aside0 (w'.heap[gb166]? = some (.cells #[.int .i64 ((rd_It l0 x15_1).f0), .int .i64 ((rd_It l0 x15_1).f1), (.slice A165_2 ((rd_It l0 x15_1).f2).length c165_2)] 31 (0, 0))) ∧ Aside0 (Below w.heap.size w w'))
            case atStart => exact ⟨(0), (by first | rfl | (simp; done) | (simp [*]; done)), H', ⟨Nat.le_refl _⟩, ⟨by (with_reducible repeat (first | apply Kd.R_alloc | apply Kd.R_drewN | apply Kd.R_drew)); exact HO169.out⟩, ⟨by (with_reducible repeat (first | refine blk_drewN ?_ _ | refine blk_drew ?_ | refine blk_alloc ?_ _)); exact BK166.out⟩, ⟨by repeat (first | (with_reducible first | exact HB.out | apply below_alloc | apply pw_below_drewN | apply below_drew1 | refine below_set ?_ GE166.out) | exact HB.out)⟩⟩
            case round =>
              clear H'
              try clear c1
              try clear p1
              try clear q1
              try clear hx1
              try clear p2
              try clear c4
              try clear c4b0
              try clear c5
              try clear c5b0
              try clear c6
              try clear c6b0
              try clear c9
              try clear hcz9_0
              try clear hcz9_1
              try clear hcz9_2
              try clear hfz9_0
              try clear hfz9_1
              try clear hfz9_2
              try clear hx165_0
              try clear hx165_1
              try clear hx165_2
              try clear p165
              try clear p2
              try clear q165
              obtain ⟨x24_2, rfl, HA, HK2, HO_22, BK166, HB⟩ := hrel
              cases gk with
              | zero => exact absurd HA.out (by simp [laws_refers.l1])
              | succ k2 =>
                have H := HA.out
                clear HA
                simp only [laws_refers.l1] at H
                by_cases c12 : x24_2 < (t167.length : Int)
                · rw [if_pos c12] at H
                  have c12b0 : decide (x24_2 < (t167.length : Int)) = true := decide_eq_true c12
                  clear c12
                  by_cases c13 : 0 ≤ x24_2
                  · rw [if_pos c13] at H
                    have c13b0 : decide (0 ≤ x24_2) = true := decide_eq_true c13
                    clear c13
                    by_cases c14 : x24_2 < (t167.length : Int)
                    · rw [if_pos c14] at H
                      have c14b0 : decide (x24_2 < (t167.length : Int)) = true := decide_eq_true c14
                      clear c14
                      have H' := Aside0.mk H
                      clear H
                      have p170 : 0 ≤ (x24_2 : Int) := of_decide_eq_true (by first | (with_reducible assumption) | assumption)
                      have q170 : x24_2 < (t167.length : Int) := of_decide_eq_true (by first | (with_reducible assumption) | assumption)
                      obtain ⟨ad170, e170, hx170_0⟩ := Kd.at_int (Kd.R_reads' HO_22.out).2.2 x24_2 p170 q170
                      cases e170
                      replace p170 := eq_true p170
                      replace q170 := eq_true q170
                      have hcz15_0 : wr.cell? ⟨gb166, 0, none⟩ = some (.int .i64 ((rd_It l0 x15_1).f0)) := (blk_cell BK166.out 0).trans rfl
                      have hcz15_1 : wr.cell? ⟨gb166, 1, none⟩ = some (.int .i64 ((rd_It l0 x15_1).f1)) := (blk_cell BK166.out 1).trans rfl
                      have hcz15_2 : wr.cell? ⟨gb166, 2, none⟩ = some (.slice A165_2 ((rd_It l0 x15_1).f2).length c165_2) := (blk_cell BK166.out 2).trans rfl
                      have hfz15_0 := blk_frozen BK166.out 0
                      have hfz15_1 := blk_frozen BK166.out 1
                      have hfz15_2 := blk_frozen BK166.out 2
                      go_wp2
                      go_loopg [31] k2 (fun kq v31 w' => ∃ (x31_3 : Int), v31 = .int .i64 x31_3 ∧ Aside0 (laws_refers.l2 kq l0 a1 a2 (rd t167 x24_2) l0 (l0.length : Int) x15_1 t167 (t167.length : Int) x24_2 ((rd_It l0 x15_1).f2) (((rd_It l0 x15_1).f2).length : Int) x31_3 ((rd_It l0 x15_1).f0) ((rd_It l0 x15_1).f1) ((rd_It l0 x15_1).f2) = some r) ∧ Aside0 (kq ≤ k2) ∧ Aside0 (Kd.R (Kd.int .i64) 3 w' w.heap.size (fun _ => True) (.slice (some ad170) t167.length co11) t167) ∧ Aside0 (w'.heap[gb166]? = some (.cells #[.int .i64 ((rd_It l0 x15_1).f0), .int .i64 ((rd_It l0 x15_1).f1), (.slice A165_2 ((rd_It l0 x15_1).f2).length c165_2)] 31 (0, 0))) ∧ Aside0 (Below w.heap.size w w'))
                      case atStart => exact ⟨(0), (by first | rfl | (simp; done) | (simp [*]; done)), H', ⟨Nat.le_refl _⟩, ⟨by (with_reducible repeat (first | apply Kd.R_alloc | apply Kd.R_drewN | apply Kd.R_drew)); exact HO_22.out⟩, ⟨by (with_reducible repeat (first | refine blk_drewN ?_ _ | refine blk_drew ?_ | refine blk_alloc ?_ _)); exact BK166.out⟩, ⟨by repeat (first | (with_reducible first | exact HB.out | apply below_alloc | apply pw_below_drewN | apply below_drew1 | refine below_set ?_ GE166.out) | exact HB.out)⟩⟩
                      case round =>
                        clear H'
                        try clear c1
                        try clear p1
                        try clear q1
                        try clear hx1
                        try clear p2
                        try clear c4
                        try clear c4b0
                        try clear c5
                        try clear c5b0
                        try clear c6
                        try clear c6b0
                        try clear c9
                        try clear c12
                        try clear c12b0
                        try clear c13
                        try clear c13b0
                        try clear c14
                        try clear c14b0
                        try clear c15
                        try clear hcz15_0
                        try clear hcz15_1
                        try clear hcz15_2
                        try clear hcz9_0
                        try clear hcz9_1
                        try clear hcz9_2
                        try clear hfz15_0
                        try clear hfz15_1
                        try clear hfz15_2
                        try clear hfz9_0
                        try clear hfz9_1
                        try clear hfz9_2
                        try clear hx165_0
                        try clear hx165_1
                        try clear hx165_2
                        try clear hx170_0
                        try clear p1
                        try clear p165
                        try clear p170
                        try clear p2
                        try clear q1
                        try clear q165
                        try clear q170
                        obtain ⟨x31_3, rfl, HA, HK3, HO_22, BK166, HB⟩ := hrel
                        cases gk with
                        | zero => exact absurd HA.out (by simp [laws_refers.l2])
                        | succ k3 =>
                          have H := HA.out
                          clear HA
                          simp only [laws_refers.l2] at H
                          by_cases c16 : x31_3 < (((rd_It l0 x15_1).f2).length : Int)
                          · rw [if_pos c16] at H
                            have c16b0 : decide (x31_3 < (((rd_It l0 x15_1).f2).length : Int)) = true := decide_eq_true c16
                            clear c16
                            by_cases c17 : 0 ≤ x31_3
                            · rw [if_pos c17] at H
                              have c17b0 : decide (0 ≤ x31_3) = true := decide_eq_true c17
                              clear c17
                              by_cases c18 : x31_3 < (((rd_It l0 x15_1).f2).length : Int)
                              · rw [if_pos c18] at H
                                have c18b0 : decide (x31_3 < (((rd_It l0 x15_1).f2).length : Int)) = true := decide_eq_true c18
                                clear c18
                                by_cases c19 : (rd t167 x24_2) = a1
                                · rw [if_pos c19] at H
                                  have c19b0 : ((rd t167 x24_2) == a1) = true := beq_iff_eq.mpr c19
                                  have c19b1 : ((rd t167 x24_2) != a1) = false := bne_eq_false_iff_eq.mpr c19
                                  clear c19
                                  by_cases c20 : (rd ((rd_It l0 x15_1).f2) x31_3) = a2
                                  · rw [if_pos c20] at H
                                    have c20b0 : ((rd ((rd_It l0 x15_1).f2) x31_3) == a2) = true := beq_iff_eq.mpr c20
                                    have c20b1 : ((rd ((rd_It l0 x15_1).f2) x31_3) != a2) = false := bne_eq_false_iff_eq.mpr c20
                                    clear c20
                                    obtain rfl := Option.some.inj H
                                    have p171 : 0 ≤ (x31_3 : Int) := of_decide_eq_true (by first | (with_reducible assumption) | assumption)
                                    have q171 : x31_3 < (((rd_It l0 x15_1).f2).length : Int) := of_decide_eq_true (by first | (with_reducible assumption) | assumption)
                                    obtain ⟨ad171, e171, hx171_0⟩ := Kd.at_int HR165_2.out x31_3 p171 q171
                                    cases e171
                                    replace hx171_0 := (HB.out.cell (World.block_lt_of_cell? w _ hx171_0)).trans hx171_0
                                    replace p171 := eq_true p171
                                    replace q171 := eq_true q171
                                    go_wp2
                                    go_ret
                                    exact ⟨by first | rfl | (simp [errW_none, errW_some] <;> rfl) | (simp [*, errW_none, errW_some] <;> rfl), by repeat (first | (with_reducible first | exact HB.out | apply below_alloc | apply pw_below_drewN | apply below_drew1 | refine below_set ?_ GE166.out) | exact HB.out)⟩
                                  · rw [if_neg c20] at H
                                    have c20b0 : ((rd ((rd_It l0 x15_1).f2) x31_3) == a2) = false := beq_eq_false_iff_ne.mpr c20
                                    have c20b1 : ((rd ((rd_It l0 x15_1).f2) x31_3) != a2) = true := bne_iff_ne.mpr c20
                                    have H' := Aside0.mk H
                                    clear H
                                    have p171 : 0 ≤ (x31_3 : Int) := of_decide_eq_true (by first | (with_reducible assumption) | assumption)
                                    have q171 : x31_3 < (((rd_It l0 x15_1).f2).length : Int) := of_decide_eq_true (by first | (with_reducible assumption) | assumption)
                                    obtain ⟨ad171, e171, hx171_0⟩ := Kd.at_int HR165_2.out x31_3 p171 q171
                                    cases e171
                                    replace hx171_0 := (HB.out.cell (World.block_lt_of_cell? w _ hx171_0)).trans hx171_0
                                    replace p171 := eq_true p171
                                    replace q171 := eq_true q171
                                    go_wp2
                                    go_roundg k3
                                    case measure => have := HK1.out; have := HK2.out; have := HK3.out; omega
                                    case rel => exact ⟨(wrap64 (x31_3 + 1)), (by first | rfl | (simp; done) | (simp [*]; done)), H', ⟨by have := HK1.out; have := HK2.out; have := HK3.out; omega⟩, ⟨by (with_reducible repeat (first | apply Kd.R_alloc | apply Kd.R_drewN | apply Kd.R_drew)); exact HO_22.out⟩, ⟨by (with_reducible repeat (first | refine blk_drewN ?_ _ | refine blk_drew ?_ | refine blk_alloc ?_ _)); exact BK166.out⟩, ⟨by repeat (first | (with_reducible first | exact HB.out | apply below_alloc | apply pw_below_drewN | apply below_drew1 | refine below_set ?_ GE166.out) | exact HB.out)⟩⟩
                                · rw [if_neg c19] at H
                                  have c19b0 : ((rd t167 x24_2) == a1) = false := beq_eq_false_iff_ne.mpr c19
                                  have c19b1 : ((rd t167 x24_2) != a1) = true := bne_iff_ne.mpr c19
                                  have H' := Aside0.mk H
                                  clear H
                                  have p171 : 0 ≤ (x31_3 : Int) := of_decide_eq_true (by first | (with_reducible assumption) | assumption)
                                  have q171 : x31_3 < (((rd_It l0 x15_1).f2).length : Int) := of_decide_eq_true (by first | (with_reducible assumption) | assumption)
                                  obtain ⟨ad171, e171, hx171_0⟩ := Kd.at_int HR165_2.out x31_3 p171 q171
                                  cases e171
                                  replace hx171_0 := (HB.out.cell (World.block_lt_of_cell? w _ hx171_0)).trans hx171_0
                                  replace p171 := eq_true p171
                                  replace q171 := eq_true q171
                                  go_wp2
                                  go_roundg k3
                                  case measure => have := HK1.out; have := HK2.out; have := HK3.out; omega
                                  case rel => exact ⟨(wrap64 (x31_3 + 1)), (by first | rfl | (simp; done) | (simp [*]; done)), H', ⟨by have := HK1.out; have := HK2.out; have := HK3.out; omega⟩, ⟨by (with_reducible repeat (first | apply Kd.R_alloc | apply Kd.R_drewN | apply Kd.R_drew)); exact HO_22.out⟩, ⟨by (with_reducible repeat (first | refine blk_drewN ?_ _ | refine blk_drew ?_ | refine blk_alloc ?_ _)); exact BK166.out⟩, ⟨by repeat (first | (with_reducible first | exact HB.out | apply below_alloc | apply pw_below_drewN | apply below_drew1 | refine below_set ?_ GE166.out) | exact HB.out)⟩⟩
                              · rw [if_neg c18] at H
                                exact absurd H (by simp)
                            · rw [if_neg c17] at H
                              exact absurd H (by simp)
                          · rw [if_neg c16] at H
                            have c16b0 : decide (x31_3 < (((rd_It l0 x15_1).f2).length : Int)) = false := decide_eq_false c16
                            clear c16
                            have H' := Aside0.mk H
                            clear H
                            go_wp2
                            go_roundg k3
                            case measure => have := HK1.out; have := HK2.out; have := HK3.out; omega
                            case rel => exact ⟨(wrap64 (x24_2 + 1)), (by first | rfl | (simp; done) | (simp [*]; done)), H', ⟨by have := HK1.out; have := HK2.out; have := HK3.out; omega⟩, ⟨by (with_reducible repeat (first | apply Kd.R_alloc | apply Kd.R_drewN | apply Kd.R_drew)); exact HO_22.out⟩, ⟨by (with_reducible repeat (first | refine blk_drewN ?_ _ | refine blk_drew ?_ | refine blk_alloc ?_ _)); exact BK166.out⟩, ⟨by repeat (first | (with_reducible first | exact HB.out | apply below_alloc | apply pw_below_drewN | apply below_drew1 | refine below_set ?_ GE166.out) | exact HB.out)⟩⟩
                    · rw [if_neg c14] at H
                      exact absurd H (by simp)
                  · rw [if_neg c13] at H
                    exact absurd H (by simp)
                · rw [if_neg c12] at H
                  have c12b0 : decide (x24_2 < (t167.length : Int)) = false := decide_eq_false c12
                  clear c12
                  have H' := Aside0.mk H
                  clear H
                  go_wp2
                  go_roundg k2
                  case measure => have := HK1.out; have := HK2.out; omega
                  case rel => exact ⟨(wrap64 (x15_1 + 1)), (by first | rfl | (simp; done) | (simp [*]; done)), H', ⟨by have := HK1.out; have := HK2.out; omega⟩, ⟨by repeat (first | (with_reducible first | exact HB.out | apply below_alloc | apply pw_below_drewN | apply below_drew1 | refine below_set ?_ GE166.out) | exact HB.out)⟩⟩
          · rw [if_neg c6] at H
            exact absurd H (by simp)
        · rw [if_neg c5] at H
          exact absurd H (by simp)
      · rw [if_neg c4] at H
        have c4b0 : decide (x15_1 < (l0.length : Int)) = false := decide_eq_false c4
        clear c4
        obtain rfl := Option.some.inj H
        go_wp2
        go_ret
        exact ⟨by first | rfl | (simp [errW_none, errW_some] <;> rfl) | (simp [*, errW_none, errW_some] <;> rfl), by repeat (first | (with_reducible first | exact HB.out | apply below_alloc | apply pw_below_drewN | apply below_drew1) | exact HB.out)⟩


/-! ### spec_Package_Count: function 16 -/
def spec_Package_Count.f (k : Nat) (l0 : List (It)) : Option (Int) := (spec_Package_owners.f k l0).bind fun t172 => (some (t172.length : Int))
theorem spec_Package_Count.mono : ∀ a0 k, LeO (spec_Package_Count.f k a0) (spec_Package_Count.f (k + 1) a0) := by
  intro a0 k
  unfold spec_Package_Count.f
  repeat' first
      | (with_reducible exact spec_Package_owners.mono _ _)
      | (with_reducible exact LeO.refl _)
      | (with_reducible exact LeO.none _)
      | (with_reducible refine LeO.ite ?_ ?_)
      | (with_reducible refine LeO.bind ?_ (fun _ => ?_))
      | exact spec_Package_owners.mono _ _
      | exact LeO.none _
      | refine LeO.ite ?_ ?_
      | refine LeO.bind ?_ (fun _ => ?_)
set_option maxHeartbeats 8000000 in
set_option maxRecDepth 100000 in
theorem spec_Package_Count.calls (k : Nat) (A0 : Option Addr) (c0 : Nat) (l0 : List (It)) (r : Int) (w : World) (hr0 : Kd.C kIt w A0 l0.length l0) (hc0 : l0.length ≤ c0) (h : spec_Package_Count.f k l0 = some r) :
    Calls Tryz.prog 16 #[.slice A0 l0.length c0] w fun e w' => e = .returned (.int .i64 r) ∧ Below w.heap.size w w' := by
  have HR0 := Aside0.mk hr0
  have HC0 := Aside0.mk hc0
  clear hr0 hc0
  have HB := Aside0.mk (Below.refl w.heap.size w)
  have H : ((spec_Package_owners.f k l0).bind fun t172 => (some (t172.length : Int))) = some r := h
  clear h
  replace H := Option.bind_eq_some_iff.mp H
  obtain ⟨t172, A20, H⟩ := H
  replace H : (some (t172.length : Int)) = some r := H
  have A2 := Aside0.mk A20
  clear A20
  obtain rfl := Option.some.inj H
  go_enter Tryz.func16, Tryz.ntmps16
  go_wp2_with (first | ((with_reducible refine gate_callee (f := 20) rfl ?_); refine goesL_ (some 4) rfl rfl Tryz.func20 (by kernel_rfl) rfl #[.slice A0 l0.length c0] rfl (by (try simp only [List.map_toArray, List.map_cons, List.map_nil]); first | done | rfl | (simp only [List.length_drop, List.length_take]; rfl)) ?_; (with_reducible refine (spec_Package_owners.calls k _ _ l0 t172 _ ?side1 ?side2 A2.out).mono ?_); (case side1 => repeat (first | exact HR0.out | (with_reducible refine Kd.C_alloc ?_ _) | (with_reducible refine Kd.C_drewN ?_ _) | (with_reducible refine Kd.C_drew ?_))); (case side2 => exact HC0.out); rintro e w3 ⟨v173, rfl, ho0, hb⟩; refine ⟨_, rfl, ?_⟩; have n0_ := Aside0.mk (Kd.R_lower ho0 (below_size (by repeat (first | (with_reducible first | exact HB.out | apply below_alloc | apply pw_below_drewN | apply below_drew1) | exact HB.out)))); have n1_ := Aside0.mk (below_step (by repeat (first | (with_reducible first | exact HB.out | apply below_alloc | apply pw_below_drewN | apply below_drew1) | exact HB.out)) hb); clear HB; have HO174 := n0_; have HB := n1_; clear n0_ n1_; (try clear hb); (try clear hb2); (try clear hk); (try clear hi); (try clear ho0); obtain ⟨Ao4, co4, eo4⟩ := Kd.R_slice HO174.out; subst eo4))
  go_ret
  exact ⟨by first | rfl | (simp [errW_none, errW_some] <;> rfl) | (simp [*, errW_none, errW_some] <;> rfl), by repeat (first | (with_reducible first | exact HB.out | apply below_alloc | apply pw_below_drewN | apply below_drew1) | exact HB.out)⟩


end Go.Proofs.YtgaadjgfjiljjaaGreat

/- The four closures of package spec that say what is followed: what each returns. Conditions: none. -/
namespace Go.Proofs.YtgaadjgfjiljjaaGreat
open Go.RowKit Go.Proofs.YtgaadjgfjiljjaaGreatW.PrintWords Go.Proofs.YtgaadjgfjiljjaaGreatW.PrintLast Go.Proofs.YtgaadjgfjiljjaaGreatW.PrintMore

theorem fit1_calls (k m : Int) (A : Option Addr) (n c : Nat) (w : World) :
    Calls Tryz.prog 22 #[.agg #[.int .i64 k, .int .i64 m, .slice A n c]] w fun e w' => e = .returned (.bool true) ∧ Below w.heap.size w w' := by
  go_enter Tryz.func22, Tryz.ntmps22
  go_wp2
  go_ret
  exact ⟨rfl, (Below.refl _ _).alloc (Nat.le_refl _) _⟩

theorem leads1_calls (k m : Int) (A : Option Addr) (n c : Nat) (w : World) :
    Calls Tryz.prog 33 #[.agg #[.int .i64 k, .int .i64 m, .slice A n c]] w fun e w' => e = .returned (.bool true) ∧ Below w.heap.size w w' := by
  go_enter Tryz.func33, Tryz.ntmps33
  go_wp2
  go_ret
  exact ⟨rfl, (Below.refl _ _).alloc (Nat.le_refl _) _⟩

theorem needsAll1_calls (k m : Int) (A : Option Addr) (n c : Nat) (w : World) :
    Calls Tryz.prog 24 #[.agg #[.int .i64 k, .int .i64 m, .slice A n c]] w fun e w' => e = .returned (.bool (k != 4)) ∧ Below w.heap.size w w' := by
  go_enter Tryz.func24, Tryz.ntmps24
  go_wp2
  go_ret
  exact ⟨rfl, (Below.refl _ _).alloc (Nat.le_refl _) _⟩

theorem needs1_calls (k m : Int) (A : Option Addr) (n c : Nat) (w : World) :
    Calls Tryz.prog 34 #[.agg #[.int .i64 k, .int .i64 m, .slice A n c]] w fun e w' => e = .returned (.bool (k == 3)) ∧ Below w.heap.size w w' := by
  go_enter Tryz.func34, Tryz.ntmps34
  go_wp2
  go_ret
  exact ⟨rfl, (Below.refl _ _).alloc (Nat.le_refl _) _⟩

end Go.Proofs.YtgaadjgfjiljjaaGreat

/- What 'reached' computes, as a function on lists, and that the call returns it. Conditions: those that each theorem names. -/
namespace Go.Proofs.YtgaadjgfjiljjaaGreat
open Go.RowKit Go.Proofs.YtgaadjgfjiljjaaGreatW.PrintWords Go.Proofs.YtgaadjgfjiljjaaGreatW.PrintLast Go.Proofs.YtgaadjgfjiljjaaGreatW.PrintMore
set_option linter.unusedVariables false
set_option linter.unusedSimpArgs false

def rdb (xs : List Bool) (i : Int) : Bool := xs.getD i.toNat false

theorem info4 : (Tryz.prog.info? 4).map (fun i => (i.zero, i.size, i.bytes)) = some (some (.bool false), 1, 1) := by kernel_rfl

def reachR (fol : Int → Bool) (p : List It) (of : List Int) : Nat → List Bool → List Int → Option (List Bool)
  | 0, _, _ => none
  | k + 1, out, wait =>
    if (wait.length : Int) > 0 then
      if 0 ≤ rd wait 0 then if rd wait 0 < (out.length : Int) then
        if rdb out (rd wait 0) = true then reachR fol p of k out (wait.drop 1)
        else if rd wait 0 < (of.length : Int) then
          if 0 ≤ rd of (rd wait 0) then if rd of (rd wait 0) < (p.length : Int) then
            if fol (rd_It p (rd of (rd wait 0))).f0 = true then
              if ((wait.drop 1).length + (rd_It p (rd of (rd wait 0))).f2.length) * 8 ≤ 140737488355328 then reachR fol p of k (out.set (rd wait 0).toNat true) (wait.drop 1 ++ (rd_It p (rd of (rd wait 0))).f2) else none
            else reachR fol p of k (out.set (rd wait 0).toNat true) (wait.drop 1)
          else none else none
        else none
      else none else none
    else some out

/-- append(v, ys...) at whole numbers, v a queue of one's own, ys read. -/
theorem Q_append_ints {P : Program} {ops : Array Oper} {Q' : Exit → Act → World → Prop} {a : Act} {rest : List Oper} {o : Oper} {w0 W : World} (base : Nat) (hgd : o.guard = none) (s x : Operand) (t e : TypeId) (bytes : Nat)
    (ho : o.op = .call { callee := .builtin .append, args := #[s, x], argTypes := #[t, t] })
    (ht : P.underlying t = some (.slice e)) (hinfo : (P.info? e).map (fun i => (i.zero, i.size, i.bytes)) = some (some (.int .i64 0), 1, bytes)) (hb0 : 0 < bytes)
    (v : Value) (xs ys : List Int) (A : Option Addr) (m c : Nat) (ok : Nat → Prop) (hs : a.eval s = v) (hx : a.eval x = .slice A m c)
    (HO : (Kd.int .i64).Q e W base ok v xs) (HR : (Kd.int .i64).C W A m ys) (hfresh : ∀ k, W.heap.size ≤ k → ok k)
    (HB : Below base w0 W) (hbase : base ≤ W.heap.size) (hl : (xs.length + m) * bytes ≤ 140737488355328)
    (h : ∀ v1 w1, (Kd.int .i64).Q e w1 base ok v1 (xs ++ ys) → Below base w0 w1 → W.grownBy w1 v.ownBlock → (v1.ownBlock = v.ownBlock ∨ ∃ b, v1.ownBlock = some b ∧ W.heap.size ≤ b) → wpList P ops Q' rest (a.put o.dst v1) w1) :
    wpList P ops Q' (o :: rest) a W := by
  obtain ⟨i0, hi, hzz⟩ := Option.map_eq_some_iff.1 hinfo
  simp only [Prod.mk.injEq] at hzz
  obtain ⟨hz0, hz1, hz2⟩ := hzz
  have hm : ys.length = m := HR.1
  obtain ⟨h0, inner, hown, hr⟩ := HO
  have hrun : ∃ v1 w1, (Builtin.append_ #[t, t] o.type #[v, .slice A m c]).run P W = .ok v1 w1 ∧ (Kd.int .i64).Q e w1 base ok v1 (xs ++ ys) ∧ W.grownBy w1 v.ownBlock ∧ (v1.ownBlock = v.ownBlock ∨ ∃ b, v1.ownBlock = some b ∧ W.heap.size ≤ b) := by
    rcases Nat.eq_zero_or_pos m with h0' | hpos
    · obtain rfl : ys = [] := List.eq_nil_of_length_eq_zero (by omega)
      refine ⟨v, W, ?_, by rw [List.append_nil]; exact ⟨h0, inner, hown, hr⟩, World.grownBy.refl W _, .inl rfl⟩
      obtain ⟨A', c', rfl, hlc⟩ := q_slice hown
      subst h0'
      cases A' with
      | none => cases A <;> simp [Builtin.append_, run_underlying ht, sizeOf, typeInfo, hi, Builtin.lenOf, Builtin.firstCells, hlc, loadCells, loadCellsFrom, storeCells]
      | some ad' => cases A <;> simp [Builtin.append_, run_underlying ht, sizeOf, typeInfo, hi, Builtin.lenOf, Builtin.firstCells, hlc, loadCells, loadCellsFrom, storeCells]
    · obtain ⟨ad, rfl, _⟩ := HR.2.2 hpos
      obtain ⟨news, hnr, hnc⟩ := ReadsRow.inner_ HR
      have hone : ∀ u ∈ news, u.oneCell' = true := by
        intro u hu
        obtain ⟨q, hq, rfl⟩ := List.mem_iff_getElem.1 hu
        have hql : q < ys.length := by have := hnr.1; simp [Kd.int, Kd.scalar] at this; omega
        have hc := hnr.2 q _ (List.getElem?_eq_getElem hql)
        refine (Kd.int .i64).K_one hc _ ?_
        rw [List.mem_iff_getElem?]
        refine ⟨0, ?_⟩
        simp [Kd.int, Kd.scalar, hq]
      have hlen : xs.length + m ≤ 140737488355328 := Nat.le_trans (Nat.le_mul_of_pos_right _ hb0) hl
      obtain ⟨v1, w1, hrun, hq1, hg, hat⟩ := q_append (P := P) W base t o.type e i0 (.int .i64 0) 1 bytes ht hi hz0 hz1 hz2 rfl (by omega) v xs.length inner hown ad m c news (by rw [hnr.1, hm]; rfl) hnc hone hpos (by simp only [maxLen]; omega) hl hbase
      refine ⟨v1, w1, hrun, ⟨fun k hk => ?_, inner ++ news, by rw [List.length_append, hm]; exact hq1, ?_⟩, hg, hat⟩
      · rcases hat with hat | ⟨b, hb, hle⟩
        · exact h0 k (hat ▸ hk)
        · rw [hb] at hk
          injection hk with hk
          exact hfresh k (by omega)
      · exact Kd.reps_append (hr.imp_ (fun _ _ hp => hp)) (hnr.imp_ (fun _ _ hp => hp))
  obtain ⟨v1, w1, hr1, h1, hg, hat⟩ := hrun
  refine wpList_plain hgd fun K hK => ?_
  unfold Oper.wp execOp
  simp only [ho, resolve, invoke, builtin, Sem.run_bind, Sem.run_pure, Result.andThen_ok, List.map_toArray, List.map_cons, List.map_nil, hs, hx, hr1]
  exact hK _ _ (h v1 w1 h1 (HB.grown hg hbase (fun k hk => (q_typed hown k hk).1)) hg hat)

def cutA (A : Option Addr) (c : Nat) : Option Addr := if c = 1 then A else A.map (·.add (1 * 1))
theorem cut1_run (A : Option Addr) (n c : Nat) (h : 1 ≤ n) : ∀ W : World, (Instr.slice 28 (.slice A n c) (some (.int .i64 1)) none none).run Tryz.prog W = .ok (.slice (cutA A c) (n - 1) (c - 1)) W := by
  obtain ⟨i0, hi, _, hs, _⟩ := info_parts info3
  exact cut_from (P := Tryz.prog) 28 3 .i64 Tryz.underlying28 hi 1 hs A n c 1 (by omega) (by omega)
theorem cut1_Q {w : World} {base : Nat} {ok : Nat → Prop} {A : Option Addr} {n c : Nat} {xs : List Int} (h : (Kd.int .i64).Q 3 w base ok (.slice A n c) xs) (h1 : 1 ≤ n) : (Kd.int .i64).Q 3 w base ok (.slice (cutA A c) (n - 1) (c - 1)) (xs.drop 1) :=
  Kd.Q_drop (k := 1) h (by have := (Kd.Q_reads' h).1; omega)

/-- What is asked of the function that says what is followed. -/
structure Follows (g : Nat) (fol : Int → Bool) : Prop where
  enters : ∀ args w, (callFunc g args).run Tryz.prog w = .ok (.enter g args) w
  calls : ∀ (k m : Int) (A : Option Addr) (n c : Nat) (w : World), Calls Tryz.prog g #[.agg #[.int .i64 k, .int .i64 m, .slice A n c]] w fun e w' => e = .returned (.bool (fol k)) ∧ Below w.heap.size w w'


set_option maxHeartbeats 2000000 in
set_option maxRecDepth 100000 in
theorem reached_calls {fol : Int → Bool} {g : Nat} (hF : Follows g fol) (k : Nat) (A0 : Option Addr) (c0 : Nat) (p : List It) (i : Int) (of : List Int) (ko : Nat) (r : List Bool) (w : World)
    (hr0 : Kd.C kIt w A0 p.length p) (hc0 : p.length ≤ c0) (hi0 : 0 ≤ i) (hi1 : i < p.length) (ho : spec_Package_owners.f ko p = some of) (hbig : (rd_It p i).f2.length * 8 ≤ 140737488355328) (hol : of.length ≤ 140737488355328)
    (h : reachR fol p of k (List.replicate of.length false) (rd_It p i).f2 = some r) :
    Calls Tryz.prog 21 #[.slice A0 p.length c0, .int .i64 i, .func (.func g) #[] #[]] w fun e w' => ∃ v0_ : Value, e = .returned v0_ ∧ Kd.R Kd.bool 4 w' w.heap.size (fun _ => True) v0_ r ∧ Below w.heap.size w w' := by
  have hu31 := Tryz.underlying31
  have HR0 := Aside0.mk hr0
  have HC0 := Aside0.mk hc0
  have HO := Aside0.mk ho
  have HF := Aside0.mk hF
  have H := Aside0.mk h
  have HBIG := Aside0.mk hbig
  have HOL := Aside0.mk hol
  clear hr0 hc0 ho hF h hbig hol
  go_enter Tryz.func21, Tryz.ntmps21
  go_wp2_with fail
  refine (spec_Package_owners.calls ko _ _ p of _ HR0.out HC0.out HO.out).mono ?_
  rintro e w1 ⟨v20, rfl, hv20, hb20⟩
  have HV20 := Aside0.mk hv20
  have HB20 := Aside0.mk hb20
  clear hv20 hb20
  obtain ⟨A20, c20, rfl, hl20, hC20⟩ := Kd.R_reads HV20.out
  have HC20 := Aside0.mk hC20
  have HL20 := Aside0.mk hl20
  clear hl20 hC20
  obtain ⟨ad, Ai, ci, e, hx0, hx1, hx2, hli, hCi⟩ := at_It HR0.out i hi0 hi1
  cases e
  have HX := Aside0.mk hx2
  have HRi := Aside0.mk hCi
  have HLi := Aside0.mk hli
  clear hx0 hx1 hx2 hCi hli
  go_wp2_with (first | ((with_reducible refine gate_dst (N := 16) rfl ?_); refine Kd.R_make Kd.bool (w0 := w1) w1.heap.size 4 rfl (N := 16) rfl 32 _ _ rfl (of.length : Int) rfl rfl Tryz.underlying32 (.bool false) 1 info4 rfl (by decide) (by omega) false (ok := fun _ => True) (okp := fun _ => False) ?mz (fun _ h => h.elim) trivial (by omega) ?ml (Below.refl _ _) (Nat.le_refl _) ?_; (case mz => exact rfl); (case ml => have := HOL.out; omega); intro v16 w2 ho2 hb2 hg2 hat2; have HOUT := Aside0.mk ho2; have HB21 := Aside0.mk hb2; have HG2 := Aside0.mk hg2; have HAT2 := Aside0.mk hat2; clear ho2 hb2 hg2 hat2; have HB2 := Aside0.mk (below_step HB20.out HB21.out); have hx2 := (HB2.out.cell (World.block_lt_of_cell? w _ HX.out)).trans HX.out) | ((with_reducible refine gate_builtin (b := .append) (xs := #[.const (.slice none 0 0), .tmp 21]) rfl ?_); at_builtin; refine Q_append_ints (w0 := w1) w1.heap.size rfl (.const (.slice none 0 0)) (.tmp 21) 28 3 8 rfl Tryz.underlying28 info3 (by omega) (.slice none 0 0) [] (rd_It p i).f2 Ai (rd_It p i).f2.length ci (fun _ => True) rfl rfl ?aO ?aR (fun _ _ => trivial) ?aB ?aS ?aL ?_; (case aO => exact Kd.Q_nil _ _ _ _ _); (case aR => exact Kd.C_below HRi.out HB2.out); (case aB => exact HB21.out); (case aS => exact HB21.out.size); (case aL => have := HBIG.out; simp only [List.length_nil]; omega); intro v22 w3 hq hb3 hg3 hat3; have HQ3 := Aside0.mk hq; have HB3 := Aside0.mk hb3; have HG3 := Aside0.mk hg3; clear hq hb3 hg3 hat3))
  have HIN := Aside0.mk (show (List.replicate of.length false).length = of.length from List.length_replicate ..)
  have HOUT3 := Aside0.mk (show Kd.R Kd.bool 4 w3 w1.heap.size (fun _ => True) v16 (List.replicate of.length false) from by
    have h1 := HOUT.out
    rw [Int.toNat_natCast] at h1
    exact Kd.R_grown h1 HG3.out (fun _ _ => by simp [Value.ownBlock]))
  clear HG3 HG2 HB21 HB2 HOUT HAT2 hx2 HX HLi HRi HBIG
  go_loopg [9] k (fun kq v9 w' => ∃ (out : List Bool) (wait : List Int), Aside0 (reachR fol p of kq out wait = some r) ∧ Aside0 (kq ≤ k) ∧ Aside0 (out.length = of.length) ∧ Aside0 (Kd.R Kd.bool 4 w' w1.heap.size (fun _ => True) v16 out) ∧ Aside0 ((Kd.int .i64).Q 3 w' w1.heap.size (fun _ => True) v9 wait) ∧ Aside0 (Below w1.heap.size w1 w'))
  case atStart => exact ⟨_, _, H, ⟨Nat.le_refl _⟩, HIN, HOUT3, HQ3, HB3⟩
  case round =>
    clear H HQ3 HOUT3 HB3 HIN
    obtain ⟨out, wait, H, HK, HN, HOUT, HQ, HB⟩ := hrel
    cases gk with
    | zero => exact absurd H.out (by simp [reachR])
    | succ k1 =>
      have h := H.out
      clear H
      simp only [reachR] at h
      obtain ⟨A9, c9, rfl, hl9⟩ := Kd.Q_slice HQ.out
      have HL9 := Aside0.mk hl9
      clear hl9
      by_cases cw : (wait.length : Int) > 0
      · rw [if_pos cw] at h
        by_cases cr0 : 0 ≤ rd wait 0
        · rw [if_pos cr0] at h
          by_cases cr1 : rd wait 0 < (out.length : Int)
          · rw [if_pos cr1] at h
            obtain ⟨a9, rfl, hx9⟩ := Kd.at_int (Kd.Q_reads' HQ.out).2.2 0 (Int.le_refl 0) (by omega)
            obtain ⟨g16, cap16, hv16, hg16, _, cel16, hcel16⟩ := Kd.R_form HOUT.out (by omega)
            subst hv16
            have HG16 := Aside0.mk hg16
            have HCEL := Aside0.mk hcel16
            clear hg16 hcel16
            have hcf := Kd.R_celln false HOUT.out (rd wait 0) cr0 (by omega)
            have HCUT := cut1_run (some a9) wait.length c9 (by omega)
            have HQ1 := Aside0.mk (cut1_Q HQ.out (by omega))
            obtain ⟨A1, hA1⟩ : ∃ A1 : Option Addr, A1 = cutA (some a9) c9 := ⟨_, rfl⟩
            rw [← hA1] at HCUT HQ1
            have HA1 := Aside0.mk hA1
            clear hA1
            have HW := Aside0.mk cw
            clear cw
            have cw1 : decide ((wait.length : Int) > 0) = true := decide_eq_true HW.out
            have cw2 : 0 < wait.length := by have := HW.out; omega
            obtain ⟨rr, hrr⟩ : ∃ rr, rr = rd wait 0 := ⟨_, rfl⟩
            rw [← hrr] at hx9 hcf cr0 cr1 h
            have hx9a : wr.cell? a9 = some (.int .i64 rr) := hx9
            clear hx9
            have HRR := Aside0.mk hrr
            clear hrr
            have cr2 : rr < (of.length : Int) := by have := HN.out; omega
            by_cases cb : rdb out rr = true
            · rw [if_pos cb] at h
              have H := Aside0.mk h
              clear h
              have hxb : wr.cell? ⟨g16, rr.toNat, none⟩ = some (.bool true) := by rw [← cb]; exact hcf.1
              have CB := Aside0.mk cb
              clear hcf cb
              replace cr0 := eq_true cr0
              replace cr1 := eq_true cr1
              go_wp2_with fail
              go_roundg k1
              case measure => omega
              case rel => exact ⟨out, _, H, ⟨by have := HK.out; omega⟩, HN, HOUT, HQ1, HB⟩
            · rw [if_neg cb, if_pos cr2] at h
              have hxb : wr.cell? ⟨g16, rr.toNat, none⟩ = some (.bool false) := by rw [← Bool.eq_false_iff.mpr cb]; exact hcf.1
              have hfb := hcf.2
              have CB := Aside0.mk cb
              clear hcf cb
              by_cases co0 : 0 ≤ rd of rr
              · rw [if_pos co0] at h
                by_cases co1 : rd of rr < (p.length : Int)
                · rw [if_pos co1] at h
                  obtain ⟨ao, rfl, hxo⟩ := Kd.at_int HC20.out rr cr0 cr2
                  obtain ⟨ad', Ao, cko, e, hy0, hy1, hy2, hlo, hCo⟩ := at_It HR0.out (rd of rr) co0 co1
                  cases e
                  have HCO := Aside0.mk hCo
                  have HLO := Aside0.mk hlo
                  clear hCo hlo
                  obtain ⟨X, hX⟩ : ∃ X, X = rd_It p (rd of rr) := ⟨_, rfl⟩
                  rw [← hX] at h hy0 hy1 hy2 HCO HLO
                  have HXe := Aside0.mk hX
                  clear hX
                  obtain ⟨oo, hoo⟩ : ∃ oo, oo = rd of rr := ⟨_, rfl⟩
                  rw [← hoo] at hxo hy0 hy1 hy2 co0 co1
                  have HOO := Aside0.mk hoo
                  clear hoo
                  replace cr0 := eq_true cr0
                  replace cr1 := eq_true cr1
                  replace cr2 := eq_true cr2
                  replace co0 := eq_true co0
                  replace co1 := eq_true co1
                  have hen := HF.out.enters
                  have H := Aside0.mk h
                  clear h
                  have HXO := Aside0.mk hxo
                  have HY0 := Aside0.mk hy0
                  have HY1 := Aside0.mk hy1
                  have HY2 := Aside0.mk hy2
                  clear hxo hy0 hy1 hy2
                  go_wp2_with ((with_reducible refine gate_store (t := 4) (p := 38) rfl ?_); refine store_event (t := 4) (p := 38) (v := ?vo) (w1 := wr.setCell ⟨g16, rr.toNat, none⟩ (.bool true)) ?hg ?ho ?hn ?hr ?_; (case ho => rfl); (case hg => rfl); (case hn => rfl); (case hr => first | (go_simp; done) | (go_simp; rfl)); intro w6 hw6; have HBn := Aside0.mk (show Below w1.heap.size w1 w6 by rw [hw6]; exact HB.out.setCell HG16.out _); have HBW := Aside0.mk (below_step HB20.out HBn.out); have HQn := Aside0.mk (show (Kd.int .i64).Q 3 w6 w1.heap.size (fun _ => True) (.slice A1 (wait.length - 1) (c9 - 1)) (wait.drop 1) by rw [hw6]; exact Kd.Q_set HQ1.out HCEL.out (by decide) _ _); have HOn := Aside0.mk (show Kd.R Kd.bool 4 w6 w1.heap.size (fun _ => True) (.slice (some ⟨g16, 0, none⟩) out.length cap16) (out.set rr.toNat true) by rw [hw6]; exact (Kd.R_putg HOUT.out rr true).1); clear hw6 HB HQ1 HOUT hxb hfb HCEL HQ hx9a; have HB := HBn; have HQ1 := HQn; have HOUT := HOn; clear HBn HQn HOn; have hxo := (HB.out.cell (World.block_lt_of_cell? w1 _ HXO.out)).trans HXO.out; have hy0 := (HBW.out.cell (World.block_lt_of_cell? w _ HY0.out)).trans HY0.out; have hy1 := (HBW.out.cell (World.block_lt_of_cell? w _ HY1.out)).trans HY1.out; have hy2 := (HBW.out.cell (World.block_lt_of_cell? w _ HY2.out)).trans HY2.out)
                  have HBOX := Aside0.mk (heap_alloc_new w6 (.cells #[.int .i64 X.f0, .int .i64 X.f1, .slice Ao X.f2.length cko] 31))
                  have HB6 := Aside0.mk (show Below w1.heap.size w1 (w6.alloc (.cells #[.int .i64 X.f0, .int .i64 X.f1, .slice Ao X.f2.length cko] 31)) from below_alloc HB.out _)
                  have HQ6 := Aside0.mk (Kd.Q_alloc HQ1.out (.cells #[.int .i64 X.f0, .int .i64 X.f1, .slice Ao X.f2.length cko] 31))
                  have HO6 := Aside0.mk (Kd.R_alloc HOUT.out (.cells #[.int .i64 X.f0, .int .i64 X.f1, .slice Ao X.f2.length cko] 31))
                  clear HB HQ1 HOUT hxo hy0 hy1 hy2 HBW
                  refine (HF.out.calls _ _ _ _ _ _).mono ?_
                  rintro e w7 ⟨rfl, hb7⟩
                  have hbx7 := (hb7.block w6.heap.size (by simp)).trans HBOX.out
                  have HB7 := Aside0.mk (below_step HB6.out hb7)
                  have HQ7 := Aside0.mk (Kd.Q_below HQ6.out hb7)
                  have HO7 := Aside0.mk (Kd.R_below HO6.out hb7)
                  have HC7 := Aside0.mk (Kd.C_below HCO.out (below_step HB20.out HB7.out))
                  have hc2 : w7.cell? ⟨w6.heap.size, 2, none⟩ = some (.slice Ao X.f2.length cko) := by rw [blk_cell hbx7 2]; rfl
                  clear HBOX HB6 HQ6 HO6 hb7 hbx7 hen
                  have h := H.out
                  clear H
                  by_cases cf : fol X.f0 = true
                  · rw [if_pos cf] at h
                    by_cases cl : ((wait.drop 1).length + X.f2.length) * 8 ≤ 140737488355328
                    · rw [if_pos cl] at h
                      have H := Aside0.mk h
                      have HCL := Aside0.mk cl
                      clear h cl
                      go_wp2_with ((with_reducible refine gate_builtin (b := .append) (xs := #[.tmp 49, .tmp 51]) rfl ?_); at_builtin; refine Q_append_ints (w0 := w1) w1.heap.size rfl (.tmp 49) (.tmp 51) 28 3 8 rfl Tryz.underlying28 info3 (by omega) (.slice A1 (wait.length - 1) (c9 - 1)) (wait.drop 1) X.f2 Ao X.f2.length cko (fun _ => True) rfl rfl ?aO ?aR (fun _ _ => trivial) ?aB ?aS ?aL ?_; (case aO => exact HQ7.out); (case aR => exact HC7.out); (case aB => exact HB7.out); (case aS => exact HB7.out.size); (case aL => exact HCL.out); intro v52 w8 hq hb8 hg8 hat8; have HQ8 := Aside0.mk hq; have HB8 := Aside0.mk hb8; have HO8 := Aside0.mk (Kd.R_over' HO7.out (Kd.Q_typed HQ7.out) (by decide) hg8); clear hq hb8 hg8 hat8)
                      go_roundg k1
                      case measure => omega
                      case rel => exact ⟨_, _, H, ⟨by have := HK.out; omega⟩, ⟨by rw [List.length_set]; exact HN.out⟩, HO8, HQ8, HB8⟩
                    · rw [if_neg cl] at h; exact absurd h (by simp)
                  · rw [if_neg cf] at h
                    replace cf := Bool.eq_false_iff.mpr cf
                    have H := Aside0.mk h
                    clear h
                    go_wp2_with fail
                    go_roundg k1
                    case measure => omega
                    case rel => exact ⟨_, _, H, ⟨by have := HK.out; omega⟩, ⟨by rw [List.length_set]; exact HN.out⟩, HO7, HQ7, HB7⟩
                · rw [if_neg co1] at h; exact absurd h (by simp)
              · rw [if_neg co0] at h; exact absurd h (by simp)
          · rw [if_neg cr1] at h; exact absurd h (by simp)
        · rw [if_neg cr0] at h; exact absurd h (by simp)
      · rw [if_neg cw] at h
        obtain rfl := Option.some.inj h
        clear h
        go_wp2_with fail
        go_ret
        exact ⟨_, rfl, Kd.R_lower HOUT.out HB20.out.size, below_step HB20.out HB.out⟩

end Go.Proofs.YtgaadjgfjiljjaaGreat

/- NeedsAll and Needs: the reached objects that are variables. Conditions: those that each theorem names. -/
namespace Go.Proofs.YtgaadjgfjiljjaaGreat
open Go.RowKit Go.Proofs.YtgaadjgfjiljjaaGreatW.PrintWords Go.Proofs.YtgaadjgfjiljjaaGreatW.PrintLast Go.Proofs.YtgaadjgfjiljjaaGreatW.PrintMore
set_option linter.unusedVariables false
set_option linter.unusedSimpArgs false

def isvK (k : Int) : Bool := k == 0 || k == 1 || k == 2
theorem isVar_f (a b : Int) (l : List Int) : spec_Item_isVar.f a b l = some (isvK a) := by
  unfold spec_Item_isVar.f isvK
  by_cases h0 : a = 0
  · subst h0; rfl
  · by_cases h1 : a = 1
    · subst h1; rfl
    · rw [if_neg h0, if_neg h1]
      have e0 : (a == 0) = false := beq_eq_false_iff_ne.mpr h0
      have e1 : (a == 1) = false := beq_eq_false_iff_ne.mpr h1
      rw [e0, e1]; rfl

/-- The first j places are masked by 'is a variable'. -/
def maskTo (p : List It) (of : List Int) (out : List Bool) (j : Nat) : List Bool :=
  (List.range out.length).map fun r => if r < j then (rdb out (r : Int) && isvK (rd_It p (rd of (r : Int))).f0) else rdb out (r : Int)
def maskL (p : List It) (of : List Int) (out : List Bool) : List Bool := maskTo p of out out.length
theorem maskTo_length (p : List It) (of : List Int) (out : List Bool) (j : Nat) : (maskTo p of out j).length = out.length := by simp [maskTo]
theorem maskTo_zero (p : List It) (of : List Int) (out : List Bool) : maskTo p of out 0 = out := by
  apply List.ext_getElem (by simp [maskTo])
  intro i h1 h2
  simp [maskTo, rdb, List.getD_eq_getElem?_getD, h2]
theorem maskTo_at (p : List It) (of : List Int) (out : List Bool) (j : Nat) (h : j < out.length) : rdb (maskTo p of out j) (j : Int) = rdb out (j : Int) := by
  unfold rdb maskTo
  rw [Int.toNat_natCast, List.getD_eq_getElem?_getD, List.getElem?_map, List.getElem?_range h]
  simp [rdb]
theorem maskTo_set (p : List It) (of : List Int) (out : List Bool) (j : Nat) (h : j < out.length) (b : Bool) (hb : b = (rdb out (j : Int) && isvK (rd_It p (rd of (j : Int))).f0)) :
    (maskTo p of out j).set j b = maskTo p of out (j + 1) := by
  apply List.ext_getElem (by simp [maskTo])
  intro i h1 h2
  rw [List.getElem_set]
  simp only [maskTo, List.getElem_map, List.getElem_range]
  by_cases e : j = i
  · subst e
    rw [if_pos rfl, if_pos (by omega), hb]
  · rw [if_neg e]
    by_cases e2 : i < j
    · rw [if_pos e2, if_pos (by omega)]
    · rw [if_neg e2, if_neg (by omega)]

theorem follows_fit : Follows 22 (fun _ => true) := ⟨enters_ Tryz.func22 (by kernel_rfl) rfl, fun k m A n c w => fit1_calls k m A n c w⟩
theorem follows_leads : Follows 33 (fun _ => true) := ⟨enters_ Tryz.func33 (by kernel_rfl) rfl, fun k m A n c w => leads1_calls k m A n c w⟩
theorem follows_all : Follows 24 (fun k => k != 4) := ⟨enters_ Tryz.func24 (by kernel_rfl) rfl, fun k m A n c w => needsAll1_calls k m A n c w⟩
theorem follows_needs : Follows 34 (fun k => k == 3) := ⟨enters_ Tryz.func34 (by kernel_rfl) rfl, fun k m A n c w => needs1_calls k m A n c w⟩

set_option maxHeartbeats 2000000 in
set_option maxRecDepth 100000 in
theorem needsAll_calls (k : Nat) (A0 : Option Addr) (c0 : Nat) (p : List It) (i : Int) (of : List Int) (ko : Nat) (r : List Bool) (w : World)
    (hr0 : Kd.C kIt w A0 p.length p) (hc0 : p.length ≤ c0) (hi0 : 0 ≤ i) (hi1 : i < p.length) (ho : spec_Package_owners.f ko p = some of) (hbig : (rd_It p i).f2.length * 8 ≤ 140737488355328) (hol : of.length ≤ 140737488355328)
    (hof : ∀ j : Int, 0 ≤ j → j < of.length → 0 ≤ rd of j ∧ rd of j < p.length) (hlen : r.length = of.length)
    (h : reachR (fun k => k != 4) p of k (List.replicate of.length false) (rd_It p i).f2 = some r) :
    Calls Tryz.prog 10 #[.slice A0 p.length c0, .int .i64 i] w fun e w' => ∃ v0_ : Value, e = .returned v0_ ∧ Kd.R Kd.bool 4 w' w.heap.size (fun _ => True) v0_ (maskL p of r) ∧ Below w.heap.size w w' := by
  have hu31 := Tryz.underlying31
  have HR0 := Aside0.mk hr0
  have HC0 := Aside0.mk hc0
  have HO := Aside0.mk ho
  have H := Aside0.mk h
  have HBIG := Aside0.mk hbig
  have HOL := Aside0.mk hol
  have HOF := Aside0.mk hof
  have HLEN := Aside0.mk hlen
  have HI0 := Aside0.mk hi0
  have HI1 := Aside0.mk hi1
  clear hr0 hc0 ho h hbig hol hof hlen hi0 hi1
  go_enter Tryz.func10, Tryz.ntmps10
  go_wp2_with fail
  refine (spec_Package_owners.calls ko _ _ p of _ HR0.out HC0.out HO.out).mono ?_
  rintro e w1 ⟨v20, rfl, hv20, hb20⟩
  obtain ⟨A20, c20, rfl, hl20, hC20⟩ := Kd.R_reads hv20
  have HB20 := Aside0.mk hb20
  have HC20 := Aside0.mk hC20
  have HL20 := Aside0.mk hl20
  clear hv20 hb20 hl20 hC20
  go_wp2_with fail
  refine (reached_calls follows_all k _ _ p i of ko r _ (Kd.C_below HR0.out HB20.out) HC0.out HI0.out HI1.out HO.out HBIG.out HOL.out H.out).mono ?_
  rintro e w2 ⟨v21, rfl, hv21, hb21⟩
  obtain ⟨A21, c21, hv21e, hl21, _⟩ := Kd.R_reads hv21
  subst hv21e
  have HB21 := Aside0.mk hb21
  have HV21 := Aside0.mk hv21
  have HL21 := Aside0.mk hl21
  clear hb21 hv21 hl21
  have HB2 := Aside0.mk (below_step HB20.out HB21.out)
  have HC2 := Aside0.mk (Kd.C_below HC20.out HB21.out)
  go_wp2_with fail
  go_loopg [15] r.length (fun kq v15 w' => ∃ (j : Nat), v15 = .int .i64 (j : Int) ∧ Aside0 (kq + j = r.length) ∧ Aside0 (Kd.R Kd.bool 4 w' w1.heap.size (fun _ => True) (.slice A21 r.length c21) (maskTo p of r j)) ∧ Aside0 (Below w1.heap.size w1 w'))
  case atStart => exact ⟨0, rfl, ⟨by omega⟩, ⟨by rw [maskTo_zero]; exact HV21.out⟩, HB21⟩
  case round =>
    clear HV21 HB21 HB2 HC2
    obtain ⟨j, rfl, HK, HV, HB⟩ := hrel
    by_cases cj : (j : Int) < (r.length : Int)
    · have hjr : j < r.length := by omega
      have hcj := decide_eq_true cj
      obtain ⟨ho0, ho1⟩ := HOF.out (j : Int) (by omega) (by have := HLEN.out; omega)
      have hR := HV.out
      obtain ⟨g16, cap16, hv16, hg16, _, cel16, hcel16⟩ := Kd.R_form hR (by rw [maskTo_length]; omega)
      rw [maskTo_length] at hv16
      obtain ⟨rfl, rfl⟩ : A21 = some ⟨g16, 0, none⟩ ∧ c21 = cap16 := by injection hv16 with h1 h2 h3; exact ⟨h1, h3⟩
      have hcf := Kd.R_celln false hR (j : Int) (by omega) cj
      have HG16 := Aside0.mk hg16
      have HCEL := Aside0.mk hcel16
      have hxb0 : wr.cell? ⟨g16, j, none⟩ = some (.bool (rdb (maskTo p of r j) (j : Int))) := by have := hcf.1; rwa [Int.toNat_natCast] at this
      have hfb : wr.frozen? ⟨g16, j, none⟩ = false := by have := hcf.2; rwa [Int.toNat_natCast] at this
      rw [maskTo_at p of r j hjr] at hxb0
      clear hg16 hcel16 hv16 hR hcf
      obtain ⟨ao, rfl, hxo⟩ := Kd.at_int HC20.out (j : Int) (by omega) (by have := HLEN.out; omega)
      replace hxo := (HB.out.cell (World.block_lt_of_cell? w1 _ hxo)).trans hxo
      rw [Int.toNat_natCast] at hxo
      obtain ⟨ad', Ao, cko, e, hy0, hy1, hy2, hlo, hCo⟩ := at_It HR0.out (rd of (j : Int)) ho0 ho1
      subst e
      have HBW := Aside0.mk (below_step HB20.out HB.out)
      replace hy0 := (HBW.out.cell (World.block_lt_of_cell? w _ hy0)).trans hy0
      replace hy1 := (HBW.out.cell (World.block_lt_of_cell? w _ hy1)).trans hy1
      replace hy2 := (HBW.out.cell (World.block_lt_of_cell? w _ hy2)).trans hy2
      have HCO := Aside0.mk (Kd.C_below hCo HBW.out)
      have HLO := Aside0.mk hlo
      clear hCo hlo
      obtain ⟨X, hX⟩ : ∃ X, X = rd_It p (rd of (j : Int)) := ⟨_, rfl⟩
      rw [← hX] at hy0 hy1 hy2 HCO HLO
      have HXe := Aside0.mk hX
      clear hX
      obtain ⟨oo, hoo⟩ : ∃ oo, oo = rd of (j : Int) := ⟨_, rfl⟩
      rw [← hoo] at hxo hy0 hy1 hy2 ho0 ho1
      have HOO := Aside0.mk hoo
      clear hoo cj
      have hjo : (j : Int) < (of.length : Int) := by have := HLEN.out; omega
      have hjo2 : j < of.length := by have := HLEN.out; omega
      obtain ⟨j1, hj1⟩ : ∃ j1 : Int, j1 = (j : Int) + 1 := ⟨_, rfl⟩
      have hn64 : (j : Int) + 1 ≤ 9223372036854775807 := by have := HLEN.out; have := HOL.out; omega
      clear hj1
      by_cases cb : rdb r (j : Int) = true
      · rw [cb] at hxb0
        have CB := Aside0.mk cb
        clear cb
        go_wp2_with (first | ((with_reducible refine gate_store (t := 4) (p := 34) rfl ?_); refine store_event (t := 4) (p := 34) (v := ?vo) (w1 := w3.setCell ⟨g16, j, none⟩ (.bool (isvK X.f0))) ?hg ?ho ?hn ?hr ?_; (case ho => rfl); (case hg => rfl); (case hn => rfl); (case hr => first | (go_simp; done) | (go_simp; rfl)); intro w6 hw6; have HB6 := Aside0.mk (show Below w1.heap.size w1 w6 by rw [hw6]; exact HB3.out.setCell HG16.out _); have HV6 := Aside0.mk (show Kd.R Kd.bool 4 w6 w1.heap.size (fun _ => True) (.slice (some ⟨g16, 0, none⟩) r.length c21) ((maskTo p of r j).set j (isvK X.f0)) by rw [hw6]; exact (Kd.R_putg HV3.out (j : Int) (isvK X.f0)).1); clear hw6) | (go_at_call 25; refine (spec_Item_isVar.calls X.f0 X.f1 _ _ X.f2 (isvK X.f0) _ HCO.out HLO.out (isVar_f _ _ _)).mono ?_; rintro e w3 ⟨rfl, hb3⟩; have HB3 := Aside0.mk (below_step HB.out hb3); have HV3 := Aside0.mk (Kd.R_below HV.out hb3); have hxb3 := (hb3.cell (World.block_lt_of_cell? wr _ hxb0)).trans hxb0; have hfb3 := (hb3.frozen (World.block_lt_of_cell? wr _ hxb0)).trans hfb; clear hb3 HB HV hxo hy0 hy1 hy2 hxb0 hfb))
        go_roundg (gk - 1)
        case measure => have := HK.out; omega
        case rel => exact ⟨j + 1, by go_num, ⟨by have := HK.out; omega⟩, ⟨by rw [← maskTo_set p of r j hjr (isvK X.f0) (by rw [CB.out, HXe.out]; rfl)]; exact HV6.out⟩, HB6⟩
      · have cb' := Bool.eq_false_iff.mpr cb
        rw [cb'] at hxb0
        have CB := Aside0.mk cb'
        clear cb cb'
        go_wp2_with ((with_reducible refine gate_store (t := 4) (p := 34) rfl ?_); refine store_event (t := 4) (p := 34) (v := ?vo) (w1 := wr.setCell ⟨g16, j, none⟩ (.bool false)) ?hg ?ho ?hn ?hr ?_; (case ho => rfl); (case hg => rfl); (case hn => rfl); (case hr => first | (go_simp; done) | (go_simp; rfl)); intro w6 hw6; have HB6 := Aside0.mk (show Below w1.heap.size w1 w6 by rw [hw6]; exact HB.out.setCell HG16.out _); have HV6 := Aside0.mk (show Kd.R Kd.bool 4 w6 w1.heap.size (fun _ => True) (.slice (some ⟨g16, 0, none⟩) r.length c21) ((maskTo p of r j).set j false) by rw [hw6]; exact (Kd.R_putg HV.out (j : Int) false).1); clear hw6)
        go_roundg (gk - 1)
        case measure => have := HK.out; omega
        case rel => exact ⟨j + 1, by go_num, ⟨by have := HK.out; omega⟩, ⟨by rw [← maskTo_set p of r j hjr false (by rw [CB.out]; rfl)]; exact HV6.out⟩, HB6⟩
    · have hcj := decide_eq_false cj
      have hjr : j = r.length := by have := HK.out; omega
      have HJ := Aside0.mk hjr
      have hcj2 : decide (j < r.length) = false := decide_eq_false (by omega)
      clear hjr cj
      go_wp2_with fail
      go_ret
      refine ⟨_, rfl, ?_, below_step HB20.out HB.out⟩
      have h := Kd.R_lower HV.out HB20.out.size
      rw [HJ.out] at h
      exact h

set_option maxHeartbeats 2000000 in
set_option maxRecDepth 100000 in
theorem needs_calls (k : Nat) (A0 : Option Addr) (c0 : Nat) (p : List It) (i : Int) (of : List Int) (ko : Nat) (r : List Bool) (w : World)
    (hr0 : Kd.C kIt w A0 p.length p) (hc0 : p.length ≤ c0) (hi0 : 0 ≤ i) (hi1 : i < p.length) (ho : spec_Package_owners.f ko p = some of) (hbig : (rd_It p i).f2.length * 8 ≤ 140737488355328) (hol : of.length ≤ 140737488355328)
    (hof : ∀ j : Int, 0 ≤ j → j < of.length → 0 ≤ rd of j ∧ rd of j < p.length) (hlen : r.length = of.length)
    (h : reachR (fun k => k == 3) p of k (List.replicate of.length false) (rd_It p i).f2 = some r) :
    Calls Tryz.prog 27 #[.slice A0 p.length c0, .int .i64 i] w fun e w' => ∃ v0_ : Value, e = .returned v0_ ∧ Kd.R Kd.bool 4 w' w.heap.size (fun _ => True) v0_ (maskL p of r) ∧ Below w.heap.size w w' := by
  have hu31 := Tryz.underlying31
  have HR0 := Aside0.mk hr0
  have HC0 := Aside0.mk hc0
  have HO := Aside0.mk ho
  have H := Aside0.mk h
  have HBIG := Aside0.mk hbig
  have HOL := Aside0.mk hol
  have HOF := Aside0.mk hof
  have HLEN := Aside0.mk hlen
  have HI0 := Aside0.mk hi0
  have HI1 := Aside0.mk hi1
  clear hr0 hc0 ho h hbig hol hof hlen hi0 hi1
  go_enter Tryz.func27, Tryz.ntmps27
  go_wp2_with fail
  refine (spec_Package_owners.calls ko _ _ p of _ HR0.out HC0.out HO.out).mono ?_
  rintro e w1 ⟨v20, rfl, hv20, hb20⟩
  obtain ⟨A20, c20, rfl, hl20, hC20⟩ := Kd.R_reads hv20
  have HB20 := Aside0.mk hb20
  have HC20 := Aside0.mk hC20
  have HL20 := Aside0.mk hl20
  clear hv20 hb20 hl20 hC20
  go_wp2_with fail
  refine (reached_calls follows_needs k _ _ p i of ko r _ (Kd.C_below HR0.out HB20.out) HC0.out HI0.out HI1.out HO.out HBIG.out HOL.out H.out).mono ?_
  rintro e w2 ⟨v21, rfl, hv21, hb21⟩
  obtain ⟨A21, c21, hv21e, hl21, _⟩ := Kd.R_reads hv21
  subst hv21e
  have HB21 := Aside0.mk hb21
  have HV21 := Aside0.mk hv21
  have HL21 := Aside0.mk hl21
  clear hb21 hv21 hl21
  have HB2 := Aside0.mk (below_step HB20.out HB21.out)
  have HC2 := Aside0.mk (Kd.C_below HC20.out HB21.out)
  go_wp2_with fail
  go_loopg [15] r.length (fun kq v15 w' => ∃ (j : Nat), v15 = .int .i64 (j : Int) ∧ Aside0 (kq + j = r.length) ∧ Aside0 (Kd.R Kd.bool 4 w' w1.heap.size (fun _ => True) (.slice A21 r.length c21) (maskTo p of r j)) ∧ Aside0 (Below w1.heap.size w1 w'))
  case atStart => exact ⟨0, rfl, ⟨by omega⟩, ⟨by rw [maskTo_zero]; exact HV21.out⟩, HB21⟩
  case round =>
    clear HV21 HB21 HB2 HC2
    obtain ⟨j, rfl, HK, HV, HB⟩ := hrel
    by_cases cj : (j : Int) < (r.length : Int)
    · have hjr : j < r.length := by omega
      have hcj := decide_eq_true cj
      obtain ⟨ho0, ho1⟩ := HOF.out (j : Int) (by omega) (by have := HLEN.out; omega)
      have hR := HV.out
      obtain ⟨g16, cap16, hv16, hg16, _, cel16, hcel16⟩ := Kd.R_form hR (by rw [maskTo_length]; omega)
      rw [maskTo_length] at hv16
      obtain ⟨rfl, rfl⟩ : A21 = some ⟨g16, 0, none⟩ ∧ c21 = cap16 := by injection hv16 with h1 h2 h3; exact ⟨h1, h3⟩
      have hcf := Kd.R_celln false hR (j : Int) (by omega) cj
      have HG16 := Aside0.mk hg16
      have HCEL := Aside0.mk hcel16
      have hxb0 : wr.cell? ⟨g16, j, none⟩ = some (.bool (rdb (maskTo p of r j) (j : Int))) := by have := hcf.1; rwa [Int.toNat_natCast] at this
      have hfb : wr.frozen? ⟨g16, j, none⟩ = false := by have := hcf.2; rwa [Int.toNat_natCast] at this
      rw [maskTo_at p of r j hjr] at hxb0
      clear hg16 hcel16 hv16 hR hcf
      obtain ⟨ao, rfl, hxo⟩ := Kd.at_int HC20.out (j : Int) (by omega) (by have := HLEN.out; omega)
      replace hxo := (HB.out.cell (World.block_lt_of_cell? w1 _ hxo)).trans hxo
      rw [Int.toNat_natCast] at hxo
      obtain ⟨ad', Ao, cko, e, hy0, hy1, hy2, hlo, hCo⟩ := at_It HR0.out (rd of (j : Int)) ho0 ho1
      subst e
      have HBW := Aside0.mk (below_step HB20.out HB.out)
      replace hy0 := (HBW.out.cell (World.block_lt_of_cell? w _ hy0)).trans hy0
      replace hy1 := (HBW.out.cell (World.block_lt_of_cell? w _ hy1)).trans hy1
      replace hy2 := (HBW.out.cell (World.block_lt_of_cell? w _ hy2)).trans hy2
      have HCO := Aside0.mk (Kd.C_below hCo HBW.out)
      have HLO := Aside0.mk hlo
      clear hCo hlo
      obtain ⟨X, hX⟩ : ∃ X, X = rd_It p (rd of (j : Int)) := ⟨_, rfl⟩
      rw [← hX] at hy0 hy1 hy2 HCO HLO
      have HXe := Aside0.mk hX
      clear hX
      obtain ⟨oo, hoo⟩ : ∃ oo, oo = rd of (j : Int) := ⟨_, rfl⟩
      rw [← hoo] at hxo hy0 hy1 hy2 ho0 ho1
      have HOO := Aside0.mk hoo
      clear hoo cj
      have hjo : (j : Int) < (of.length : Int) := by have := HLEN.out; omega
      have hjo2 : j < of.length := by have := HLEN.out; omega
      obtain ⟨j1, hj1⟩ : ∃ j1 : Int, j1 = (j : Int) + 1 := ⟨_, rfl⟩
      have hn64 : (j : Int) + 1 ≤ 9223372036854775807 := by have := HLEN.out; have := HOL.out; omega
      clear hj1
      by_cases cb : rdb r (j : Int) = true
      · rw [cb] at hxb0
        have CB := Aside0.mk cb
        clear cb
        go_wp2_with (first | ((with_reducible refine gate_store (t := 4) (p := 34) rfl ?_); refine store_event (t := 4) (p := 34) (v := ?vo) (w1 := w3.setCell ⟨g16, j, none⟩ (.bool (isvK X.f0))) ?hg ?ho ?hn ?hr ?_; (case ho => rfl); (case hg => rfl); (case hn => rfl); (case hr => first | (go_simp; done) | (go_simp; rfl)); intro w6 hw6; have HB6 := Aside0.mk (show Below w1.heap.size w1 w6 by rw [hw6]; exact HB3.out.setCell HG16.out _); have HV6 := Aside0.mk (show Kd.R Kd.bool 4 w6 w1.heap.size (fun _ => True) (.slice (some ⟨g16, 0, none⟩) r.length c21) ((maskTo p of r j).set j (isvK X.f0)) by rw [hw6]; exact (Kd.R_putg HV3.out (j : Int) (isvK X.f0)).1); clear hw6) | (go_at_call 25; refine (spec_Item_isVar.calls X.f0 X.f1 _ _ X.f2 (isvK X.f0) _ HCO.out HLO.out (isVar_f _ _ _)).mono ?_; rintro e w3 ⟨rfl, hb3⟩; have HB3 := Aside0.mk (below_step HB.out hb3); have HV3 := Aside0.mk (Kd.R_below HV.out hb3); have hxb3 := (hb3.cell (World.block_lt_of_cell? wr _ hxb0)).trans hxb0; have hfb3 := (hb3.frozen (World.block_lt_of_cell? wr _ hxb0)).trans hfb; clear hb3 HB HV hxo hy0 hy1 hy2 hxb0 hfb))
        go_roundg (gk - 1)
        case measure => have := HK.out; omega
        case rel => exact ⟨j + 1, by go_num, ⟨by have := HK.out; omega⟩, ⟨by rw [← maskTo_set p of r j hjr (isvK X.f0) (by rw [CB.out, HXe.out]; rfl)]; exact HV6.out⟩, HB6⟩
      · have cb' := Bool.eq_false_iff.mpr cb
        rw [cb'] at hxb0
        have CB := Aside0.mk cb'
        clear cb cb'
        go_wp2_with ((with_reducible refine gate_store (t := 4) (p := 34) rfl ?_); refine store_event (t := 4) (p := 34) (v := ?vo) (w1 := wr.setCell ⟨g16, j, none⟩ (.bool false)) ?hg ?ho ?hn ?hr ?_; (case ho => rfl); (case hg => rfl); (case hn => rfl); (case hr => first | (go_simp; done) | (go_simp; rfl)); intro w6 hw6; have HB6 := Aside0.mk (show Below w1.heap.size w1 w6 by rw [hw6]; exact HB.out.setCell HG16.out _); have HV6 := Aside0.mk (show Kd.R Kd.bool 4 w6 w1.heap.size (fun _ => True) (.slice (some ⟨g16, 0, none⟩) r.length c21) ((maskTo p of r j).set j false) by rw [hw6]; exact (Kd.R_putg HV.out (j : Int) false).1); clear hw6)
        go_roundg (gk - 1)
        case measure => have := HK.out; omega
        case rel => exact ⟨j + 1, by go_num, ⟨by have := HK.out; omega⟩, ⟨by rw [← maskTo_set p of r j hjr false (by rw [CB.out]; rfl)]; exact HV6.out⟩, HB6⟩
    · have hcj := decide_eq_false cj
      have hjr : j = r.length := by have := HK.out; omega
      have HJ := Aside0.mk hjr
      have hcj2 : decide (j < r.length) = false := decide_eq_false (by omega)
      clear hjr cj
      go_wp2_with fail
      go_ret
      refine ⟨_, rfl, ?_, below_step HB20.out HB.out⟩
      have h := Kd.R_lower HV.out HB20.out.size
      rw [HJ.out] at h
      exact h

end Go.Proofs.YtgaadjgfjiljjaaGreat
