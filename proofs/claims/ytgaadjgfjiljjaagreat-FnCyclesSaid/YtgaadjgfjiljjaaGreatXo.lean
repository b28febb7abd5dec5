/- container/heap over the queue of nodes: down (53), up (54). Conditions: those that each theorem names. -/
import Derived.Test.YtgaadjgfjiljjaaGreatXn
namespace Go.Proofs.YtgaadjgfjiljjaaGreat
open Go.RowKit Go.Proofs.YtgaadjgfjiljjaaGreatW.PrintWords Go.Proofs.YtgaadjgfjiljjaaGreatW.PrintLast Go.Proofs.YtgaadjgfjiljjaaGreatW.PrintMore
open Go.ChangeMaps (setBlock)
set_option linter.unusedVariables false
set_option linter.unusedSimpArgs false

section
variable {n G0 : Nat} {ty ob gn : Nat → Nat} {pb sb : Nat → Option Nat} {PL SL : Nat → List Nat} {od nd : Nat → Int} {gl : List Nat} {pq sl cap : Nat} {q : List Nat} {w w' : World} {S : Nat → Prop}

theorem Qr.cell (h : Qr n G0 ty ob gn pb sb PL SL od nd gl pq sl cap q w) : w.cell? ⟨pq, 0, none⟩ = some (.slice (some ⟨sl, 0, none⟩) q.length cap) := (blk_cell h.pq_ 0).trans rfl

theorem less_at (h : Qr n G0 ty ob gn pb sb PL SL od nd gl pq sl cap q w) {i j : Nat} {x y : Int} (hx : x = (i : Int)) (hy : y = (j : Int)) (hi : i < q.length) (hj : j < q.length) :
    Calls Tryz.prog 123 #[.slice (some ⟨sl, 0, none⟩) q.length cap, .int .i64 x, .int .i64 y] w fun e w' => e = .returned (.bool (lessN ty od nd (q.getD i 0) (q.getD j 0))) ∧ ∃ m, w' = w.drewN m := by
  rw [hx, hy]; exact less_of h hi hj
theorem swap_at (h : Qr n G0 ty ob gn pb sb PL SL od nd gl pq sl cap q w) {i j : Nat} {x y : Int} (hx : x = (i : Int)) (hy : y = (j : Int)) (hi : i < q.length) (hj : j < q.length) :
    Calls Tryz.prog 124 #[.slice (some ⟨sl, 0, none⟩) q.length cap, .int .i64 x, .int .i64 y] w fun e w' => e = .returned (.tuple #[]) ∧ Qr n G0 ty ob gn pb sb PL SL od nd gl pq sl cap (swapL q i j) w' ∧ Touch (Qs n gn pq sl) w w' := by
  rw [hx, hy]; exact swap_of h hi hj

/-- What down and up leave. -/
def Heaped (n G0 : Nat) (ty ob gn : Nat → Nat) (pb sb : Nat → Option Nat) (PL SL : Nat → List Nat) (od nd : Nat → Int) (gl : List Nat) (pq sl cap : Nat) (q : List Nat) (w : World) (q' : List Nat) (w' : World) : Prop :=
  Qr n G0 ty ob gn pb sb PL SL od nd gl pq sl cap q' w' ∧ q'.Perm q ∧ Touch (Qs n gn pq sl) w w'
theorem Heaped.refl (h : Qr n G0 ty ob gn pb sb PL SL od nd gl pq sl cap q w) : Heaped n G0 ty ob gn pb sb PL SL od nd gl pq sl cap q w q w := ⟨h, List.Perm.refl _, Touch.refl _ _⟩
theorem Heaped.trans {q1 q2 : List Nat} {w1 w2 : World} (h : Heaped n G0 ty ob gn pb sb PL SL od nd gl pq sl cap q w q1 w1) (k : Heaped n G0 ty ob gn pb sb PL SL od nd gl pq sl cap q1 w1 q2 w2) : Heaped n G0 ty ob gn pb sb PL SL od nd gl pq sl cap q w q2 w2 :=
  ⟨k.1, k.2.1.trans h.2.1, h.2.2.trans k.2.2 (fun _ _ hs => hs)⟩
theorem Heaped.drewN {q1 : List Nat} {w1 : World} (h : Heaped n G0 ty ob gn pb sb PL SL od nd gl pq sl cap q w q1 w1) (m : Nat) : Heaped n G0 ty ob gn pb sb PL SL od nd gl pq sl cap q w q1 (w1.drewN m) := ⟨h.1.drewN m, h.2.1, h.2.2.drewN m⟩

set_option maxHeartbeats 4000000 in
set_option maxRecDepth 100000 in
theorem down_of (h : Qr n G0 ty ob gn pb sb PL SL od nd gl pq sl cap q w) {i0 n0 : Nat} (hn0 : n0 ≤ q.length) (hi0 : i0 ≤ 4096) :
    Calls Tryz.prog 53 #[.iface 100 (.pointer (some ⟨pq, 0, none⟩)), .int .i64 (i0 : Int), .int .i64 (n0 : Int)] w fun e w' => ∃ (b : Bool) (q' : List Nat), e = .returned (.bool b) ∧ Heaped n G0 ty ob gn pb sb PL SL od nd gl pq sl cap q w q' w' ∧
      (∀ t, n0 ≤ t → q'.getD t 0 = q.getD t 0) ∧ (n0 = 2 → i0 = 0 → lessN ty od nd (q'.getD 1 0) (q'.getD 0 0) = false) := by
  have HN := Aside0.mk hn0
  have HI0 := Aside0.mk hi0
  have HL := Aside0.mk h.len
  have H := Aside0.mk h
  clear h hn0 hi0
  go_enter Tryz.func53, Tryz.ntmps53
  go_wp2_with fail
  go_loopg [7] n0 (fun kq v7 w' => ∃ (q' : List Nat) (i : Nat), v7 = .int .i64 (i : Int) ∧ Aside0 (kq + i = n0 + i0) ∧ Aside0 (Heaped n G0 ty ob gn pb sb PL SL od nd gl pq sl cap q w q' w') ∧ Aside0 (∀ t, n0 ≤ t → q'.getD t 0 = q.getD t 0) ∧ Aside0 (n0 = 2 → i0 = 0 → (i = 0 ∧ q' = q) ∨ (i = 1 ∧ lessN ty od nd (q'.getD 1 0) (q'.getD 0 0) = false)) ∧ Aside0 (i = i0 ∨ i < n0))
  case atStart => exact ⟨q, i0, rfl, ⟨rfl⟩, ⟨Heaped.refl H.out⟩, ⟨fun _ _ => rfl⟩, ⟨fun _ h => .inl ⟨h, rfl⟩⟩, ⟨.inl rfl⟩⟩
  case round =>
    obtain ⟨q', i, rfl, HK, HH, HT, H2, HI⟩ := hrel
    have HLE := Aside0.mk (show q'.length = q.length from HH.out.2.1.length_eq)
    have hw1 : wrap64 (2 * (i : Int)) = 2 * (i : Int) := by have := HK.out; have := HI0.out; have := HN.out; have := HL.out; unfold wrap64; omega
    have hw2 : wrap64 (2 * (i : Int) + 1) = 2 * (i : Int) + 1 := by have := HK.out; have := HI0.out; have := HN.out; have := HL.out; unfold wrap64; omega
    have hng : decide (2 * (i : Int) + 1 < 0) = false := decide_eq_false (by omega)
    by_cases c1 : (n0 : Int) ≤ 2 * (i : Int) + 1
    · have d1 := decide_eq_true c1
      have C1 := Aside0.mk c1
      clear c1
      go_wp2_with fail
      go_ret
      refine ⟨_, q', rfl, HH.out, HT.out, fun h1 h2 => ?_⟩
      rcases H2.out h1 h2 with h3 | h3
      · have := C1.out; omega
      · exact h3.2
    · have d1 := decide_eq_false c1
      have hlen := HLE.out
      have hln := HN.out
      have hll := HL.out
      have C1 := Aside0.mk (show 2 * i + 1 < n0 by omega)
      have hw3 : wrap64 (2 * (i : Int) + 1 + 1) = 2 * (i : Int) + 1 + 1 := by unfold wrap64; omega
      have hq := HH.out.1
      have hc := hq.cell
      have hm := meth_less pq _ wr hc
      clear c1 hlen hln hll
      by_cases c2 : 2 * (i : Int) + 1 + 1 < (n0 : Int)
      · have d2 := decide_eq_true c2
        have C2 := Aside0.mk (show 2 * i + 1 + 1 < n0 by omega)
        clear c2 hq
        go_wp2_with fail
        refine (less_at HH.out.1 (show 2 * (i : Int) + 1 + 1 = ((2 * i + 1 + 1 : Nat) : Int) by omega) (show 2 * (i : Int) + 1 = ((2 * i + 1 : Nat) : Int) by omega) (by have := HLE.out; have := HN.out; have := C2.out; omega) (by have := HLE.out; have := HN.out; have := C2.out; omega)).mono ?_
        rintro e w1 ⟨rfl, m1, hw1'⟩
        have HH1 := Aside0.mk (show Heaped n G0 ty ob gn pb sb PL SL od nd gl pq sl cap q w q' w1 by rw [hw1']; exact HH.out.drewN m1)
        clear hm hc hw1' HH
        cases hl1 : lessN ty od nd (q'.getD (2 * i + 1 + 1) 0) (q'.getD (2 * i + 1) 0) with
        | true =>
          have JN := Aside0.mk (show 2 * i + 1 + 1 < n0 from C2.out)
          clear hl1
          have hb : i < q'.length ∧ 2 * i + 1 + 1 < q'.length ∧ 2 * i + 1 + 1 < n0 ∧ i < 2 * i + 1 + 1 := by have := HLE.out; have := HN.out; have := JN.out; omega
          have HBD := Aside0.mk hb
          have hm1 := meth_less pq _ w1 HH1.out.1.cell
          go_wp2_with fail
          refine (less_at HH1.out.1 (show 2 * (i : Int) + 1 + 1 = ((2 * i + 1 + 1 : Nat) : Int) by omega) (show (i : Int) = (i : Int) from rfl) hb.2.1 hb.1).mono ?_
          rintro e w2 ⟨rfl, m2, hw2⟩
          have HH2 := Aside0.mk (show Heaped n G0 ty ob gn pb sb PL SL od nd gl pq sl cap q w q' w2 by rw [hw2]; exact HH1.out.drewN m2)
          clear hm1 hw2 HH1 hb
          cases hl2 : lessN ty od nd (q'.getD (2 * i + 1 + 1) 0) (q'.getD i 0) with
          | false =>
            have HL2 := Aside0.mk hl2
            clear hl2
            go_wp2_with fail
            go_ret
            refine ⟨_, q', rfl, HH2.out, HT.out, fun h1 h2 => ?_⟩
            rcases H2.out h1 h2 with h3 | h3
            · have hi0 := h3.1
              have hbd := HBD.out
              have hj1 : 2 * i + 1 + 1 = 1 := by omega
              have h4 := HL2.out
              rw [hj1, hi0] at h4
              exact h4
            · exact h3.2
          | true =>
            have HL2 := Aside0.mk hl2
            have hs2 := meth_swap pq _ w2 HH2.out.1.cell
            clear hl2
            go_wp2_with fail
            refine (swap_at HH2.out.1 (show (i : Int) = (i : Int) from rfl) (show 2 * (i : Int) + 1 + 1 = ((2 * i + 1 + 1 : Nat) : Int) by omega) HBD.out.1 HBD.out.2.1).mono ?_
            rintro e w3 ⟨rfl, hQ3, hT3⟩
            have HH3 := Aside0.mk (show Heaped n G0 ty ob gn pb sb PL SL od nd gl pq sl cap q w (swapL q' i (2 * i + 1 + 1)) w3 from HH2.out.trans ⟨hQ3, swapL_perm HBD.out.1 HBD.out.2.1, hT3⟩)
            clear hs2 hQ3 hT3 HH2
            go_wp2_with fail
            go_roundg (n0 + i0 - (2 * i + 1 + 1))
            case measure => have := HBD.out; have := HK.out; have := HI.out; omega
            case rel =>
              have hbd := HBD.out
              have hle := HLE.out
              have hnn := HN.out
              have hll := HL.out
              refine ⟨swapL q' i (2 * i + 1 + 1), 2 * i + 1 + 1, congrArg (Value.int .i64) (by first | omega | (unfold wrap64; omega)), ⟨by have := HK.out; have := HI.out; omega⟩, HH3, ⟨fun t ht => ?_⟩, ⟨fun h1 h2 => ?_⟩, ⟨.inr hbd.2.2.1⟩⟩
              · rw [swapL_getD q' hbd.1 hbd.2.1, if_neg (by omega), if_neg (by omega)]
                exact HT.out t ht
              · right
                rcases H2.out h1 h2 with h3 | h3
                · have hi0 := h3.1
                  have hj1 : 2 * i + 1 + 1 = 1 := by omega
                  refine ⟨hj1, ?_⟩
                  have h4 := HL2.out
                  rw [hj1, hi0] at h4 ⊢
                  rw [swapL_getD q' (by omega) (by omega), swapL_getD q' (by omega) (by omega)]
                  exact lessN_asymm h4
                · omega
        | false =>
          have JN := Aside0.mk (show 2 * i + 1 < n0 from C1.out)
          clear hl1
          have hb : i < q'.length ∧ 2 * i + 1 < q'.length ∧ 2 * i + 1 < n0 ∧ i < 2 * i + 1 := by have := HLE.out; have := HN.out; have := JN.out; omega
          have HBD := Aside0.mk hb
          have hm1 := meth_less pq _ w1 HH1.out.1.cell
          go_wp2_with fail
          refine (less_at HH1.out.1 (show 2 * (i : Int) + 1 = ((2 * i + 1 : Nat) : Int) by omega) (show (i : Int) = (i : Int) from rfl) hb.2.1 hb.1).mono ?_
          rintro e w2 ⟨rfl, m2, hw2⟩
          have HH2 := Aside0.mk (show Heaped n G0 ty ob gn pb sb PL SL od nd gl pq sl cap q w q' w2 by rw [hw2]; exact HH1.out.drewN m2)
          clear hm1 hw2 HH1 hb
          cases hl2 : lessN ty od nd (q'.getD (2 * i + 1) 0) (q'.getD i 0) with
          | false =>
            have HL2 := Aside0.mk hl2
            clear hl2
            go_wp2_with fail
            go_ret
            refine ⟨_, q', rfl, HH2.out, HT.out, fun h1 h2 => ?_⟩
            rcases H2.out h1 h2 with h3 | h3
            · have hi0 := h3.1
              have hbd := HBD.out
              have hj1 : 2 * i + 1 = 1 := by omega
              have h4 := HL2.out
              rw [hj1, hi0] at h4
              exact h4
            · exact h3.2
          | true =>
            have HL2 := Aside0.mk hl2
            have hs2 := meth_swap pq _ w2 HH2.out.1.cell
            clear hl2
            go_wp2_with fail
            refine (swap_at HH2.out.1 (show (i : Int) = (i : Int) from rfl) (show 2 * (i : Int) + 1 = ((2 * i + 1 : Nat) : Int) by omega) HBD.out.1 HBD.out.2.1).mono ?_
            rintro e w3 ⟨rfl, hQ3, hT3⟩
            have HH3 := Aside0.mk (show Heaped n G0 ty ob gn pb sb PL SL od nd gl pq sl cap q w (swapL q' i (2 * i + 1)) w3 from HH2.out.trans ⟨hQ3, swapL_perm HBD.out.1 HBD.out.2.1, hT3⟩)
            clear hs2 hQ3 hT3 HH2
            go_wp2_with fail
            go_roundg (n0 + i0 - (2 * i + 1))
            case measure => have := HBD.out; have := HK.out; have := HI.out; omega
            case rel =>
              have hbd := HBD.out
              have hle := HLE.out
              have hnn := HN.out
              have hll := HL.out
              refine ⟨swapL q' i (2 * i + 1), 2 * i + 1, congrArg (Value.int .i64) (by first | omega | (unfold wrap64; omega)), ⟨by have := HK.out; have := HI.out; omega⟩, HH3, ⟨fun t ht => ?_⟩, ⟨fun h1 h2 => ?_⟩, ⟨.inr hbd.2.2.1⟩⟩
              · rw [swapL_getD q' hbd.1 hbd.2.1, if_neg (by omega), if_neg (by omega)]
                exact HT.out t ht
              · right
                rcases H2.out h1 h2 with h3 | h3
                · have hi0 := h3.1
                  have hj1 : 2 * i + 1 = 1 := by omega
                  refine ⟨hj1, ?_⟩
                  have h4 := HL2.out
                  rw [hj1, hi0] at h4 ⊢
                  rw [swapL_getD q' (by omega) (by omega), swapL_getD q' (by omega) (by omega)]
                  exact lessN_asymm h4
                · omega
      · have d2 := decide_eq_false c2
        have JN := Aside0.mk (show 2 * i + 1 < n0 from C1.out)
        obtain ⟨w1, hw1'⟩ : ∃ w1, w1 = wr := ⟨_, rfl⟩
        subst hw1'
        obtain ⟨HH1, _⟩ : ∃ h : Aside0 (Heaped n G0 ty ob gn pb sb PL SL od nd gl pq sl cap q w q' w1), True := ⟨HH, trivial⟩
        clear c2 hq hm hc HH
        have hb : i < q'.length ∧ 2 * i + 1 < q'.length ∧ 2 * i + 1 < n0 ∧ i < 2 * i + 1 := by have := HLE.out; have := HN.out; have := JN.out; omega
        have HBD := Aside0.mk hb
        have hm1 := meth_less pq _ w1 HH1.out.1.cell
        go_wp2_with fail
        refine (less_at HH1.out.1 (show 2 * (i : Int) + 1 = ((2 * i + 1 : Nat) : Int) by omega) (show (i : Int) = (i : Int) from rfl) hb.2.1 hb.1).mono ?_
        rintro e w2 ⟨rfl, m2, hw2⟩
        have HH2 := Aside0.mk (show Heaped n G0 ty ob gn pb sb PL SL od nd gl pq sl cap q w q' w2 by rw [hw2]; exact HH1.out.drewN m2)
        clear hm1 hw2 HH1 hb
        cases hl2 : lessN ty od nd (q'.getD (2 * i + 1) 0) (q'.getD i 0) with
        | false =>
          have HL2 := Aside0.mk hl2
          clear hl2
          go_wp2_with fail
          go_ret
          refine ⟨_, q', rfl, HH2.out, HT.out, fun h1 h2 => ?_⟩
          rcases H2.out h1 h2 with h3 | h3
          · have hi0 := h3.1
            have hbd := HBD.out
            have hj1 : 2 * i + 1 = 1 := by omega
            have h4 := HL2.out
            rw [hj1, hi0] at h4
            exact h4
          · exact h3.2
        | true =>
          have HL2 := Aside0.mk hl2
          have hs2 := meth_swap pq _ w2 HH2.out.1.cell
          clear hl2
          go_wp2_with fail
          refine (swap_at HH2.out.1 (show (i : Int) = (i : Int) from rfl) (show 2 * (i : Int) + 1 = ((2 * i + 1 : Nat) : Int) by omega) HBD.out.1 HBD.out.2.1).mono ?_
          rintro e w3 ⟨rfl, hQ3, hT3⟩
          have HH3 := Aside0.mk (show Heaped n G0 ty ob gn pb sb PL SL od nd gl pq sl cap q w (swapL q' i (2 * i + 1)) w3 from HH2.out.trans ⟨hQ3, swapL_perm HBD.out.1 HBD.out.2.1, hT3⟩)
          clear hs2 hQ3 hT3 HH2
          go_wp2_with fail
          go_roundg (n0 + i0 - (2 * i + 1))
          case measure => have := HBD.out; have := HK.out; have := HI.out; omega
          case rel =>
            have hbd := HBD.out
            have hle := HLE.out
            have hnn := HN.out
            have hll := HL.out
            refine ⟨swapL q' i (2 * i + 1), 2 * i + 1, congrArg (Value.int .i64) (by first | omega | (unfold wrap64; omega)), ⟨by have := HK.out; have := HI.out; omega⟩, HH3, ⟨fun t ht => ?_⟩, ⟨fun h1 h2 => ?_⟩, ⟨.inr hbd.2.2.1⟩⟩
            · rw [swapL_getD q' hbd.1 hbd.2.1, if_neg (by omega), if_neg (by omega)]
              exact HT.out t ht
            · right
              rcases H2.out h1 h2 with h3 | h3
              · have hi0 := h3.1
                have hj1 : 2 * i + 1 = 1 := by omega
                refine ⟨hj1, ?_⟩
                have h4 := HL2.out
                rw [hj1, hi0] at h4 ⊢
                rw [swapL_getD q' (by omega) (by omega), swapL_getD q' (by omega) (by omega)]
                exact lessN_asymm h4
              · omega

set_option maxHeartbeats 4000000 in
set_option maxRecDepth 100000 in
theorem down_neg (pq n0 : Nat) (w : World) (hn : n0 ≤ 4096) : Calls Tryz.prog 53 #[.iface 100 (.pointer (some ⟨pq, 0, none⟩)), .int .i64 (-1), .int .i64 (n0 : Int)] w fun e w' => e = .returned (.bool false) ∧ w' = w := by
  have HN := Aside0.mk hn
  clear hn
  go_enter Tryz.func53, Tryz.ntmps53
  go_wp2_with fail
  go_loopg [7] 0 (fun kq v7 w' => v7 = .int .i64 (-1) ∧ w' = w)
  case atStart => exact ⟨rfl, rfl⟩
  case round =>
    obtain ⟨rfl, rfl⟩ := hrel
    have hng : decide ((n0 : Int) ≤ -1) = false := decide_eq_false (by omega)
    go_wp2_with fail
    go_ret
    exact ⟨rfl, rfl⟩

set_option maxHeartbeats 4000000 in
set_option maxRecDepth 100000 in
theorem up_neg (pq : Nat) (w : World) : Calls Tryz.prog 54 #[.iface 100 (.pointer (some ⟨pq, 0, none⟩)), .int .i64 (-1)] w fun e w' => e = .returned (.tuple #[]) ∧ w' = w := by
  go_enter Tryz.func54, Tryz.ntmps54
  go_wp2_with fail
  go_loopg [1] 0 (fun kq v1 w' => v1 = .int .i64 (-1) ∧ w' = w)
  case atStart => exact ⟨rfl, rfl⟩
  case round =>
    obtain ⟨rfl, rfl⟩ := hrel
    go_wp2_with fail
    go_end0
    exact ⟨rfl, rfl⟩

set_option maxHeartbeats 4000000 in
set_option maxRecDepth 100000 in
theorem up_of (h : Qr n G0 ty ob gn pb sb PL SL od nd gl pq sl cap q w) {i0 : Nat} (hi0 : i0 < q.length) :
    Calls Tryz.prog 54 #[.iface 100 (.pointer (some ⟨pq, 0, none⟩)), .int .i64 (i0 : Int)] w fun e w' => e = .returned (.tuple #[]) ∧ ∃ q', Heaped n G0 ty ob gn pb sb PL SL od nd gl pq sl cap q w q' w' := by
  have HI0 := Aside0.mk hi0
  have HL := Aside0.mk h.len
  have H := Aside0.mk h
  clear h hi0
  go_enter Tryz.func54, Tryz.ntmps54
  go_wp2_with fail
  go_loopg [1] i0 (fun kq v1 w' => ∃ (q' : List Nat) (i : Nat), v1 = .int .i64 (i : Int) ∧ Aside0 (kq = i) ∧ Aside0 (Heaped n G0 ty ob gn pb sb PL SL od nd gl pq sl cap q w q' w') ∧ Aside0 (i < q.length))
  case atStart => exact ⟨q, i0, rfl, ⟨rfl⟩, ⟨Heaped.refl H.out⟩, HI0⟩
  case round =>
    obtain ⟨q', i, rfl, HK, HH, HI⟩ := hrel
    have HLE := Aside0.mk (show q'.length = q.length from HH.out.2.1.length_eq)
    by_cases c0 : i = 0
    · subst c0
      go_wp2_with fail
      go_end0
      exact ⟨rfl, q', HH.out⟩
    · obtain ⟨p, hp⟩ : ∃ p, p = (i - 1) / 2 := ⟨_, rfl⟩
      have hw1 : wrap64 ((i : Int) - 1) = (i : Int) - 1 := by have := HI.out; have := HL.out; unfold wrap64; omega
      have hq1 : ((i : Int) - 1).tdiv 2 = (p : Int) := by rw [Int.tdiv_eq_ediv_of_nonneg (by omega)]; omega
      have hw2 : wrap64 (p : Int) = (p : Int) := by have := HI.out; have := HL.out; unfold wrap64; omega
      have hne : ((p : Int) == (i : Int)) = false := beq_false_of_ne (by omega)
      have HP := Aside0.mk (show p < i by omega)
      have hm1 := meth_less pq _ wr HH.out.1.cell
      clear c0 hp
      go_wp2_with fail
      refine (less_at HH.out.1 (show (i : Int) = (i : Int) from rfl) (show (p : Int) = (p : Int) from rfl) (by have := HI.out; have := HLE.out; omega) (by have := HI.out; have := HLE.out; have := HP.out; omega)).mono ?_
      rintro e w1 ⟨rfl, m1, hw1'⟩
      have HH1 := Aside0.mk (show Heaped n G0 ty ob gn pb sb PL SL od nd gl pq sl cap q w q' w1 by rw [hw1']; exact HH.out.drewN m1)
      clear hm1 hw1' HH
      cases hl : lessN ty od nd (q'.getD i 0) (q'.getD p 0) with
      | false =>
        clear hl
        go_wp2_with fail
        go_end0
        exact ⟨rfl, q', HH1.out⟩
      | true =>
        clear hl
        have hs1 := meth_swap pq _ w1 HH1.out.1.cell
        go_wp2_with fail
        refine (swap_at HH1.out.1 (show (p : Int) = (p : Int) from rfl) (show (i : Int) = (i : Int) from rfl) (by have := HI.out; have := HLE.out; have := HP.out; omega) (by have := HI.out; have := HLE.out; omega)).mono ?_
        rintro e w3 ⟨rfl, hQ3, hT3⟩
        have HH3 := Aside0.mk (show Heaped n G0 ty ob gn pb sb PL SL od nd gl pq sl cap q w (swapL q' p i) w3 from HH1.out.trans ⟨hQ3, swapL_perm (by have := HI.out; have := HLE.out; have := HP.out; omega) (by have := HI.out; have := HLE.out; omega), hT3⟩)
        clear hs1 hQ3 hT3 HH1
        go_wp2_with fail
        go_roundg p
        case measure => have := HP.out; have := HK.out; omega
        case rel => exact ⟨_, p, rfl, ⟨rfl⟩, HH3, ⟨by have := HP.out; have := HI.out; omega⟩⟩
end
end Go.Proofs.YtgaadjgfjiljjaaGreat

/- container/heap over the queue of nodes: Init (41), Pop (42), Fix (44). Conditions: those that each theorem names. -/
namespace Go.Proofs.YtgaadjgfjiljjaaGreat
open Go.RowKit Go.Proofs.YtgaadjgfjiljjaaGreatW.PrintWords Go.Proofs.YtgaadjgfjiljjaaGreatW.PrintLast Go.Proofs.YtgaadjgfjiljjaaGreatW.PrintMore
open Go.ChangeMaps (setBlock)
set_option linter.unusedVariables false
set_option linter.unusedSimpArgs false

section
variable {n G0 : Nat} {ty ob gn : Nat → Nat} {pb sb : Nat → Option Nat} {PL SL : Nat → List Nat} {od nd : Nat → Int} {gl : List Nat} {pq sl cap : Nat} {q : List Nat} {w w' : World} {S : Nat → Prop}

theorem down_at (h : Qr n G0 ty ob gn pb sb PL SL od nd gl pq sl cap q w) {i0 n0 : Nat} {x y : Int} (hx : x = (i0 : Int)) (hy : y = (n0 : Int)) (hn0 : n0 ≤ q.length) (hi0 : i0 ≤ 4096) :
    Calls Tryz.prog 53 #[.iface 100 (.pointer (some ⟨pq, 0, none⟩)), .int .i64 x, .int .i64 y] w fun e w' => ∃ (b : Bool) (q' : List Nat), e = .returned (.bool b) ∧ Heaped n G0 ty ob gn pb sb PL SL od nd gl pq sl cap q w q' w' ∧
      (∀ t, n0 ≤ t → q'.getD t 0 = q.getD t 0) ∧ (n0 = 2 → i0 = 0 → lessN ty od nd (q'.getD 1 0) (q'.getD 0 0) = false) := by
  rw [hx, hy]; exact down_of h hn0 hi0

set_option maxHeartbeats 4000000 in
set_option maxRecDepth 100000 in
theorem init_of (h : Qr n G0 ty ob gn pb sb PL SL od nd gl pq sl cap q w) :
    Calls Tryz.prog 41 #[.iface 100 (.pointer (some ⟨pq, 0, none⟩))] w fun e w' => e = .returned (.tuple #[]) ∧ ∃ q', Heaped n G0 ty ob gn pb sb PL SL od nd gl pq sl cap q w q' w' ∧ (q.length = 2 → lessN ty od nd (q'.getD 1 0) (q'.getD 0 0) = false) := by
  have HL := Aside0.mk h.len
  have hm := meth_len pq _ w h.cell
  have H := Aside0.mk h
  clear h
  have hw1 : wrap64 ((q.length : Int).tdiv 2 - 1) = ((q.length / 2 : Nat) : Int) - 1 := by
    rw [Int.tdiv_eq_ediv_of_nonneg (by omega)]
    have := HL.out
    unfold wrap64; omega
  have hw2 : wrap64 ((q.length : Int).tdiv 2) = ((q.length / 2 : Nat) : Int) := by
    rw [Int.tdiv_eq_ediv_of_nonneg (by omega)]
    have := HL.out
    unfold wrap64; omega
  have hw3 : wrap64 (((q.length / 2 : Nat) : Int) - 1) = ((q.length / 2 : Nat) : Int) - 1 := by
    have := HL.out
    unfold wrap64; omega
  go_enter Tryz.func41, Tryz.ntmps41
  go_wp2_with fail
  refine (len_calls _ _ _ _).mono ?_
  rintro e w1 ⟨rfl, rfl⟩
  go_wp2_with fail
  clear hm
  go_loopg [3] (q.length / 2) (fun kq v3 w' => ∃ (q' : List Nat) (x : Int), v3 = .int .i64 x ∧ Aside0 (x = (kq : Int) - 1) ∧ Aside0 (Heaped n G0 ty ob gn pb sb PL SL od nd gl pq sl cap q w1 q' w') ∧ Aside0 (q.length = 2 → kq = 1 ∨ (kq = 0 ∧ lessN ty od nd (q'.getD 1 0) (q'.getD 0 0) = false)) ∧ Aside0 (kq ≤ 4096))
  case atStart => exact ⟨q, _, rfl, ⟨by have := HL.out; unfold wrap64; omega⟩, ⟨Heaped.refl H.out⟩, ⟨fun h => .inl (by omega)⟩, ⟨by have := HL.out; omega⟩⟩
  case round =>
    clear hw1 hw2 hw3
    obtain ⟨q', x, rfl, HX, HH, H2, HK⟩ := hrel
    have HLE := Aside0.mk (show q'.length = q.length from HH.out.2.1.length_eq)
    cases gk with
    | zero =>
      have hx : x = -1 := by have := HX.out; omega
      subst hx
      go_wp2_with fail
      go_end0
      refine ⟨rfl, q', HH.out, fun h => ?_⟩
      rcases H2.out h with h1 | h1
      · omega
      · exact h1.2
    | succ p =>
      have hx : x = (p : Int) := by have := HX.out; omega
      subst hx
      have hd : decide ((0 : Int) ≤ (p : Int)) = true := decide_eq_true (by omega)
      have hw4 : wrap64 ((p : Int) - 1) = (p : Int) - 1 := by have := HK.out; unfold wrap64; omega
      go_wp2_with fail
      refine (down_at HH.out.1 (show (p : Int) = (p : Int) from rfl) (show (q.length : Int) = (q.length : Int) from rfl) (by have := HLE.out; omega) (by have := HK.out; omega)).mono ?_
      rintro e w2 ⟨b, q2, rfl, hh, hT, h2⟩
      have HH2 := Aside0.mk (HH.out.trans hh)
      have H22 := Aside0.mk h2
      clear hh hT h2 HH
      go_wp2_with fail
      go_roundg p
      case measure => omega
      case rel => exact ⟨q2, _, rfl, ⟨by omega⟩, HH2, ⟨fun h => by
        rcases H2.out h with h1 | h1
        · exact .inr ⟨by omega, H22.out h (by omega)⟩
        · omega⟩, ⟨by have := HK.out; omega⟩⟩

set_option maxHeartbeats 4000000 in
set_option maxRecDepth 100000 in
theorem hpop_of (h : Qr n G0 ty ob gn pb sb PL SL od nd gl pq sl cap q w) {k : Nat} (hk : q.length = k + 1) :
    Calls Tryz.prog 42 #[.iface 100 (.pointer (some ⟨pq, 0, none⟩))] w fun e w' => e = .returned (.iface 102 (.pointer (some ⟨gn (q.getD 0 0), 0, none⟩))) ∧
      ∃ q', Qr n G0 ty ob gn pb sb PL SL od nd gl pq sl cap q' w' ∧ (q.getD 0 0 :: q').Perm q ∧ Touch (Qs n gn pq sl) w w' := by
  have HL := Aside0.mk h.len
  have hm := meth_len pq _ w h.cell
  have hs := meth_swap pq _ w h.cell
  have H := Aside0.mk h
  have HK := Aside0.mk hk
  rw [hk] at hm
  have hw1 : wrap64 (((k + 1 : Nat) : Int) - 1) = (k : Int) := by have := HL.out; unfold wrap64; omega
  have hw2 : wrap64 (k : Int) = (k : Int) := by have := HL.out; unfold wrap64; omega
  clear h hk
  go_enter Tryz.func42, Tryz.ntmps42
  go_wp2_with fail
  refine (len_calls _ _ _ _).mono ?_
  rintro e w1 ⟨rfl, rfl⟩
  go_wp2_with fail
  refine (swap_at H.out (show (0 : Int) = ((0 : Nat) : Int) from rfl) (show (k : Int) = (k : Int) from rfl) (by have := HK.out; omega) (by have := HK.out; omega)).mono ?_
  rintro e w2 ⟨rfl, hQ2, hT2⟩
  have HQ2 := Aside0.mk hQ2
  have HT2 := Aside0.mk hT2
  clear hQ2 hT2 hm hs
  go_wp2_with fail
  refine (down_at HQ2.out (show (0 : Int) = ((0 : Nat) : Int) from rfl) (show (k : Int) = (k : Int) from rfl) (by rw [swapL_length]; have := HK.out; omega) (by omega)).mono ?_
  rintro e w3 ⟨b, q3, rfl, hh, h3, _⟩
  have HH3 := Aside0.mk hh
  have H3 := Aside0.mk (h3 k (Nat.le_refl _))
  have hp := meth_pop pq w3
  clear hh h3
  go_wp2_with fail
  have hl3 : q3.length = k + 1 := by rw [HH3.out.2.1.length_eq, swapL_length]; exact HK.out
  refine (popq_of HH3.out.1 hl3).mono ?_
  rintro e w4 ⟨rfl, hQ4, hT4⟩
  have hx : q3.getD k 0 = q.getD 0 0 := by
    have hk := HK.out
    rw [H3.out, swapL_getD q (by omega) (by omega), if_pos rfl]
  rw [hx]
  clear hp
  go_wp2_with fail
  go_ret
  refine ⟨rfl, q3.dropLast, hQ4, ?_, (HT2.out.trans HH3.out.2.2 (fun _ _ hs => hs)).trans hT4 (fun _ _ hs => hs)⟩
  have hne : q3 ≠ [] := fun e => by rw [e] at hl3; cases hl3
  have hlast : q3.getLast hne = q.getD 0 0 := by
    rw [← hx, List.getLast_eq_getElem, List.getD_eq_getElem?_getD, List.getElem?_eq_getElem (show k < q3.length by omega)]
    simp [hl3]
  have hp1 : (q3.dropLast ++ [q.getD 0 0]).Perm q := by
    rw [← hlast, List.dropLast_concat_getLast hne]
    exact HH3.out.2.1.trans (swapL_perm (by have := HK.out; omega) (by have := HK.out; omega))
  exact (List.perm_append_singleton _ _).symm.trans hp1

set_option maxHeartbeats 4000000 in
set_option maxRecDepth 100000 in
theorem fix_of (h : Qr n G0 ty ob gn pb sb PL SL od nd gl pq sl cap q w) {i : Nat} (hi : i < q.length) :
    Calls Tryz.prog 44 #[.iface 100 (.pointer (some ⟨pq, 0, none⟩)), .int .i64 (i : Int)] w fun e w' => e = .returned (.tuple #[]) ∧ ∃ q', Heaped n G0 ty ob gn pb sb PL SL od nd gl pq sl cap q w q' w' := by
  have HL := Aside0.mk h.len
  have hm := meth_len pq _ w h.cell
  have H := Aside0.mk h
  have HI := Aside0.mk hi
  clear h hi
  go_enter Tryz.func44, Tryz.ntmps44
  go_wp2_with fail
  refine (len_calls _ _ _ _).mono ?_
  rintro e w1 ⟨rfl, rfl⟩
  go_wp2_with fail
  refine (down_at H.out (show (i : Int) = (i : Int) from rfl) (show (q.length : Int) = (q.length : Int) from rfl) (Nat.le_refl _) (by have := HI.out; have := HL.out; omega)).mono ?_
  rintro e w2 ⟨b, q2, rfl, hh, _, _⟩
  have HH := Aside0.mk hh
  clear hh hm
  cases b with
  | true =>
    go_wp2_with fail
    go_end0
    exact ⟨rfl, q2, HH.out⟩
  | false =>
    go_wp2_with fail
    refine (up_of HH.out.1 (by rw [HH.out.2.1.length_eq]; exact HI.out)).mono ?_
    rintro e w3 ⟨rfl, q3, hh3⟩
    have HH3 := Aside0.mk (HH.out.trans hh3)
    clear hh3 HH
    go_wp2_with fail
    go_end0
    exact ⟨rfl, q3, HH3.out⟩

set_option maxHeartbeats 4000000 in
set_option maxRecDepth 100000 in
theorem fix_neg (h : Qr n G0 ty ob gn pb sb PL SL od nd gl pq sl cap q w) :
    Calls Tryz.prog 44 #[.iface 100 (.pointer (some ⟨pq, 0, none⟩)), .int .i64 (-1)] w fun e w' => e = .returned (.tuple #[]) ∧ w' = w := by
  have HL := Aside0.mk h.len
  have hm := meth_len pq _ w h.cell
  clear h
  go_enter Tryz.func44, Tryz.ntmps44
  go_wp2_with fail
  refine (len_calls _ _ _ _).mono ?_
  rintro e w1 ⟨rfl, rfl⟩
  go_wp2_with fail
  refine (down_neg pq q.length w1 HL.out).mono ?_
  rintro e w2 ⟨rfl, rfl⟩
  go_wp2_with fail
  refine (up_neg pq w2).mono ?_
  rintro e w3 ⟨rfl, rfl⟩
  go_wp2_with fail
  go_end0
  exact ⟨rfl, rfl⟩
end
end Go.Proofs.YtgaadjgfjiljjaaGreat
