/- The queue's methods: which functions they are; Len (122), Less (123) of nodeQueue. Conditions: those that each theorem names. -/
import Derived.Test.YtgaadjgfjiljjaaGreatXi
import Derived.Test.YtgaadjgfjiljjaaGreatXl
namespace Go.Proofs.YtgaadjgfjiljjaaGreat
open Go.RowKit Go.Proofs.YtgaadjgfjiljjaaGreatW.PrintWords Go.Proofs.YtgaadjgfjiljjaaGreatW.PrintLast Go.Proofs.YtgaadjgfjiljjaaGreatW.PrintMore
open Go.ChangeMaps (setBlock)
set_option linter.unusedVariables false
set_option linter.unusedSimpArgs false

theorem load97 (pq : Nat) (v : Value) (w : World) (h : w.cell? ⟨pq, 0, none⟩ = some v) : (loadVar 97 ⟨pq, 0, none⟩).run Tryz.prog w = .ok v w := by
  have hu := Tryz.underlying97
  simp [loadVar, h, hu, go_sem]
theorem wrapchk (a : Addr) (s : String) (w : World) : (Builtin.ssaWrapNilChk_ #[100] 100 #[.pointer (some a), strVal "", strVal s]).run Tryz.prog w = .ok (.pointer (some a)) w := rfl
set_option maxRecDepth 100000 in
theorem meth100 (name : String) (f : Nat) (ti : TypeInfo) (sg : TypeId) (hn : name ≠ "") (h1 : Tryz.prog.info? 100 = some ti) (h2 : ti.methods.find? (·.name == name) = some ⟨name, sg, #[], some (f, false)⟩)
    (pq : Nat) (v : Value) (w : World) (h : w.cell? ⟨pq, 0, none⟩ = some v) : (method 294 100 (.pointer (some ⟨pq, 0, none⟩)) name).run Tryz.prog w = .ok (f, v) w := by
  have hu := Tryz.underlying97
  have hu2 := Tryz.underlying100
  unfold method
  simp [h1, h2, load97 pq v w h, hu, hu2, go_sem, follow, receiverAt, typeInfo, underlying, wrapchk, Place.get]
  rw [h]
  rfl
set_option maxRecDepth 100000 in
theorem meth_len (pq : Nat) (v : Value) (w : World) (h : w.cell? ⟨pq, 0, none⟩ = some v) : (method 294 100 (.pointer (some ⟨pq, 0, none⟩)) "Len").run Tryz.prog w = .ok (122, v) w := meth100 "Len" 122 _ _ (by decide) rfl rfl pq v w h
set_option maxRecDepth 100000 in
theorem meth_less (pq : Nat) (v : Value) (w : World) (h : w.cell? ⟨pq, 0, none⟩ = some v) : (method 294 100 (.pointer (some ⟨pq, 0, none⟩)) "Less").run Tryz.prog w = .ok (123, v) w := meth100 "Less" 123 _ _ (by decide) rfl rfl pq v w h
set_option maxRecDepth 100000 in
theorem meth_swap (pq : Nat) (v : Value) (w : World) (h : w.cell? ⟨pq, 0, none⟩ = some v) : (method 294 100 (.pointer (some ⟨pq, 0, none⟩)) "Swap").run Tryz.prog w = .ok (124, v) w := meth100 "Swap" 124 _ _ (by decide) rfl rfl pq v w h
theorem meth_pop (pq : Nat) (w : World) : (method 294 100 (.pointer (some ⟨pq, 0, none⟩)) "Pop").run Tryz.prog w = .ok (125, .pointer (some ⟨pq, 0, none⟩)) w := by kernel_rfl

/-- Does node i go ahead of node j. -/
def lessN (ty : Nat → Nat) (od nd : Nat → Int) (i j : Nat) : Bool :=
  if decide (ty i = 90) != decide (ty j = 90) then decide (ty i = 90) else decide (nd i < nd j) || (decide (nd i = nd j) && decide (od i < od j))
theorem lessN_asymm {ty : Nat → Nat} {od nd : Nat → Int} {i j : Nat} (h : lessN ty od nd i j = true) : lessN ty od nd j i = false := by
  unfold lessN at *
  by_cases h1 : ty i = 90 <;> by_cases h2 : ty j = 90 <;> simp [h1, h2] at h ⊢ <;> omega

theorem len_calls (A : Option Addr) (l c : Nat) (w : World) : Calls Tryz.prog 122 #[.slice A l c] w fun e w' => e = .returned (.int .i64 (l : Int)) ∧ w' = w := by
  go_enter Tryz.func122, Tryz.ntmps122
  go_wp2_with fail
  go_ret
  exact ⟨rfl, rfl⟩

theorem ta90c (a : Nat) (w : World) : (Instr.typeAssert (.iface 90 (.pointer (some ⟨a, 0, none⟩))) 105 90 true).run Tryz.prog w = .ok (.tuple #[.pointer (some ⟨a, 0, none⟩), .bool true]) w := assert_yes (xT := 105) Tryz.underlying90 _ w true
theorem ta75c (a : Nat) (w : World) : (Instr.typeAssert (.iface 75 (.pointer (some ⟨a, 0, none⟩))) 105 90 true).run Tryz.prog w = .ok (.tuple #[.pointer none, .bool false]) w := assert_no (xT := 105) Tryz.underlying90 (show 75 ≠ 90 by decide) zero90 _ w

section
attribute [local go_sem] meth90 meth75 meth94 ta90c ta75c
set_option maxHeartbeats 4000000
set_option maxRecDepth 100000
theorem less_cells (S c size gx gy tx ty ox oy : Nat) (W : World) (nx ny x1 x2 : Int) (hx : tx = 90 ∨ tx = 75) (hy : ty = 90 ∨ ty = 75) (i j : Nat) (hi : i < size) (hj : j < size)
    (ci : W.cell? ⟨S, i, none⟩ = some (.pointer (some ⟨gx, 0, none⟩))) (cj : W.cell? ⟨S, j, none⟩ = some (.pointer (some ⟨gy, 0, none⟩)))
    (bx0 : W.cell? ⟨gx, 0, none⟩ = some (.iface tx (.pointer (some ⟨ox, 0, none⟩)))) (bx4 : W.cell? ⟨gx, 4, none⟩ = some (.int .i64 nx))
    (by0 : W.cell? ⟨gy, 0, none⟩ = some (.iface ty (.pointer (some ⟨oy, 0, none⟩)))) (by4 : W.cell? ⟨gy, 4, none⟩ = some (.int .i64 ny))
    (hx1 : W.cell? ⟨ox, 1, none⟩ = some (.int .u32 x1)) (hx2 : W.cell? ⟨oy, 1, none⟩ = some (.int .u32 x2)) :
    Calls Tryz.prog 123 #[.slice (some ⟨S, 0, none⟩) size c, .int .i64 (i : Int), .int .i64 (j : Int)] W fun e w' => e = .returned (.bool (if decide (tx = 90) != decide (ty = 90) then decide (tx = 90) else decide (nx < ny) || (decide (nx = ny) && decide (x1 < x2)))) ∧ ∃ q, w' = W.drewN q := by
  have hi' : (i : Int) < (size : Int) := by omega
  have hj' : (j : Int) < (size : Int) := by omega
  have hi0 : (0 : Int) ≤ (i : Int) := by omega
  have hj0 : (0 : Int) ≤ (j : Int) := by omega
  have hu := Tryz.underlying109
  have hx1' : ∀ q, (W.drewN q).cell? ⟨ox, 1, none⟩ = some (.int .u32 x1) := fun _ => hx1
  have hx2' : ∀ q, (W.drewN q).cell? ⟨oy, 1, none⟩ = some (.int .u32 x2) := fun _ => hx2
  rcases hx with rfl | rfl <;> rcases hy with rfl | rfl
  case inl.inr | inr.inl =>
    all_goals
      go_enter Tryz.func123, Tryz.ntmps123
      go_wp2
      go_quiet (fail)
      go_wp2
      go_ret
      exact ⟨rfl, nq, rfl⟩
  all_goals
    by_cases c1 : nx < ny
    · have d1 : decide (nx < ny) = true := by simp [c1]
      go_enter Tryz.func123, Tryz.ntmps123
      go_wp2
      go_quiet (fail)
      go_wp2
      go_quiet (fail)
      go_wp2
      go_ret
      exact ⟨by simp [c1], _, rfl⟩
    · have d1 : decide (nx < ny) = false := by simp [c1]
      by_cases c2 : nx = ny
      · subst c2
        go_enter Tryz.func123, Tryz.ntmps123
        go_wp2
        go_quiet (fail)
        go_wp2
        go_quiet ((go_at_call 118; refine (order_calls _ _ _ (by first | exact hx1' _ | exact hx2' _)).mono (fun _ _ h => ⟨h.1, _, h.2.symm⟩)))
        go_wp2
        go_ret
        exact ⟨by simp, _, rfl⟩
      · have d2 : decide (nx = ny) = false := by simp [c2]
        go_enter Tryz.func123, Tryz.ntmps123
        go_wp2
        go_quiet (fail)
        go_wp2
        go_quiet (fail)
        go_wp2
        go_ret
        exact ⟨by simp [c1, c2], _, rfl⟩
end
end Go.Proofs.YtgaadjgfjiljjaaGreat

/- The queue of nodes in memory (Qr); Less (123), Swap (124), Pop (125) of nodeQueue at it. Conditions: those that each theorem names. -/
namespace Go.Proofs.YtgaadjgfjiljjaaGreat
open Go.RowKit Go.Proofs.YtgaadjgfjiljjaaGreatW.PrintWords Go.Proofs.YtgaadjgfjiljjaaGreatW.PrintLast Go.Proofs.YtgaadjgfjiljjaaGreatW.PrintMore
open Go.ChangeMaps (setBlock)
set_option linter.unusedVariables false
set_option linter.unusedSimpArgs false

def swapL (q : List Nat) (i j : Nat) : List Nat := (q.set i (q.getD j 0)).set j (q.getD i 0)
theorem swapL_length (q : List Nat) (i j : Nat) : (swapL q i j).length = q.length := by simp [swapL]
theorem swapL_perm {q : List Nat} {i j : Nat} (hi : i < q.length) (hj : j < q.length) : (swapL q i j).Perm q := by
  have h := List.set_set_perm hi hj
  unfold swapL
  rw [List.getD_eq_getElem?_getD, List.getD_eq_getElem?_getD, List.getElem?_eq_getElem hi, List.getElem?_eq_getElem hj]
  exact h
theorem swapL_getD (q : List Nat) {i j : Nat} (hi : i < q.length) (hj : j < q.length) (t : Nat) : (swapL q i j).getD t 0 = if t = j then q.getD i 0 else if t = i then q.getD j 0 else q.getD t 0 := by
  unfold swapL
  simp only [List.getD_eq_getElem?_getD, List.getElem?_set, List.length_set]
  by_cases h1 : t = j
  · subst h1; simp [hj]
  · by_cases h2 : t = i
    · subst h2; simp [h1, hi, Ne.symm h1]
    · simp [h1, h2, Ne.symm h1, Ne.symm h2]

/-- The queue: pq holds the slice over block sl; its first places hold the nodes of q, which know their places; the others of gl know that they are out. -/
structure Qr (n G0 : Nat) (ty ob gn : Nat → Nat) (pb sb : Nat → Option Nat) (PL SL : Nat → List Nat) (od nd : Nat → Int) (gl : List Nat) (pq sl cap : Nat) (q : List Nat) (w : World) : Prop where
  gr : ∃ ix : Nat → Int, Gr n G0 ty ob gn pb sb PL SL ix nd w ∧ (∀ t, t < q.length → ix (q.getD t 0) = (t : Int)) ∧ (∀ i ∈ gl, i ∉ q → ix i = -1)
  pq_ : w.heap[pq]? = some (.cells #[.slice (some ⟨sl, 0, none⟩) q.length cap] 97 (0, 0))
  sl_ : ∃ cells, w.heap[sl]? = some (.cells cells 102 (0, 0)) ∧ ∀ t, t < q.length → cells[t]? = some (pkey gn (q.getD t 0))
  q_ : ∀ i ∈ q, i ∈ gl
  g_ : ∀ i ∈ gl, i < n ∧ (ty i = 90 ∨ ty i = 75)
  nq : q.Nodup
  le : q.length ≤ cap
  n_ : n ≤ 4096
  od_ : ∀ i, i < n → ob i < G0 ∧ w.cell? ⟨ob i, 1, none⟩ = some (.int .u32 (od i))
  hi : G0 ≤ pq ∧ G0 ≤ sl

/-- What the queue's calls touch. -/
def Qs (n : Nat) (gn : Nat → Nat) (pq sl : Nat) (k : Nat) : Prop := k = pq ∨ k = sl ∨ ∃ i, i < n ∧ k = gn i

section
variable {n G0 : Nat} {ty ob gn : Nat → Nat} {pb sb : Nat → Option Nat} {PL SL : Nat → List Nat} {od nd : Nat → Int} {gl : List Nat} {pq sl cap : Nat} {q : List Nat} {w w' : World} {S : Nat → Prop}

theorem Qr.len (h : Qr n G0 ty ob gn pb sb PL SL od nd gl pq sl cap q w) : q.length ≤ 4096 := Nat.le_trans (nodup_lt_length n q h.nq (fun i hi => (h.g_ i (h.q_ i hi)).1)) h.n_
theorem Qr.touch (h : Qr n G0 ty ob gn pb sb PL SL od nd gl pq sl cap q w) (hT : Touch S w w') (hS : ∀ k, S k → k ≠ pq ∧ k ≠ sl ∧ G0 ≤ k ∧ ∀ i, i < n → k ≠ gn i ∧ pb i ≠ some k ∧ sb i ≠ some k) : Qr n G0 ty ob gn pb sb PL SL od nd gl pq sl cap q w' := by
  obtain ⟨ix, h1, h2⟩ := h.gr
  obtain ⟨cells, h3, h4⟩ := h.sl_
  exact ⟨⟨ix, h1.touch hT (fun k hk => (hS k hk).2.2.2), h2⟩, hT.blk h.pq_ (fun hs => (hS _ hs).1 rfl), ⟨cells, hT.blk h3 (fun hs => (hS _ hs).2.1 rfl), h4⟩, h.q_, h.g_, h.nq, h.le, h.n_, fun i hi => ⟨(h.od_ i hi).1, hT.cell (h.od_ i hi).2 (fun hs => by have h1 := (hS _ hs).2.2.1; have h2 := (h.od_ i hi).1; exact absurd h1 (Nat.not_le.2 h2))⟩, h.hi⟩
theorem Qr.drewN (h : Qr n G0 ty ob gn pb sb PL SL od nd gl pq sl cap q w) (m : Nat) : Qr n G0 ty ob gn pb sb PL SL od nd gl pq sl cap q (w.drewN m) := h.touch (S := fun _ => False) ((Touch.refl _ _).drewN m) (fun _ hf => hf.elim)
end

section
variable {n G0 : Nat} {ty ob gn : Nat → Nat} {pb sb : Nat → Option Nat} {PL SL : Nat → List Nat} {od nd : Nat → Int} {gl : List Nat} {pq sl cap : Nat} {q : List Nat} {w w' : World} {S : Nat → Prop}

theorem less_of (h : Qr n G0 ty ob gn pb sb PL SL od nd gl pq sl cap q w) {i j : Nat} (hi : i < q.length) (hj : j < q.length) :
    Calls Tryz.prog 123 #[.slice (some ⟨sl, 0, none⟩) q.length cap, .int .i64 (i : Int), .int .i64 (j : Int)] w fun e w' => e = .returned (.bool (lessN ty od nd (q.getD i 0) (q.getD j 0))) ∧ ∃ m, w' = w.drewN m := by
  obtain ⟨ix, hG, _, _⟩ := h.gr
  obtain ⟨cells, hsl, hrow⟩ := h.sl_
  have gx := h.g_ _ (h.q_ _ (getD_mem hi))
  have gy := h.g_ _ (h.q_ _ (getD_mem hj))
  have nx := (hG.node _ gx.1).2
  have ny := (hG.node _ gy.1).2
  exact less_cells sl cap q.length _ _ _ _ _ _ w _ _ _ _ gx.2 gy.2 i j hi hj ((blk_cell hsl i).trans (hrow i hi)) ((blk_cell hsl j).trans (hrow j hj)) ((blk_cell nx 0).trans rfl) ((blk_cell nx 4).trans rfl) ((blk_cell ny 0).trans rfl) ((blk_cell ny 4).trans rfl) (h.od_ _ gx.1).2 (h.od_ _ gy.1).2

theorem Qr.pq_ne_sl (h : Qr n G0 ty ob gn pb sb PL SL od nd gl pq sl cap q w) : pq ≠ sl := fun e => by
  obtain ⟨cells, hsl, _⟩ := h.sl_
  have := h.pq_
  rw [e, hsl] at this; injection this with this; injection this with _ this _; exact absurd this (by decide)
theorem Qr.pq_ne (h : Qr n G0 ty ob gn pb sb PL SL od nd gl pq sl cap q w) {i : Nat} (hi : i < n) : pq ≠ gn i := fun e => by
  obtain ⟨ix, hG, _, _⟩ := h.gr
  have := h.pq_
  rw [e, (hG.node i hi).2] at this; injection this with this; injection this with _ this _; exact absurd this (by decide)
theorem Qr.sl_ne (h : Qr n G0 ty ob gn pb sb PL SL od nd gl pq sl cap q w) {i : Nat} (hi : i < n) : sl ≠ gn i := fun e => by
  obtain ⟨ix, hG, _, _⟩ := h.gr
  obtain ⟨cells, hsl, _⟩ := h.sl_
  rw [e, (hG.node i hi).2] at hsl; injection hsl with this; injection this with _ this _; exact absurd this (by decide)
/-- The row's block is none of the graph's maps. -/
theorem Qr.row_off (h : Qr n G0 ty ob gn pb sb PL SL od nd gl pq sl cap q w) {ix : Nat → Int} (hG : Gr n G0 ty ob gn pb sb PL SL ix nd w) (i : Nat) (hi : i < n) : (pb i ≠ some sl ∧ sb i ≠ some sl) ∧ pb i ≠ some pq ∧ sb i ≠ some pq := by
  obtain ⟨cells, hsl, _⟩ := h.sl_
  have hpq := h.pq_
  refine ⟨⟨fun e => ?_, fun e => ?_⟩, fun e => ?_, fun e => ?_⟩
  · have := hG.pm i hi
    rw [e] at this
    obtain ⟨es, c', ho⟩ := MapL.obj this
    rw [hsl] at ho; cases ho
  · have := hG.sm i hi
    rw [e] at this
    obtain ⟨es, c', ho⟩ := MapL.obj this
    rw [hsl] at ho; cases ho
  · have := hG.pm i hi
    rw [e] at this
    obtain ⟨es, c', ho⟩ := MapL.obj this
    rw [hpq] at ho; cases ho
  · have := hG.sm i hi
    rw [e] at this
    obtain ⟨es, c', ho⟩ := MapL.obj this
    rw [hpq] at ho; cases ho

/-- The world behind a swap. -/
theorem swap_world (h : Qr n G0 ty ob gn pb sb PL SL od nd gl pq sl cap q w) {i j : Nat} (hi : i < q.length) (hj : j < q.length) (m : Nat) {w4 : World}
    (hw : w4 = ((((w.drewN m).setCell ⟨sl, i, none⟩ (pkey gn (q.getD j 0))).setCell ⟨sl, j, none⟩ (pkey gn (q.getD i 0))).setCell ⟨gn (q.getD i 0), 3, none⟩ (.int .i64 (j : Int))).setCell ⟨gn (q.getD j 0), 3, none⟩ (.int .i64 (i : Int))) :
    Qr n G0 ty ob gn pb sb PL SL od nd gl pq sl cap (swapL q i j) w4 ∧ Touch (Qs n gn pq sl) w w4 := by
  obtain ⟨ix, hG, hix, hout⟩ := h.gr
  obtain ⟨cells, hsl, hrow⟩ := h.sl_
  have hxm := getD_mem hi
  have hym := getD_mem hj
  have hxn := (h.g_ _ (h.q_ _ hxm)).1
  have hyn := (h.g_ _ (h.q_ _ hym)).1
  obtain ⟨x, hx⟩ : ∃ x, x = q.getD i 0 := ⟨_, rfl⟩
  obtain ⟨y, hy⟩ : ∃ y, y = q.getD j 0 := ⟨_, rfl⟩
  rw [← hx] at hw hxm hxn
  rw [← hy] at hw hym hyn
  obtain ⟨w2, hw2⟩ : ∃ w2, w2 = ((w.drewN m).setCell ⟨sl, i, none⟩ (pkey gn y)).setCell ⟨sl, j, none⟩ (pkey gn x) := ⟨_, rfl⟩
  rw [← hw2] at hw
  have hT2 : Touch (fun k => k = sl) w w2 := by
    rw [hw2]
    exact Touch.set_ (S := fun k => k = sl) (Touch.set_ (S := fun k => k = sl) ((Touch.refl _ _).drewN m) (fun _ => rfl) _) (fun _ => rfl) _
  have hsl1 : (w.drewN m).heap[sl]? = some (.cells cells 102 (0, 0)) := hsl
  have hsl2 : w2.heap[sl]? = some (.cells ((cells.setIfInBounds i (pkey gn y)).setIfInBounds j (pkey gn x)) 102 (0, 0)) := by
    rw [hw2]
    exact blk_put (blk_put hsl1 i _ rfl) j _ rfl
  have hG2 := hG.row102 hT2 (fun k hk => ⟨cells, by rw [hk]; exact hsl⟩)
  have hG3 := hG2.set3 hxn (j : Int)
  have hG4 := hG3.set3 hyn (i : Int)
  rw [← hw] at hG4
  have hT4 : Touch (Qs n gn pq sl) w w4 := by
    rw [hw]
    exact Touch.set_ (Touch.set_ (hT2.mono (fun k _ hk => .inr (.inl hk))) (fun _ => .inr (.inr ⟨x, hxn, rfl⟩)) _) (fun _ => .inr (.inr ⟨y, hyn, rfl⟩)) _
  have hT24 : Touch (fun k => k = gn x ∨ k = gn y) w2 w4 := by
    rw [hw]
    exact Touch.set_ (Touch.set_ (Touch.refl _ _) (fun _ => .inl rfl) _) (fun _ => .inr rfl) _
  have hlen : (swapL q i j).length = q.length := swapL_length q i j
  have hperm := swapL_perm hi hj
  refine ⟨⟨⟨_, hG4, fun t ht => ?_, fun k hk hkq => ?_⟩, ?_, ⟨_, hT24.blk hsl2 (fun e => by rcases e with e | e; exact h.sl_ne hxn e; exact h.sl_ne hyn e), fun t ht => ?_⟩, fun k hk => h.q_ k (hperm.mem_iff.1 hk), h.g_, hperm.nodup_iff.2 h.nq, by rw [hlen]; exact h.le, h.n_, fun k hk => ⟨(h.od_ k hk).1, ?_⟩, h.hi⟩, hT4⟩
  · rw [hlen] at ht
    rw [swapL_getD q hi hj]
    unfold updI
    by_cases e1 : t = j
    · rw [if_pos e1, ← hx]
      by_cases e2 : x = y
      · have := getD_inj h.nq hi hj (by rw [← hx, ← hy, e2])
        rw [if_pos e2]; omega
      · rw [if_neg e2, if_pos rfl]; omega
    · rw [if_neg e1]
      by_cases e2 : t = i
      · rw [if_pos e2, ← hy, if_pos rfl]; omega
      · rw [if_neg e2]
        have h1 : q.getD t 0 ≠ y := fun e => e1 (getD_inj h.nq ht hj (by rw [e, hy]))
        have h2 : q.getD t 0 ≠ x := fun e => e2 (getD_inj h.nq ht hi (by rw [e, hx]))
        rw [if_neg h1, if_neg h2]; exact hix t ht
  · have hkq' : k ∉ q := fun e => hkq (hperm.mem_iff.2 e)
    unfold updI
    rw [if_neg (fun e => hkq' (by rw [e]; exact hym)), if_neg (fun e => hkq' (by rw [e]; exact hxm))]
    exact hout k hk hkq'
  · rw [hlen]
    exact hT24.blk (hT2.blk h.pq_ h.pq_ne_sl) (fun e => by rcases e with e | e; exact h.pq_ne hxn e; exact h.pq_ne hyn e)
  · rw [hlen] at ht
    have hci : i < cells.size := by
      have := hrow i hi
      exact (Array.getElem?_eq_some_iff.1 this).1
    have hcj : j < cells.size := by
      have := hrow j hj
      exact (Array.getElem?_eq_some_iff.1 this).1
    rw [swapL_getD q hi hj, Array.getElem?_setIfInBounds, Array.getElem?_setIfInBounds]
    by_cases e1 : t = j
    · subst e1; rw [if_pos rfl, if_pos rfl, if_pos (by simpa using hcj), ← hx]
    · rw [if_neg (Ne.symm e1), if_neg e1]
      by_cases e2 : t = i
      · subst e2; rw [if_pos rfl, if_pos rfl, if_pos hci, ← hy]
      · rw [if_neg (Ne.symm e2), if_neg e2]; exact hrow t ht
  · refine hT4.cell (h.od_ k hk).2 (fun e => ?_)
    have h1 := (h.od_ k hk).1
    rcases e with e | e | ⟨i', hi', e⟩
    · have h2 := h.hi.1; have e' : ob k = pq := e; omega
    · have h2 := h.hi.2; have e' : ob k = sl := e; omega
    · have h2 := (hG.node i' hi').1; have e' : ob k = gn i' := e; omega

set_option maxHeartbeats 4000000 in
set_option maxRecDepth 100000 in
theorem swap_of (h : Qr n G0 ty ob gn pb sb PL SL od nd gl pq sl cap q w) {i j : Nat} (hi : i < q.length) (hj : j < q.length) :
    Calls Tryz.prog 124 #[.slice (some ⟨sl, 0, none⟩) q.length cap, .int .i64 (i : Int), .int .i64 (j : Int)] w fun e w' => e = .returned (.tuple #[]) ∧ Qr n G0 ty ob gn pb sb PL SL od nd gl pq sl cap (swapL q i j) w' ∧ Touch (Qs n gn pq sl) w w' := by
  obtain ⟨ix, hG, hix, hout⟩ := h.gr
  obtain ⟨cells, hsl, hrow⟩ := h.sl_
  have hxm := getD_mem hi
  have hym := getD_mem hj
  have hxn := (h.g_ _ (h.q_ _ hxm)).1
  have hyn := (h.g_ _ (h.q_ _ hym)).1
  have nx := (hG.node _ hxn).2
  have ny := (hG.node _ hyn).2
  have sx := h.sl_ne hxn
  have sy := h.sl_ne hyn
  have ci : w.cell? ⟨sl, i, none⟩ = some (.pointer (some ⟨gn (q.getD i 0), 0, none⟩)) := (blk_cell hsl i).trans (hrow i hi)
  have cj : w.cell? ⟨sl, j, none⟩ = some (.pointer (some ⟨gn (q.getD j 0), 0, none⟩)) := (blk_cell hsl j).trans (hrow j hj)
  have fi : w.frozen? ⟨sl, i, none⟩ = false := blk_frozen hsl i
  have fj : w.frozen? ⟨sl, j, none⟩ = false := blk_frozen hsl j
  have x3 : w.cell? ⟨gn (q.getD i 0), 3, none⟩ = some (.int .i64 (ix (q.getD i 0))) := (blk_cell nx 3).trans rfl
  have y3 : w.cell? ⟨gn (q.getD j 0), 3, none⟩ = some (.int .i64 (ix (q.getD j 0))) := (blk_cell ny 3).trans rfl
  have fx3 : w.frozen? ⟨gn (q.getD i 0), 3, none⟩ = false := blk_frozen nx 3
  have fy3 : w.frozen? ⟨gn (q.getD j 0), 3, none⟩ = false := blk_frozen ny 3
  have HH := Aside0.mk (fun m w4 => swap_world h hi hj m (w4 := w4))
  have hi' : (i : Int) < (q.length : Int) := by omega
  have hj' : (j : Int) < (q.length : Int) := by omega
  have hi0 : (0 : Int) ≤ (i : Int) := by omega
  have hj0 : (0 : Int) ≤ (j : Int) := by omega
  have hu := Tryz.underlying109
  have hxy : i = j ↔ q.getD i 0 = q.getD j 0 := ⟨fun e => by rw [e], fun e => getD_inj h.nq hi hj e⟩
  have hgi : gn (q.getD i 0) = gn (q.getD j 0) → q.getD i 0 = q.getD j 0 := fun e => hG.inj _ _ hxn hyn e
  unfold pkey at HH
  generalize q.getD i 0 = x at *
  generalize q.getD j 0 = y at *
  clear hG hix hout hsl hrow hxm hym hxn hyn nx ny h
  by_cases e : i = j
  · have e2 := hxy.1 e
    subst e e2
    clear hxy hgi
    go_enter Tryz.func124, Tryz.ntmps124
    go_wp2
    go_quiet (fail)
    go_wp2
    go_end0
    exact ⟨rfl, HH.out _ _ rfl⟩
  · have hg : gn x ≠ gn y := fun e' => e (hxy.2 (hgi e'))
    clear hxy hgi
    go_enter Tryz.func124, Tryz.ntmps124
    go_wp2
    go_quiet (fail)
    go_wp2
    go_end0
    exact ⟨rfl, HH.out _ _ rfl⟩
/-- The world behind Pop. -/
theorem pop_world (h : Qr n G0 ty ob gn pb sb PL SL od nd gl pq sl cap q w) {k : Nat} (hk : q.length = k + 1) {w2 : World}
    (hw : w2 = (w.setCell ⟨gn (q.getD k 0), 3, none⟩ (.int .i64 (-1))).setCell ⟨pq, 0, none⟩ (.slice (some ⟨sl, 0, none⟩) k cap)) :
    Qr n G0 ty ob gn pb sb PL SL od nd gl pq sl cap q.dropLast w2 ∧ Touch (Qs n gn pq sl) w w2 := by
  obtain ⟨ix, hG, hix, hout⟩ := h.gr
  obtain ⟨cells, hsl, hrow⟩ := h.sl_
  have hkq : k < q.length := by omega
  have hxm := getD_mem hkq
  have hxn := (h.g_ _ (h.q_ _ hxm)).1
  obtain ⟨x, hx⟩ : ∃ x, x = q.getD k 0 := ⟨_, rfl⟩
  rw [← hx] at hw hxm hxn
  have hG1 := hG.set3 hxn (-1)
  have hT1 : Touch (fun i => i = gn x) w (w.setCell ⟨gn x, 3, none⟩ (.int .i64 (-1))) := Touch.set_ (S := fun i => i = gn x) (Touch.refl _ _) (fun _ => rfl) _
  generalize hw1 : w.setCell ⟨gn x, 3, none⟩ (.int .i64 (-1)) = w1 at *
  have hT2 : Touch (fun i => i = pq) w1 w2 := by
    rw [hw]; exact Touch.set_ (S := fun i => i = pq) (Touch.refl _ _) (fun _ => rfl) _
  have hp1 : w1.heap[pq]? = some (.cells #[.slice (some ⟨sl, 0, none⟩) q.length cap] 97 (0, 0)) := hT1.blk h.pq_ (h.pq_ne hxn)
  have hp2 : w2.heap[pq]? = some (.cells #[.slice (some ⟨sl, 0, none⟩) k cap] 97 (0, 0)) := by rw [hw]; exact blk_put hp1 0 _ rfl
  have hG2 := hG1.touch hT2 (fun i hi j hj => by subst hi; exact ⟨h.pq_ne hj, (h.row_off hG j hj).2.1, (h.row_off hG j hj).2.2⟩)
  have hT : Touch (Qs n gn pq sl) w w2 := (hT1.mono (S' := Qs n gn pq sl) (fun i _ hi => .inr (.inr ⟨x, hxn, hi⟩))).trans hT2 (fun i _ hi => .inl hi)
  have hdl : q.dropLast.length = k := by rw [List.length_dropLast]; omega
  have hget : ∀ t, t < k → q.dropLast.getD t 0 = q.getD t 0 := fun t ht => by
    rw [List.getD_eq_getElem?_getD, List.getD_eq_getElem?_getD, List.getElem?_dropLast, if_pos (by omega)]
  have hmem : ∀ i, i ∈ q ↔ i ∈ q.dropLast ∨ i = x := fun i => by
    constructor
    · intro hi
      obtain ⟨t, ht, e⟩ := mem_getD hi
      by_cases e2 : t = k
      · exact .inr (by rw [← e, e2, hx])
      · left
        have := getD_mem (q := q.dropLast) (t := t) (by omega)
        rw [hget t (by omega), e] at this; exact this
    · rintro (hi | hi)
      · exact List.dropLast_subset q hi
      · rw [hi]; exact hxm
  have hnd : q.dropLast.Nodup := h.nq.sublist (List.dropLast_sublist q)
  refine ⟨⟨⟨_, hG2, fun t ht => ?_, fun i hi hn => ?_⟩, by rw [hdl]; exact hp2, ⟨cells, hT2.blk (hT1.blk hsl (h.sl_ne hxn)) (Ne.symm h.pq_ne_sl), fun t ht => ?_⟩, fun i hi => h.q_ i ((hmem i).2 (.inl hi)), h.g_, hnd, by have := h.le; omega, h.n_, fun i hi => ⟨(h.od_ i hi).1, ?_⟩, h.hi⟩, hT⟩
  · rw [hdl] at ht
    rw [hget t ht]
    unfold updI
    rw [if_neg (fun e => by have := getD_inj h.nq (by omega) hkq (e.trans hx); omega)]
    exact hix t (by omega)
  · unfold updI
    by_cases e : i = x
    · rw [if_pos e]
    · rw [if_neg e]
      exact hout i hi (fun hq => by rcases (hmem i).1 hq with h1 | h1; exact hn h1; exact e h1)
  · rw [hdl] at ht
    rw [hget t ht]; exact hrow t (by omega)
  · refine hT.cell (h.od_ i hi).2 (fun e => ?_)
    have h1 := (h.od_ i hi).1
    rcases e with e | e | ⟨i', hi', e⟩
    · have h2 := h.hi.1; have e' : ob i = pq := e; omega
    · have h2 := h.hi.2; have e' : ob i = sl := e; omega
    · have h2 := (hG.node i' hi').1; have e' : ob i = gn i' := e; omega

set_option maxHeartbeats 4000000 in
set_option maxRecDepth 100000 in
theorem popq_of (h : Qr n G0 ty ob gn pb sb PL SL od nd gl pq sl cap q w) {k : Nat} (hk : q.length = k + 1) :
    Calls Tryz.prog 125 #[.pointer (some ⟨pq, 0, none⟩)] w fun e w' => e = .returned (.iface 102 (.pointer (some ⟨gn (q.getD k 0), 0, none⟩))) ∧ Qr n G0 ty ob gn pb sb PL SL od nd gl pq sl cap q.dropLast w' ∧ Touch (Qs n gn pq sl) w w' := by
  obtain ⟨ix, hG, hix, hout⟩ := h.gr
  obtain ⟨cells, hsl, hrow⟩ := h.sl_
  have hkq : k < q.length := by omega
  have hxn := (h.g_ _ (h.q_ _ (getD_mem hkq))).1
  have nx := (hG.node _ hxn).2
  have hl := h.len
  have hle := h.le
  have HH := Aside0.mk (fun w2 => pop_world h hk (w2 := w2))
  have hpx := h.pq_ne hxn
  have hsx := h.sl_ne hxn
  have cp : w.cell? ⟨pq, 0, none⟩ = some (.slice (some ⟨sl, 0, none⟩) (k + 1) cap) := (blk_cell h.pq_ 0).trans (by rw [hk]; rfl)
  have fp : w.frozen? ⟨pq, 0, none⟩ = false := blk_frozen h.pq_ 0
  have ck : w.cell? ⟨sl, k, none⟩ = some (.pointer (some ⟨gn (q.getD k 0), 0, none⟩)) := (blk_cell hsl k).trans (hrow k hkq)
  have x3 : w.cell? ⟨gn (q.getD k 0), 3, none⟩ = some (.int .i64 (ix (q.getD k 0))) := (blk_cell nx 3).trans rfl
  have fx3 : w.frozen? ⟨gn (q.getD k 0), 3, none⟩ = false := blk_frozen nx 3
  have hw : wrap64 (((k + 1 : Nat) : Int) - 1) = (k : Int) := by unfold wrap64; omega
  have hw' : wrap64 ((k : Int) + 1 - 1) = (k : Int) := by unfold wrap64; omega
  have hw'' : wrap64 (k : Int) = (k : Int) := by unfold wrap64; omega
  have hk0 : (0 : Int) ≤ (k : Int) := by omega
  have hk1 : (k : Int) < ((k + 1 : Nat) : Int) := by omega
  have hk2 : (k : Int) < (k : Int) + 1 := by omega
  have hk3 : (k : Int) ≤ (cap : Int) := by omega
  have hk4 : k ≤ cap := by omega
  have hu := Tryz.underlying109
  generalize q.getD k 0 = x at *
  clear hG hix hout hsl hrow hxn nx h hk hkq hl hle
  go_enter Tryz.func125, Tryz.ntmps125
  go_wp2_with fail
  go_ret
  exact ⟨rfl, HH.out _ rfl⟩
end
end Go.Proofs.YtgaadjgfjiljjaaGreat
