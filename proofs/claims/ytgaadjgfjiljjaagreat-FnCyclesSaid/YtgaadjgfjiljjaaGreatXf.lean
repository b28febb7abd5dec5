/- Nodes as data (Nd), what their cells say (kNd), and the nodes of declarations. Conditions: none. -/
import Derived.Test.YtgaadjgfjiljjaaGreatXc
import Derived.Test.YtgaadjgfjiljjaaGreatXd
namespace Go.Proofs.YtgaadjgfjiljjaaGreat
open Go.RowKit Go.Proofs.YtgaadjgfjiljjaaGreatW.PrintWords Go.Proofs.YtgaadjgfjiljjaaGreatW.PrintLast Go.Proofs.YtgaadjgfjiljjaaGreatW.PrintMore
set_option linter.unusedVariables false
set_option linter.unusedSimpArgs false

theorem info55 : (Tryz.prog.info? 85).map (fun i => (i.zero, i.size, i.bytes)) = some (some (.agg #[(.int .i64 0), (.int .u32 0), (.bool false), (.int .i64 0), (.slice none 0 0)]), 5, 48) := by kernel_rfl

/-- A node: its kind, its place, whether it has an expression, its group, what it refers to. -/
structure Nd where
  kd : Int
  od : Int
  ini : Bool
  gr : Int
  dp : List Int
def zNd : Nd := ⟨0, 0, false, 0, []⟩
def kNd : Kd Nd := Kd.iso (Kd.pair (Kd.int .i64) (Kd.pair (Kd.int .u32) (Kd.pair Kd.bool (Kd.pair (Kd.int .i64) (Kd.slice 3 (Kd.int .i64)))))) (fun x : Nd => (x.kd, x.od, x.ini, x.gr, x.dp))
theorem kNd_open {w : World} {x : Nd} {cs : List Value} (h : kNd.K w x cs) : ∃ A c, cs = [.int .i64 x.kd, .int .u32 x.od, .bool x.ini, .int .i64 x.gr, .slice A x.dp.length c] ∧ x.dp.length ≤ c ∧ (Kd.int .i64).C w A x.dp.length x.dp := by
  obtain ⟨_, _, rfl, rfl, ⟨_, _, rfl, rfl, ⟨_, _, rfl, rfl, ⟨_, _, rfl, rfl, ⟨A2, c2, rfl, l2, g2⟩⟩⟩⟩⟩ := h
  exact ⟨A2, c2, rfl, l2, g2⟩
theorem kNd_mk (w : World) (x : Nd) {A : Option Addr} {c : Nat} (l2 : x.dp.length ≤ c) (g2 : (Kd.int .i64).C w A x.dp.length x.dp) : kNd.K w x [.int .i64 x.kd, .int .u32 x.od, .bool x.ini, .int .i64 x.gr, .slice A x.dp.length c] :=
  ⟨[.int .i64 x.kd], [.int .u32 x.od, .bool x.ini, .int .i64 x.gr, .slice A x.dp.length c], rfl, rfl, ⟨[.int .u32 x.od], [.bool x.ini, .int .i64 x.gr, .slice A x.dp.length c], rfl, rfl, ⟨[.bool x.ini], [.int .i64 x.gr, .slice A x.dp.length c], rfl, rfl, ⟨[.int .i64 x.gr], [.slice A x.dp.length c], rfl, rfl, ⟨A, c, rfl, l2, g2⟩⟩⟩⟩⟩
theorem kNd_mkF (W : World) (ok : Nat → Prop) (x : Nd) {A : Option Addr} {c : Nat} (l2 : x.dp.length ≤ c) (g2 : Kd.F (Kd.int .i64) W ok A x.dp.length x.dp) : Kd.FK kNd W ok x [.int .i64 x.kd, .int .u32 x.od, .bool x.ini, .int .i64 x.gr, .slice A x.dp.length c] := fun W2 hW => kNd_mk W2 x l2 (g2 W2 hW)
def rd_Nd (xs : List Nd) (i : Nat) : Nd := xs.getD i zNd
theorem at_Nd {w : World} {A : Option Addr} {n : Nat} {xs : List Nd} (h : Kd.C kNd w A n xs) (i : Nat) (h1 : i < n) : ∃ ad A2 c2, A = some ad ∧ w.cell? (ad.add (i * 5)) = some (.int .i64 (rd_Nd xs i).kd) ∧ w.cell? ⟨(ad.add (i * 5)).block, (ad.add (i * 5)).off + 1, none⟩ = some (.int .u32 (rd_Nd xs i).od) ∧ w.cell? ⟨(ad.add (i * 5)).block, (ad.add (i * 5)).off + 2, none⟩ = some (.bool (rd_Nd xs i).ini) ∧ w.cell? ⟨(ad.add (i * 5)).block, (ad.add (i * 5)).off + 3, none⟩ = some (.int .i64 (rd_Nd xs i).gr) ∧ w.cell? ⟨(ad.add (i * 5)).block, (ad.add (i * 5)).off + 4, none⟩ = some (.slice A2 (rd_Nd xs i).dp.length c2) ∧ (rd_Nd xs i).dp.length ≤ c2 ∧ (Kd.int .i64).C w A2 (rd_Nd xs i).dp.length (rd_Nd xs i).dp := by
  obtain ⟨ad, c, e, _, hK, hc0⟩ := Kd.C_get h zNd (i : Int) (by omega) (by omega)
  have hc : ∀ j u, c[j]? = some u → w.cell? (ad.add (i * 5 + j)) = some u := hc0
  obtain ⟨A2, c2, rfl, l2, g2⟩ := kNd_open hK
  exact ⟨ad, A2, c2, e, hc 0 _ rfl, by rw [← add_field _ _ 1 (by omega)]; exact hc 1 _ rfl, by rw [← add_field _ _ 2 (by omega)]; exact hc 2 _ rfl, by rw [← add_field _ _ 3 (by omega)]; exact hc 3 _ rfl, by rw [← add_field _ _ 4 (by omega)]; exact hc 4 _ rfl, l2, g2⟩

theorem heap_kIt : Kd.Heap kIt := Kd.heap_iso _ (Kd.heap_pair (Kd.heap_int _) (Kd.heap_pair (Kd.heap_int _) (Kd.heap_slice _ (Kd.heap_int _))))
theorem heap_kNd : Kd.Heap kNd := Kd.heap_iso _ (Kd.heap_pair (Kd.heap_int _) (Kd.heap_pair (Kd.heap_int _) (Kd.heap_pair Kd.heap_bool (Kd.heap_pair (Kd.heap_int _) (Kd.heap_slice _ (Kd.heap_int _))))))

/-- The node of an object, from the declaration that owns it. -/
def ndOf (p : List It) (k r : Nat) : Nd := ⟨if (itA p k).f0 = 3 then 2 else if (itA p k).f0 = 4 then 0 else 1, (r : Int), decide ((itA p k).f0 = 0) || decide ((itA p k).f0 = 1), if (itA p k).f0 = 1 then (k : Int) + 1 else 0, (itA p k).f2⟩
/-- The nodes of the declarations before k. -/
def ndsN (p : List It) (k : Nat) : List Nd := (List.range k).flatMap fun i => (List.range (objN (itA p i))).map fun j => ndOf p i (startN p i + j)
def ndsL (p : List It) : List Nd := ndsN p p.length
theorem ndsN_succ (p : List It) (k : Nat) : ndsN p (k + 1) = ndsN p k ++ (List.range (objN (itA p k))).map fun j => ndOf p k (startN p k + j) := by
  simp [ndsN, List.range_succ, List.flatMap_append]
theorem ndsN_length (p : List It) (k : Nat) (h : k ≤ p.length) : (ndsN p k).length = startN p k := by
  induction k with
  | zero => rfl
  | succ k ih => rw [ndsN_succ, List.length_append, List.length_map, List.length_range, ih (by omega), startN_succ p k (by omega)]
theorem ndsL_length (p : List It) : (ndsL p).length = totN p := ndsN_length p p.length (Nat.le_refl _)
theorem ndsN_get (p : List It) (k : Nat) (hk : k ≤ p.length) (j i : Nat) (hj : j < k) (hi : i < objN (itA p j)) : (ndsN p k)[startN p j + i]? = some (ndOf p j (startN p j + i)) := by
  induction k with
  | zero => omega
  | succ k ih =>
    rw [ndsN_succ]
    have hlen := ndsN_length p k (by omega)
    rcases Nat.lt_or_ge j k with hlt | hge
    · have h1 := startN_mono p (j := j + 1) (k := k) (by omega) (by omega)
      rw [startN_succ p j (by omega)] at h1
      rw [List.getElem?_append_left (by omega)]
      exact ih (by omega) hlt
    · have : j = k := by omega
      subst this
      rw [List.getElem?_append_right (by omega), hlen, Nat.add_sub_cancel_left, List.getElem?_map, List.getElem?_range hi]; rfl
theorem rd_ndsL (p : List It) (r : Nat) (h : r < totN p) : rd_Nd (ndsL p) r = ndOf p (ow p r) r := by
  obtain ⟨j, i, h1, h2, rfl⟩ := own_exists p p.length (Nat.le_refl _) r h
  rw [ow_at p j i h1 h2]
  unfold rd_Nd ndsL
  rw [List.getD_eq_getElem?_getD, ndsN_get p p.length (Nat.le_refl _) j i h1 h2]; rfl

end Go.Proofs.YtgaadjgfjiljjaaGreat

/- nodes (31): the nodes of declarations. Conditions: PkgOk. -/
namespace Go.Proofs.YtgaadjgfjiljjaaGreat
open Go.RowKit Go.Proofs.YtgaadjgfjiljjaaGreatW.PrintWords Go.Proofs.YtgaadjgfjiljjaaGreatW.PrintLast Go.Proofs.YtgaadjgfjiljjaaGreatW.PrintMore
set_option linter.unusedVariables false
set_option linter.unusedSimpArgs false

def NodesPost (p : List It) (w : World) (e : Ending) (w' : World) : Prop := ∃ v : Value, e = .returned v ∧ Kd.N kNd 85 w' w.heap.size (fun _ => True) v (ndsL p) ∧ Below w.heap.size w w'

set_option maxHeartbeats 8000000 in
set_option maxRecDepth 100000 in
theorem nodes_of {p : List It} (hp : PkgOk p) (A0 : Option Addr) (c0 : Nat) (w : World) (hr0 : Kd.C kIt w A0 p.length p) (hc0 : p.length ≤ c0) :
    Calls Tryz.prog 31 #[.slice A0 p.length c0] w (NodesPost p w) := by
  have hu46 := Tryz.underlying46
  have hu85 := Tryz.underlying85
  have HP := Aside0.mk hp
  have HR0 := Aside0.mk hr0
  have HC0 := Aside0.mk hc0
  have HT := Aside0.mk hp.tot
  have HL := Aside0.mk hp.len
  clear hp hr0 hc0
  have HB0 := Aside0.mk (Below.refl w.heap.size w)
  go_enter Tryz.func31, Tryz.ntmps31
  go_wp2_with fail
  go_loopg [3, 9] p.length (fun kq v3 v9 w' => ∃ (j : Nat), v9 = .int .i64 (j : Int) ∧ Aside0 (kq + j = p.length) ∧ Aside0 (Kd.N kNd 85 w' w.heap.size (fun _ => True) v3 (ndsN p j)) ∧ Aside0 (Below w.heap.size w w'))
  case atStart => exact ⟨0, rfl, ⟨by omega⟩, ⟨Kd.N_nil _ _ _ _ _⟩, HB0⟩
  case round =>
    clear HB0
    obtain ⟨j, rfl, HK, HN, HB⟩ := hrel
    by_cases cj : (j : Int) < (p.length : Int)
    · have hjr : j < p.length := by omega
      have hcj := decide_eq_true cj
      have hj0 : (0 : Int) ≤ (j : Int) := by omega
      obtain ⟨ad, Ax, cx, e, hy0, hy1, hy2, hlo, hCo⟩ := at_It HR0.out (j : Int) hj0 cj
      subst e
      replace hy0 := (HB.out.cell (World.block_lt_of_cell? w _ hy0)).trans hy0
      replace hy1 := (HB.out.cell (World.block_lt_of_cell? w _ hy1)).trans hy1
      replace hy2 := (HB.out.cell (World.block_lt_of_cell? w _ hy2)).trans hy2
      rw [Int.toNat_natCast] at hy0 hy1 hy2
      rw [rd_It_nat] at hy0 hy1 hy2 hlo hCo
      have HC := Aside0.mk (Kd.C_F (Kd.heap_int _) hCo)
      have HLO := Aside0.mk hlo
      have cjx := Aside0.mk cj
      have hok := HP.out.items _ (itA_mem hjr)
      have hst1 := startN_mono p (j := j) (k := p.length) (by omega) (Nat.le_refl _)
      have hst2 := startN_succ p j hjr
      have hst3 := startN_mono p (j := j + 1) (k := p.length) (by omega) (Nat.le_refl _)
      have hlen := ndsN_length p j (by omega)
      have hsl : startN p j ≤ 4096 := by have := HT.out; unfold totN at this; omega
      obtain ⟨u3A, u3c, hu3⟩ := Kd.N_slice HN.out
      rw [hlen] at hu3
      subst hu3
      clear hlo hCo cj
      have HN64 := Aside0.mk (show (j : Int) + 1 ≤ 9223372036854775807 by have := HL.out; omega)
      have HST := Aside0.mk (And.intro hst1 (And.intro hst2 (And.intro hst3 (And.intro hlen hsl))))
      clear hst1 hst2 hst3 hlen hsl
      generalize hX : itA p j = X at *
      obtain ⟨xk, xm, xr⟩ := X
      simp only at hy0 hy1 hy2 hok
      rcases (show xk = 0 ∨ xk = 1 ∨ xk = 2 ∨ xk = 3 ∨ xk = 4 by have := hok.k0; have := hok.k5; simp only at *; omega) with rfl | rfl | rfl | rfl | rfl
      · -- kind 0
        have hm := hok.m0 (by simp)
        simp only at hm
        subst hm
        have hu32 : (startN p j : Int) % 4294967296 = startN p j := by have := HST.out; omega
        go_wp2_with ((with_reducible refine gate_builtin (b := .append) (xs := #[.tmp 41, .tmp 43]) rfl ?_); at_builtin; refine Kd.N_append kNd (W := (wr.alloc (.cells #[.int .i64 0, .int .i64 0, .slice Ax xr.length cx] 46)).alloc (.cells #[.int .i64 1, .int .u32 (startN p j : Int), .bool true, .int .i64 0, .slice Ax xr.length cx] 85)) (w0 := w) w.heap.size rfl (.tmp 41) (.tmp 43) 55 85 (.agg #[(.int .i64 0), (.int .u32 0), (.bool false), (.int .i64 0), (.slice none 0 0)]) 48 rfl Tryz.underlying55 info55 rfl (by decide) (by omega) (.slice u3A (startN p j) u3c) (ndsN p j) (⟨1, (startN p j : Int), true, 0, xr⟩ : Nd) [.int .i64 1, .int .u32 (startN p j : Int), .bool true, .int .i64 0, .slice Ax xr.length cx] (fun k => k ≠ wr.heap.size + 1) (fun k => k < w.heap.size) rfl (by first | rfl | (simp; done) | (simp; rfl)) ?aP ?aK ?aF ?aO ?aB ?aS ?aL ?_; (case aP => exact kNd_mkF _ _ (⟨1, (startN p j : Int), true, 0, xr⟩ : Nd) HLO.out (Kd.F_step HC.out (fun k hk _ => ((below_alloc (below_alloc (Below.refl wr.heap.size wr) _) _).block k (Nat.lt_of_lt_of_le hk HB.out.size)).trans (HB.out.block k hk)))); (case aK => exact fun k hk => ⟨by have := HB.out.size; omega, fun he => by have := Kd.N_base HN.out k he.symm; omega⟩); (case aF => exact fun k hk => by simp at hk; omega); (case aO => exact Kd.N_mono (Kd.N_step (Kd.N_bound HN.out) (fun k hk _ => (below_alloc (below_alloc (Below.refl wr.heap.size wr) _) _).block k hk.2)) (fun k hk => by have := hk.2; omega)); (case aB => exact below_alloc (below_alloc HB.out _) _); (case aS => have := HB.out.size; simp; omega); (case aL => have := HST.out; omega); intro v44 w11 ho hb hg hat; have HN2 := Aside0.mk ho; have HB2 := Aside0.mk hb; have BKN := Aside0.mk (blk_grown (g := wr.heap.size + 1) (o := .cells #[.int .i64 1, .int .u32 (startN p j : Int), .bool true, .int .i64 0, .slice Ax xr.length cx] 85 (0, 0)) (by have h := heap_alloc_new (wr.alloc (.cells #[.int .i64 0, .int .i64 0, .slice Ax xr.length cx] 46)) (.cells #[.int .i64 1, .int .u32 (startN p j : Int), .bool true, .int .i64 0, .slice Ax xr.length cx] 85); simp at h ⊢; exact h) hg (fun he => by have := Kd.N_lt HN.out _ he.symm; omega)); have BKX := Aside0.mk (blk_grown (g := wr.heap.size) (o := .cells #[.int .i64 0, .int .i64 0, .slice Ax xr.length cx] 46 (0, 0)) ((heap_alloc_old _ _ (by simp)).trans (heap_alloc_new wr _)) hg (fun he => by have := Kd.N_lt HN.out _ he.symm; omega)); clear ho hb hg hat hy0 hy1 hy2; have hcx1 : w11.cell? ⟨wr.heap.size, 1, none⟩ = some (.int .i64 0) := (blk_cell BKX.out 1).trans rfl)
        generalize hgn : wr.heap.size + 1 = gn at *
        have HGN := Aside0.mk (show w.heap.size ≤ gn by have := HB.out.size; omega)
        obtain ⟨n1, rfl⟩ : ∃ n1, n1 = gk := ⟨_, rfl⟩
        obtain ⟨wq, rfl⟩ : ∃ wq, wq = wr := ⟨_, rfl⟩
        clear hcx1
        skip
        go_loopg [3, 48] (objN (itA p j)) (fun kq v3 v48 w' => ∃ (i : Nat), v48 = .int .i64 (i : Int) ∧ Aside0 (kq + i = objN (itA p j)) ∧ Aside0 (i + 1 ≤ objN (itA p j)) ∧ Aside0 (Kd.N kNd 85 w' w.heap.size (fun k => k ≠ gn) v3 (ndsN p j ++ (List.range (i + 1)).map fun a => (⟨1, ((startN p j + a : Nat) : Int), true, 0, xr⟩ : Nd))) ∧ Aside0 (Below w.heap.size w w') ∧ Aside0 (w'.heap[gn]? = some (.cells #[.int .i64 1, .int .u32 ((startN p j + i : Nat) : Int), .bool true, .int .i64 0, .slice Ax xr.length cx] 85 (0, 0))))
        case atStart => exact ⟨0, rfl, ⟨by omega⟩, ⟨by rw [hX]; unfold objN; simp⟩, ⟨by simpa using HN2.out⟩, HB2, ⟨by simpa using BKN.out⟩⟩
        case round =>
          clear HN2 HB2 BKN
          obtain ⟨i, rfl, HKI, HIL, HN2, HB2, BKN⟩ := hrel
          have HOB := Aside0.mk (show objN (itA p j) = 1 by rw [hX]; unfold objN; simp)
          have HEND := Aside0.mk (show i = 0 by have := HIL.out; have := HOB.out; omega)
          have hci : decide ((i : Int) < -1) = false := decide_eq_false (by omega)
          go_wp2_with fail
          go_roundg (n1 - 1)
          case measure => have := HK.out; omega
          case rel =>
            have hn64 := HN64.out
            exact ⟨j + 1, congrArg (Value.int .i64) (by unfold wrap64; omega), ⟨by have := HK.out; omega⟩, ⟨by
              rw [ndsN_succ]
              have e : objN (itA p j) = i + 1 := by have := HEND.out; have := HIL.out; have := HOB.out; omega
              rw [e]
              simp only [ndOf, hX]
              simp
              exact Kd.N_mono HN2.out (fun _ _ => trivial)⟩, HB2⟩
      · -- kind 1
        have hm2 : 2 ≤ xm := hok.m2 rfl
        have hm100 : xm ≤ 100 := hok.m100 rfl
        have HM := Aside0.mk (And.intro hm2 hm100)
        clear hm2 hm100
        have hwj : wrap64 ((j : Int) + 1) = (j : Int) + 1 := by have := HN64.out; unfold wrap64; omega
        have hwx : wrap64 (xm - 1) = xm - 1 := by have := HM.out; unfold wrap64; omega
        have hw9 : ((j : Int) + 1 + 9223372036854775808) % 18446744073709551616 - 9223372036854775808 = (j : Int) + 1 := by have := HN64.out; omega
        have hu32 : (startN p j : Int) % 4294967296 = startN p j := by have := HST.out; omega
        go_wp2_with ((with_reducible refine gate_builtin (b := .append) (xs := #[.tmp 41, .tmp 43]) rfl ?_); at_builtin; refine Kd.N_append kNd (W := (wr.alloc (.cells #[.int .i64 1, .int .i64 xm, .slice Ax xr.length cx] 46)).alloc (.cells #[.int .i64 1, .int .u32 (startN p j : Int), .bool true, .int .i64 ((j : Int) + 1), .slice Ax xr.length cx] 85)) (w0 := w) w.heap.size rfl (.tmp 41) (.tmp 43) 55 85 (.agg #[(.int .i64 0), (.int .u32 0), (.bool false), (.int .i64 0), (.slice none 0 0)]) 48 rfl Tryz.underlying55 info55 rfl (by decide) (by omega) (.slice u3A (startN p j) u3c) (ndsN p j) (⟨1, (startN p j : Int), true, ((j : Int) + 1), xr⟩ : Nd) [.int .i64 1, .int .u32 (startN p j : Int), .bool true, .int .i64 ((j : Int) + 1), .slice Ax xr.length cx] (fun k => k ≠ wr.heap.size + 1) (fun k => k < w.heap.size) rfl (by first | rfl | (simp; done) | (simp; rfl)) ?aP ?aK ?aF ?aO ?aB ?aS ?aL ?_; (case aP => exact kNd_mkF _ _ (⟨1, (startN p j : Int), true, ((j : Int) + 1), xr⟩ : Nd) HLO.out (Kd.F_step HC.out (fun k hk _ => ((below_alloc (below_alloc (Below.refl wr.heap.size wr) _) _).block k (Nat.lt_of_lt_of_le hk HB.out.size)).trans (HB.out.block k hk)))); (case aK => exact fun k hk => ⟨by have := HB.out.size; omega, fun he => by have := Kd.N_base HN.out k he.symm; omega⟩); (case aF => exact fun k hk => by simp at hk; omega); (case aO => exact Kd.N_mono (Kd.N_step (Kd.N_bound HN.out) (fun k hk _ => (below_alloc (below_alloc (Below.refl wr.heap.size wr) _) _).block k hk.2)) (fun k hk => by have := hk.2; omega)); (case aB => exact below_alloc (below_alloc HB.out _) _); (case aS => have := HB.out.size; simp; omega); (case aL => have := HST.out; omega); intro v44 w11 ho hb hg hat; have HN2 := Aside0.mk ho; have HB2 := Aside0.mk hb; have BKN := Aside0.mk (blk_grown (g := wr.heap.size + 1) (o := .cells #[.int .i64 1, .int .u32 (startN p j : Int), .bool true, .int .i64 ((j : Int) + 1), .slice Ax xr.length cx] 85 (0, 0)) (by have h := heap_alloc_new (wr.alloc (.cells #[.int .i64 1, .int .i64 xm, .slice Ax xr.length cx] 46)) (.cells #[.int .i64 1, .int .u32 (startN p j : Int), .bool true, .int .i64 ((j : Int) + 1), .slice Ax xr.length cx] 85); simp at h ⊢; exact h) hg (fun he => by have := Kd.N_lt HN.out _ he.symm; omega)); have BKX := Aside0.mk (blk_grown (g := wr.heap.size) (o := .cells #[.int .i64 1, .int .i64 xm, .slice Ax xr.length cx] 46 (0, 0)) ((heap_alloc_old _ _ (by simp)).trans (heap_alloc_new wr _)) hg (fun he => by have := Kd.N_lt HN.out _ he.symm; omega)); clear ho hb hg hat hy0 hy1 hy2; have hcx1 : w11.cell? ⟨wr.heap.size, 1, none⟩ = some (.int .i64 xm) := (blk_cell BKX.out 1).trans rfl)
        generalize hgn : wr.heap.size + 1 = gn at *
        have HGN := Aside0.mk (show w.heap.size ≤ gn by have := HB.out.size; omega)
        obtain ⟨n1, rfl⟩ : ∃ n1, n1 = gk := ⟨_, rfl⟩
        obtain ⟨wq, rfl⟩ : ∃ wq, wq = wr := ⟨_, rfl⟩
        clear hcx1
        clear hwj hw9
        go_loopg [3, 48] (objN (itA p j)) (fun kq v3 v48 w' => ∃ (i : Nat), v48 = .int .i64 (i : Int) ∧ Aside0 (kq + i = objN (itA p j)) ∧ Aside0 (i + 1 ≤ objN (itA p j)) ∧ Aside0 (Kd.N kNd 85 w' w.heap.size (fun k => k ≠ gn) v3 (ndsN p j ++ (List.range (i + 1)).map fun a => (⟨1, ((startN p j + a : Nat) : Int), true, ((j : Int) + 1), xr⟩ : Nd))) ∧ Aside0 (Below w.heap.size w w') ∧ Aside0 (w'.heap[gn]? = some (.cells #[.int .i64 1, .int .u32 ((startN p j + i : Nat) : Int), .bool true, .int .i64 ((j : Int) + 1), .slice Ax xr.length cx] 85 (0, 0))))
        case atStart => exact ⟨0, rfl, ⟨by omega⟩, ⟨by rw [hX]; unfold objN; have := HM.out; simp; omega⟩, ⟨by simpa using HN2.out⟩, HB2, ⟨by simpa using BKN.out⟩⟩
        case round =>
          clear HN2 HB2 BKN
          obtain ⟨i, rfl, HKI, HIL, HN2, HB2, BKN⟩ := hrel
          have HOB := Aside0.mk (show objN (itA p j) = xm.toNat by rw [hX]; unfold objN; simp)
          by_cases ci : (i : Int) < xm - 1
          · have hci := decide_eq_true ci
            have HCI := Aside0.mk ci
            clear ci
            have hg0 : wr.cell? ⟨gn, 0, none⟩ = some (.int .i64 1) := (blk_cell BKN.out 0).trans rfl
            have hg1 : wr.cell? ⟨gn, 1, none⟩ = some (.int .u32 ((startN p j + i : Nat) : Int)) := (blk_cell BKN.out 1).trans rfl
            have hg2 : wr.cell? ⟨gn, 2, none⟩ = some (.bool true) := (blk_cell BKN.out 2).trans rfl
            have hg3 : wr.cell? ⟨gn, 3, none⟩ = some (.int .i64 ((j : Int) + 1)) := (blk_cell BKN.out 3).trans rfl
            have hg4 : wr.cell? ⟨gn, 4, none⟩ = some (.slice Ax xr.length cx) := (blk_cell BKN.out 4).trans rfl
            have hf1 := blk_frozen BKN.out 1
            have hlt : gn < wr.heap.size := blk_lt BKN.out
            have hadd : (((startN p j + i : Nat) : Int) + 1) % 4294967296 = ((startN p j + (i + 1) : Nat) : Int) := by have := HST.out; have := HM.out; have := HCI.out; omega
            generalize ha : ((startN p j + i : Nat) : Int) = av at *
            have hbv : ((startN p j + (i + 1) : Nat) : Int) = av + 1 := by omega
            rw [hbv] at hadd
            have HBV := Aside0.mk hbv
            have HAV := Aside0.mk ha
            clear ha hbv
            obtain ⟨B3, d3, hu3⟩ := Kd.N_slice HN2.out
            subst hu3
            generalize hl3 : (ndsN p j ++ (List.range (i + 1)).map fun a => (⟨1, ((startN p j + a : Nat) : Int), true, ((j : Int) + 1), xr⟩ : Nd)) = l3 at *
            have HL3 := Aside0.mk (show l3.length ≤ 4200 by rw [← hl3]; simp; have := HST.out; have := HM.out; have := HCI.out; omega)
            have HL4 := Aside0.mk hl3
            clear hl3
            go_wp2_with ((with_reducible refine gate_builtin (b := .append) (xs := #[.tmp 54, .tmp 56]) rfl ?_); at_builtin; refine Kd.N_append kNd (W := wr.setCell ⟨gn, 1, none⟩ (.int .u32 (av + 1))) (w0 := w) w.heap.size rfl (.tmp 54) (.tmp 56) 55 85 (.agg #[(.int .i64 0), (.int .u32 0), (.bool false), (.int .i64 0), (.slice none 0 0)]) 48 rfl Tryz.underlying55 info55 rfl (by decide) (by omega) (.slice B3 l3.length d3) l3 (⟨1, av + 1, true, (j : Int) + 1, xr⟩ : Nd) [.int .i64 1, .int .u32 (av + 1), .bool true, .int .i64 ((j : Int) + 1), .slice Ax xr.length cx] (fun k => k ≠ gn) (fun k => k < w.heap.size) rfl (by first | rfl | (simp; done) | (simp; rfl)) ?aP ?aK ?aF ?aO ?aB ?aS ?aL ?_; (case aP => exact kNd_mkF _ _ (⟨1, av + 1, true, (j : Int) + 1, xr⟩ : Nd) HLO.out (Kd.F_step HC.out (fun k hk _ => (Below.heap_setCell _ _ _ k (by have := HGN.out; simp only; omega)).trans (HB2.out.block k hk)))); (case aK => exact fun k hk => ⟨by have := HGN.out; omega, fun he => by have := Kd.N_base HN2.out k he.symm; omega⟩); (case aF => exact fun k hk => by simp at hk; have := blk_lt BKN.out; omega); (case aO => exact Kd.N_far HN2.out (fun k hk => hk) _); (case aB => exact below_set HB2.out HGN.out); (case aS => have := HB2.out.size; simp; omega); (case aL => have := HL3.out; omega); intro v57 w12 ho hb hg hat; have HN3 := Aside0.mk ho; have HB3 := Aside0.mk hb; have BKN3 := Aside0.mk (blk_grown (g := gn) (blk_put BKN.out 1 (.int .u32 (av + 1)) rfl) hg (fun he => Kd.N_away HN2.out (g := gn) (fun _ h => h) he)); clear ho hb hg hat hg0 hg1 hg2 hg3 hg4 hf1 hlt)
            go_roundg (gk - 1)
            case measure => have := HKI.out; have := HCI.out; have := HOB.out; have := HM.out; omega
            case rel =>
              have hn64 := HN64.out
              exact ⟨i + 1, congrArg (Value.int .i64) (by have := HCI.out; have := HM.out; unfold wrap64; omega), ⟨by have := HKI.out; have := HCI.out; have := HOB.out; have := HM.out; omega⟩, ⟨by have := HCI.out; have := HOB.out; omega⟩, ⟨by
                rw [List.range_succ, List.map_append, ← List.append_assoc, HL4.out, List.map_cons, List.map_nil, HBV.out]; exact HN3.out⟩, HB3, ⟨by rw [HBV.out]; exact BKN3.out⟩⟩
          · have hci := decide_eq_false ci
            have HEND := Aside0.mk (show i = xm.toNat - 1 by have := HIL.out; have := HOB.out; have := HM.out; omega)
            go_wp2_with fail
            go_roundg (n1 - 1)
            case measure => have := HK.out; omega
            case rel =>
              have hn64 := HN64.out
              exact ⟨j + 1, congrArg (Value.int .i64) (by unfold wrap64; omega), ⟨by have := HK.out; omega⟩, ⟨by
                rw [ndsN_succ]
                have e : objN (itA p j) = i + 1 := by have := HEND.out; have := HIL.out; have := HOB.out; omega
                rw [e]
                simp only [ndOf, hX]
                simp
                exact Kd.N_mono HN2.out (fun _ _ => trivial)⟩, HB2⟩
      · -- kind 2
        have hm := hok.m0 (by simp)
        simp only at hm
        subst hm
        have hu32 : (startN p j : Int) % 4294967296 = startN p j := by have := HST.out; omega
        go_wp2_with ((with_reducible refine gate_builtin (b := .append) (xs := #[.tmp 41, .tmp 43]) rfl ?_); at_builtin; refine Kd.N_append kNd (W := (wr.alloc (.cells #[.int .i64 2, .int .i64 0, .slice Ax xr.length cx] 46)).alloc (.cells #[.int .i64 1, .int .u32 (startN p j : Int), .bool false, .int .i64 0, .slice Ax xr.length cx] 85)) (w0 := w) w.heap.size rfl (.tmp 41) (.tmp 43) 55 85 (.agg #[(.int .i64 0), (.int .u32 0), (.bool false), (.int .i64 0), (.slice none 0 0)]) 48 rfl Tryz.underlying55 info55 rfl (by decide) (by omega) (.slice u3A (startN p j) u3c) (ndsN p j) (⟨1, (startN p j : Int), false, 0, xr⟩ : Nd) [.int .i64 1, .int .u32 (startN p j : Int), .bool false, .int .i64 0, .slice Ax xr.length cx] (fun k => k ≠ wr.heap.size + 1) (fun k => k < w.heap.size) rfl (by first | rfl | (simp; done) | (simp; rfl)) ?aP ?aK ?aF ?aO ?aB ?aS ?aL ?_; (case aP => exact kNd_mkF _ _ (⟨1, (startN p j : Int), false, 0, xr⟩ : Nd) HLO.out (Kd.F_step HC.out (fun k hk _ => ((below_alloc (below_alloc (Below.refl wr.heap.size wr) _) _).block k (Nat.lt_of_lt_of_le hk HB.out.size)).trans (HB.out.block k hk)))); (case aK => exact fun k hk => ⟨by have := HB.out.size; omega, fun he => by have := Kd.N_base HN.out k he.symm; omega⟩); (case aF => exact fun k hk => by simp at hk; omega); (case aO => exact Kd.N_mono (Kd.N_step (Kd.N_bound HN.out) (fun k hk _ => (below_alloc (below_alloc (Below.refl wr.heap.size wr) _) _).block k hk.2)) (fun k hk => by have := hk.2; omega)); (case aB => exact below_alloc (below_alloc HB.out _) _); (case aS => have := HB.out.size; simp; omega); (case aL => have := HST.out; omega); intro v44 w11 ho hb hg hat; have HN2 := Aside0.mk ho; have HB2 := Aside0.mk hb; have BKN := Aside0.mk (blk_grown (g := wr.heap.size + 1) (o := .cells #[.int .i64 1, .int .u32 (startN p j : Int), .bool false, .int .i64 0, .slice Ax xr.length cx] 85 (0, 0)) (by have h := heap_alloc_new (wr.alloc (.cells #[.int .i64 2, .int .i64 0, .slice Ax xr.length cx] 46)) (.cells #[.int .i64 1, .int .u32 (startN p j : Int), .bool false, .int .i64 0, .slice Ax xr.length cx] 85); simp at h ⊢; exact h) hg (fun he => by have := Kd.N_lt HN.out _ he.symm; omega)); have BKX := Aside0.mk (blk_grown (g := wr.heap.size) (o := .cells #[.int .i64 2, .int .i64 0, .slice Ax xr.length cx] 46 (0, 0)) ((heap_alloc_old _ _ (by simp)).trans (heap_alloc_new wr _)) hg (fun he => by have := Kd.N_lt HN.out _ he.symm; omega)); clear ho hb hg hat hy0 hy1 hy2; have hcx1 : w11.cell? ⟨wr.heap.size, 1, none⟩ = some (.int .i64 0) := (blk_cell BKX.out 1).trans rfl)
        generalize hgn : wr.heap.size + 1 = gn at *
        have HGN := Aside0.mk (show w.heap.size ≤ gn by have := HB.out.size; omega)
        obtain ⟨n1, rfl⟩ : ∃ n1, n1 = gk := ⟨_, rfl⟩
        obtain ⟨wq, rfl⟩ : ∃ wq, wq = wr := ⟨_, rfl⟩
        clear hcx1
        skip
        go_loopg [3, 48] (objN (itA p j)) (fun kq v3 v48 w' => ∃ (i : Nat), v48 = .int .i64 (i : Int) ∧ Aside0 (kq + i = objN (itA p j)) ∧ Aside0 (i + 1 ≤ objN (itA p j)) ∧ Aside0 (Kd.N kNd 85 w' w.heap.size (fun k => k ≠ gn) v3 (ndsN p j ++ (List.range (i + 1)).map fun a => (⟨1, ((startN p j + a : Nat) : Int), false, 0, xr⟩ : Nd))) ∧ Aside0 (Below w.heap.size w w') ∧ Aside0 (w'.heap[gn]? = some (.cells #[.int .i64 1, .int .u32 ((startN p j + i : Nat) : Int), .bool false, .int .i64 0, .slice Ax xr.length cx] 85 (0, 0))))
        case atStart => exact ⟨0, rfl, ⟨by omega⟩, ⟨by rw [hX]; unfold objN; simp⟩, ⟨by simpa using HN2.out⟩, HB2, ⟨by simpa using BKN.out⟩⟩
        case round =>
          clear HN2 HB2 BKN
          obtain ⟨i, rfl, HKI, HIL, HN2, HB2, BKN⟩ := hrel
          have HOB := Aside0.mk (show objN (itA p j) = 1 by rw [hX]; unfold objN; simp)
          have HEND := Aside0.mk (show i = 0 by have := HIL.out; have := HOB.out; omega)
          have hci : decide ((i : Int) < -1) = false := decide_eq_false (by omega)
          go_wp2_with fail
          go_roundg (n1 - 1)
          case measure => have := HK.out; omega
          case rel =>
            have hn64 := HN64.out
            exact ⟨j + 1, congrArg (Value.int .i64) (by unfold wrap64; omega), ⟨by have := HK.out; omega⟩, ⟨by
              rw [ndsN_succ]
              have e : objN (itA p j) = i + 1 := by have := HEND.out; have := HIL.out; have := HOB.out; omega
              rw [e]
              simp only [ndOf, hX]
              simp
              exact Kd.N_mono HN2.out (fun _ _ => trivial)⟩, HB2⟩
      · -- kind 3
        have hm := hok.m0 (by simp)
        simp only at hm
        subst hm
        have hu32 : (startN p j : Int) % 4294967296 = startN p j := by have := HST.out; omega
        go_wp2_with ((with_reducible refine gate_builtin (b := .append) (xs := #[.tmp 41, .tmp 43]) rfl ?_); at_builtin; refine Kd.N_append kNd (W := (wr.alloc (.cells #[.int .i64 3, .int .i64 0, .slice Ax xr.length cx] 46)).alloc (.cells #[.int .i64 2, .int .u32 (startN p j : Int), .bool false, .int .i64 0, .slice Ax xr.length cx] 85)) (w0 := w) w.heap.size rfl (.tmp 41) (.tmp 43) 55 85 (.agg #[(.int .i64 0), (.int .u32 0), (.bool false), (.int .i64 0), (.slice none 0 0)]) 48 rfl Tryz.underlying55 info55 rfl (by decide) (by omega) (.slice u3A (startN p j) u3c) (ndsN p j) (⟨2, (startN p j : Int), false, 0, xr⟩ : Nd) [.int .i64 2, .int .u32 (startN p j : Int), .bool false, .int .i64 0, .slice Ax xr.length cx] (fun k => k ≠ wr.heap.size + 1) (fun k => k < w.heap.size) rfl (by first | rfl | (simp; done) | (simp; rfl)) ?aP ?aK ?aF ?aO ?aB ?aS ?aL ?_; (case aP => exact kNd_mkF _ _ (⟨2, (startN p j : Int), false, 0, xr⟩ : Nd) HLO.out (Kd.F_step HC.out (fun k hk _ => ((below_alloc (below_alloc (Below.refl wr.heap.size wr) _) _).block k (Nat.lt_of_lt_of_le hk HB.out.size)).trans (HB.out.block k hk)))); (case aK => exact fun k hk => ⟨by have := HB.out.size; omega, fun he => by have := Kd.N_base HN.out k he.symm; omega⟩); (case aF => exact fun k hk => by simp at hk; omega); (case aO => exact Kd.N_mono (Kd.N_step (Kd.N_bound HN.out) (fun k hk _ => (below_alloc (below_alloc (Below.refl wr.heap.size wr) _) _).block k hk.2)) (fun k hk => by have := hk.2; omega)); (case aB => exact below_alloc (below_alloc HB.out _) _); (case aS => have := HB.out.size; simp; omega); (case aL => have := HST.out; omega); intro v44 w11 ho hb hg hat; have HN2 := Aside0.mk ho; have HB2 := Aside0.mk hb; have BKN := Aside0.mk (blk_grown (g := wr.heap.size + 1) (o := .cells #[.int .i64 2, .int .u32 (startN p j : Int), .bool false, .int .i64 0, .slice Ax xr.length cx] 85 (0, 0)) (by have h := heap_alloc_new (wr.alloc (.cells #[.int .i64 3, .int .i64 0, .slice Ax xr.length cx] 46)) (.cells #[.int .i64 2, .int .u32 (startN p j : Int), .bool false, .int .i64 0, .slice Ax xr.length cx] 85); simp at h ⊢; exact h) hg (fun he => by have := Kd.N_lt HN.out _ he.symm; omega)); have BKX := Aside0.mk (blk_grown (g := wr.heap.size) (o := .cells #[.int .i64 3, .int .i64 0, .slice Ax xr.length cx] 46 (0, 0)) ((heap_alloc_old _ _ (by simp)).trans (heap_alloc_new wr _)) hg (fun he => by have := Kd.N_lt HN.out _ he.symm; omega)); clear ho hb hg hat hy0 hy1 hy2; have hcx1 : w11.cell? ⟨wr.heap.size, 1, none⟩ = some (.int .i64 0) := (blk_cell BKX.out 1).trans rfl)
        generalize hgn : wr.heap.size + 1 = gn at *
        have HGN := Aside0.mk (show w.heap.size ≤ gn by have := HB.out.size; omega)
        obtain ⟨n1, rfl⟩ : ∃ n1, n1 = gk := ⟨_, rfl⟩
        obtain ⟨wq, rfl⟩ : ∃ wq, wq = wr := ⟨_, rfl⟩
        clear hcx1
        skip
        go_loopg [3, 48] (objN (itA p j)) (fun kq v3 v48 w' => ∃ (i : Nat), v48 = .int .i64 (i : Int) ∧ Aside0 (kq + i = objN (itA p j)) ∧ Aside0 (i + 1 ≤ objN (itA p j)) ∧ Aside0 (Kd.N kNd 85 w' w.heap.size (fun k => k ≠ gn) v3 (ndsN p j ++ (List.range (i + 1)).map fun a => (⟨2, ((startN p j + a : Nat) : Int), false, 0, xr⟩ : Nd))) ∧ Aside0 (Below w.heap.size w w') ∧ Aside0 (w'.heap[gn]? = some (.cells #[.int .i64 2, .int .u32 ((startN p j + i : Nat) : Int), .bool false, .int .i64 0, .slice Ax xr.length cx] 85 (0, 0))))
        case atStart => exact ⟨0, rfl, ⟨by omega⟩, ⟨by rw [hX]; unfold objN; simp⟩, ⟨by simpa using HN2.out⟩, HB2, ⟨by simpa using BKN.out⟩⟩
        case round =>
          clear HN2 HB2 BKN
          obtain ⟨i, rfl, HKI, HIL, HN2, HB2, BKN⟩ := hrel
          have HOB := Aside0.mk (show objN (itA p j) = 1 by rw [hX]; unfold objN; simp)
          have HEND := Aside0.mk (show i = 0 by have := HIL.out; have := HOB.out; omega)
          have hci : decide ((i : Int) < -1) = false := decide_eq_false (by omega)
          go_wp2_with fail
          go_roundg (n1 - 1)
          case measure => have := HK.out; omega
          case rel =>
            have hn64 := HN64.out
            exact ⟨j + 1, congrArg (Value.int .i64) (by unfold wrap64; omega), ⟨by have := HK.out; omega⟩, ⟨by
              rw [ndsN_succ]
              have e : objN (itA p j) = i + 1 := by have := HEND.out; have := HIL.out; have := HOB.out; omega
              rw [e]
              simp only [ndOf, hX]
              simp
              exact Kd.N_mono HN2.out (fun _ _ => trivial)⟩, HB2⟩
      · -- kind 4
        have hm := hok.m0 (by simp)
        simp only at hm
        subst hm
        have hu32 : (startN p j : Int) % 4294967296 = startN p j := by have := HST.out; omega
        go_wp2_with ((with_reducible refine gate_builtin (b := .append) (xs := #[.tmp 41, .tmp 43]) rfl ?_); at_builtin; refine Kd.N_append kNd (W := (wr.alloc (.cells #[.int .i64 4, .int .i64 0, .slice Ax xr.length cx] 46)).alloc (.cells #[.int .i64 0, .int .u32 (startN p j : Int), .bool false, .int .i64 0, .slice Ax xr.length cx] 85)) (w0 := w) w.heap.size rfl (.tmp 41) (.tmp 43) 55 85 (.agg #[(.int .i64 0), (.int .u32 0), (.bool false), (.int .i64 0), (.slice none 0 0)]) 48 rfl Tryz.underlying55 info55 rfl (by decide) (by omega) (.slice u3A (startN p j) u3c) (ndsN p j) (⟨0, (startN p j : Int), false, 0, xr⟩ : Nd) [.int .i64 0, .int .u32 (startN p j : Int), .bool false, .int .i64 0, .slice Ax xr.length cx] (fun k => k ≠ wr.heap.size + 1) (fun k => k < w.heap.size) rfl (by first | rfl | (simp; done) | (simp; rfl)) ?aP ?aK ?aF ?aO ?aB ?aS ?aL ?_; (case aP => exact kNd_mkF _ _ (⟨0, (startN p j : Int), false, 0, xr⟩ : Nd) HLO.out (Kd.F_step HC.out (fun k hk _ => ((below_alloc (below_alloc (Below.refl wr.heap.size wr) _) _).block k (Nat.lt_of_lt_of_le hk HB.out.size)).trans (HB.out.block k hk)))); (case aK => exact fun k hk => ⟨by have := HB.out.size; omega, fun he => by have := Kd.N_base HN.out k he.symm; omega⟩); (case aF => exact fun k hk => by simp at hk; omega); (case aO => exact Kd.N_mono (Kd.N_step (Kd.N_bound HN.out) (fun k hk _ => (below_alloc (below_alloc (Below.refl wr.heap.size wr) _) _).block k hk.2)) (fun k hk => by have := hk.2; omega)); (case aB => exact below_alloc (below_alloc HB.out _) _); (case aS => have := HB.out.size; simp; omega); (case aL => have := HST.out; omega); intro v44 w11 ho hb hg hat; have HN2 := Aside0.mk ho; have HB2 := Aside0.mk hb; have BKN := Aside0.mk (blk_grown (g := wr.heap.size + 1) (o := .cells #[.int .i64 0, .int .u32 (startN p j : Int), .bool false, .int .i64 0, .slice Ax xr.length cx] 85 (0, 0)) (by have h := heap_alloc_new (wr.alloc (.cells #[.int .i64 4, .int .i64 0, .slice Ax xr.length cx] 46)) (.cells #[.int .i64 0, .int .u32 (startN p j : Int), .bool false, .int .i64 0, .slice Ax xr.length cx] 85); simp at h ⊢; exact h) hg (fun he => by have := Kd.N_lt HN.out _ he.symm; omega)); have BKX := Aside0.mk (blk_grown (g := wr.heap.size) (o := .cells #[.int .i64 4, .int .i64 0, .slice Ax xr.length cx] 46 (0, 0)) ((heap_alloc_old _ _ (by simp)).trans (heap_alloc_new wr _)) hg (fun he => by have := Kd.N_lt HN.out _ he.symm; omega)); clear ho hb hg hat hy0 hy1 hy2; have hcx1 : w11.cell? ⟨wr.heap.size, 1, none⟩ = some (.int .i64 0) := (blk_cell BKX.out 1).trans rfl)
        generalize hgn : wr.heap.size + 1 = gn at *
        have HGN := Aside0.mk (show w.heap.size ≤ gn by have := HB.out.size; omega)
        obtain ⟨n1, rfl⟩ : ∃ n1, n1 = gk := ⟨_, rfl⟩
        obtain ⟨wq, rfl⟩ : ∃ wq, wq = wr := ⟨_, rfl⟩
        clear hcx1
        skip
        go_loopg [3, 48] (objN (itA p j)) (fun kq v3 v48 w' => ∃ (i : Nat), v48 = .int .i64 (i : Int) ∧ Aside0 (kq + i = objN (itA p j)) ∧ Aside0 (i + 1 ≤ objN (itA p j)) ∧ Aside0 (Kd.N kNd 85 w' w.heap.size (fun k => k ≠ gn) v3 (ndsN p j ++ (List.range (i + 1)).map fun a => (⟨0, ((startN p j + a : Nat) : Int), false, 0, xr⟩ : Nd))) ∧ Aside0 (Below w.heap.size w w') ∧ Aside0 (w'.heap[gn]? = some (.cells #[.int .i64 0, .int .u32 ((startN p j + i : Nat) : Int), .bool false, .int .i64 0, .slice Ax xr.length cx] 85 (0, 0))))
        case atStart => exact ⟨0, rfl, ⟨by omega⟩, ⟨by rw [hX]; unfold objN; simp⟩, ⟨by simpa using HN2.out⟩, HB2, ⟨by simpa using BKN.out⟩⟩
        case round =>
          clear HN2 HB2 BKN
          obtain ⟨i, rfl, HKI, HIL, HN2, HB2, BKN⟩ := hrel
          have HOB := Aside0.mk (show objN (itA p j) = 1 by rw [hX]; unfold objN; simp)
          have HEND := Aside0.mk (show i = 0 by have := HIL.out; have := HOB.out; omega)
          have hci : decide ((i : Int) < -1) = false := decide_eq_false (by omega)
          go_wp2_with fail
          go_roundg (n1 - 1)
          case measure => have := HK.out; omega
          case rel =>
            have hn64 := HN64.out
            exact ⟨j + 1, congrArg (Value.int .i64) (by unfold wrap64; omega), ⟨by have := HK.out; omega⟩, ⟨by
              rw [ndsN_succ]
              have e : objN (itA p j) = i + 1 := by have := HEND.out; have := HIL.out; have := HOB.out; omega
              rw [e]
              simp only [ndOf, hX]
              simp
              exact Kd.N_mono HN2.out (fun _ _ => trivial)⟩, HB2⟩
    · -- END
      have hcj := decide_eq_false cj
      have hcjn : decide (j < p.length) = false := decide_eq_false (by omega)
      have HJ := Aside0.mk (show j = p.length by have := HK.out; omega)
      clear cj
      obtain ⟨u3A, u3c, hu3⟩ := Kd.N_slice HN.out
      subst hu3
      have HN' := Aside0.mk (show Kd.N kNd 85 wr w.heap.size (fun _ => True) (.slice u3A (ndsN p j).length u3c) (ndsL p) by have h := HN.out; have e := HJ.out; subst e; exact h)
      go_wp2_with fail
      go_ret
      exact ⟨_, rfl, HN'.out, HB.out⟩

end Go.Proofs.YtgaadjgfjiljjaaGreat
