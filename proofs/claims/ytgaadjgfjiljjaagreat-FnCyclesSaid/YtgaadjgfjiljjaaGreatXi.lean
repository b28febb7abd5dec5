/-
  DERIVED: THE SHELF's CONTRACTS AT THIS DUMP, IN PLAIN WORDS (tools/lay-plain.mjs out of 'YtgaadjgfjiljjaaGreatL0.lean', which tools/lay-shelf.mjs wrote): THE SAME DECLARATIONS UNDER THE SAME NAMES: 'import', 'namespace', 'open', 'def', 'theorem' AND NOTHING ELSE: no command of the shelf's: FOR A HAND-IN. Each laying: the table of numbers ('.._ren') and one theorem, a field a fact of the dump's own or the kernel's comparison; each contract: ONE APPLICATION.
-/
import Derived.Test.YtgaadjgfjiljjaaGreatProg
import Derived.Shelf.GgSortFunc.Whole
import Derived.Shelf.GgSortFunc.Tiny
import Derived.Shelf.SlSortCmp.Whole1
import Derived.Test.YtgaadjgfjiljjaaGreatXg
import Derived.Deep.QuietTactic
import Derived.BigQuiet
namespace Go.Proofs
open Go.Shelf
def Tryz.sl6_ren : Go.Shelf.Ren := ⟨fun | 6 => 46 | 10 => 55 | 11 => 56 | 12 => 57 | 13 => 58 | 14 => 59 | 24 => 71 | 25 => 72 | 26 => 73 | 27 => 74 | 28 => 75 | 29 => 76 | 30 => 77 | 31 => 78 | 32 => 79 | 33 => 80 | 34 => 89 | 35 => 90 | 36 => 91 | 37 => 92 | 38 => 93 | 39 => 99 | n => n, fun | 20 => 20 | 26 => 44 | 35 => 130 | 0 => 0 | 37 => 125 | 3 => 3 | 41 => 134 | 44 => 137 | 49 => 76 | 51 => 145 | 4 => 4 | 54 => 148 | 53 => 147 | 58 => 152 | 5 => 5 | 9 => 9 | 60 => 161 | 64 => 165 | 66 => 170 | 67 => 171 | 17 => 17 | 32 => 127 | 33 => 128 | 82 => 188 | 12 => 12 | 75 => 181 | 76 => 182 | 77 => 183 | 78 => 184 | 79 => 185 | 80 => 186 | n => n, fun | n => n⟩
theorem Tryz.sl6 : Go.Proofs.LaysGg.n6 Tryz.prog Tryz.sl6_ren := {
  mixed := by kernel_rfl
  f6 := Tryz.func46.trans (congrArg some (by kernel_rfl))
  f10 := Tryz.func55.trans (congrArg some (by kernel_rfl))
  f11 := Tryz.func56.trans (congrArg some (by kernel_rfl))
  f12 := Tryz.func57.trans (congrArg some (by kernel_rfl))
  f13 := Tryz.func58.trans (congrArg some (by kernel_rfl))
  f14 := Tryz.func59.trans (congrArg some (by kernel_rfl))
  f24 := Tryz.func71.trans (congrArg some (by kernel_rfl))
  f25 := Tryz.func72.trans (congrArg some (by kernel_rfl))
  f26 := Tryz.func73.trans (congrArg some (by kernel_rfl))
  f27 := Tryz.func74.trans (congrArg some (by kernel_rfl))
  f28 := Tryz.func75.trans (congrArg some (by kernel_rfl))
  f29 := Tryz.func76.trans (congrArg some (by kernel_rfl))
  f30 := Tryz.func77.trans (congrArg some (by kernel_rfl))
  f31 := Tryz.func78.trans (congrArg some (by kernel_rfl))
  f32 := Tryz.func79.trans (congrArg some (by kernel_rfl))
  f33 := Tryz.func80.trans (congrArg some (by kernel_rfl))
  f34 := Tryz.func89.trans (congrArg some (by kernel_rfl))
  f35 := Tryz.func90.trans (congrArg some (by kernel_rfl))
  f36 := Tryz.func91.trans (congrArg some (by kernel_rfl))
  f37 := Tryz.func92.trans (congrArg some (by kernel_rfl))
  f38 := Tryz.func93.trans (congrArg some (by kernel_rfl))
  f39 := Tryz.func99.trans (congrArg some (by kernel_rfl))
  t0 := Tryz.underlying0
  a0 := Tryz.isAgg0
  z0 := Tryz.sizeOf0
  v0 := Tryz.zeroValue0
  i0 := by kernel_rfl
  t3 := Tryz.underlying3
  a3 := Tryz.isAgg3
  z3 := Tryz.sizeOf3
  v3 := Tryz.zeroValue3
  i3 := by kernel_rfl
  t4 := Tryz.underlying4
  a4 := Tryz.isAgg4
  z4 := Tryz.sizeOf4
  v4 := Tryz.zeroValue4
  i4 := by kernel_rfl
  t5 := Tryz.underlying5
  a5 := Tryz.isAgg5
  z5 := Tryz.sizeOf5
  v5 := Tryz.zeroValue5
  i5 := by kernel_rfl
  t9 := Tryz.underlying9
  a9 := Tryz.isAgg9
  z9 := Tryz.sizeOf9
  v9 := Tryz.zeroValue9
  i9 := by kernel_rfl
  t12 := Tryz.underlying12
  a12 := Tryz.isAgg12
  z12 := Tryz.sizeOf12
  v12 := Tryz.zeroValue12
  i12 := by kernel_rfl
  t17 := Tryz.underlying17
  a17 := Tryz.isAgg17
  z17 := Tryz.sizeOf17
  v17 := Tryz.zeroValue17
  i17 := by kernel_rfl
  t20 := Tryz.underlying20
  a20 := Tryz.isAgg20
  z20 := Tryz.sizeOf20
  v20 := Tryz.zeroValue20
  i20 := by kernel_rfl
  t26 := Tryz.underlying44
  a26 := Tryz.isAgg44
  z26 := Tryz.sizeOf44
  v26 := Tryz.zeroValue44
  i26 := by kernel_rfl
  t32 := Tryz.underlying127
  a32 := Tryz.isAgg127
  z32 := Tryz.sizeOf127
  v32 := Tryz.zeroValue127
  i32 := by kernel_rfl
  t33 := Tryz.underlying128
  a33 := Tryz.isAgg128
  z33 := Tryz.sizeOf128
  v33 := Tryz.zeroValue128
  i33 := by kernel_rfl
  t35 := Tryz.underlying130
  a35 := Tryz.isAgg130
  z35 := Tryz.sizeOf130
  v35 := Tryz.zeroValue130
  i35 := by kernel_rfl
  t37 := Tryz.underlying125
  a37 := Tryz.isAgg125
  z37 := Tryz.sizeOf125
  v37 := Tryz.zeroValue125
  i37 := by kernel_rfl
  t41 := Tryz.underlying134
  a41 := Tryz.isAgg134
  z41 := Tryz.sizeOf134
  v41 := Tryz.zeroValue134
  i41 := by kernel_rfl
  t44 := Tryz.underlying137
  a44 := Tryz.isAgg137
  z44 := Tryz.sizeOf137
  v44 := Tryz.zeroValue137
  i44 := by kernel_rfl
  t49 := Tryz.underlying76
  a49 := Tryz.isAgg76
  z49 := Tryz.sizeOf76
  v49 := Tryz.zeroValue76
  i49 := by kernel_rfl
  t51 := Tryz.underlying145
  a51 := Tryz.isAgg145
  z51 := Tryz.sizeOf145
  v51 := Tryz.zeroValue145
  i51 := by kernel_rfl
  t53 := Tryz.underlying147
  a53 := Tryz.isAgg147
  z53 := Tryz.sizeOf147
  v53 := Tryz.zeroValue147
  i53 := by kernel_rfl
  t54 := Tryz.underlying148
  a54 := Tryz.isAgg148
  z54 := Tryz.sizeOf148
  v54 := Tryz.zeroValue148
  i54 := by kernel_rfl
  t58 := Tryz.underlying152
  a58 := Tryz.isAgg152
  z58 := Tryz.sizeOf152
  v58 := Tryz.zeroValue152
  i58 := by kernel_rfl
  t60 := Tryz.underlying161
  a60 := Tryz.isAgg161
  z60 := Tryz.sizeOf161
  v60 := Tryz.zeroValue161
  i60 := by kernel_rfl
  t64 := Tryz.underlying165
  a64 := Tryz.isAgg165
  z64 := Tryz.sizeOf165
  v64 := Tryz.zeroValue165
  i64 := by kernel_rfl
  t66 := Tryz.underlying170
  a66 := Tryz.isAgg170
  z66 := Tryz.sizeOf170
  v66 := Tryz.zeroValue170
  i66 := by kernel_rfl
  t67 := Tryz.underlying171
  a67 := Tryz.isAgg171
  z67 := Tryz.sizeOf171
  v67 := Tryz.zeroValue171
  i67 := by kernel_rfl
  t75 := Tryz.underlying181
  a75 := Tryz.isAgg181
  z75 := Tryz.sizeOf181
  v75 := Tryz.zeroValue181
  i75 := by kernel_rfl
  t76 := Tryz.underlying182
  a76 := Tryz.isAgg182
  z76 := Tryz.sizeOf182
  v76 := Tryz.zeroValue182
  i76 := by kernel_rfl
  t77 := Tryz.underlying183
  a77 := Tryz.isAgg183
  z77 := Tryz.sizeOf183
  v77 := Tryz.zeroValue183
  i77 := by kernel_rfl
  t78 := Tryz.underlying184
  a78 := Tryz.isAgg184
  z78 := Tryz.sizeOf184
  v78 := Tryz.zeroValue184
  i78 := by kernel_rfl
  t79 := Tryz.underlying185
  a79 := Tryz.isAgg185
  z79 := Tryz.sizeOf185
  v79 := Tryz.zeroValue185
  i79 := by kernel_rfl
  t80 := Tryz.underlying186
  a80 := Tryz.isAgg186
  z80 := Tryz.sizeOf186
  v80 := Tryz.zeroValue186
  i80 := by kernel_rfl
  t82 := Tryz.underlying188
  a82 := Tryz.isAgg188
  z82 := Tryz.sizeOf188
  v82 := Tryz.zeroValue188
  i82 := by kernel_rfl }
def Tryz.slf6_ren : Go.Shelf.Ren := ⟨fun | 6 => 49 | 15 => 58 | 14 => 60 | 28 => 71 | 29 => 72 | 20 => 81 | 21 => 82 | 22 => 83 | 23 => 84 | 24 => 85 | 25 => 86 | 26 => 87 | 27 => 88 | 46 => 94 | 47 => 95 | 48 => 96 | 49 => 97 | 50 => 98 | 57 => 100 | n => n, fun | 22 => 96 | 24 => 102 | 25 => 121 | 3 => 3 | 39 => 134 | 0 => 0 | 53 => 76 | 55 => 145 | 4 => 4 | 46 => 156 | 45 => 155 | 50 => 152 | 5 => 5 | 9 => 9 | 66 => 167 | 70 => 165 | 76 => 173 | 77 => 171 | n => n, fun | n => n⟩
theorem Tryz.slf6 : Go.Proofs.SlLaysF.n6 Tryz.prog Tryz.slf6_ren := {
  mixed := by kernel_rfl
  f6 := ⟨Tryz.f49.name, by decide, Tryz.func49.trans (congrArg some (by kernel_rfl))⟩
  f14 := ⟨Tryz.f60.name, by decide, Tryz.func60.trans (congrArg some (by kernel_rfl))⟩
  f15 := Tryz.func58.trans (congrArg some (by kernel_rfl))
  f20 := ⟨Tryz.f81.name, by decide, Tryz.func81.trans (congrArg some (by kernel_rfl))⟩
  f21 := ⟨Tryz.f82.name, by decide, Tryz.func82.trans (congrArg some (by kernel_rfl))⟩
  f22 := ⟨Tryz.f83.name, by decide, Tryz.func83.trans (congrArg some (by kernel_rfl))⟩
  f23 := ⟨Tryz.f84.name, by decide, Tryz.func84.trans (congrArg some (by kernel_rfl))⟩
  f24 := ⟨Tryz.f85.name, by decide, Tryz.func85.trans (congrArg some (by kernel_rfl))⟩
  f25 := ⟨Tryz.f86.name, by decide, Tryz.func86.trans (congrArg some (by kernel_rfl))⟩
  f26 := ⟨Tryz.f87.name, by decide, Tryz.func87.trans (congrArg some (by kernel_rfl))⟩
  f27 := ⟨Tryz.f88.name, by decide, Tryz.func88.trans (congrArg some (by kernel_rfl))⟩
  f28 := Tryz.func71.trans (congrArg some (by kernel_rfl))
  f29 := Tryz.func72.trans (congrArg some (by kernel_rfl))
  f46 := ⟨Tryz.f94.name, by decide, Tryz.func94.trans (congrArg some (by kernel_rfl))⟩
  f47 := Tryz.func95.trans (congrArg some (by kernel_rfl))
  f48 := Tryz.func96.trans (congrArg some (by kernel_rfl))
  f49 := ⟨Tryz.f97.name, by decide, Tryz.func97.trans (congrArg some (by kernel_rfl))⟩
  f50 := ⟨Tryz.f98.name, by decide, Tryz.func98.trans (congrArg some (by kernel_rfl))⟩
  f57 := ⟨Tryz.f100.name, by decide, Tryz.func100.trans (congrArg some (by kernel_rfl))⟩
  t0 := Tryz.underlying0
  a0 := Tryz.isAgg0
  z0 := Tryz.sizeOf0
  v0 := Tryz.zeroValue0
  t3 := Tryz.underlying3
  a3 := Tryz.isAgg3
  z3 := Tryz.sizeOf3
  v3 := Tryz.zeroValue3
  t4 := Tryz.underlying4
  a4 := Tryz.isAgg4
  z4 := Tryz.sizeOf4
  v4 := Tryz.zeroValue4
  t5 := Tryz.underlying5
  a5 := Tryz.isAgg5
  z5 := Tryz.sizeOf5
  v5 := Tryz.zeroValue5
  t9 := Tryz.underlying9
  a9 := Tryz.isAgg9
  z9 := Tryz.sizeOf9
  v9 := Tryz.zeroValue9
  t22 := Tryz.underlying96
  a22 := Tryz.isAgg96
  z22 := Tryz.sizeOf96
  v22 := Tryz.zeroValue96
  a24 := Tryz.isAgg102
  z24 := Tryz.sizeOf102
  t25 := Tryz.underlying121
  a25 := Tryz.isAgg121
  z25 := Tryz.sizeOf121
  v25 := Tryz.zeroValue121
  t39 := Tryz.underlying134
  a39 := Tryz.isAgg134
  z39 := Tryz.sizeOf134
  v39 := Tryz.zeroValue134
  t45 := Tryz.underlying155
  a45 := Tryz.isAgg155
  z45 := Tryz.sizeOf155
  v45 := Tryz.zeroValue155
  t46 := Tryz.underlying156
  a46 := Tryz.isAgg156
  z46 := Tryz.sizeOf156
  v46 := Tryz.zeroValue156
  t50 := Tryz.underlying152
  a50 := Tryz.isAgg152
  z50 := Tryz.sizeOf152
  v50 := Tryz.zeroValue152
  t53 := Tryz.underlying76
  a53 := Tryz.isAgg76
  z53 := Tryz.sizeOf76
  v53 := Tryz.zeroValue76
  t55 := Tryz.underlying145
  a55 := Tryz.isAgg145
  z55 := Tryz.sizeOf145
  v55 := Tryz.zeroValue145
  t66 := Tryz.underlying167
  a66 := Tryz.isAgg167
  z66 := Tryz.sizeOf167
  v66 := Tryz.zeroValue167
  t70 := Tryz.underlying165
  a70 := Tryz.isAgg165
  z70 := Tryz.sizeOf165
  v70 := Tryz.zeroValue165
  t76 := Tryz.underlying173
  a76 := Tryz.isAgg173
  z76 := Tryz.sizeOf173
  v76 := Tryz.zeroValue173
  t77 := Tryz.underlying171
  a77 := Tryz.isAgg171
  z77 := Tryz.sizeOf171
  v77 := Tryz.zeroValue171 }
end Go.Proofs

/- findPath's own closure (47) and sort.Slice over objects. Conditions: those that each theorem names. -/
namespace Go.Proofs.YtgaadjgfjiljjaaGreat
open Go.RowKit Go.Proofs.YtgaadjgfjiljjaaGreatW.PrintWords Go.Proofs.YtgaadjgfjiljjaaGreatW.PrintLast Go.Proofs.YtgaadjgfjiljjaaGreatW.PrintMore
open Go.ChangeMaps (setBlock)
set_option linter.unusedVariables false
set_option linter.unusedSimpArgs false

theorem meth90 (a : Nat) (w : World) : (method 294 90 (.pointer (some ⟨a, 0, none⟩)) "initializations/pub/initorder.order").run Tryz.prog w = .ok (118, .pointer (some ⟨a, 0, none⟩)) w := by kernel_rfl
theorem meth75 (a : Nat) (w : World) : (method 294 75 (.pointer (some ⟨a, 0, none⟩)) "initializations/pub/initorder.order").run Tryz.prog w = .ok (118, .pointer (some ⟨a, 0, none⟩)) w := by kernel_rfl
theorem meth94 (a : Nat) (w : World) : (method 294 94 (.pointer (some ⟨a, 0, none⟩)) "initializations/pub/initorder.order").run Tryz.prog w = .ok (118, .pointer (some ⟨a, 0, none⟩)) w := by kernel_rfl
attribute [local go_sem] meth90 meth75 meth94

set_option maxHeartbeats 4000000 in
set_option maxRecDepth 100000 in
theorem less47 (blk c Bs size : Nat) (W : World) (t1 t2 o1 o2 : Nat) (x1 x2 : Int) (h1 : OTy t1) (h2 : OTy t2) (hs : W.cell? ⟨Bs, 0, none⟩ = some (.slice (some ⟨blk, 0, none⟩) size c)) (i j : Nat) (hi : (i : Int) < (size : Int)) (hj : (j : Int) < (size : Int))
    (ci : W.cell? ⟨blk, i, none⟩ = some (.iface t1 (.pointer (some ⟨o1, 0, none⟩)))) (cj : W.cell? ⟨blk, j, none⟩ = some (.iface t2 (.pointer (some ⟨o2, 0, none⟩))))
    (hx1 : W.cell? ⟨o1, 1, none⟩ = some (.int .u32 x1)) (hx2 : W.cell? ⟨o2, 1, none⟩ = some (.int .u32 x2)) :
    Calls Tryz.prog 47 #[.int .i64 i, .int .i64 j, .pointer (some ⟨Bs, 0, none⟩)] W fun e w' => e = .returned (.bool (decide (x1 < x2))) ∧ ∃ q, w' = W.drewN q := by
  have hi' : i < size := by omega
  have hj' : j < size := by omega
  have hi0 : (0 : Int) ≤ (i : Int) := by omega
  have hj0 : (0 : Int) ≤ (j : Int) := by omega
  rcases h1 with rfl | rfl | rfl <;> rcases h2 with rfl | rfl | rfl
  all_goals
    go_enter Tryz.func47, Tryz.ntmps47
    go_wp2
    go_quiet ((go_at_call 118; refine Calls.quiet_of_same ((order_calls _ _ _ (by first | exact hx1 | exact hx2)).mono (fun _ _ h => ⟨h.1, h.2.symm⟩))))
    go_wp2
    go_ret
    exact ⟨rfl, nq, rfl⟩

end Go.Proofs.YtgaadjgfjiljjaaGreat

/- sort.Slice (46) over findPath's own list of objects. Conditions: those that each theorem names. -/
namespace Go.Proofs.YtgaadjgfjiljjaaGreat
open Go.RowKit Go.Shelf Go.Lib Go.Sort Go.Proofs.YtgaadjgfjiljjaaGreatW.PrintWords
open Go.ChangeMaps (setBlock)
set_option linter.unusedVariables false
set_option linter.unusedSimpArgs false

noncomputable def siT : TypeInfo := (Tryz.prog.info? 60).get (by kernel_rfl)
noncomputable def siE : TypeInfo := (Tryz.prog.info? 82).get (by kernel_rfl)
theorem siK (n : Nat) (h2 : 2 ≤ n) : Lib.swapperK n siE 20 = 9 := by
  have a : siE.hasPointers = true := by kernel_rfl
  have b : siE.bytes = 16 := by kernel_rfl
  have c : (n == 0) = false := by simp; omega
  have d : (n == 1) = false := by simp; omega
  simp [Lib.swapperK, a, b, c, d]

theorem grow_touch (w : World) (os : Array Obj) : Touch (fun _ => False) w (grow w os) :=
  ⟨rfl, rfl, rfl, by simp, fun k hk _ => by show (w.heap ++ os)[k]? = _; rw [Array.getElem?_append_left hk]⟩
theorem putRow_touch {α : Type} [Inhabited α] (enc : α → Value) (w : World) (blk off : Nat) (d : Array α) : Touch (fun k => k = blk) w (putRow enc w blk off d) :=
  ⟨rfl, rfl, rfl, by simp [putRow, mapBlock], fun k hk hn => by
    show (w.heap.modify blk _)[k]? = _
    rw [Array.getElem?_modify, if_neg (fun e => hn e.symm)]⟩

theorem sort_tiny (p : Option Addr) (n c : Nat) (h1 : n ≤ 1) (lf : Fn) (la lb : Array Value) (w : World) :
    Calls Tryz.prog 46 #[.iface 60 (.slice p n c), .func lf la lb] w fun e w' => e = .returned (.tuple #[]) ∧ Touch (fun _ => False) w w' := by
  have hK : Lib.swapperK n siE 20 = n + 1 := by
    rcases Nat.eq_zero_or_pos n with h | h
    · subst h; simp [Lib.swapperK]
    · obtain rfl : n = 1 := by omega
      simp [Lib.swapperK]
  have hS := Any.sort_Slice_tiny Tryz.sl6 60 82 siT siE (by kernel_rfl) (by kernel_rfl) (by kernel_rfl) (by kernel_rfl) 20 (fun _ => by kernel_rfl) p n c h1 (62 + n) (by
    rw [hK]
    rcases Nat.eq_zero_or_pos n with h | h
    · subst h; kernel_rfl
    · obtain rfl : n = 1 := by omega
      kernel_rfl) lf la lb w
  change Calls Tryz.prog 46 _ _ _ at hS
  refine hS.mono ?_
  rintro e w' ⟨rfl, os, rfl⟩
  exact ⟨rfl, grow_touch _ _⟩

theorem sort_deps {nds : List Nd} {ob : Nat → Nat} (ds : List Nat) (hds : ∀ k ∈ ds, k < nds.length) (c B blk : Nat) (w : World)
    (hob : ∀ j, j < nds.length → w.cell? ⟨ob j, 1, none⟩ = some (.int .u32 (rd_Nd nds j).od) ∧ ob j ≠ blk ∧ ob j < w.heap.size)
    (hB : w.cell? ⟨B, 0, none⟩ = some (.slice (some ⟨blk, 0, none⟩) ds.length c)) (hBb : B ≠ blk) (hBl : B < w.heap.size) (hblk : blk < w.heap.size)
    (hc : ∀ t, t < ds.length → w.cell? ⟨blk, t, none⟩ = some (okey (tyN nds) ob (ds.getD t 0)) ∧ w.frozen? ⟨blk, t, none⟩ = false) (hlen : ds.length ≤ 4096) (h2 : 2 ≤ ds.length) :
    Calls Tryz.prog 46 #[.iface 60 (.slice (some ⟨blk, 0, none⟩) ds.length c), .func (.func 47) #[] #[.pointer (some ⟨B, 0, none⟩)]] w fun e w' =>
      e = .returned (.tuple #[]) ∧ ∃ ds' : List Nat, ds'.Perm ds ∧ Touch (fun k => k = blk) w w' ∧ ∀ t, t < ds.length → w'.cell? ⟨blk, t, none⟩ = some (okey (tyN nds) ob (ds'.getD t 0)) := by
  have hn : 0 < nds.length := by
    cases ds with
    | nil => simp at h2
    | cons a l => have := hds a (by simp); omega
  haveI : Inhabited {k : Nat // k < nds.length} := ⟨⟨0, hn⟩⟩
  obtain ⟨d, hd⟩ : ∃ d : Array {k : Nat // k < nds.length}, d = (ds.pmap Subtype.mk hds).toArray := ⟨_, rfl⟩
  have hdl : d.toList.map (·.1) = ds := by rw [hd]; simp [List.map_pmap]
  have hsz : d.size = ds.length := by rw [← hdl]; simp
  obtain ⟨enc, henc⟩ : ∃ enc : {k : Nat // k < nds.length} → Value, enc = fun x => okey (tyN nds) ob x.1 := ⟨_, rfl⟩
  obtain ⟨lt, hlt⟩ : ∃ lt : {k : Nat // k < nds.length} → {k : Nat // k < nds.length} → Bool, lt = fun x y => decide ((rd_Nd nds x.1).od < (rd_Nd nds y.1).od) := ⟨_, rfl⟩
  have hO : SWO lt := by
    rw [hlt]
    refine ⟨fun x => ?_, fun x y z h1 h2 => ?_, fun x y z h1 h2 => ?_⟩
    · simp
    · simp only [decide_eq_true_eq] at *; omega
    · simp only [decide_eq_false_iff_not] at *; omega
  have get_val : ∀ (e : Array {k : Nat // k < nds.length}) (t : Nat), t < e.size → (e.toList.map (·.1)).getD t 0 = (e[t]!).1 := fun e t ht => by
    rw [List.getD_eq_getElem?_getD, List.getElem?_map, Array.getElem?_toList, getElem!_pos e t ht, Array.getElem?_eq_getElem ht]; rfl
  have hH : Holds enc w blk 0 d := fun t ht => by
    have h := hc t (by omega)
    rw [Nat.zero_add]
    refine ⟨?_, h.2⟩
    rw [h.1, henc, ← hdl, get_val d t ht]
  rw [← hsz] at hB h2 hlen ⊢
  have hless : LessReads Tryz.prog 47 #[.pointer (some ⟨B, 0, none⟩)] enc lt blk 0 d.size w := by
    intro m os dk hs i j hi hj
    have e : sortWorld enc w blk 0 m dk os = putRow enc (grow (Sort.ahead w m) os) blk 0 dk := by
      unfold sortWorld; rw [putRow_grow _ (Sort.ahead w m) _ blk 0 _ hblk]
    have hHg : Holds enc (grow (Sort.ahead w m) os) blk 0 d := holds_grow _ _ _ blk 0 d hblk (holds_ahead _ _ _ _ _ _ hH)
    have hcell : ∀ t, t < d.size → (sortWorld enc w blk 0 m dk os).cell? ⟨blk, t, none⟩ = some (okey (tyN nds) ob (dk[t]!).1) := fun t ht => by
      rw [e]
      have h := cell?_putRow enc _ blk 0 d dk hHg hs t (by omega)
      rw [Nat.zero_add] at h
      rw [h, henc]
    have hother : ∀ (a : Addr) (v : Value), a.block ≠ blk → a.block < w.heap.size → w.cell? a = some v → (sortWorld enc w blk 0 m dk os).cell? a = some v := fun a v ha hlt hv => by
      rw [e, cell?_putRow_other _ _ blk 0 dk _ (Or.inl ha), cell?_grow _ _ _ (show a.block < (Sort.ahead w m).heap.size from hlt)]
      exact hv
    have hfi := hob (dk[i]!).1 (dk[i]!).2
    have hfj := hob (dk[j]!).1 (dk[j]!).2
    rw [hlt]
    exact less47 blk c B d.size _ (tyN nds (dk[i]!).1) (tyN nds (dk[j]!).1) (ob (dk[i]!).1) (ob (dk[j]!).1) _ _ (tyN_oty _ _) (tyN_oty _ _) (hother _ _ hBb hBl hB) i j (by omega) (by omega) (hcell i hi) (hcell j hj)
      (hother _ _ hfi.2.1 hfi.2.2 hfi.1) (hother _ _ hfj.2.1 hfj.2.2 hfj.1)
  have hS := Any.sort_Slice_sorted Tryz.sl6 60 82 siT siE (by kernel_rfl) (by kernel_rfl) (by kernel_rfl) (by kernel_rfl) 20 (fun _ => by kernel_rfl) (by kernel_rfl) (fun _ => by kernel_rfl) enc (fun x => by rw [henc]; rfl) lt hO 47 _
    (enters_of Tryz.func47 (by kernel_rfl) rfl) blk 0 c d h2 (by omega) 70 (by rw [siK _ h2]; kernel_rfl) false
    (fun args W => run_callFunc_extern Tryz.func70 (by kernel_rfl) (by kernel_rfl) (by kernel_rfl) (e := Extern.ReflectliteSwapper.swap false) (by kernel_rfl) args W) w hless hH hblk
  change Calls Tryz.prog 46 _ _ _ at hS
  refine hS.mono ?_
  rintro e w' ⟨rfl, d', n, os, ⟨hps, _, hperm⟩, _, rfl⟩
  refine ⟨rfl, d'.toList.map (·.1), ?_, ?_, fun t ht => ?_⟩
  · rw [← hdl]
    refine List.Perm.map _ ?_
    have e1 : d'.extract 0 d.size = d' := by rw [← hps]; simp
    have e2 : d.extract 0 d.size = d := by simp
    rw [e1, e2] at hperm
    exact hperm
  · have h1 : Touch (fun k => k = blk) w (putRow enc (Sort.ahead w n) blk 0 d') := by
      have h := putRow_touch enc (Sort.ahead w n) blk 0 d'
      exact ⟨h.os, h.tape, h.output, h.size, h.block⟩
    exact h1.trans (grow_touch _ _) (fun _ _ h => h.elim)
  · rw [get_val d' t (by omega), cell?_grow _ _ _ (by simp [putRow, mapBlock]; exact hblk)]
    have h := cell?_putRow enc (Sort.ahead w n) blk 0 d d' (holds_ahead _ _ _ _ _ _ hH) hps t (by omega)
    rw [Nat.zero_add] at h
    rw [h, henc]


theorem nodup_lt_length : ∀ (n : Nat) (L : List Nat), L.Nodup → (∀ k ∈ L, k < n) → L.length ≤ n := by
  intro n
  induction n with
  | zero =>
    intro L _ h
    cases L with
    | nil => simp
    | cons a L => have := h a (by simp); omega
  | succ n ih =>
    intro L hn h
    by_cases hm : n ∈ L
    · have h1 := ih (L.erase n) (hn.erase n) (fun k hk => by
        have h2 := h k (List.mem_of_mem_erase hk)
        have h3 : k ≠ n := fun e => by rw [e] at hk; exact (List.Nodup.not_mem_erase hn) hk
        omega)
      rw [List.length_erase_of_mem hm] at h1
      omega
    · have := ih L hn (fun k hk => by
        have h2 := h k hk
        have h3 : k ≠ n := fun e => hm (e ▸ hk)
        omega)
      omega

theorem nodup_sub_length : ∀ (D L : List Nat), D.Nodup → (∀ k ∈ D, k ∈ L) → D.length ≤ L.length := by
  intro D
  induction D with
  | nil => intro L _ _; simp
  | cons a D ih =>
    intro L hn hs
    have ha := hs a (by simp)
    obtain ⟨h1, h2⟩ := List.nodup_cons.1 hn
    have := ih (L.erase a) h2 (fun k hk => by
      have hne : k ≠ a := fun e => h1 (e ▸ hk)
      exact (List.mem_erase_of_ne hne).2 (hs k (by simp [hk])))
    rw [List.length_erase_of_mem ha] at this
    have hp := List.length_pos_of_mem ha
    simp; omega

/-- sort.Slice over the list in its box: whatever its length. -/
theorem sort_any {nds : List Nd} {ob : Nat → Nat} (D : List Nat) (hds : ∀ k ∈ D, k < nds.length) (hlen : D.length ≤ 4096) (bs bb : Nat) (v : Value) (w : World)
    (hob : ∀ j, j < nds.length → w.heap[ob j]? = some (.cells #[.string ⟨#[]⟩, .int .u32 (rd_Nd nds j).od, .int .i64 (j : Int)] (oEl (tyN nds j)) (0, 0)))
    (hbox : w.heap[bb]? = some (.cells #[v] 60 (0, 0))) (hR : (Kd.raw 1).R 82 w bs (fun _ => True) v (D.map fun k => [okey (tyN nds) ob k])) :
    Calls Tryz.prog 46 #[.iface 60 v, .func (.func 47) #[] #[.pointer (some ⟨bb, 0, none⟩)]] w fun e w' =>
      e = .returned (.tuple #[]) ∧ ∃ D' : List Nat, D'.Perm D ∧ Touch (fun k => v.ownBlock = some k) w w' ∧ ∃ A c, v = .slice A D.length c ∧ ∀ t, t < D.length → ∃ g, A = some ⟨g, 0, none⟩ ∧ w'.cell? ⟨g, t, none⟩ = some (okey (tyN nds) ob (D'.getD t 0)) := by
  by_cases h0 : D.length = 0
  · obtain ⟨A, c, hv, _, _⟩ := Kd.R_reads hR
    rw [List.length_map] at hv
    subst hv
    refine (sort_tiny A D.length c (by omega) _ _ _ w).mono ?_
    rintro e w' ⟨rfl, hT⟩
    exact ⟨rfl, D, List.Perm.refl _, hT.mono (fun _ _ h => h.elim), A, c, rfl, fun t ht => by omega⟩
  · obtain ⟨g, cap, hv, hg, hlt, cel, hcel⟩ := Kd.R_form hR (by rw [List.length_map]; omega)
    rw [List.length_map] at hv
    subst hv
    have hcell : ∀ t, t < D.length → w.cell? ⟨g, t, none⟩ = some (okey (tyN nds) ob (D.getD t 0)) ∧ w.frozen? ⟨g, t, none⟩ = false := fun t ht => by
      obtain ⟨c, hcl, hM, hcc, hfr⟩ := Kd.R_elem hR [] (t : Int) (by omega) (by omega)
      have hx : c = [okey (tyN nds) ob (D.getD t 0)] := by
        have h := hM.1
        rw [Int.toNat_natCast, List.getD_eq_getElem?_getD, List.getElem?_map, List.getElem?_eq_getElem ht] at h
        rw [h, List.getD_eq_getElem?_getD, List.getElem?_eq_getElem ht]; rfl
      have h1 := hcc 0 _ (by rw [hx]; rfl)
      have h2 := hfr 0
      rw [Int.toNat_natCast, show t * (Kd.raw 1).sz + 0 = t from by show t * 1 + 0 = t; omega] at h1 h2
      exact ⟨h1, h2⟩
    by_cases h2 : 2 ≤ D.length
    · refine (sort_deps D hds cap bb g w (fun j hj => ⟨(blk_cell (hob j hj) 1).trans rfl, fun e => ?_, blk_lt (hob j hj)⟩) ((blk_cell hbox 0).trans rfl) (fun e => ?_) (blk_lt hbox) hlt hcell hlen h2).mono ?_
      · have h := hob j hj
        rw [e, hcel] at h; injection h with h; injection h with _ h _
        exact oEl_ne nds j 82 (by decide) h.symm
      · rw [e, hcel] at hbox; injection hbox with h; injection h with _ h _; exact absurd h (by decide)
      · rintro e w' ⟨rfl, ds', hp, hT, hc⟩
        exact ⟨rfl, ds', hp, hT.mono (fun k _ hk => by rw [hk]; rfl), some ⟨g, 0, none⟩, cap, rfl, fun t ht => ⟨g, rfl, hc t ht⟩⟩
    · refine (sort_tiny (some ⟨g, 0, none⟩) D.length cap (by omega) _ _ _ w).mono ?_
      rintro e w' ⟨rfl, hT⟩
      exact ⟨rfl, D, List.Perm.refl _, hT.mono (fun _ _ h => h.elim), some ⟨g, 0, none⟩, cap, rfl, fun t ht => ⟨g, rfl, hT.cell (hcell t ht).1 (fun h => h)⟩⟩

end Go.Proofs.YtgaadjgfjiljjaaGreat

/- findPath (39): the walk. Conditions: what build leaves (Built), a map of what was seen. -/
namespace Go.Proofs.YtgaadjgfjiljjaaGreat
open Go.RowKit Go.Proofs.YtgaadjgfjiljjaaGreatW.PrintWords Go.Proofs.YtgaadjgfjiljjaaGreatW.PrintLast Go.Proofs.YtgaadjgfjiljjaaGreatW.PrintMore
open Go.ChangeMaps (setBlock)
set_option linter.unusedVariables false
set_option linter.unusedSimpArgs false

theorem info82 : (Tryz.prog.info? 82).map (fun i => (i.zero, i.size, i.bytes)) = some (some .nilIface, 1, 16) := by kernel_rfl
theorem zero4 (w : World) : (zeroValue 4).run Tryz.prog w = .ok (.bool false) w := by kernel_rfl

/-- A step of a range over a map, both ways. -/
theorem next_cases {P : Program} {w : World} {r : Nat} {m : Option Nat} {f g : Nat → Value} {L D : List Nat} (h : IterO w r m f g L D) (ty : TypeId) :
    ((∀ i ∈ L, i ∈ D) ∧ (Instr.next (.pointer (some ⟨r, 0, none⟩)) false ty).run P w = .ok (.tuple #[.bool false]) w) ∨
    ∃ j w2, j ∈ L ∧ j ∉ D ∧ (Instr.next (.pointer (some ⟨r, 0, none⟩)) false ty).run P w = .ok (.tuple #[.bool true, f j, g j]) w2 ∧ Touch (fun k => k = r) w w2 ∧ IterO w2 r m f g L (D ++ [j]) ∧
      (Instr.entry (.pointer (some ⟨r, 0, none⟩))).run P w2 = .ok (.tuple #[f j, g j]) w2 := by
  rcases next_run (P := P) ty h with h | ⟨j, w1, o, h1, h2, h3, h4, h5⟩
  · exact .inl h
  · refine .inr ⟨j, _, h1, h2, h4, ?_, h5, entry_run h5⟩
    rcases h3 with rfl | rfl
    · exact touch_set _ _ _
    · exact Touch.setBlock (S := fun k => k = r) (Touch.refl _ _).drew (fun _ => rfl) _

theorem getD_app_l (a b : List Nat) (i : Nat) (h : i < a.length) : (a ++ b).getD i 0 = a.getD i 0 := by rw [List.getD_eq_getElem?_getD, List.getElem?_append_left h, List.getD_eq_getElem?_getD]
theorem getD_app_one (a : List Nat) (d : Nat) : (a ++ [d]).getD a.length 0 = d := by simp [List.getD_eq_getElem?_getD]

/-- A list of one, made anew. -/
theorem R_one (W : World) (x : Value) (b : Nat) (hx : x.oneCell' = true) (hb : b ≤ W.heap.size) : (Kd.raw 1).R 82 (W.alloc (.cells #[x] 82)) b (fun _ => True) (.slice (some ⟨W.heap.size, 0, none⟩) 1 1) [[x]] := by
  refine ⟨fun _ _ => trivial, ?_⟩
  have hr : Reps (fun (y : List Value) cs => cs = y ∧ cs.length = 1 ∧ ∀ u ∈ cs, u.oneCell' = true) 1 [[x]] [x] := ⟨rfl, fun j p hj => by
    rcases j with _ | j
    · simp at hj; subst hj
      exact ⟨rfl, rfl, fun u hu => by simp at hu; subst hu; exact hx⟩
    · simp at hj⟩
  exact OwnRow.lit (e := 82) W b hr hb (by simp)

/-- Told from its end to its beginning: each one refers to the one ahead of it. -/
def PathOk (DJ : Nat → List Nat) (f t : Nat) (p : List Nat) : Prop := p.head? = some t ∧ (∀ i, i + 1 < p.length → p.getD i 0 ∈ DJ (p.getD (i + 1) 0)) ∧ (∀ x, p.getLast? = some x → x ∈ DJ f)

/-- What findPath leaves. -/
def FindPost (nds : List Nd) (DJ : Nat → List Nat) (ob : Nat → Nat) (sb f t : Nat) (SL : List Nat) (w : World) (e : Ending) (w' : World) : Prop := ∃ (v : Value) (SL' : List Nat), e = .returned v ∧ MapL w' sb (okey (tyN nds) ob) yes SL' ∧
  Touch (fun k => k = sb) w w' ∧ (∀ k ∈ SL, k ∈ SL') ∧ (∀ k ∈ SL', k < nds.length) ∧
  ((v = .slice none 0 0 ∧ f ∈ SL' ∧ ∀ x ∈ SL', x ∉ SL → ∀ k ∈ DJ x, k ≠ t ∧ k ∈ SL') ∨
   (∃ p : List Nat, p ≠ [] ∧ (∀ k ∈ p, k < nds.length) ∧ p.length + SL.length ≤ SL'.length ∧ PathOk DJ f t p ∧ (Kd.raw 1).R 82 w' w.heap.size (fun _ => True) v (p.map fun k => [okey (tyN nds) ob k])))

section
variable {nds : List Nd} {base B nf ck lb om : Nat} {ob di dm : Nat → Nat} {DJ : Nat → List Nat}

set_option maxHeartbeats 8000000 in
set_option maxRecDepth 100000 in
theorem findPath_seen {w : World} (hBu : Built nds base B nf ck lb om ob di dm DJ w) (sb f t : Nat) (SL : List Nat) (hS : MapL w sb (okey (tyN nds) ob) yes SL) (hSn : ∀ k ∈ SL, k < nds.length) (hf : f < nds.length) (ht : t < nds.length) (hm : f ∈ SL) :
    Calls Tryz.prog 39 #[.map (some om), okey (tyN nds) ob f, okey (tyN nds) ob t, .map (some sb)] w (FindPost nds DJ ob sb f t SL w) := by
  have hka := key_okey hBu.objs (K := 82) Tryz.underlying82 yes SL hSn f hf
  have hl := lookup_found (P := Tryz.prog) (T := 87) Tryz.underlying87 hS hka hm dec_iff false
  have hl1 : (Instr.lookup 87 (.map (some sb)) (okey (tyN nds) ob f) false).run Tryz.prog w = .ok (.bool true) w := hl
  have HS := Aside0.mk hS
  have HSN := Aside0.mk hSn
  have HM := Aside0.mk hm
  clear hka hl hBu hS hSn hm
  generalize okey (tyN nds) ob f = kf at *
  go_enter Tryz.func39, Tryz.ntmps39
  go_wp2_with fail
  go_ret
  exact ⟨_, SL, rfl, HS.out, Touch.refl _ _, fun k hk => hk, HSN.out, .inl ⟨rfl, HM.out, fun x hx hn => absurd hx hn⟩⟩


set_option maxHeartbeats 8000000 in
set_option maxRecDepth 100000 in
theorem findPath_of (m : Nat) : ∀ {w : World} (hBu : Built nds base B nf ck lb om ob di dm DJ w) (sb f t : Nat) (SL : List Nat) (hS : MapL w sb (okey (tyN nds) ob) yes SL) (hSB : B ≤ sb) (hSn : ∀ k ∈ SL, k < nds.length) (hf : f < nds.length) (ht : t < nds.length)
    (hlen : nds.length ≤ 4096) (hm : nds.length ≤ SL.length + m),
    Calls Tryz.prog 39 #[.map (some om), okey (tyN nds) ob f, okey (tyN nds) ob t, .map (some sb)] w (FindPost nds DJ ob sb f t SL w) := by
  induction m with
  | zero =>
    intro w hBu sb f t SL hS hSB hSn hf ht hlen hm
    refine findPath_seen hBu sb f t SL hS hSn hf ht ?_
    apply Classical.byContradiction
    intro hn
    have hnd : (f :: SL).Nodup := List.nodup_cons.2 ⟨hn, hS.nodup⟩
    have := nodup_lt_length nds.length (f :: SL) hnd (fun x hx => by
      rcases List.mem_cons.1 hx with rfl | hx
      · exact hf
      · exact hSn x hx)
    simp at this; omega
  | succ m ih =>
    intro w hBu sb f t SL hS hSB hSn hf ht hlen hm
    by_cases hfs : f ∈ SL
    · exact findPath_seen hBu sb f t SL hS hSn hf ht hfs
    have IH := Aside0.mk @ih
    have hu82 := Tryz.underlying82
    have hka := key_okey hBu.objs (K := 82) Tryz.underlying82 yes SL hSn f hf
    have hl1 : (Instr.lookup 87 (.map (some sb)) (okey (tyN nds) ob f) false).run Tryz.prog w = .ok (.bool false) w := lookup_absent (P := Tryz.prog) (T := 87) Tryz.underlying87 hS hka (dec_absent hfs) (zero4 w) false
    obtain ⟨o, hu1, hM1⟩ := update_absent (P := Tryz.prog) (T := 87) Tryz.underlying87 hS hka (dec_absent hfs) hfs
    have hT1 := touch_set w sb o
    obtain ⟨w1, hw1⟩ : ∃ w1, w1 = setBlock w sb o := ⟨_, rfl⟩
    rw [← hw1] at hu1 hM1 hT1
    have hu1' : (Instr.mapUpdate 87 (.map (some sb)) (okey (tyN nds) ob f) (.bool true)).run Tryz.prog w = .ok () w1 := hu1
    have hTb : Touch (fun _ => False) w1 (w1.alloc (.cells #[.slice none 0 0] 60)) := (Touch.refl _ _).alloc _
    have hT1b : Touch (fun k => k = sb) w (w1.alloc (.cells #[.slice none 0 0] 60)) := hT1.alloc _
    have hBub := hBu.touch hT1b (fun k hk hlt => by omega)
    have hl2 := hBub.look hf false
    have hl2' : (Instr.lookup 66 (.map (some om)) (okey (tyN nds) ob f) false).run Tryz.prog (w1.alloc (.cells #[.slice none 0 0] 60)) = .ok (.pointer (some ⟨di f, 0, none⟩)) (w1.alloc (.cells #[.slice none 0 0] 60)) := hl2
    obtain ⟨_, _, _, _, lv, ms, hdc, _⟩ := hBub.dec f hf
    have hdc2 : (w1.alloc (.cells #[.slice none 0 0] 60)).cell? ⟨di f, 2, none⟩ = some (.map (some (dm f))) := (blk_cell hdc 2).trans rfl
    obtain ⟨o2, hr2, hI2⟩ := range_run (P := Tryz.prog) (T := 87) Tryz.underlying87 (some (dm f)) (hBub.dep f hf)
    obtain ⟨r, hr⟩ : ∃ r, r = (w1.alloc (.cells #[.slice none 0 0] 60)).heap.size := ⟨_, rfl⟩
    obtain ⟨w2, hw2⟩ : ∃ w2, w2 = (w1.alloc (.cells #[.slice none 0 0] 60)).alloc o2 := ⟨_, rfl⟩
    rw [← hr, ← hw2] at hr2 hI2
    have HB := Aside0.mk (blk_lt hBu.l)
    have hT2 : Touch (fun k => k = sb) w w2 := by rw [hw2]; exact hT1b.alloc _
    have hbx : w2.heap[w1.heap.size]? = some (.cells #[.slice none 0 0] 60 (0, 0)) := by rw [hw2]; exact (heap_alloc_old _ _ (by simp)).trans (heap_alloc_new w1 _)
    have HBX := Aside0.mk hbx
    have HT2 := Aside0.mk hT2
    have HI2 := Aside0.mk hI2
    have HM2 := Aside0.mk (show MapL w2 sb (okey (tyN nds) ob) yes (SL ++ [f]) from hM1.same (by rw [hw2]; exact (heap_alloc_old _ _ (by have := hM1.lt; simp; omega)).trans (heap_alloc_old _ _ hM1.lt)))
    have HBU := Aside0.mk hBu
    have HSB := Aside0.mk hSB
    have HSN := Aside0.mk hSn
    have HFS := Aside0.mk hfs
    have HLEN := Aside0.mk hlen
    have HMM := Aside0.mk hm
    have HR1 := Aside0.mk (show w.heap.size ≤ w1.heap.size from hT1.size)
    have HSL := Aside0.mk hS.lt
    have HNSF := Aside0.mk (show (SL ++ [f]).Nodup from hM1.nodup)
    have HRR := Aside0.mk (show r = w1.heap.size + 1 by rw [hr]; simp)
    have HDN := Aside0.mk (hBu.depn f hf)
    have HNDJ := Aside0.mk (hBu.dep f hf).nodup
    clear hka hu1 hM1 hT1 hTb hT1b hBub hl2 hdc hI2 hT2 hbx hBu hSB hSn hfs hlen hm hr hw2 hw1 hS ih
    go_enter Tryz.func39, Tryz.ntmps39
    go_wp2_with fail
    clear hl1 hu1' hl2' hdc2 hr2
    generalize hbb : w1.heap.size = bb at HBX HRR HR1 ⊢
    clear hbb
    have HW2 := Aside0.mk (show r + 1 ≤ w2.heap.size from HI2.out.lt)
    go_loopg [10] (DJ f).length (fun kq v10 w' => ∃ (D : List Nat) (v : Value), Aside0 (kq + D.length = (DJ f).length) ∧ Aside0 (IterO w' r (some (dm f)) (okey (tyN nds) ob) yes (DJ f) D) ∧ Aside0 (w'.heap[bb]? = some (.cells #[v] 60 (0, 0))) ∧ Aside0 ((Kd.raw 1).R 82 w' (r + 1) (fun _ => True) v (D.map fun k => [okey (tyN nds) ob k])) ∧ Aside0 (Touch (fun k => k = sb) w w') ∧ Aside0 (MapL w' sb (okey (tyN nds) ob) yes (SL ++ [f])))
    case atStart => exact ⟨[], .slice none 0 0, ⟨rfl⟩, HI2, HBX, ⟨Kd.R_nil _ _ _ _ _⟩, HT2, HM2⟩
    case round =>
      clear HI2 HBX HT2 HM2
      obtain ⟨D, v, HK, HI, HBX, HR, HT, HM⟩ := hrel
      have hgl := blk_lt HBX.out
      have hbx0 : wr.cell? ⟨bb, 0, none⟩ = some v := (blk_cell HBX.out 0).trans rfl
      have hDl : D.length ≤ nds.length := nodup_lt_length _ _ HI.out.sub.1 (fun k hk => HDN.out k (HI.out.sub.2 k hk))
      have HDL := Aside0.mk hDl
      clear hDl
      rcases next_cases (P := Tryz.prog) HI.out 0 with ⟨hall, hrun⟩ | ⟨j, w3, hjL, hjD, hrun, hT3, hI3, hen⟩
      · have HALL := Aside0.mk hall
        have hBr := HBU.out.touch HT.out (fun k hk hlt => by have := HSB.out; omega)
        have HBR := Aside0.mk hBr
        obtain ⟨A, c, hv, _, _⟩ := Kd.R_reads HR.out
        rw [List.length_map] at hv
        subst hv
        have hNB : (Value.slice A D.length c).ownBlock ≠ some bb := fun he => by
          obtain ⟨cells, hc⟩ := Kd.R_typed HR.out _ he
          rw [HBX.out] at hc; injection hc with hc; injection hc with _ hc _; exact absurd hc (by decide)
        have HNB := Aside0.mk hNB
        have HDJ := Aside0.mk (show ∀ k ∈ D, k ∈ DJ f from HI.out.sub.2)
        clear hall hBr hNB
        go_wp2_with (go_at_call 46; refine (sort_any (nds := nds) (ob := ob) D (fun k hk => HDN.out k (HDJ.out k hk)) (by have := HDL.out; have := HLEN.out; omega) (r + 1) bb (.slice A D.length c) _ (fun j hj => (HBR.out.obj j hj).2.2) HBX.out HR.out).mono ?_; rintro e w5 ⟨rfl, D', hp, hT5, A5, c5, hv5, hc5⟩; injection hv5 with hA5 _ _; subst hA5; have HP5 := Aside0.mk hp; have HT5 := Aside0.mk hT5; have HC5 := Aside0.mk hc5; have hbx5 : w5.cell? ⟨bb, 0, none⟩ = some (.slice A D.length c) := HT5.out.cell hbx0 HNB.out; clear hp hT5 hc5)
        have HWS := Aside0.mk HT5.out.size
        have HRW := Aside0.mk (show w.heap.size ≤ r by have := HRR.out; have := HR1.out; omega)
        have HOWN := Aside0.mk (show ∀ k, (Value.slice A D.length c).ownBlock = some k → r + 1 ≤ k from Kd.R_base HR.out)
        have HTT := Aside0.mk (show Touch (fun k => k = sb) w w5 from HT.out.trans HT5.out (fun k hk he => by have := HOWN.out k he; have := HRW.out; omega))
        have HM5 := Aside0.mk (HM.out.same (HT5.out.block _ HM.out.lt (fun he => by have := HOWN.out _ he; have := HRW.out; have := HSL.out; omega)))
        clear HM HT HBR
        go_loopg [40] D.length (fun kq v40 w' => ∃ (i : Nat) (SI : List Nat), v40 = .int .i64 (i : Int) ∧ Aside0 (kq + i = D.length) ∧ Aside0 (MapL w' sb (okey (tyN nds) ob) yes SI) ∧ Aside0 (Touch (fun k => k = sb) w5 w') ∧ Aside0 (∀ k ∈ SL ++ [f], k ∈ SI) ∧ Aside0 (∀ k ∈ SI, k < nds.length) ∧
          Aside0 (∀ x ∈ SI, x ∉ SL → x ≠ f → ∀ k ∈ DJ x, k ≠ t ∧ k ∈ SI) ∧ Aside0 (∀ q, q < i → D'.getD q 0 ≠ t ∧ D'.getD q 0 ∈ SI))
        case atStart =>
          refine ⟨0, SL ++ [f], rfl, ⟨by omega⟩, HM5, ⟨Touch.refl _ _⟩, ⟨fun k hk => hk⟩, ⟨fun k hk => ?_⟩, ⟨fun x hx h1 h2 => ?_⟩, ⟨fun q hq => by omega⟩⟩
          · rcases List.mem_append.1 hk with h | h
            · exact HSN.out k h
            · simp at h; subst h; exact hf
          · rcases List.mem_append.1 hx with h | h
            · exact absurd h h1
            · simp at h; exact absurd h h2
        case round =>
          clear HM5
          obtain ⟨i, SI, rfl, HKI, HMI, HTI, HSI, HSIN, HCL, HQ⟩ := hrel
          by_cases ci : (i : Int) < (D.length : Int)
          · have hir : i < D.length := by omega
            have hci := decide_eq_true ci
            have hcin : decide (i < D.length) = true := decide_eq_true hir
            have hi0 : (0 : Int) ≤ (i : Int) := by omega
            obtain ⟨g, hA, hcg⟩ := HC5.out i hir
            subst hA
            obtain ⟨d, hd⟩ : ∃ d, d = D'.getD i 0 := ⟨_, rfl⟩
            rw [← hd] at hcg
            have HDI := Aside0.mk hd
            have hdm : d ∈ D := HP5.out.mem_iff.1 (by rw [hd, List.getD_eq_getElem?_getD, List.getElem?_eq_getElem (by rw [HP5.out.length_eq]; exact hir)]; exact List.getElem_mem _)
            have HDM := Aside0.mk (HDJ.out d hdm)
            have hdn := HDN.out d (HDJ.out d hdm)
            have hgr := HOWN.out g rfl
            have hcg' : wr.cell? ⟨g, i, none⟩ = some (okey (tyN nds) ob d) := HTI.out.cell hcg (by have := HRW.out; have := HSL.out; simp only; omega)
            unfold okey at hcg'
            have HBI := Aside0.mk (HBU.out.touch (HTT.out.trans HTI.out (fun k hk h => h)) (fun k hk hlt => by have := HSB.out; omega))
            have heq : (binOp .eql 82 (.iface (tyN nds d) (.pointer (some ⟨ob d, 0, none⟩))) (okey (tyN nds) ob t)).run Tryz.prog wr = .ok (.bool (decide (t = d))) wr := eql_iface_of (equal_okey HBI.out.objs (K := 82) Tryz.underlying82 d t hdn ht)
            have HDN2 := Aside0.mk hdn
            clear hd hdm hdn hgr hcg ci
            by_cases cd : t = d
            · have hdt : decide (t = d) = true := decide_eq_true cd
              rw [hdt] at heq
              subst cd
              have hwa : Touch (fun _ => False) wr (wr.alloc (.cells #[okey (tyN nds) ob t] 82)) := (Touch.refl _ _).alloc _
              have HRA := Aside0.mk (R_one wr (okey (tyN nds) ob t) w.heap.size rfl (Nat.le_trans (Nat.le_trans HTT.out.size HTI.out.size) (Nat.le_refl _)))
              have HMA := Aside0.mk (HMI.out.same (hwa.block _ HMI.out.lt (fun h => h)))
              have HTA := Aside0.mk ((HTT.out.trans HTI.out (fun k hk h => h)).trans hwa (fun k hk h => h.elim))
              clear hwa
              go_wp2_with fail
              go_ret
              refine ⟨_, SI, rfl, HMA.out, HTA.out, fun k hk => HSI.out k (by simp [hk]), HSIN.out, .inr ⟨[t], by simp, fun k hk => ?_, ?_, ⟨rfl, fun q hq => (by simp at hq), fun x hx => ?_⟩, HRA.out⟩⟩
              · simp at hk; subst hk; exact ht
              · have := nodup_sub_length (SL ++ [f]) SI (by have h := HMI.out; exact HNSF.out) HSI.out
                simp at this ⊢; omega
              · simp at hx; subst hx; exact HDM.out
            · have hdt : decide (t = d) = false := decide_eq_false cd
              rw [hdt] at heq
              have HCD := Aside0.mk cd
              clear cd hdt
              have HSIL := Aside0.mk (show SL.length + 1 ≤ SI.length by
                have := nodup_sub_length (SL ++ [f]) SI HNSF.out HSI.out
                simpa using this)
              have HWW := Aside0.mk (Nat.le_trans HTT.out.size HTI.out.size)
              go_wp2_with fail
              refine (IH.out HBI.out sb d t SI HMI.out HSB.out HSIN.out HDN2.out ht HLEN.out (by have := HMM.out; have := HSIL.out; omega)).mono ?_
              rintro e w6 ⟨v, S2, rfl, hM6, hT6, hsub6, hn6, hor⟩
              have HM6 := Aside0.mk hM6
              have HT6 := Aside0.mk hT6
              have HSUB6 := Aside0.mk hsub6
              have HN6 := Aside0.mk hn6
              clear hM6 hT6 hsub6 hn6 heq hcg'
              rcases hor with ⟨rfl, hd6, hcl6⟩ | ⟨p, hp0, hpn, hpl, hpo, hR6⟩
              · have HD6 := Aside0.mk hd6
                have HCL6 := Aside0.mk hcl6
                clear hd6 hcl6
                go_wp2_with fail
                go_roundg (gk - 1)
                case measure => have := HKI.out; omega
                case rel =>
                  refine ⟨i + 1, S2, congrArg (Value.int .i64) (by have := HDL.out; have := HLEN.out; unfold wrap64; omega), ⟨by have := HKI.out; omega⟩, HM6, ⟨HTI.out.trans HT6.out (fun _ _ h => h)⟩, ⟨fun k hk => HSUB6.out k (HSI.out k hk)⟩, HN6, ⟨fun x hx h1 h2 k hk => ?_⟩, ⟨fun q hq => ?_⟩⟩
                  · by_cases hxs : x ∈ SI
                    · have := HCL.out x hxs h1 h2 k hk
                      exact ⟨this.1, HSUB6.out k this.2⟩
                    · exact HCL6.out x hx hxs k hk
                  · by_cases e : q = i
                    · subst e
                      rw [← HDI.out]
                      exact ⟨fun e => HCD.out e.symm, HD6.out⟩
                    · have := HQ.out q (by omega)
                      exact ⟨this.1, HSUB6.out _ this.2⟩
              · obtain ⟨g6, cap6, hv6, _, _, _, _⟩ := Kd.R_form hR6 (by rw [List.length_map]; exact List.length_pos_iff.2 hp0)
                rw [List.length_map] at hv6
                subst hv6
                have HR6 := Aside0.mk hR6
                have HPN := Aside0.mk hpn
                have HPL := Aside0.mk hpl
                have HPO := Aside0.mk hpo
                have HP0 := Aside0.mk hp0
                have HS2 := Aside0.mk (nodup_lt_length _ _ HM6.out.nodup HN6.out)
                clear hR6 hpn hpl hpo hp0
                go_wp2_with ((with_reducible refine gate_builtin (b := .append) (xs := #[.tmp 56, .tmp 58]) rfl ?_); at_builtin; refine Kd.R_append (Kd.raw 1) (W := w6) (w0 := w6) w.heap.size rfl (.tmp 56) (.tmp 58) 60 82 .nilIface 16 rfl Tryz.underlying60 info82 rfl (by decide) (by omega) (.slice (some ⟨g6, 0, none⟩) p.length cap6) (p.map fun k => [okey (tyN nds) ob k]) [okey (tyN nds) ob d] [okey (tyN nds) ob d] (fun _ => True) (fun _ => False) rfl (by first | rfl | (simp; done) | (simp; rfl)) ?aP (fun _ hk => hk.elim) (fun _ _ => trivial) ?aO ?aB ?aS ?aL ?_; (case aP => exact ⟨rfl, rfl, fun u hu => (by simp at hu; subst hu; rfl)⟩); (case aO => exact Kd.R_lower HR6.out HWW.out); (case aB => exact Below.refl _ _); (case aS => exact Nat.le_trans HWW.out HT6.out.size); (case aL => have := HPL.out; have := HS2.out; have := HLEN.out; simp; omega); intro v59 w7 ho hb hg hat; have HT7 := Aside0.mk (Touch.of_grown hg); have HR7 := Aside0.mk ho; clear ho hb hg hat)
                go_ret
                have hlt : ∀ k, k < w6.heap.size → (Value.slice (some ⟨g6, 0, none⟩) p.length cap6).ownBlock = some k → wr.heap.size ≤ k := fun k _ h => Kd.R_base HR6.out k h
                refine ⟨_, S2, rfl, HM6.out.same (HT7.out.block _ HM6.out.lt (fun h => by have := hlt _ HM6.out.lt h; have := HSL.out; have := HWW.out; omega)), ((HTT.out.trans HTI.out (fun _ _ h => h)).trans HT6.out (fun _ _ h => h)).trans HT7.out (fun k hk h => by have := Kd.R_base HR6.out k h; have := HWW.out; omega), fun k hk => HSUB6.out k (HSI.out k (by simp [hk])), HN6.out, .inr ⟨p ++ [d], by simp, fun k hk => ?_, ?_, ⟨?_, fun q hq => ?_, fun x hx => ?_⟩, by rw [List.map_append]; exact HR7.out⟩⟩
                · rcases List.mem_append.1 hk with h | h
                  · exact HPN.out k h
                  · simp at h; subst h; exact HDN2.out
                · have := HPL.out; have := HSIL.out; simp; omega
                · rw [List.head?_append, HPO.out.1]; rfl
                · by_cases e : q + 1 < p.length
                  · rw [getD_app_l p [d] q (by omega), getD_app_l p [d] (q + 1) e]
                    exact HPO.out.2.1 q e
                  · have hq' : q + 1 = p.length := by simp at hq; omega
                    have hpos := List.length_pos_iff.2 HP0.out
                    rw [getD_app_l p [d] q (by omega), hq', getD_app_one]
                    refine HPO.out.2.2 (p.getD q 0) ?_
                    rw [List.getLast?_eq_getElem?, List.getD_eq_getElem?_getD, show p.length - 1 = q by omega, List.getElem?_eq_getElem (show q < p.length by omega)]; rfl
                · rw [List.getLast?_append] at hx
                  simp at hx; subst hx; exact HDM.out
          · have hci := decide_eq_false ci
            have hcin : decide (i < D.length) = false := decide_eq_false (by omega)
            have HIE := Aside0.mk (show i = D.length by have := HKI.out; omega)
            clear ci
            go_wp2_with fail
            go_ret
            refine ⟨_, SI, rfl, HMI.out, HTT.out.trans HTI.out (fun _ _ h => h), fun k hk => HSI.out k (by simp [hk]), HSIN.out, .inl ⟨rfl, HSI.out f (by simp), fun x hx hn k hk => ?_⟩⟩
            by_cases e : x = f
            · subst e
              have hkD := HP5.out.mem_iff.2 (HALL.out k hk)
              obtain ⟨q, hq, he⟩ := List.getElem_of_mem hkD
              have h := HQ.out q (by rw [HIE.out, ← HP5.out.length_eq]; exact hq)
              rw [List.getD_eq_getElem?_getD, List.getElem?_eq_getElem hq] at h
              simp only [Option.getD_some, he] at h
              exact h
            · exact HCL.out x hx hn e k hk
      · have HJ := Aside0.mk (HDN.out j hjL)
        have HI3 := Aside0.mk hI3
        have HT3 := Aside0.mk hT3
        have HJD := Aside0.mk hjD
        have hbr : bb ≠ r := by have := HRR.out; omega
        have hbx3 : w3.cell? ⟨bb, 0, none⟩ = some v := HT3.out.cell hbx0 hbr
        have HBX3 := Aside0.mk (HT3.out.blk HBX.out hbr)
        have HR3 := Aside0.mk (R_touch HR.out rfl HT3.out (fun k hk ⟨cells, hc⟩ => by
          obtain ⟨m', a, s', c, hit⟩ := HI.out.it
          rw [hk, hit] at hc; cases hc))
        obtain ⟨A, c, hv, _, _⟩ := Kd.R_reads HR3.out
        rw [List.length_map] at hv
        subst hv
        unfold okey at hrun hen
        clear hjL hjD hI3 hT3 hbr hgl hbx0
        go_wp2_with ((with_reducible refine gate_builtin (b := .append) (xs := #[.tmp 30, .tmp 32]) rfl ?_); at_builtin; refine Kd.R_append (Kd.raw 1) (W := w3) (w0 := w3) (r + 1) rfl (.tmp 30) (.tmp 32) 60 82 .nilIface 16 rfl Tryz.underlying60 info82 rfl (by decide) (by omega) (.slice A D.length c) (D.map fun k => [okey (tyN nds) ob k]) [okey (tyN nds) ob j] [okey (tyN nds) ob j] (fun _ => True) (fun _ => False) rfl (by first | rfl | (simp; done) | (simp; rfl)) ?aP (fun _ hk => hk.elim) (fun _ _ => trivial) ?aO ?aB ?aS ?aL ?_; (case aP => exact ⟨rfl, rfl, fun u hu => (by simp at hu; subst hu; rfl)⟩); (case aO => exact HR3.out); (case aB => exact Below.refl _ _); (case aS => exact HI3.out.lt); (case aL => have := HDL.out; have := HLEN.out; simp; omega); intro v33 w4 ho hb hg hat; have HT4 := Aside0.mk (Touch.of_grown hg); have HNB := Aside0.mk (show (Value.slice A D.length c).ownBlock ≠ some bb from fun he => (by obtain ⟨cells, hc⟩ := Kd.R_typed HR3.out _ he; rw [HBX3.out] at hc; injection hc with hc; injection hc with _ hc _; exact absurd hc (by decide))); have HR4 := Aside0.mk ho; obtain ⟨A4, c4, hv4, _, _⟩ := Kd.R_reads ho; rw [show ((D.map fun k => [okey (tyN nds) ob k]) ++ [[okey (tyN nds) ob j]]).length = D.length + 1 from (by simp)] at hv4; subst hv4; have hbx4 : w4.cell? ⟨bb, 0, none⟩ = some (.slice A D.length c) := HT4.out.cell hbx3 HNB.out; have hfx4 : w4.frozen? ⟨bb, 0, none⟩ = false := (HT4.out.frozen (p := ⟨bb, 0, none⟩) (blk_lt HBX3.out) HNB.out).trans (blk_frozen HBX3.out 0); clear ho hb hg hat hbx3)
        go_roundg (gk - 1)
        case measure =>
          have h1 := HK.out
          have h2 : (D ++ [j]).length ≤ (DJ f).length := nodup_sub_length _ _ HI3.out.sub.1 HI3.out.sub.2
          simp at h2; omega
        case rel =>
          have h2 : (D ++ [j]).length ≤ (DJ f).length := nodup_sub_length _ _ HI3.out.sub.1 HI3.out.sub.2
          have hT35 : Touch (fun k => (Value.slice A D.length c).ownBlock = some k ∨ k = bb) w3 (w4.setCell ⟨bb, 0, none⟩ (.slice A4 (D.length + 1) c4)) := (HT4.out.mono (fun _ _ h => .inl h)).set_ (fun _ => .inr rfl) _
          have hno : ∀ k, (∀ cells T, w3.heap[k]? ≠ some (.cells cells T (0, 0))) → ¬ ((Value.slice A D.length c).ownBlock = some k ∨ k = bb) := fun k hm h => by
            rcases h with h | h
            · obtain ⟨cells, hc⟩ := Kd.R_typed HR3.out _ h; exact hm _ _ hc
            · rw [h] at hm; exact hm _ _ HBX3.out
          have hold : ∀ k, k < w.heap.size → ¬ ((Value.slice A D.length c).ownBlock = some k ∨ k = bb) := fun k hk h => by
            rcases h with h | h
            · have := Kd.R_base HR3.out _ h; have := HRR.out; have := HR1.out; omega
            · have := HR1.out; omega
          have hsl := HSL.out
          have hrw : r ≥ w.heap.size := by have := HRR.out; have := HR1.out; omega
          have hsz := HT.out.size
          refine ⟨D ++ [j], _, ⟨by have := HK.out; simp at h2 ⊢; omega⟩, ⟨HI3.out.same (hT35.block _ HI3.out.lt (hno _ (fun cells T he => ?_))) (fun b hb => ?_)⟩, ⟨blk_put (HT4.out.blk HBX3.out HNB.out) 0 _ rfl⟩, ⟨?_⟩, ⟨?_⟩, ⟨?_⟩⟩
          · obtain ⟨m', a, s', c', hit⟩ := HI3.out.it
            rw [hit] at he; cases he
          · injection hb with hb
            subst hb
            obtain ⟨_, _, _, bo, cl, si, cz, hmb, _⟩ := HI3.out
            exact hT35.block _ (blk_lt hmb) (hno _ (fun cells T he => by rw [hmb] at he; cases he))
          · rw [List.map_append]
            exact Kd.R_set HR4.out (HT4.out.blk HBX3.out HNB.out) (fun q hq => by rcases List.mem_cons.1 hq with rfl | hq; decide; cases hq) 0 _
          · exact (HT.out.trans HT3.out (fun k hk e => by omega)).trans hT35 (fun k hk h => absurd h (hold k hk))
          · exact (HM.out.same (HT3.out.block _ HM.out.lt (by omega))).same (hT35.block _ (by have := HT3.out.size; omega) (hold _ hsl))

end
end Go.Proofs.YtgaadjgfjiljjaaGreat
