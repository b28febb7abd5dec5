/- The closure 'ready' of Steps: whether all that a declaration needs is done. Conditions: those that each theorem names. -/
import Derived.Test.YtgaadjgfjiljjaaGreatXc
import Derived.Test.YtgaadjgfjiljjaaGreatXb
namespace Go.Proofs.YtgaadjgfjiljjaaGreat
open Go.RowKit Go.Proofs.YtgaadjgfjiljjaaGreatW.PrintWords Go.Proofs.YtgaadjgfjiljjaaGreatW.PrintLast Go.Proofs.YtgaadjgfjiljjaaGreatW.PrintMore
set_option linter.unusedVariables false
set_option linter.unusedSimpArgs false

/-- All that k needs is done. -/
def ReadyP (p : List It) (d : List Bool) (k : Nat) : Prop := ∀ r : Nat, r < totN p → Reach (fun k => k == 3) p k r → isvK (itA p (ow p r)).f0 = true → rdb d (ow p r : Int) = true
def ReadyPost (p : List It) (d : List Bool) (k : Nat) (w : World) (e : Ending) (w' : World) : Prop := ∃ b : Bool, e = .returned (.bool b) ∧ (b = true ↔ ReadyP p d k) ∧ Below w.heap.size w w'

set_option maxHeartbeats 4000000 in
set_option maxRecDepth 100000 in
theorem ready_of {p : List It} (hp : PkgOk p) (A0 : Option Addr) (c0 : Nat) (k : Nat) (hk : k < p.length) (d : List Bool) (Ad : Option Addr) (cd : Nat) (Ao : Option Addr) (co : Nat) (bp bd bo : Addr) (w : World)
    (hr0 : Kd.C kIt w A0 p.length p) (hc0 : p.length ≤ c0) (hd : Kd.bool.C w Ad d.length d) (hdl : d.length = p.length) (ho : (Kd.int .i64).C w Ao (ownersL p).length (ownersL p))
    (h1 : w.cell? bp = some (.slice A0 p.length c0)) (h2 : w.cell? bd = some (.slice Ad d.length cd)) (h3 : w.cell? bo = some (.slice Ao (ownersL p).length co)) :
    Calls Tryz.prog 26 #[.int .i64 (k : Int), .pointer (some bp), .pointer (some bd), .pointer (some bo)] w (ReadyPost p d k w) := by
  have HP := Aside0.mk hp
  have HR0 := Aside0.mk hr0
  have HC0 := Aside0.mk hc0
  have HD := Aside0.mk hd
  have HDL := Aside0.mk hdl
  have HO := Aside0.mk ho
  have HB2 := Aside0.mk h2
  have HB3 := Aside0.mk h3
  have HK := Aside0.mk hk
  have HOL := Aside0.mk (ownersL_length p)
  have HT := Aside0.mk hp.tot
  clear hp hr0 hc0 hd hdl ho h2 h3 hk
  go_enter Tryz.func26, Tryz.ntmps26
  go_wp2_with fail
  refine (needs_of HP.out _ _ k HK.out w HR0.out HC0.out).mono ?_
  rintro e w1 ⟨v10, out, rfl, hv, hn, hb⟩
  obtain ⟨A1, c1, rfl, hl1, hC1⟩ := Kd.R_reads hv
  have HC1 := Aside0.mk hC1
  have HN := Aside0.mk hn
  have HB := Aside0.mk hb
  clear hv hl1 hC1 hb hn h1
  go_wp2_with fail
  go_loopg [12] out.length (fun kq v12 w' => ∃ (j : Nat), v12 = .int .i64 (j : Int) ∧ Aside0 (kq + j = out.length) ∧ Aside0 (∀ q : Nat, q < j → rdb out (q : Int) = true → rdb d (ow p q : Int) = true) ∧ Aside0 (Below w1.heap.size w1 w'))
  case atStart => exact ⟨0, rfl, ⟨by omega⟩, ⟨fun i h => by omega⟩, ⟨Below.refl _ _⟩⟩
  case round =>
    obtain ⟨j, rfl, HKK, HI, HBr⟩ := hrel
    by_cases cj : (j : Int) < (out.length : Int)
    · have hjr : j < out.length := by omega
      have hcj := decide_eq_true cj
      have hj0 : (0 : Int) ≤ (j : Int) := by omega
      have hjt : j < totN p := by have := HN.out.1; omega
      obtain ⟨ho1, _, _, ho2⟩ := ow_spec p j hjt
      have hn64 : (j : Int) + 1 ≤ 9223372036854775807 := by have := HT.out; omega
      obtain ⟨a1, hA1, hx1⟩ := Kd.at_bool HC1.out (j : Int) hj0 cj
      subst hA1
      rw [Int.toNat_natCast] at hx1
      replace hx1 := (HBr.out.cell (World.block_lt_of_cell? w1 _ hx1)).trans hx1
      have HBW := Aside0.mk (below_step HB.out HBr.out)
      by_cases cb : rdb out (j : Int) = true
      · have hx1b : wr.cell? (a1.add j) = some (.bool true) := by rw [hx1]; exact congrArg (fun b => some (Value.bool b)) cb
        obtain ⟨ao, hAo, hxo⟩ := Kd.at_int HO.out (j : Int) hj0 (by rw [HOL.out]; omega)
        subst hAo
        rw [Int.toNat_natCast, ho2] at hxo
        have hjo : (j : Int) < ((ownersL p).length : Int) := by rw [HOL.out]; omega
        have hjo2 : j < (ownersL p).length := by rw [HOL.out]; omega
        obtain ⟨add, hAd, hxd⟩ := Kd.at_bool HD.out (ow p j : Int) (by omega) (by rw [HDL.out]; omega)
        subst hAd
        rw [Int.toNat_natCast] at hxd
        have hodl : (ow p j : Int) < (d.length : Int) := by rw [HDL.out]; omega
        have hodl2 : ow p j < d.length := by rw [HDL.out]; omega
        replace hxo := (HBW.out.cell (World.block_lt_of_cell? w _ hxo)).trans hxo
        replace hxd := (HBW.out.cell (World.block_lt_of_cell? w _ hxd)).trans hxd
        have hb2 := (HBW.out.cell (World.block_lt_of_cell? w _ HB2.out)).trans HB2.out
        have hb3 := (HBW.out.cell (World.block_lt_of_cell? w _ HB3.out)).trans HB3.out
        have CB := Aside0.mk cb
        clear hx1 cb cj ho1 ho2
        by_cases cd : rdb d (ow p j : Int) = true
        · have hxdb : wr.cell? (add.add (ow p j)) = some (.bool true) := by rw [hxd]; exact congrArg (fun b => some (Value.bool b)) cd
          have CD := Aside0.mk cd
          clear hxd cd
          go_wp2_with fail
          go_quiet (fail)
          go_wp2_with fail
          go_roundg (gk - 1)
          case measure => have := HKK.out; omega
          case rel => exact ⟨j + 1, by go_num, ⟨by have := HKK.out; omega⟩, ⟨fun q hq hqo => by
            rcases Nat.lt_or_ge q j with h | h
            · exact HI.out q h hqo
            · have : q = j := by omega
              subst this; exact CD.out⟩, ⟨pw_below_drewN HBr.out _⟩⟩
        · have hxdb : wr.cell? (add.add (ow p j)) = some (.bool false) := by rw [hxd]; exact congrArg (fun b => some (Value.bool b)) (Bool.eq_false_iff.mpr cd)
          have CD := Aside0.mk cd
          clear hxd cd
          go_wp2_with fail
          go_quiet (fail)
          go_wp2_with fail
          go_ret
          refine ⟨false, rfl, ⟨fun h => (by cases h), fun h => ?_⟩, pw_below_drewN HBW.out _⟩
          have h4 := (HN.out.2 j hjt).1 CB.out
          exact absurd (h j hjt h4.1 h4.2) CD.out
      · have hx1b : wr.cell? (a1.add j) = some (.bool false) := by rw [hx1]; exact congrArg (fun b => some (Value.bool b)) (Bool.eq_false_iff.mpr cb)
        have CB := Aside0.mk cb
        clear hx1 cb cj ho1 ho2
        go_wp2_with fail
        go_quiet (fail)
        go_wp2_with fail
        go_roundg (gk - 1)
        case measure => have := HKK.out; omega
        case rel => exact ⟨j + 1, by go_num, ⟨by have := HKK.out; omega⟩, ⟨fun q hq hqo => by
          rcases Nat.lt_or_ge q j with h | h
          · exact HI.out q h hqo
          · have : q = j := by omega
            subst this; exact absurd hqo CB.out⟩, ⟨pw_below_drewN HBr.out _⟩⟩
    · have hcj := decide_eq_false cj
      have hcj2 : decide (j < out.length) = false := decide_eq_false (by omega)
      have HJ := Aside0.mk (show out.length ≤ j by omega)
      clear cj
      go_wp2_with fail
      go_ret
      refine ⟨true, rfl, ⟨fun _ => ?_, fun _ => rfl⟩, below_step HB.out HBr.out⟩
      intro r hr hR hv
      have h1 := HN.out.1
      exact HI.out r (by have := HJ.out; omega) ((HN.out.2 r hr).2 ⟨hR, hv⟩)

end Go.Proofs.YtgaadjgfjiljjaaGreat

/- A frame: of the blocks that were there, those outside a set are as they were. Conditions: those that each theorem names. -/
namespace Go.Proofs.YtgaadjgfjiljjaaGreat
open Go.RowKit Go.Proofs.YtgaadjgfjiljjaaGreatW.PrintWords

structure Touch (S : Nat → Prop) (w w' : World) : Prop where
  os : w'.os = w.os
  tape : w'.tape = w.tape
  output : w'.output = w.output
  size : w.heap.size ≤ w'.heap.size
  block : ∀ k, k < w.heap.size → ¬ S k → w'.heap[k]? = w.heap[k]?

theorem Touch.refl (S : Nat → Prop) (w : World) : Touch S w w := ⟨rfl, rfl, rfl, Nat.le_refl _, fun _ _ _ => rfl⟩
theorem Touch.mono {S S' : Nat → Prop} {w w' : World} (h : Touch S w w') (hs : ∀ k, k < w.heap.size → S k → S' k) : Touch S' w w' :=
  ⟨h.os, h.tape, h.output, h.size, fun k hk hn => h.block k hk (fun hS => hn (hs k hk hS))⟩
theorem Touch.trans {S S' : Nat → Prop} {a b c : World} (h : Touch S a b) (k : Touch S' b c) (hs : ∀ i, i < a.heap.size → S' i → S i) : Touch S a c :=
  ⟨k.os.trans h.os, k.tape.trans h.tape, k.output.trans h.output, Nat.le_trans h.size k.size, fun i hi hn => (k.block i (Nat.lt_of_lt_of_le hi h.size) (fun hS => hn (hs i hi hS))).trans (h.block i hi hn)⟩
theorem Touch.of_below {S : Nat → Prop} {w w' : World} (h : Below w.heap.size w w') : Touch S w w' := ⟨h.os, h.tape, h.output, h.size, fun k hk _ => h.block k hk⟩
theorem Touch.below_step {S : Nat → Prop} {a b c : World} (h : Touch S a b) (k : Below b.heap.size b c) : Touch S a c := h.trans (Touch.of_below (S := fun _ => False) k) (fun _ _ hf => hf.elim)
theorem Touch.of_grown {w w' : World} {row : Option Nat} (h : w.grownBy w' row) : Touch (fun k => row = some k) w w' := ⟨h.os, h.tape, h.output, h.size, fun k hk hn => h.block k hk (fun e => hn e.symm)⟩
theorem Touch.grown {S : Nat → Prop} {a b c : World} {row : Option Nat} (h : Touch S a b) (k : b.grownBy c row) (hr : ∀ g, row = some g → g < a.heap.size → S g) : Touch S a c :=
  h.trans (Touch.of_grown k) (fun i hi e => hr i e hi)
theorem Touch.alloc {S : Nat → Prop} {a b : World} (h : Touch S a b) (o : Obj) : Touch S a (b.alloc o) := h.below_step ((Below.refl _ _).alloc (Nat.le_refl _) o)
theorem Touch.drewN {S : Nat → Prop} {a b : World} (h : Touch S a b) (n : Nat) : Touch S a (b.drewN n) := ⟨h.os, h.tape, h.output, h.size, h.block⟩
theorem Touch.drew {S : Nat → Prop} {a b : World} (h : Touch S a b) : Touch S a b.drew := ⟨h.os, h.tape, h.output, h.size, h.block⟩
theorem Touch.set_ {S : Nat → Prop} {a b : World} (h : Touch S a b) {p : Addr} (hp : p.block < a.heap.size → S p.block) (v : Value) : Touch S a (b.setCell p v) :=
  ⟨h.os, h.tape, h.output, by simpa [World.setCell] using h.size, fun k hk hn => by
    rw [Below.heap_setCell b p v k (fun e => hn (e ▸ hp (e ▸ hk)))]; exact h.block k hk hn⟩
theorem Touch.blk {S : Nat → Prop} {w w' : World} (h : Touch S w w') {g : Nat} {o : Obj} (hb : w.heap[g]? = some o) (hn : ¬ S g) : w'.heap[g]? = some o := (h.block g (blk_lt hb) hn).trans hb
theorem Touch.cell {S : Nat → Prop} {w w' : World} (h : Touch S w w') {p : Addr} {v : Value} (hc : w.cell? p = some v) (hn : ¬ S p.block) : w'.cell? p = some v :=
  (World.cell?_of_block (w := w) (h.block p.block (World.block_lt_of_cell? w _ hc) hn)).trans hc
theorem Touch.frozen {S : Nat → Prop} {w w' : World} (h : Touch S w w') {p : Addr} (hlt : p.block < w.heap.size) (hn : ¬ S p.block) : w'.frozen? p = w.frozen? p := World.frozen?_of_block (w := w) (h.block p.block hlt hn)
theorem Touch.below {S : Nat → Prop} {w w' : World} (h : Touch S w w') {B : Nat} (hB : B ≤ w.heap.size) (hn : ∀ k, k < B → ¬ S k) : Below B w w' := ⟨h.os, h.tape, h.output, h.size, fun k hk => h.block k (by omega) (hn k hk)⟩
/-- Behind an elder world. -/
theorem Touch.below_of {S : Nat → Prop} {w0 w w' : World} (h0 : Below w0.heap.size w0 w) (h : Touch S w w') (hn : ∀ k, k < w0.heap.size → ¬ S k) : Below w0.heap.size w0 w' :=
  ⟨h.os.trans h0.os, h.tape.trans h0.tape, h.output.trans h0.output, Nat.le_trans h0.size h.size, fun k hk => (h.block k (Nat.lt_of_lt_of_le hk h0.size) (hn k hk)).trans (h0.block k hk)⟩

end Go.Proofs.YtgaadjgfjiljjaaGreat

/- Steps: what is done in the end, and whether a cycle is told. Conditions: those that each theorem names. -/
namespace Go.Proofs.YtgaadjgfjiljjaaGreat
open Go.RowKit Go.Proofs.YtgaadjgfjiljjaaGreatW.PrintWords Go.Proofs.YtgaadjgfjiljjaaGreatW.PrintLast Go.Proofs.YtgaadjgfjiljjaaGreatW.PrintMore
set_option linter.unusedVariables false
set_option linter.unusedSimpArgs false

/-- What may be done, step by step. -/
inductive DoneSeq (p : List It) : List Bool → Prop
  | nil : DoneSeq p (List.replicate p.length false)
  | step {d : List Bool} {k : Nat} : DoneSeq p d → k < p.length → isvK (itA p k).f0 = true → rdb d (k : Int) = false → ReadyP p d k → DoneSeq p (d.set k true)
theorem DoneSeq.len {p : List It} {d : List Bool} (h : DoneSeq p d) : d.length = p.length := by
  induction h with
  | nil => exact List.length_replicate ..
  | step _ _ _ _ _ ih => rw [List.length_set]; exact ih

def StepsPost (p : List It) (w : World) (e : Ending) (w' : World) : Prop := ∃ (v : Value) (b : Bool) (d : List Bool), e = .returned (.tuple #[v, .bool b]) ∧ DoneSeq p d ∧
  (∀ k : Nat, k < p.length → isvK (itA p k).f0 = true → rdb d (k : Int) = false → ¬ ReadyP p d k) ∧
  (b = true ↔ ∃ k : Nat, k < p.length ∧ isvK (itA p k).f0 = true ∧ rdb d (k : Int) = false) ∧ Below w.heap.size w w'

set_option maxHeartbeats 8000000 in
set_option maxRecDepth 100000 in
theorem steps_of {p : List It} (hp : PkgOk p) (A0 : Option Addr) (c0 : Nat) (w : World) (hr0 : Kd.C kIt w A0 p.length p) (hc0 : p.length ≤ c0) :
    Calls Tryz.prog 11 #[.slice A0 p.length c0] w (StepsPost p w) := by
  have hu31 := Tryz.underlying31
  obtain ⟨ko, ho⟩ := owners_f p hp.len hp.items
  have HP := Aside0.mk hp
  have HR0 := Aside0.mk hr0
  have HC0 := Aside0.mk hc0
  have HO := Aside0.mk ho
  have HOL := Aside0.mk (ownersL_length p)
  have HT := Aside0.mk hp.tot
  have HL := Aside0.mk hp.len
  clear hp hr0 hc0 ho
  go_enter Tryz.func11, Tryz.ntmps11
  go_wp2_with fail
  have hb0 : Below w.heap.size w (w.alloc (.cells #[.slice A0 p.length c0] 25)) := below_alloc (Below.refl _ _) _
  refine (spec_Package_owners.calls ko _ _ p _ _ (Kd.C_below HR0.out hb0) HC0.out HO.out).mono ?_
  rintro e w1 ⟨v20, rfl, hv20, hb20⟩
  obtain ⟨A20, c20, rfl, hl20, hC20⟩ := Kd.R_reads hv20
  have hgp : w1.heap[w.heap.size]? = some (.cells #[.slice A0 p.length c0] 25) := (hb20.block _ (by simp)).trans (heap_alloc_new w _)
  have HGP := Aside0.mk hgp
  have HB1 := Aside0.mk (below_step hb0 hb20)
  have HC20 := Aside0.mk hC20
  have hcp : w1.cell? ⟨w.heap.size, 0, none⟩ = some (.slice A0 p.length c0) := by rw [blk_cell hgp 0]; rfl
  have hws : w.heap.size < w1.heap.size := blk_lt hgp
  have HWS := Aside0.mk hws
  clear hb0 hv20 hb20 hl20 hC20 hgp
  have hb2 : Below w1.heap.size w1 (w1.alloc (.cells #[.slice A20 (ownersL p).length c20] 28)) := below_alloc (Below.refl _ _) _
  have hgo : (w1.alloc (.cells #[.slice A20 (ownersL p).length c20] 28)).heap[w1.heap.size]? = some (.cells #[.slice A20 (ownersL p).length c20] 28) := heap_alloc_new w1 _
  have HB12 := Aside0.mk hb2
  have HGO := Aside0.mk hgo
  clear hb2 hgo
  go_wp2_with ((with_reducible refine gate_dst (N := 16) rfl ?_); generalize hw2 : w1.alloc (.cells #[.slice A20 (ownersL p).length c20] 28) = w2 at HB12 HGO ⊢; refine Kd.R_make Kd.bool (w0 := w2) w2.heap.size 4 rfl (N := 16) rfl 32 _ _ rfl (p.length : Int) rfl rfl Tryz.underlying32 (.bool false) 1 info4 rfl (by decide) (by omega) false (ok := fun _ => True) (okp := fun _ => False) ?mz (fun _ h => h.elim) trivial (by omega) ?ml (Below.refl _ _) (Nat.le_refl _) ?_; (case mz => exact rfl); (case ml => have := HL.out; omega); clear hw2; intro v16 w3 ho3 hb3 hg3 hat3; rw [Int.toNat_natCast] at ho3; obtain ⟨A16, c16, hv16, _, _⟩ := Kd.R_reads ho3; rw [List.length_replicate] at hv16; subst hv16; have HD3 := Aside0.mk ho3; have HB23 := Aside0.mk hb3; clear ho3 hb3 hg3 hat3 hcp hws)
  generalize hw4 : w3.alloc (.cells #[.slice A16 p.length c16] 32) = w4
  have HB34 := Aside0.mk (show Below w3.heap.size w3 w4 by rw [← hw4]; exact below_alloc (Below.refl _ _) _)
  have HGD := Aside0.mk (show w4.heap[w3.heap.size]? = some (.cells #[.slice A16 p.length c16] 32) by rw [← hw4]; exact heap_alloc_new w3 _)
  clear hw4
  have HB2 := Aside0.mk (below_step HB1.out HB12.out)
  have HB24 := Aside0.mk (below_step HB23.out HB34.out)
  have HB12S := Aside0.mk HB12.out.size
  have HB4 := Aside0.mk (below_step HB2.out HB24.out)
  have HB14 := Aside0.mk (below_step HB12.out HB24.out)
  have HGP4 := Aside0.mk ((HB14.out.block _ HWS.out).trans HGP.out)
  have HGO4 := Aside0.mk ((HB24.out.block _ (blk_lt HGO.out)).trans HGO.out)
  have HD4 := Aside0.mk (Kd.R_below HD3.out HB34.out)
  obtain ⟨inn, hown⟩ := Kd.R_own HD3.out
  have HBASE := Aside0.mk (own_base hown)
  have HOLT := Aside0.mk (own_lt hown)
  have HTY := Aside0.mk (own_typed hown)
  obtain ⟨S, hS⟩ : ∃ S : Nat → Prop, S = fun k => (Value.slice A16 p.length c16).ownBlock = some k := ⟨_, rfl⟩
  have HNP := Aside0.mk (show ¬ S w.heap.size by rw [hS]; intro h; have := HBASE.out _ h; have := HWS.out; have := HB12.out.size; omega)
  have HNO := Aside0.mk (show ¬ S w1.heap.size by rw [hS]; intro h; have := HBASE.out _ h; have := blk_lt HGO.out; omega)
  have HND := Aside0.mk (show ¬ S w3.heap.size by rw [hS]; intro h; have := HOLT.out _ h; omega)
  have HN2 := Aside0.mk (show ∀ k, k < w2.heap.size → ¬ S k by rw [hS]; intro k hk h; have := HBASE.out _ h; omega)
  have HS := Aside0.mk hS
  have HS4 := Aside0.mk (show Touch S w4 w4 from Touch.refl _ _)
  clear hS hown inn HGP HGO HD3 HB1 HB12 HB23 HB34
  go_loopg [2] (p.length + 1) (fun kq v2 w' => ∃ (d : List Bool) (ol : List Int), Aside0 (DoneSeq p d) ∧ Aside0 (d.count false < kq) ∧ Aside0 (ol.length + d.count false = p.length) ∧ Aside0 (Touch S w4 w') ∧ Aside0 (Kd.R Kd.bool 4 w' w2.heap.size (fun _ => True) (.slice A16 p.length c16) d) ∧ Aside0 (Kd.R (Kd.int .i64) 3 w' w4.heap.size (fun _ => True) v2 ol))
  case atStart =>
    refine ⟨_, [], ⟨DoneSeq.nil⟩, ⟨?_⟩, ⟨?_⟩, HS4, HD4, ⟨Kd.R_nil _ _ _ _ _⟩⟩
    · rw [List.count_replicate]; simp
    · rw [List.count_replicate]; simp
  case round =>
    clear HS4 HD4
    obtain ⟨d, ol, HDS, HK, HOLL, HTW, HDD, HOR⟩ := hrel
    have HDL := Aside0.mk HDS.out.len
    have hcp : wr.cell? ⟨w.heap.size, 0, none⟩ = some (.slice A0 p.length c0) := by rw [blk_cell (HTW.out.blk HGP4.out HNP.out) 0]; rfl
    go_wp2_with fail
    clear hcp
    have HBr := Aside0.mk (Below.refl wr.heap.size wr)
    obtain ⟨n1, rfl⟩ : ∃ n1, n1 = gk := ⟨_, rfl⟩
    obtain ⟨wq, rfl⟩ : ∃ wq, wq = wr := ⟨_, rfl⟩
    go_loopg [7, 20] p.length (fun kq v7 v20 w' => ∃ (j : Nat), v7 = .int .i64 (-1) ∧ v20 = .int .i64 (j : Int) ∧ Aside0 (kq + j = p.length) ∧ Aside0 (∀ q : Nat, q < j → isvK (itA p q).f0 = true → rdb d (q : Int) = false → ¬ ReadyP p d q) ∧ Aside0 (Below wq.heap.size wq w'))
    case atStart => exact ⟨0, rfl, rfl, ⟨by omega⟩, ⟨fun q h => by omega⟩, HBr⟩
    case round =>
      clear HBr
      obtain ⟨j, rfl, rfl, HKJ, HI, HB⟩ := hrel
      by_cases cj : (j : Int) < (p.length : Int)
      · have hjr : j < p.length := by omega
        have hcj := decide_eq_true cj
        have hj0 : (0 : Int) ≤ (j : Int) := by omega
        obtain ⟨g16, cap16, hv16, hg16, hlt16, cel16, hcel16⟩ := Kd.R_form HDD.out (by rw [HDL.out]; omega)
        rw [HDL.out] at hv16
        have hAg : A16 = some ⟨g16, 0, none⟩ := by injection hv16
        have hc16 : c16 = cap16 := by injection hv16
        subst hAg
        subst hc16
        clear hv16 hg16 hlt16 hcel16
        have HTR := Aside0.mk (HTW.out.below_step HB.out)
        have HBW := Aside0.mk (Touch.below_of HB2.out (show Touch S w2 wr from (Touch.of_below HB24.out).trans HTR.out (fun _ _ h => h)) (fun k hk => HN2.out k (Nat.lt_of_lt_of_le hk HB2.out.size)))
        obtain ⟨ad, Ax, cx, e, hy0, hy1, hy2, hlo, hCo⟩ := at_It HR0.out (j : Int) hj0 cj
        subst e
        replace hy0 := (HBW.out.cell (World.block_lt_of_cell? w _ hy0)).trans hy0
        replace hy1 := (HBW.out.cell (World.block_lt_of_cell? w _ hy1)).trans hy1
        replace hy2 := (HBW.out.cell (World.block_lt_of_cell? w _ hy2)).trans hy2
        rw [Int.toNat_natCast] at hy0 hy1 hy2
        rw [rd_It_nat] at hy0 hy1 hy2 hlo hCo
        have HC := Aside0.mk hCo
        have HLO := Aside0.mk hlo
        have cjx := Aside0.mk cj
        clear hlo hCo cj
        obtain ⟨X, hX⟩ : ∃ X, X = itA p j := ⟨_, rfl⟩
        rw [← hX] at hy0 hy1 hy2 HC HLO
        have HX := Aside0.mk hX
        clear hX
        have hn64 : (j : Int) + 1 ≤ 9223372036854775807 := by have := HL.out; omega
        go_wp2_with fail
        have hba : Below wr.heap.size wr (wr.alloc (.cells #[.int .i64 X.f0, .int .i64 X.f1, .slice Ax X.f2.length cx] 31)) := below_alloc (Below.refl _ _) _
        refine (spec_Item_isVar.calls X.f0 X.f1 _ _ X.f2 (isvK X.f0) _ (Kd.C_below HC.out (below_step HBW.out hba)) HLO.out (isVar_f _ _ _)).mono ?_
        rintro e w6 ⟨rfl, hb6⟩
        have HB6 := Aside0.mk (below_step hba hb6)
        clear hba hb6 hy0 hy1 hy2
        have HTR6 := Aside0.mk (HTR.out.below_step HB6.out)
        have HBN := Aside0.mk (below_step HB.out HB6.out)
        have HBW6 := Aside0.mk (below_step HBW.out HB6.out)
        by_cases cv : isvK X.f0 = true
        · have CV := Aside0.mk cv
          have hD6 := Kd.R_below (Kd.R_below HDD.out HB.out) HB6.out
          have hcf := Kd.R_celln false hD6 (j : Int) hj0 cjx.out
          have hxb : w6.cell? ⟨g16, j, none⟩ = some (.bool (rdOf false d (j : Int))) := by have := hcf.1; rwa [Int.toNat_natCast] at this
          have HC9 := Aside0.mk (show Kd.bool.C w6 (some ⟨g16, 0, none⟩) d.length d by
            exact (Kd.R_reads' hD6).2.2)
          have hgd6 := HTR6.out.blk HGD.out HND.out
          have hcd : w6.cell? ⟨w3.heap.size, 0, none⟩ = some (.slice (some ⟨g16, 0, none⟩) p.length c16) := by rw [blk_cell hgd6 0]; rfl
          clear hcf hgd6 hD6
          by_cases cb : rdb d (j : Int) = true
          · have hxb1 : w6.cell? ⟨g16, j, none⟩ = some (.bool true) := by rw [hxb]; exact congrArg (fun b => some (Value.bool b)) cb
            have CB := Aside0.mk cb
            clear hxb cb
            go_wp2_with fail
            go_roundg (gk - 1)
            case measure => have := HKJ.out; omega
            case rel => exact ⟨j + 1, rfl, by go_num, ⟨by have := HKJ.out; omega⟩, ⟨fun q hq h1 h2 => by
              rcases Nat.lt_or_ge q j with h | h
              · exact HI.out q h h1 h2
              · have : q = j := by omega
                subst this; rw [CB.out] at h2; cases h2⟩, HBN⟩
          · have CB := Aside0.mk (Bool.eq_false_iff.mpr cb)
            have hxb1 : w6.cell? ⟨g16, j, none⟩ = some (.bool false) := by rw [hxb]; exact congrArg (fun b => some (Value.bool b)) CB.out
            clear hxb cb
            have HXB := Aside0.mk hxb1
            have HCD := Aside0.mk hcd
            go_wp2_with fail
            have HC6 := Aside0.mk (Kd.C_below HC20.out (Touch.below_of (show Below w1.heap.size w1 w4 from HB14.out) HTR6.out (fun k hk => HN2.out k (by have := blk_lt HGO4.out; have := HWS.out; exact Nat.lt_of_lt_of_le hk HB12S.out))))
            refine (ready_of HP.out _ _ j hjr d (some ⟨g16, 0, none⟩) c16 A20 c20 ⟨w.heap.size, 0, none⟩ ⟨w3.heap.size, 0, none⟩ ⟨w1.heap.size, 0, none⟩ w6 (Kd.C_below HR0.out HBW6.out) HC0.out HC9.out HDL.out HC6.out (by rw [blk_cell (HTR6.out.blk HGP4.out HNP.out) 0]; rfl) (by rw [HDL.out]; exact HCD.out) (by rw [blk_cell (HTR6.out.blk HGO4.out HNO.out) 0]; rfl)).mono ?_
            rintro e w7 ⟨rb, rfl, hrb, hb7⟩
            have HRB := Aside0.mk hrb
            have HB7 := Aside0.mk (below_step HBN.out hb7)
            have HTR7 := Aside0.mk (HTR6.out.below_step hb7)
            have hcd7 := (hb7.cell (World.block_lt_of_cell? w6 _ HCD.out)).trans HCD.out
            have hxb7 := (hb7.cell (World.block_lt_of_cell? w6 _ HXB.out)).trans HXB.out
            clear hrb hb7 hcd hxb1
            cases rb with
            | true =>
              have hD7 := Kd.R_below HDD.out HB7.out
              obtain ⟨g16b, cap16, hv16, hg16, _, cel16, hcel16⟩ := Kd.R_form hD7 (by rw [HDL.out]; omega)
              have hgg : g16 = g16b := by injection hv16 with h1 h2 h3; injection h1 with h1; injection h1
              subst hgg
              have hD7' := Aside0.mk hD7
              have hcf := Kd.R_celln false hD7 (j : Int) hj0 cjx.out
              have hfb : w7.frozen? ⟨g16, j, none⟩ = false := by have := hcf.2; rwa [Int.toNat_natCast] at this
              have hxb : w7.cell? ⟨g16, j, none⟩ = some (.bool (rdOf false d (j : Int))) := by have := hcf.1; rwa [Int.toNat_natCast] at this
              have HOR7 := Aside0.mk (Kd.R_below HOR.out HB7.out)
              have HSG := Aside0.mk (show S g16 by rw [HS.out]; rfl)
              have HCEL := Aside0.mk hcel16
              clear hcf hv16 hg16 hcel16 hD7 hxb7
              have hneg : decide ((j : Int) < 0) = false := decide_eq_false (by omega)
              have hneg2 : ¬ (j : Int) < 0 := by omega
              go_simp
              go_wp2_with (first | ((with_reducible refine gate_store (t := 4) (p := 45) rfl ?_); refine store_event (t := 4) (p := 45) (v := ?vo) (w1 := w7.setCell ⟨g16, j, none⟩ (.bool true)) ?hg ?ho ?hn ?hr ?_; (case ho => rfl); (case hg => rfl); (case hn => rfl); (case hr => first | (go_simp; done) | (go_simp; rfl)); intro w8 hw8; have HT8 := Aside0.mk (show Touch S w4 w8 by rw [hw8]; exact HTR7.out.set_ (fun _ => HSG.out) _); have HD8 := Aside0.mk (show Kd.R Kd.bool 4 w8 w2.heap.size (fun _ => True) (.slice (some ⟨g16, 0, none⟩) p.length c16) (d.set j true) by rw [hw8]; exact (Kd.R_putg hD7'.out (j : Int) true).1); have HO8 := Aside0.mk (show Kd.R (Kd.int .i64) 3 w8 w4.heap.size (fun _ => True) u2 ol by rw [hw8]; exact Kd.R_set HOR7.out HCEL.out (by decide) _ _); clear hw8 hD7' HOR7 hfb hxb hcd7 HCEL) | ((with_reducible refine gate_builtin (b := .append) (xs := #[.tmp 46, .tmp 48]) rfl ?_); at_builtin; refine Kd.R_append (Kd.int .i64) (w0 := w8) w4.heap.size rfl (.tmp 46) (.tmp 48) 28 3 (.int .i64 0) 8 rfl Tryz.underlying28 info3 rfl (by decide) (by omega) u2 ol (j : Int) [.int .i64 (j : Int)] (fun _ => True) (fun _ => False) rfl rfl ?aP (fun _ hk => hk.elim) ?aF ?aO ?aB ?aS ?aL ?_; (case aP => exact rfl); (case aF => exact (fun _ _ => trivial)); (case aO => exact HO8.out); (case aB => exact Below.refl _ _); (case aS => exact HT8.out.size); (case aL => have := HOLL.out; have := HL.out; omega); intro v49 w9 ho9 hb9 hg9 hat9; have HO9 := Aside0.mk ho9; have HT9 := Aside0.mk (HT8.out.grown hg9 (fun g hg hlt => absurd (own_base (Kd.R_own HO8.out).choose_spec g hg) (by omega))); have HD9 := Aside0.mk (Kd.R_over' HD8.out (Kd.R_typed HO8.out) (by decide) hg9); clear ho9 hb9 hg9 hat9))
              have hjd : j < d.length := by rw [HDL.out]; exact hjr
              have hdj : d[j] = false := by
                have := CB.out; unfold rdb at this
                rwa [Int.toNat_natCast, List.getD_eq_getElem?_getD, List.getElem?_eq_getElem hjd] at this
              have hcnt : (d.set j true).count false + 1 = d.count false := by
                rw [List.count_set hjd, hdj]
                have : 0 < d.count false := List.count_pos_iff.2 (hdj ▸ List.getElem_mem hjd)
                simp; omega
              have HCN := Aside0.mk hcnt
              clear hjd hdj hcnt
              go_roundg (n1 - 1)
              case measure => have := HK.out; omega
              case rel => exact ⟨d.set j true, ol ++ [(j : Int)], ⟨DoneSeq.step HDS.out hjr (by rw [← HX.out]; exact CV.out) CB.out (HRB.out.1 (by trivial))⟩, ⟨by have := HK.out; have := HCN.out; omega⟩, ⟨by rw [List.length_append, List.length_singleton]; have := HOLL.out; have := HCN.out; omega⟩, HT9, HD9, HO9⟩
            | false =>
              go_wp2_with fail
              go_roundg (gk - 1)
              case measure => have := HKJ.out; omega
              case rel => exact ⟨j + 1, rfl, by go_num, ⟨by have := HKJ.out; omega⟩, ⟨fun q hq h1 h2 h3 => by
                rcases Nat.lt_or_ge q j with h | h
                · exact HI.out q h h1 h2 h3
                · have : q = j := by omega
                  subst this; have := HRB.out.2 h3; cases this⟩, HB7⟩
        · have cv' := Bool.eq_false_iff.mpr cv
          have CV := Aside0.mk cv'
          clear cv
          go_wp2_with fail
          go_roundg (gk - 1)
          case measure => have := HKJ.out; omega
          case rel => exact ⟨j + 1, rfl, by go_num, ⟨by have := HKJ.out; omega⟩, ⟨fun q hq h1 h2 => by
            rcases Nat.lt_or_ge q j with h | h
            · exact HI.out q h h1 h2
            · have : q = j := by omega
              subst this; rw [← HX.out, CV.out] at h1; cases h1⟩, HBN⟩
      · have hcj := decide_eq_false cj
        have hcj2 : decide (j < p.length) = false := decide_eq_false (by omega)
        have HIA := Aside0.mk (show ∀ q : Nat, q < p.length → isvK (itA p q).f0 = true → rdb d (q : Int) = false → ¬ ReadyP p d q from fun q hq => HI.out q (by omega))
        clear cj HI HKJ
        have HTR := Aside0.mk (HTW.out.below_step HB.out)
        have hcp : wr.cell? ⟨w.heap.size, 0, none⟩ = some (.slice A0 p.length c0) := by rw [blk_cell (HTR.out.blk HGP4.out HNP.out) 0]; rfl
        go_wp2_with fail
        clear hcp hcj hcj2
        have HDR := Aside0.mk (Kd.R_below HDD.out HB.out)
        obtain ⟨wz, rfl⟩ : ∃ wz, wz = wr := ⟨_, rfl⟩
        have HBz := Aside0.mk (Below.refl wz.heap.size wz)
        go_loopg [3, 52] p.length (fun kq v3 v52 w' => ∃ (j : Nat) (cy : Bool), v3 = .bool cy ∧ v52 = .int .i64 (j : Int) ∧ Aside0 (kq + j = p.length) ∧ Aside0 (cy = true ↔ ∃ q : Nat, q < j ∧ isvK (itA p q).f0 = true ∧ rdb d (q : Int) = false) ∧ Aside0 (Below wz.heap.size wz w'))
        case atStart => exact ⟨0, false, rfl, rfl, ⟨by omega⟩, ⟨⟨fun h => (by cases h), fun ⟨q, h, _⟩ => by omega⟩⟩, HBz⟩
        case round =>
          clear HBz
          obtain ⟨j, cy, rfl, rfl, HKJ, HI, HBy⟩ := hrel
          by_cases cj : (j : Int) < (p.length : Int)
          · have hjr : j < p.length := by omega
            have hcj := decide_eq_true cj
            have hj0 : (0 : Int) ≤ (j : Int) := by omega
            have HTY2 := Aside0.mk (HTR.out.below_step HBy.out)
            have HBW := Aside0.mk (Touch.below_of HB2.out (show Touch S w2 wr from (Touch.of_below HB24.out).trans HTY2.out (fun _ _ h => h)) (fun k hk => HN2.out k (Nat.lt_of_lt_of_le hk HB2.out.size)))
            obtain ⟨ad, Ax, cx, e, hy0, hy1, hy2, hlo, hCo⟩ := at_It HR0.out (j : Int) hj0 cj
            subst e
            replace hy0 := (HBW.out.cell (World.block_lt_of_cell? w _ hy0)).trans hy0
            replace hy1 := (HBW.out.cell (World.block_lt_of_cell? w _ hy1)).trans hy1
            replace hy2 := (HBW.out.cell (World.block_lt_of_cell? w _ hy2)).trans hy2
            rw [Int.toNat_natCast] at hy0 hy1 hy2
            rw [rd_It_nat] at hy0 hy1 hy2 hlo hCo
            have HC := Aside0.mk hCo
            have HLO := Aside0.mk hlo
            clear hlo hCo cj
            obtain ⟨X, hX⟩ : ∃ X, X = itA p j := ⟨_, rfl⟩
            rw [← hX] at hy0 hy1 hy2 HC HLO
            have HX := Aside0.mk hX
            clear hX
            have hn64 : (j : Int) + 1 ≤ 9223372036854775807 := by have := HL.out; omega
            cases cy with
            | true =>
              go_wp2_with fail
              go_roundg (gk - 1)
              case measure => have := HKJ.out; omega
              case rel => exact ⟨j + 1, true, rfl, by go_num, ⟨by have := HKJ.out; omega⟩, ⟨⟨fun _ => by obtain ⟨q, h, h2⟩ := HI.out.1 (by trivial); exact ⟨q, by omega, h2⟩, fun _ => rfl⟩⟩, ⟨below_alloc HBy.out _⟩⟩
            | false =>
              go_wp2_with fail
              have hba : Below wr.heap.size wr (wr.alloc (.cells #[.int .i64 X.f0, .int .i64 X.f1, .slice Ax X.f2.length cx] 31)) := below_alloc (Below.refl _ _) _
              refine (spec_Item_isVar.calls X.f0 X.f1 _ _ X.f2 (isvK X.f0) _ (Kd.C_below HC.out (below_step HBW.out hba)) HLO.out (isVar_f _ _ _)).mono ?_
              rintro e w6 ⟨rfl, hb6⟩
              have HB6 := Aside0.mk (below_step hba hb6)
              clear hba hb6 hy0 hy1 hy2
              have HTR6 := Aside0.mk (HTY2.out.below_step HB6.out)
              have HBN := Aside0.mk (below_step HBy.out HB6.out)
              by_cases cv : isvK X.f0 = true
              · have CV := Aside0.mk cv
                have hD6 := Kd.R_below HDR.out HBN.out
                obtain ⟨A9, c9, he9, hl9, hC9⟩ := Kd.R_reads hD6
                obtain ⟨rfl, hc9⟩ : A9 = A16 ∧ c9 = c16 := by injection he9 with h1 h2 h3; exact ⟨h1.symm, h3.symm⟩
                obtain ⟨ab, hAb, hxb⟩ := Kd.at_bool hC9 (j : Int) hj0 (by rw [HDL.out]; omega)
                rw [Int.toNat_natCast] at hxb
                have hgd6 := HTR6.out.blk HGD.out HND.out
                have hcd : w6.cell? ⟨w3.heap.size, 0, none⟩ = some (.slice (some ab) p.length c16) := by rw [blk_cell hgd6 0]; exact congrArg (fun a => some (Value.slice a p.length c16)) hAb
                clear he9 hl9 hc9 hC9 hgd6 hAb hD6
                obtain ⟨bb, hbb⟩ : ∃ bb, bb = rdb d (j : Int) := ⟨_, rfl⟩
                have hxb1 : w6.cell? (ab.add j) = some (.bool bb) := by rw [hxb, hbb]; rfl
                have CB := Aside0.mk hbb
                clear hxb hbb
                cases bb with
                | true =>
                  go_wp2_with fail
                  go_roundg (gk - 1)
                  case measure => have := HKJ.out; omega
                  case rel => exact ⟨j + 1, false, rfl, by go_num, ⟨by have := HKJ.out; omega⟩, ⟨⟨fun h => (by cases h), fun ⟨q, h, h1, h2⟩ => by
                    rcases Nat.lt_or_ge q j with h' | h'
                    · exact HI.out.2 ⟨q, h', h1, h2⟩
                    · have : q = j := by omega
                      subst this; rw [← CB.out] at h2; cases h2⟩⟩, HBN⟩
                | false =>
                  go_wp2_with fail
                  go_roundg (gk - 1)
                  case measure => have := HKJ.out; omega
                  case rel => exact ⟨j + 1, true, rfl, by go_num, ⟨by have := HKJ.out; omega⟩, ⟨⟨fun _ => ⟨j, by omega, by rw [← HX.out]; exact CV.out, CB.out.symm⟩, fun _ => rfl⟩⟩, HBN⟩
              · have cv' := Bool.eq_false_iff.mpr cv
                have CV := Aside0.mk cv'
                clear cv
                go_wp2_with fail
                go_roundg (gk - 1)
                case measure => have := HKJ.out; omega
                case rel => exact ⟨j + 1, false, rfl, by go_num, ⟨by have := HKJ.out; omega⟩, ⟨⟨fun h => (by cases h), fun ⟨q, h, h1, h2⟩ => by
                  rcases Nat.lt_or_ge q j with h' | h'
                  · exact HI.out.2 ⟨q, h', h1, h2⟩
                  · have : q = j := by omega
                    subst this; rw [← HX.out, CV.out] at h1; cases h1⟩⟩, HBN⟩
          · have hcj := decide_eq_false cj
            have hcj2 : decide (j < p.length) = false := decide_eq_false (by omega)
            have HJ := Aside0.mk (show p.length ≤ j by omega)
            have HJ2 := Aside0.mk (show j ≤ p.length by have := HKJ.out; omega)
            clear cj
            go_wp2_with fail
            go_ret2
            refine ⟨_, cy, d, rfl, HDS.out, HIA.out, ?_, Touch.below_of HB2.out (show Touch S w2 wr from (Touch.of_below HB24.out).trans (HTR.out.below_step HBy.out) (fun _ _ h => h)) (fun k hk => HN2.out k (Nat.lt_of_lt_of_le hk HB2.out.size))⟩
            rw [show j = p.length from Nat.le_antisymm HJ2.out HJ.out] at HI
            exact HI.out

end Go.Proofs.YtgaadjgfjiljjaaGreat
