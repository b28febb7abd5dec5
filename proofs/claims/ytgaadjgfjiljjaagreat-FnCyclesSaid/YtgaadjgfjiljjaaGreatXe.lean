/- Maps whose keys are told by numbers: what looking up, storing, deleting, counting and ranging do. Conditions: those that each theorem names. -/
import Derived.Test.YtgaadjgfjiljjaaGreatXd
import Derived.Maps.RangeRun
import Derived.LaidEql
import Derived.LaidEqlPtr
import Derived.WalkSpells
import Derived.WalkLawsBesides
namespace Go.Proofs.YtgaadjgfjiljjaaGreat
open Go.RowKit Go.Proofs.YtgaadjgfjiljjaaGreatW.PrintWords
open Go.ChangeMaps (setBlock)

theorem Touch.setBlock {S : Nat → Prop} {a b : World} (h : Touch S a b) {r : Nat} (hr : r < a.heap.size → S r) (o : Obj) : Touch S a (setBlock b r o) :=
  ⟨h.os, h.tape, h.output, by show _ ≤ (b.heap.setIfInBounds r o).size; rw [Array.size_setIfInBounds]; exact h.size, fun k hk hn => by
    show (b.heap.setIfInBounds r o)[k]? = _
    rw [Array.getElem?_setIfInBounds_ne (by intro e; subst e; exact hn (hr hk))]; exact h.block k hk hn⟩
theorem setBlock_at {w : World} {r : Nat} (o : Obj) (h : r < w.heap.size) : (setBlock w r o).heap[r]? = some o := by
  show (w.heap.setIfInBounds r o)[r]? = _
  rw [Array.getElem?_setIfInBounds_self_of_lt h]
theorem setBlock_ne {w : World} {r k : Nat} (o : Obj) (h : r ≠ k) : (setBlock w r o).heap[k]? = w.heap[k]? := by
  show (w.heap.setIfInBounds r o)[k]? = _
  rw [Array.getElem?_setIfInBounds_ne h]
theorem setBlock_size {w : World} {r : Nat} (o : Obj) : (setBlock w r o).heap.size = w.heap.size := by
  show (w.heap.setIfInBounds r o).size = _
  rw [Array.size_setIfInBounds]

def mkE (f g : Nat → Value) (bo : Nat → Nat) (i : Nat) : MapEntry := ⟨f i, g i, bo i⟩
def entsOf (f g : Nat → Value) (bo : Nat → Nat) (L : List Nat) : Array MapEntry := (L.map (mkE f g bo)).toArray

/-- Block b is a map: the entries of the list's numbers, each with its key and its value. -/
structure MapL (w : World) (b : Nat) (f g : Nat → Value) (L : List Nat) : Prop where
  nodup : L.Nodup
  at_ : ∃ (bo : Nat → Nat) (clock : Nat), w.heap[b]? = some (.map (entsOf f g bo L) clock) ∧ (∀ i ∈ L, bo i < clock) ∧ (∀ i ∈ L, ∀ j ∈ L, bo i = bo j → i = j)

theorem entsOf_congr {f g f' g' : Nat → Value} {bo bo' : Nat → Nat} {L : List Nat} (h : ∀ i ∈ L, f i = f' i ∧ g i = g' i ∧ bo i = bo' i) : entsOf f g bo L = entsOf f' g' bo' L := by
  unfold entsOf
  congr 1
  exact List.map_congr_left fun i hi => by unfold mkE; obtain ⟨h1, h2, h3⟩ := h i hi; rw [h1, h2, h3]
theorem MapL.congr {w : World} {b : Nat} {f g f' g' : Nat → Value} {L : List Nat} (h : MapL w b f g L) (he : ∀ i ∈ L, f i = f' i ∧ g i = g' i) : MapL w b f' g' L := by
  obtain ⟨hn, bo, c, h1, h2, h3⟩ := h
  exact ⟨hn, bo, c, by rw [h1, entsOf_congr (fun i hi => ⟨(he i hi).1, (he i hi).2, rfl⟩)], h2, h3⟩
theorem MapL.same {w w' : World} {b : Nat} {f g : Nat → Value} {L : List Nat} (h : MapL w b f g L) (hb : w'.heap[b]? = w.heap[b]?) : MapL w' b f g L := by
  obtain ⟨hn, bo, c, h1, h2, h3⟩ := h
  exact ⟨hn, bo, c, hb.trans h1, h2, h3⟩
theorem MapL.lt {w : World} {b : Nat} {f g : Nat → Value} {L : List Nat} (h : MapL w b f g L) : b < w.heap.size := by
  obtain ⟨_, bo, c, h1, _⟩ := h
  exact blk_lt h1
theorem MapL.obj {w : World} {b : Nat} {f g : Nat → Value} {L : List Nat} (h : MapL w b f g L) : ∃ es c, w.heap[b]? = some (.map es c) := by
  obtain ⟨_, bo, c, h1, _⟩ := h
  exact ⟨_, _, h1⟩
theorem mapL_new (w : World) (f g : Nat → Value) : MapL (w.alloc (.map #[] 0)) w.heap.size f g [] :=
  ⟨List.nodup_nil, fun _ => 0, 0, heap_alloc_new w _, fun i h => (by cases h), fun i h => (by cases h)⟩

section
variable {P : Program}

/-- What is asked of a key type's kind. -/
def OddKind : TypeDesc → Prop
  | .int _ | .string | .bool => False
  | _ => True
theorem findNow_odd {kd : TypeDesc} (h : OddKind kd) (q : Value) (e : MapEntry) (es : List MapEntry) (i : Nat) : Instr.findNow kd q (e :: es) i = none := by
  unfold Instr.findNow Instr.sameNow
  cases kd <;> first | exact h.elim | rfl

/-- Asking goes entry by entry. -/
theorem findAsking_run {K : TypeId} {q : Value} {w : World} (dec : Nat → Bool) (f g : Nat → Value) (bo : Nat → Nat) (L : List Nat) (hq : ∀ i ∈ L, (Op.equal K q (f i)).run P w = .ok (dec i) w) : ∀ n : Nat,
    (Instr.findAsking K q (L.map (mkE f g bo)) n).run P w = .ok ((L.findIdx? dec).bind fun k => (L[k]?).map fun i => (n + k, g i)) w := by
  induction L with
  | nil => intro n; simp [Instr.findAsking]
  | cons i L ih =>
    intro n
    have h1 := hq i (List.mem_cons_self ..)
    simp only [List.map_cons, Instr.findAsking, mkE, Sem.run_bind, h1, Result.andThen]
    by_cases hd : dec i = true
    · rw [hd]
      simp [List.findIdx?_cons, hd]
    · have hd' := Bool.eq_false_iff.mpr hd
      rw [hd']
      simp only [Bool.false_eq_true, if_false]
      have := ih (fun j hj => hq j (List.mem_cons_of_mem _ hj)) (n + 1)
      rw [this, List.findIdx?_cons, hd']
      simp only [Bool.false_eq_true, if_false, Result.ok.injEq, and_true]
      cases L.findIdx? dec with
      | none => rfl
      | some k => simp [Nat.add_comm, Nat.add_left_comm]

theorem findKey_run {K : TypeId} {kd : TypeDesc} (hK : P.underlying K = some kd) (hodd : OddKind kd) {q : Value} {w : World} (dec : Nat → Bool) (f g : Nat → Value) (bo : Nat → Nat) (L : List Nat)
    (hq : ∀ i ∈ L, (Op.equal K q (f i)).run P w = .ok (dec i) w) :
    (Instr.findKey K q (L.map (mkE f g bo))).run P w = .ok ((L.findIdx? dec).bind fun k => (L[k]?).map fun i => (k, g i)) w := by
  have h := findAsking_run dec f g bo L hq 0
  cases L with
  | nil => simp [Instr.findKey, run_underlying hK, Instr.findNow]
  | cons i L =>
    simp only [Instr.findKey, Sem.run_bind, run_underlying hK, Result.andThen, List.map_cons, findNow_odd hodd]
    rw [List.map_cons] at h
    rw [h]
    simp

theorem findIdx_found {dec : Nat → Bool} {L : List Nat} {j : Nat} (hj : j ∈ L) (hd : ∀ i ∈ L, dec i = true ↔ i = j) : ∃ k, L.findIdx? dec = some k ∧ L[k]? = some j := by
  induction L with
  | nil => cases hj
  | cons i L ih =>
    rw [List.findIdx?_cons]
    by_cases e : dec i = true
    · have := (hd i (List.mem_cons_self ..)).1 e
      subst this
      exact ⟨0, by simp [e], rfl⟩
    · have hne : j ≠ i := fun h => e ((hd i (List.mem_cons_self ..)).2 h.symm)
      obtain ⟨k, h1, h2⟩ := ih ((List.mem_cons.1 hj).resolve_left hne) (fun q hq => hd q (List.mem_cons_of_mem _ hq))
      exact ⟨k + 1, by simp [e, h1], by simpa using h2⟩
theorem findIdx_absent {dec : Nat → Bool} {L : List Nat} (hd : ∀ i ∈ L, dec i = false) : L.findIdx? dec = none := by
  rw [List.findIdx?_eq_none_iff]; exact hd

/-- What is asked of a key, at a world: it can be a key; what finding it gives. -/
structure KeyAt (P : Program) (K : TypeId) (w : World) (f g : Nat → Value) (L : List Nat) (q : Value) (dec : Nat → Bool) : Prop where
  chk : ∀ e, (Instr.checkKey e 10000 K q).run P w = .ok () w
  find : ∀ bo, (Instr.findKey K q (L.map (mkE f g bo))).run P w = .ok ((L.findIdx? dec).bind fun k => (L[k]?).map fun i => (k, g i)) w

theorem KeyAt.odd {K : TypeId} {kd : TypeDesc} (hK : P.underlying K = some kd) (hodd : OddKind kd) {q : Value} {w : World} {dec : Nat → Bool} {f : Nat → Value} (g : Nat → Value) {L : List Nat}
    (hc : ∀ e, (Instr.checkKey e 10000 K q).run P w = .ok () w) (hq : ∀ i ∈ L, (Op.equal K q (f i)).run P w = .ok (dec i) w) : KeyAt P K w f g L q dec :=
  ⟨hc, fun bo => findKey_run hK hodd dec f g bo L hq⟩

theorem findNow_int {k : IntKind} (a : Int) (z : Nat → Int) (g : Nat → Value) (bo : Nat → Nat) (L : List Nat) : ∀ n : Nat,
    Instr.findNow (.int k) (.int .i64 a) (L.map (mkE (fun i => .int .i64 (z i)) g bo)) n = some ((L.findIdx? fun i => a == z i).bind fun k => (L[k]?).map fun i => (n + k, g i)) := by
  induction L with
  | nil => intro n; rfl
  | cons i L ih =>
    intro n
    rw [List.map_cons, Instr.findNow]
    have hs : Instr.sameNow (.int k) (.int .i64 a) (mkE (fun i => .int .i64 (z i)) g bo i).key = some (a == z i) := by simp [Instr.sameNow, mkE]
    rw [hs, List.findIdx?_cons]
    by_cases hd : (a == z i) = true
    · rw [hd]; simp [mkE]
    · have hd' := Bool.eq_false_iff.mpr hd
      rw [hd']
      simp only [Bool.false_eq_true, if_false]
      rw [ih (n + 1)]
      cases L.findIdx? (fun i => a == z i) with
      | none => rfl
      | some k => simp [Nat.add_comm, Nat.add_left_comm]
theorem check_int {K : TypeId} {k : IntKind} (hK : P.underlying K = some (.int k)) (e : Bool) (n : Nat) (a : Int) (w : World) : (Instr.checkKey e (n + 1) K (.int .i64 a)).run P w = .ok () w := by
  simp [Instr.checkKey, run_underlying hK]
theorem KeyAt.int {K : TypeId} {k : IntKind} (hK : P.underlying K = some (.int k)) (a : Int) (z : Nat → Int) (g : Nat → Value) (L : List Nat) (w : World) : KeyAt P K w (fun i => .int .i64 (z i)) g L (.int .i64 a) (fun i => a == z i) :=
  ⟨fun e => check_int hK e 9999 a w, fun bo => by
    simp only [Instr.findKey, Sem.run_bind, run_underlying hK, Result.andThen, findNow_int, Sem.run_pure, Nat.zero_add]⟩

variable {T K E : TypeId} {w : World} {b : Nat} {f g : Nat → Value} {L : List Nat} {q : Value} {dec : Nat → Bool}

theorem lookup_found (hT : P.underlying T = some (.map K E)) (hm : MapL w b f g L) (hk : KeyAt P K w f g L q dec) {j : Nat} (hj : j ∈ L) (hd : ∀ i ∈ L, dec i = true ↔ i = j) (ok : Bool) :
    (Instr.lookup T (.map (some b)) q ok).run P w = .ok (if ok then .tuple #[g j, .bool true] else g j) w := by
  obtain ⟨_, bo, c, hb, _, _⟩ := hm
  obtain ⟨k, h1, h2⟩ := findIdx_found hj hd
  have hf := hk.find bo
  rw [h1] at hf
  simp only [Option.bind_some, h2, Option.map_some] at hf
  simp only [Instr.lookup, Sem.run_bind, run_underlying hT, Result.andThen, MapKept.run_getObj_map hb, hk.chk, entsOf, List.toList_toArray, Sem.run_pure, hf]

theorem lookup_absent (hT : P.underlying T = some (.map K E)) (hm : MapL w b f g L) (hk : KeyAt P K w f g L q dec) (hd : ∀ i ∈ L, dec i = false) {z : Value} (hz : (zeroValue E).run P w = .ok z w) (ok : Bool) :
    (Instr.lookup T (.map (some b)) q ok).run P w = .ok (if ok then .tuple #[z, .bool false] else z) w := by
  obtain ⟨_, bo, c, hb, _, _⟩ := hm
  have hf := hk.find bo
  rw [findIdx_absent hd] at hf
  simp only [Option.bind_none] at hf
  simp only [Instr.lookup, Sem.run_bind, run_underlying hT, Result.andThen, MapKept.run_getObj_map hb, hk.chk, entsOf, List.toList_toArray, Sem.run_pure, hf, hz]

theorem update_absent (hT : P.underlying T = some (.map K E)) (hm : MapL w b f g L) {j : Nat} (hk : KeyAt P K w f g L (f j) dec) (hd : ∀ i ∈ L, dec i = false) (hj : j ∉ L) :
    ∃ o, (Instr.mapUpdate T (.map (some b)) (f j) (g j)).run P w = .ok () (setBlock w b o) ∧ MapL (setBlock w b o) b f g (L ++ [j]) := by
  obtain ⟨hn, bo, c, hb, hbo, hinj⟩ := hm
  have hf := hk.find bo
  rw [findIdx_absent hd] at hf
  simp only [Option.bind_none] at hf
  refine ⟨.map ((entsOf f g bo L).push ⟨f j, g j, c⟩) (c + 1), ?_, ?_⟩
  · simp only [Instr.mapUpdate, Sem.run_bind, run_underlying hT, Result.andThen, MapKept.run_getObj_map hb, hk.chk, entsOf, List.toList_toArray, hf]
    simp [setObj, Sem.run, hb, setBlock]
  · refine ⟨List.nodup_append.2 ⟨hn, by simp, fun a ha b hb' => by simp at hb'; subst hb'; exact fun e => hj (e ▸ ha)⟩, fun i => if i = j then c else bo i, c + 1, ?_, ?_, ?_⟩
    · rw [setBlock_at _ (blk_lt hb)]
      congr 2
      have : entsOf f g bo L = entsOf f g (fun i => if i = j then c else bo i) L := entsOf_congr fun i hi => ⟨rfl, rfl, by rw [if_neg (fun e => hj (by rw [← e]; exact hi))]⟩
      rw [this]
      simp [entsOf, mkE]
    · intro i hi
      rcases List.mem_append.1 hi with h | h
      · have hne : i ≠ j := fun e => hj (by rw [← e]; exact h)
        have := hbo i h
        simp [hne]; omega
      · simp at h; subst h; simp
    · intro i hi i' hi' he
      have hc : ∀ x, x ∈ L → x ≠ j := fun x hx e => hj (by rw [← e]; exact hx)
      rcases List.mem_append.1 hi with h | h <;> rcases List.mem_append.1 hi' with h' | h'
      · simp [hc i h, hc i' h'] at he; exact hinj i h i' h' he
      · simp at h'; subst h'; simp [hc i h] at he; have := hbo i h; omega
      · simp at h; subst h; simp [hc i' h'] at he; have := hbo i' h'; omega
      · simp at h h'; rw [h, h']

/-- What stores a value that is there already. -/
theorem update_found (hT : P.underlying T = some (.map K E)) (hm : MapL w b f g L) {j : Nat} (hk : KeyAt P K w f g L (f j) dec) (hj : j ∈ L) (hd : ∀ i ∈ L, dec i = true ↔ i = j) (hs : Instr.sameBits 10000 (f j) (f j) = true) :
    ∃ o, (Instr.mapUpdate T (.map (some b)) (f j) (g j)).run P w = .ok () (setBlock w b o) ∧ MapL (setBlock w b o) b f g L := by
  obtain ⟨hn, bo, c, hb, hbo, hinj⟩ := hm
  obtain ⟨k, h1, h2⟩ := findIdx_found hj hd
  have hf := hk.find bo
  rw [h1] at hf
  simp only [Option.bind_some, h2, Option.map_some] at hf
  have hes : (entsOf f g bo L)[k]? = some (mkE f g bo j) := by simp [entsOf, h2]
  have hmod : (entsOf f g bo L).modify k (fun e => { e with key := f j, val := g j }) = entsOf f g bo L := by
    apply Array.ext_getElem?
    intro i
    rw [Array.getElem?_modify]
    by_cases e : k = i
    · subst e; rw [if_pos rfl, hes]; rfl
    · rw [if_neg e]
  refine ⟨.map (entsOf f g bo L) c, ?_, hn, bo, c, setBlock_at _ (blk_lt hb), hbo, hinj⟩
  simp only [Instr.mapUpdate, Sem.run_bind, run_underlying hT, Result.andThen, MapKept.run_getObj_map hb, hk.chk]
  rw [show (entsOf f g bo L).toList = L.map (mkE f g bo) from rfl, hf]
  simp only [hes, Option.map_some, Option.getD_some, Instr.keyThatStays]
  rw [show (mkE f g bo j).key = f j from rfl, hs]
  simp only [if_true, Sem.run_pure]
  simp [setObj, Sem.run, hb, setBlock]
  rw [hmod]


theorem eraseIdx_map {α β : Type} (h : α → β) (L : List α) : ∀ k, (L.map h).eraseIdx k = (L.eraseIdx k).map h := by
  induction L with
  | nil => intro k; rfl
  | cons a L ih =>
    intro k
    cases k with
    | zero => rfl
    | succ k => simp [List.eraseIdx_cons_succ, ih k]

theorem delete_found (hT : P.underlying T = some (.map K E)) (ty : TypeId) (hm : MapL w b f g L) (hk : KeyAt P K w f g L q dec) {j : Nat} (hj : j ∈ L) (hd : ∀ i ∈ L, dec i = true ↔ i = j) (ts : Array TypeId) (hts : ts[0]? = some T) :
    ∃ o, (Builtin.delete_ ts ty #[.map (some b), q]).run P w = .ok (.tuple #[]) (setBlock w b o) ∧ MapL (setBlock w b o) b f g (L.erase j) := by
  obtain ⟨hn, bo, c, hb, hbo, hinj⟩ := hm
  obtain ⟨k, h1, h2⟩ := findIdx_found hj hd
  have hf := hk.find bo
  rw [h1] at hf
  simp only [Option.bind_some, h2, Option.map_some] at hf
  have hkl := (List.getElem?_eq_some_iff.1 h2).1
  have hkj := (List.getElem?_eq_some_iff.1 h2).2
  have her : L.erase j = L.eraseIdx k := by
    rw [List.erase_eq_eraseIdx_of_idxOf]
    have := hn.idxOf_getElem k hkl
    rw [hkj] at this; exact this
  have hes : (entsOf f g bo L).eraseIdxIfInBounds k = entsOf f g bo (L.erase j) := by
    rw [her]
    unfold entsOf
    apply Array.toList_inj.1
    simp [hkl]
    exact eraseIdx_map _ L k
  refine ⟨.map (entsOf f g bo (L.erase j)) c, ?_, hn.erase j, bo, c, setBlock_at _ (blk_lt hb), fun i hi => hbo i (List.mem_of_mem_erase hi), fun i hi i' hi' => hinj i (List.mem_of_mem_erase hi) i' (List.mem_of_mem_erase hi')⟩
  simp only [Builtin.delete_, hts]
  simp only [Sem.run_bind, run_underlying hT, Result.andThen, MapKept.run_getObj_map hb, hk.chk, List.getElem?_toArray, List.getElem?_cons_zero, List.getElem?_cons_succ]
  rw [show (entsOf f g bo L).toList = L.map (mkE f g bo) from rfl, hf]
  simp [setObj, Sem.run, hb, setBlock, hes]

theorem delete_absent (hT : P.underlying T = some (.map K E)) (ty : TypeId) (hm : MapL w b f g L) (hk : KeyAt P K w f g L q dec) (hd : ∀ i ∈ L, dec i = false) (ts : Array TypeId) (hts : ts[0]? = some T) :
    ∃ o, (Builtin.delete_ ts ty #[.map (some b), q]).run P w = .ok (.tuple #[]) (setBlock w b o) ∧ MapL (setBlock w b o) b f g L := by
  obtain ⟨hn, bo, c, hb, hbo, hinj⟩ := hm
  have hf := hk.find bo
  rw [findIdx_absent hd] at hf
  simp only [Option.bind_none] at hf
  refine ⟨.map (entsOf f g bo L) c, ?_, hn, bo, c, setBlock_at _ (blk_lt hb), hbo, hinj⟩
  simp only [Builtin.delete_, hts]
  simp only [Sem.run_bind, run_underlying hT, Result.andThen, MapKept.run_getObj_map hb, hk.chk, List.getElem?_toArray, List.getElem?_cons_zero, List.getElem?_cons_succ]
  rw [show (entsOf f g bo L).toList = L.map (mkE f g bo) from rfl, hf]
  simp [setObj, Sem.run, hb, setBlock]

theorem len_map (hT : P.underlying T = some (.map K E)) (ty : TypeId) (hm : MapL w b f g L) (ts : Array TypeId) (hts : ts[0]? = some T) :
    (Builtin.len_ ts ty #[.map (some b)]).run P w = .ok (.int .i64 (L.length : Int)) w := by
  obtain ⟨hn, bo, c, hb, hbo, hinj⟩ := hm
  simp only [Builtin.len_, hts]
  simp only [Sem.run_bind, run_underlying hT, Result.andThen, MapKept.run_getObj_map hb, List.getElem?_toArray, List.getElem?_cons_zero]
  simp [entsOf, goInt]

/-- A map that may be nil. -/
def MapO (w : World) (r : Option Nat) (f g : Nat → Value) (L : List Nat) : Prop := match r with
  | none => L = []
  | some b => MapL w b f g L

/-- Block r is an iterator over a map (or over none), behind which the numbers of D lie; 'late': the last step's entry may be read. -/
def IterO (w : World) (r : Nat) (m : Option Nat) (f g : Nat → Value) (L D : List Nat) : Prop := match m with
  | none => L = [] ∧ D = [] ∧ ∃ a s c, w.heap[r]? = some (.mapIter none a s c)
  | some b => L.Nodup ∧ D.Nodup ∧ (∀ i ∈ D, i ∈ L) ∧ ∃ (bo : Nat → Nat) (clock since c0 : Nat), w.heap[b]? = some (.map (entsOf f g bo L) clock) ∧ (∀ i ∈ L, bo i < clock) ∧ (∀ i ∈ L, ∀ j ∈ L, bo i = bo j → i = j) ∧
      w.heap[r]? = some (.mapIter (some b) since (D.map bo).toArray c0) ∧ (∀ i ∈ L, bo i < since) ∧ since ≤ c0 ∧ c0 ≤ clock ∧ (D ≠ [] → c0 = clock)

theorem IterO.same {w' : World} {r : Nat} {m : Option Nat} {D : List Nat} (h : IterO w r m f g L D) (hr : w'.heap[r]? = w.heap[r]?) (hm : ∀ b, m = some b → w'.heap[b]? = w.heap[b]?) : IterO w' r m f g L D := by
  cases m with
  | none => obtain ⟨h1, h2, a, s, c, h3⟩ := h; exact ⟨h1, h2, a, s, c, hr.trans h3⟩
  | some b =>
    obtain ⟨h1, h2, h3, bo, clock, since, c0, h4, h5, h6, h7, h8⟩ := h
    exact ⟨h1, h2, h3, bo, clock, since, c0, (hm b rfl).trans h4, h5, h6, hr.trans h7, h8⟩
theorem IterO.lt {r : Nat} {m : Option Nat} {D : List Nat} (h : IterO w r m f g L D) : r < w.heap.size := by
  cases m with
  | none => obtain ⟨h1, h2, a, s, c, h3⟩ := h; exact blk_lt h3
  | some b => obtain ⟨h1, h2, h3, bo, clock, since, c0, h4, h5, h6, h7, h8⟩ := h; exact blk_lt h7
theorem IterO.it {r : Nat} {m : Option Nat} {D : List Nat} (h : IterO w r m f g L D) : ∃ m' a s c, w.heap[r]? = some (.mapIter m' a s c) := by
  cases m with
  | none => obtain ⟨h1, h2, a, s, c, h3⟩ := h; exact ⟨_, _, _, _, h3⟩
  | some b => obtain ⟨h1, h2, h3, bo, clock, since, c0, h4, h5, h6, h7, h8⟩ := h; exact ⟨_, _, _, _, h7⟩
theorem IterO.sub {r : Nat} {m : Option Nat} {D : List Nat} (h : IterO w r m f g L D) : D.Nodup ∧ ∀ i ∈ D, i ∈ L := by
  cases m with
  | none => obtain ⟨h1, h2, _⟩ := h; subst h2; exact ⟨List.nodup_nil, fun i hi => (by cases hi)⟩
  | some b => obtain ⟨h1, h2, h3, _⟩ := h; exact ⟨h2, h3⟩

theorem range_run (hT : P.underlying T = some (.map K E)) (m : Option Nat) (hm : MapO w m f g L) :
    ∃ o, (Instr.range T (.map m)).run P w = .ok (.pointer (some ⟨w.heap.size, 0, none⟩)) (w.alloc o) ∧ IterO (w.alloc o) w.heap.size m f g L [] := by
  cases m with
  | none =>
    refine ⟨_, run_range_nilMap w T K E hT, hm, rfl, _, _, _, heap_alloc_new w _⟩
  | some b =>
    obtain ⟨hn, bo, c, hb, hbo, hinj⟩ := hm
    refine ⟨_, run_range_map w T K E b _ c hT hb, hn, List.nodup_nil, fun i h => (by cases h), bo, c, c, c, ?_, hbo, hinj, heap_alloc_new w _, hbo, Nat.le_refl _, Nat.le_refl _, fun h => absurd rfl h⟩
    rw [heap_alloc_old w _ (blk_lt hb)]; exact hb

theorem next_run {r : Nat} {m : Option Nat} {D : List Nat} (ty : TypeId) (h : IterO w r m f g L D) :
    ((∀ i ∈ L, i ∈ D) ∧ (Instr.next (.pointer (some ⟨r, 0, none⟩)) false ty).run P w = .ok (.tuple #[.bool false]) w) ∨
    ∃ j w1 o, j ∈ L ∧ j ∉ D ∧ (w1 = w ∨ w1 = w.drew) ∧ (Instr.next (.pointer (some ⟨r, 0, none⟩)) false ty).run P w = .ok (.tuple #[.bool true, f j, g j]) (setBlock w1 r o) ∧ IterO (setBlock w1 r o) r m f g L (D ++ [j]) := by
  cases m with
  | none =>
    obtain ⟨rfl, rfl, a, s, c, hr⟩ := h
    refine .inl ⟨fun i hi => (by cases hi), ?_⟩
    simp only [Instr.next, getObj, Sem.run_bind, Sem.run, hr, Result.andThen]
    rfl
  | some b =>
    obtain ⟨hn, hD, hDL, bo, clock, since, c0, hb, hbo, hinj, hr, hsince, hsc, hcc, hlate⟩ := h
    have hmemE : ∀ e, e ∈ (entsOf f g bo L).toList → ∃ i ∈ L, e = mkE f g bo i := by
      intro e he
      simp only [entsOf, List.toList_toArray, List.mem_map] at he
      obtain ⟨i, hi, rfl⟩ := he
      exact ⟨i, hi, rfl⟩
    rcases run_next_at (P := P) w ty r b since c0 _ _ clock hr hb (fun x hx => by obtain ⟨i, hi, rfl⟩ := hmemE x hx; exact hsince i hi) hsc with ⟨h0, hrun⟩ | ⟨e, he, w1, hw1, hrun⟩
    · refine .inl ⟨fun i hi => ?_, hrun⟩
      apply Classical.byContradiction
      intro hni
      have : mkE f g bo i ∈ leftOf (entsOf f g bo L) (D.map bo).toArray := by
        unfold leftOf
        rw [Array.mem_filter]
        refine ⟨by simp [entsOf]; exact ⟨i, hi, rfl⟩, ?_⟩
        simp only [Bool.not_eq_true', mkE]
        rw [Bool.eq_false_iff]
        intro hc
        simp at hc
        obtain ⟨i', hi', he⟩ := hc
        exact hni (hinj i' (hDL i' hi') i hi he ▸ hi')
      have := Array.size_pos_of_mem this
      omega
    · have he1 := he
      unfold leftOf at he1
      rw [Array.mem_toList_iff, Array.mem_filter] at he1
      obtain ⟨j, hj, rfl⟩ := hmemE e (Array.mem_toList_iff.2 he1.1)
      have hjD : j ∉ D := by
        intro hjD
        have := he1.2
        simp [mkE] at this
        exact this j hjD rfl
      have hne : b ≠ r := by
        rintro rfl
        rw [hb] at hr; cases hr
      have hr1 : r < w1.heap.size := by rcases hw1 with rfl | rfl <;> exact blk_lt hr
      have hb1 : w1.heap[b]? = w.heap[b]? := by rcases hw1 with rfl | rfl <;> rfl
      refine .inr ⟨j, w1, _, hj, hjD, hw1, hrun, hn, List.nodup_append.2 ⟨hD, by simp, fun a ha b hb' => by simp at hb'; subst hb'; exact fun e => hjD (e ▸ ha)⟩, fun i hi => ?_, bo, clock, since, clock, ?_, hbo, hinj, ?_, hsince, Nat.le_trans hsc hcc, Nat.le_refl _, fun _ => rfl⟩
      · rcases List.mem_append.1 hi with h | h
        · exact hDL i h
        · simp at h; subst h; exact hj
      · rw [setBlock_ne _ (Ne.symm hne), hb1]; exact hb
      · rw [setBlock_at _ hr1]; simp [mkE]

theorem entry_run {r : Nat} {m : Option Nat} {D : List Nat} {j : Nat} (h : IterO w r m f g L (D ++ [j])) :
    (Instr.entry (.pointer (some ⟨r, 0, none⟩))).run P w = .ok (.tuple #[f j, g j]) w := by
  cases m with
  | none => obtain ⟨_, h2, _⟩ := h; simp at h2
  | some b =>
    obtain ⟨hn, hD, hDL, bo, clock, since, c0, hb, hbo, hinj, hr, hsince, hsc, hcc, hlate⟩ := h
    have hj : j ∈ L := hDL j (by simp)
    rw [hlate (by simp)] at hr
    have hr' : w.heap[r]? = some (.mapIter (some b) since (((D.map bo).toArray).push (mkE f g bo j).born) clock) := by rw [hr]; simp [mkE]
    have := run_entry_at (P := P) w r b since _ _ clock (mkE f g bo j) hr' hb (by simp [entsOf]; exact ⟨j, hj, rfl⟩) (by
      simp only [entsOf, List.toList_toArray, List.map_map]
      rw [List.nodup_iff_pairwise_ne, List.pairwise_map]
      refine List.Pairwise.imp_of_mem ?_ (List.nodup_iff_pairwise_ne.1 hn)
      intro a c ha hc hne he
      exact hne (hinj a ha c hc he))
    exact this

end
end Go.Proofs.YtgaadjgfjiljjaaGreat

/- The program's own keys: objects behind an interface, pointers. How they compare, and that they can be keys. Conditions: those that each theorem names. -/
namespace Go.Proofs.YtgaadjgfjiljjaaGreat
open Go.RowKit Go.Proofs.YtgaadjgfjiljjaaGreatW.PrintWords
open Go.ChangeMaps (setBlock)

/-- Block b is a row of cells. -/
def IsRow (w : World) (b : Nat) : Prop := ∃ cs T, w.heap[b]? = some (.cells cs T (0, 0))
theorem IsRow.same {w w' : World} {b : Nat} (h : IsRow w b) (hb : w'.heap[b]? = w.heap[b]?) : IsRow w' b := by obtain ⟨cs, T, h⟩ := h; exact ⟨cs, T, hb.trans h⟩

section
variable {P : Program} {w : World}

theorem check_ptr {K te : TypeId} (hK : P.underlying K = some (.pointer te)) (e : Bool) (n : Nat) (a : Option Addr) (w : World) : (Instr.checkKey e (n + 1) K (.pointer a)).run P w = .ok () w := by
  simp [Instr.checkKey, run_underlying hK]
theorem check_iface {K t te : TypeId} {ms : Array (String × TypeId)} {i : TypeInfo} (hK : P.underlying K = some (.interface ms)) (ht : P.underlying t = some (.pointer te)) (hi : P.info? t = some i) (hc : i.comparable = true) (e : Bool) (n : Nat) (a : Option Addr) (w : World) :
    (Instr.checkKey e (n + 2) K (.iface t (.pointer a))).run P w = .ok () w := by
  simp [Instr.checkKey, run_underlying hK, run_underlying ht, typeInfo, hi, hc]

theorem equal_ptr {K te : TypeId} {j : TypeInfo} (hK : P.underlying K = some (.pointer te)) (hte : P.info? te = some j) (hsz : j.size ≠ 0) (a b : Nat) (ha : IsRow w a) (hb : IsRow w b) :
    (Op.equal K (.pointer (some ⟨a, 0, none⟩)) (.pointer (some ⟨b, 0, none⟩))).run P w = .ok (decide (a = b)) w := by
  have h : ∀ d : Nat, (Op.equalIn (d + 1) K (.pointer (some ⟨a, 0, none⟩)) (.pointer (some ⟨b, 0, none⟩))).run P w = .ok (decide (a = b)) w := fun d => by
    by_cases e : a = b
    · subst e
      simp [Op.equalIn, run_underlying hK, sizeOf, typeInfo, hte, run_sameAddr_same]
    · obtain ⟨ca, ta, ha⟩ := ha
      obtain ⟨cb, tb, hb⟩ := hb
      have hne : (⟨a, 0, none⟩ : Addr) ≠ ⟨b, 0, none⟩ := fun h => e (by injection h)
      simp [Op.equalIn, run_underlying hK, sizeOf, typeInfo, hte, hsz, run_sameAddr_other w hne ha hb, e]
  exact h 9999

theorem equal_iface {K t u te ue : TypeId} {ms : Array (String × TypeId)} {it iu j : TypeInfo} (hK : P.underlying K = some (.interface ms)) (ht : P.underlying t = some (.pointer te)) (hit : P.info? t = some it) (hc : it.comparable = true)
    (hte : P.info? te = some j) (hsz : j.size ≠ 0) (a b : Nat) (ha : IsRow w a) (hb : IsRow w b) :
    (Op.equal K (.iface t (.pointer (some ⟨a, 0, none⟩))) (.iface u (.pointer (some ⟨b, 0, none⟩)))).run P w = .ok (decide (t = u ∧ a = b)) w := by
  have h : ∀ d : Nat, (Op.equalIn (d + 2) K (.iface t (.pointer (some ⟨a, 0, none⟩))) (.iface u (.pointer (some ⟨b, 0, none⟩)))).run P w = .ok (decide (t = u ∧ a = b)) w := fun d => by
    by_cases et : t = u
    · subst et
      by_cases e : a = b
      · subst e
        simp [Op.equalIn, run_underlying hK, run_underlying ht, sizeOf, typeInfo, hit, hc, hte, run_sameAddr_same]
      · obtain ⟨ca, ta, ha⟩ := ha
        obtain ⟨cb, tb, hb⟩ := hb
        have hne : (⟨a, 0, none⟩ : Addr) ≠ ⟨b, 0, none⟩ := fun h => e (by injection h)
        simp [Op.equalIn, run_underlying hK, run_underlying ht, sizeOf, typeInfo, hit, hc, hte, hsz, run_sameAddr_other w hne ha hb, e]
    · simp [Op.equalIn, run_underlying hK, et]
  exact h 9998

theorem equal_iface_nil {K t u te : TypeId} {ms : Array (String × TypeId)} {it : TypeInfo} (hK : P.underlying K = some (.interface ms)) (ht : P.underlying t = some (.pointer te)) (hit : P.info? t = some it) (hc : it.comparable = true) (b : Nat) :
    (Op.equal K (.iface t (.pointer none)) (.iface u (.pointer (some ⟨b, 0, none⟩)))).run P w = .ok false w := by
  have h : ∀ d : Nat, (Op.equalIn (d + 2) K (.iface t (.pointer none)) (.iface u (.pointer (some ⟨b, 0, none⟩)))).run P w = .ok false w := fun d => by
    by_cases et : t = u
    · subst et
      simp [Op.equalIn, run_underlying hK, run_underlying ht, typeInfo, hit, hc]
    · simp [Op.equalIn, run_underlying hK, et]
  exact h 9998

theorem eql_iface_of {K t u : TypeId} {x y : Value} {b : Bool} (h : (Op.equal K (.iface t x) (.iface u y)).run P w = .ok b w) : (binOp .eql K (.iface t x) (.iface u y)).run P w = .ok (.bool b) w := by
  simp only [binOp]; simp [h]
theorem eql_ptr_of {K : TypeId} {x y : Option Addr} {b : Bool} (h : (Op.equal K (.pointer x) (.pointer y)).run P w = .ok b w) : (binOp .eql K (.pointer x) (.pointer y)).run P w = .ok (.bool b) w := by
  simp only [binOp]; simp [h]
theorem neq_ptr_of {K : TypeId} {x y : Option Addr} {b : Bool} (h : (Op.equal K (.pointer x) (.pointer y)).run P w = .ok b w) : (binOp .neq K (.pointer x) (.pointer y)).run P w = .ok (.bool (!b)) w := by
  simp only [binOp]; simp [h]

/-- Pointers as keys. -/
theorem KeyAt.ptr {K te : TypeId} {j : TypeInfo} (hK : P.underlying K = some (.pointer te)) (hte : P.info? te = some j) (hsz : j.size ≠ 0) (a : Nat → Nat) (g : Nat → Value) (L : List Nat) (q : Nat)
    (hq : IsRow w (a q)) (hL : ∀ i ∈ L, IsRow w (a i)) (hinj : ∀ i ∈ L, a q = a i → i = q) :
    KeyAt P K w (fun i => .pointer (some ⟨a i, 0, none⟩)) g L (.pointer (some ⟨a q, 0, none⟩)) (fun i => decide (i = q)) := by
  refine KeyAt.odd hK (by trivial) g (fun e => check_ptr hK e 9999 _ w) (fun i hi => ?_)
  rw [equal_ptr hK hte hsz _ _ hq (hL i hi)]
  congr 1
  exact decide_eq_decide.2 ⟨fun h => hinj i hi h, fun h => by rw [h]⟩

end

/-! ### over this program -/
/-- The element's type of an object's pointer type. -/
def oEl (t : Nat) : Nat := if t = 90 then 91 else if t = 75 then 80 else 95
def OTy (t : Nat) : Prop := t = 90 ∨ t = 75 ∨ t = 94

theorem oty_under {t : Nat} (h : OTy t) : Tryz.prog.underlying t = some (.pointer (oEl t)) := by
  rcases h with rfl | rfl | rfl
  · exact Tryz.underlying90
  · exact Tryz.underlying75
  · exact Tryz.underlying94
theorem infoC90 : (Tryz.prog.info? 90).map (·.comparable) = some true := by kernel_rfl
theorem infoC75 : (Tryz.prog.info? 75).map (·.comparable) = some true := by kernel_rfl
theorem infoC94 : (Tryz.prog.info? 94).map (·.comparable) = some true := by kernel_rfl
theorem oty_info {t : Nat} (h : OTy t) : ∃ i, Tryz.prog.info? t = some i ∧ i.comparable = true := by
  rcases h with rfl | rfl | rfl
  · exact Option.map_eq_some_iff.1 infoC90
  · exact Option.map_eq_some_iff.1 infoC75
  · exact Option.map_eq_some_iff.1 infoC94
theorem infoS91 : (Tryz.prog.info? 91).map (·.size) = some 3 := by kernel_rfl
theorem infoS80 : (Tryz.prog.info? 80).map (·.size) = some 3 := by kernel_rfl
theorem infoS95 : (Tryz.prog.info? 95).map (·.size) = some 3 := by kernel_rfl
theorem infoS109 : (Tryz.prog.info? 109).map (·.size) = some 5 := by kernel_rfl
theorem infoS93 : (Tryz.prog.info? 93).map (·.size) = some 3 := by kernel_rfl
theorem size_of {t s : Nat} (h : (Tryz.prog.info? t).map (·.size) = some (s + 1)) : ∃ j, Tryz.prog.info? t = some j ∧ j.size ≠ 0 := by
  obtain ⟨j, h1, h2⟩ := Option.map_eq_some_iff.1 h
  exact ⟨j, h1, by rw [h2]; omega⟩
theorem oty_elem {t : Nat} (h : OTy t) : ∃ j, Tryz.prog.info? (oEl t) = some j ∧ j.size ≠ 0 := by
  rcases h with rfl | rfl | rfl
  · exact size_of infoS91
  · exact size_of infoS80
  · exact size_of infoS95

def okey (ty ob : Nat → Nat) (i : Nat) : Value := .iface (ty i) (.pointer (some ⟨ob i, 0, none⟩))
def pkey (a : Nat → Nat) (i : Nat) : Value := .pointer (some ⟨a i, 0, none⟩)

/-- The objects lie in the world. -/
structure Objs (w : World) (n : Nat) (ty ob : Nat → Nat) : Prop where
  ty : ∀ i, i < n → OTy (ty i)
  row : ∀ i, i < n → IsRow w (ob i)
  inj : ∀ i j, i < n → j < n → ob i = ob j → i = j

theorem Objs.same {w w' : World} {n : Nat} {ty ob : Nat → Nat} (h : Objs w n ty ob) (hb : ∀ i, i < n → w'.heap[ob i]? = w.heap[ob i]?) : Objs w' n ty ob := ⟨h.ty, fun i hi => (h.row i hi).same (hb i hi), h.inj⟩
theorem Objs.lt {w : World} {n : Nat} {ty ob : Nat → Nat} (h : Objs w n ty ob) (i : Nat) (hi : i < n) : ob i < w.heap.size := by obtain ⟨_, _, h⟩ := h.row i hi; exact blk_lt h

theorem equal_okey {w : World} {n : Nat} {ty ob : Nat → Nat} (h : Objs w n ty ob) {K : Nat} {ms : Array (String × TypeId)} (hK : Tryz.prog.underlying K = some (.interface ms)) (i j : Nat) (hi : i < n) (hj : j < n) :
    (Op.equal K (okey ty ob i) (okey ty ob j)).run Tryz.prog w = .ok (decide (j = i)) w := by
  obtain ⟨it, h1, h2⟩ := oty_info (h.ty i hi)
  obtain ⟨je, h3, h4⟩ := oty_elem (h.ty i hi)
  unfold okey
  rw [equal_iface (ue := 0) (iu := it) hK (oty_under (h.ty i hi)) h1 h2 h3 h4 _ _ (h.row i hi) (h.row j hj)]
  have e : decide (ty i = ty j ∧ ob i = ob j) = decide (j = i) := decide_eq_decide.2 ⟨fun hh => (h.inj i j hi hj hh.2).symm, fun hh => by rw [hh]; exact ⟨rfl, rfl⟩⟩
  rw [e]

theorem key_okey {w : World} {n : Nat} {ty ob : Nat → Nat} (h : Objs w n ty ob) {K : Nat} {ms : Array (String × TypeId)} (hK : Tryz.prog.underlying K = some (.interface ms)) (g : Nat → Value) (L : List Nat) (hL : ∀ i ∈ L, i < n) (q : Nat) (hq : q < n) :
    KeyAt Tryz.prog K w (okey ty ob) g L (okey ty ob q) (fun i => decide (i = q)) := by
  obtain ⟨it, h1, h2⟩ := oty_info (h.ty q hq)
  exact KeyAt.odd hK (by trivial) g (fun e => check_iface hK (oty_under (h.ty q hq)) h1 h2 e 9998 _ w) (fun i hi => equal_okey h hK q i hq (hL i hi))

/-- The nil variable behind the interface. -/
def nilVar (t : Nat) : Value := .iface t (.pointer none)
theorem check_nilVar {K : Nat} {ms : Array (String × TypeId)} (hK : Tryz.prog.underlying K = some (.interface ms)) (t : Nat) (ht : OTy t) (e : Bool) (n : Nat) (w : World) : (Instr.checkKey e (n + 2) K (nilVar t)).run Tryz.prog w = .ok () w := by
  obtain ⟨it, h1, h2⟩ := oty_info ht
  exact check_iface hK (oty_under ht) h1 h2 e n _ w
theorem equal_nilVar {w : World} {ty ob : Nat → Nat} {K : Nat} {ms : Array (String × TypeId)} (hK : Tryz.prog.underlying K = some (.interface ms)) (t : Nat) (ht : OTy t) (i : Nat) : (Op.equal K (nilVar t) (okey ty ob i)).run Tryz.prog w = .ok false w := by
  obtain ⟨it, h1, h2⟩ := oty_info ht
  exact equal_iface_nil hK (oty_under ht) h1 h2 _
theorem key_okey_nil {w : World} {ty ob : Nat → Nat} {K : Nat} {ms : Array (String × TypeId)} (hK : Tryz.prog.underlying K = some (.interface ms)) (t : Nat) (ht : OTy t) (g : Nat → Value) (L : List Nat) :
    KeyAt Tryz.prog K w (okey ty ob) g L (nilVar t) (fun _ => false) :=
  KeyAt.odd hK (by trivial) g (fun e => check_nilVar hK t ht e 9998 w) (fun i hi => equal_nilVar hK t ht i)

theorem key_pkey {w : World} {K te s : Nat} (hK : Tryz.prog.underlying K = some (.pointer te)) (hs : (Tryz.prog.info? te).map (·.size) = some (s + 1)) (a : Nat → Nat) (g : Nat → Value) (L : List Nat) (q : Nat)
    (hq : IsRow w (a q)) (hL : ∀ i ∈ L, IsRow w (a i)) (hinj : ∀ i ∈ L, a q = a i → i = q) : KeyAt Tryz.prog K w (pkey a) g L (pkey a q) (fun i => decide (i = q)) := by
  obtain ⟨j, h1, h2⟩ := size_of hs
  exact KeyAt.ptr hK h1 h2 a g L q hq hL hinj

theorem dec_iff {L : List Nat} {q : Nat} : ∀ i ∈ L, (decide (i = q)) = true ↔ i = q := fun i _ => decide_eq_true_iff
theorem dec_absent {L : List Nat} {q : Nat} (h : q ∉ L) : ∀ i ∈ L, (decide (i = q)) = false := fun i hi => decide_eq_false (fun e => h (e ▸ hi))
theorem sameBits_okey (ty ob : Nat → Nat) (i : Nat) : Instr.sameBits 10000 (okey ty ob i) (okey ty ob i) = true := by
  have h : ∀ n, Instr.sameBits (n + 1) (okey ty ob i) (okey ty ob i) = true := fun n => by simp [okey, Instr.sameBits]
  exact h 9999
theorem sameBits_pkey (a : Nat → Nat) (i : Nat) : Instr.sameBits 10000 (pkey a i) (pkey a i) = true := by
  have h : ∀ n, Instr.sameBits (n + 1) (pkey a i) (pkey a i) = true := fun n => by simp [pkey, Instr.sameBits]
  exact h 9999

end Go.Proofs.YtgaadjgfjiljjaaGreat

/- The walk's rules for ranging over a map, for the step, for what a step hands out, for storing and deleting. Conditions: those that each theorem names. -/
namespace Go.Proofs.YtgaadjgfjiljjaaGreat
open Go.RowKit Go.Proofs.YtgaadjgfjiljjaaGreatW.PrintWords
open Go.ChangeMaps (setBlock)

section
variable {P : Program} {ops : Array Oper} {Q : Exit → Act → World → Prop} {a : Act} {rest : List Oper} {o : Oper} {W : World} {f g : Nat → Value} {L D : List Nat}

theorem wp_range (hgd : o.guard = none) {N : Tmp} (_hd : o.dst = some N) {T K E : TypeId} {x : Operand} {m : Option Nat} (ho : o.op = .range T x) (hx : a.eval x = .map m) (hu : P.underlying T = some (.map K E)) (hm : MapO W m f g L)
    (h : ∀ (r : Nat) (W' : World), r = W.heap.size → Below W.heap.size W W' → IterO W' r m f g L [] → wpList P ops Q rest (a.put o.dst (.pointer (some ⟨r, 0, none⟩))) W') : wpList P ops Q (o :: rest) a W := by
  obtain ⟨o', hrun, hI⟩ := range_run hu m hm
  refine Kd.event_run hgd (v := .pointer (some ⟨W.heap.size, 0, none⟩)) (w1 := W.alloc o') ?_ (h _ _ rfl (below_alloc (Below.refl _ _) _) hI)
  unfold execOp
  simp only [ho, hx]
  simp only [Sem.run_bind, Sem.run_map, hrun, Result.andThen, Sem.run_pure]

theorem wp_next (hgd : o.guard = none) {N : Tmp} (_hd : o.dst = some N) {x : Operand} {r : Nat} {m : Option Nat} (ho : o.op = .next x false) (hx : a.eval x = .pointer (some ⟨r, 0, none⟩)) (hI : IterO W r m f g L D)
    (h0 : (∀ i ∈ L, i ∈ D) → wpList P ops Q rest (a.put o.dst (.tuple #[.bool false])) W)
    (h1 : ∀ (j : Nat) (W' : World), j ∈ L → j ∉ D → Touch (fun k => k = r) W W' → IterO W' r m f g L (D ++ [j]) → wpList P ops Q rest (a.put o.dst (.tuple #[.bool true, f j, g j])) W') : wpList P ops Q (o :: rest) a W := by
  rcases next_run (P := P) o.type hI with ⟨hall, hrun⟩ | ⟨j, w1, o', hj, hjD, hw1, hrun, hI'⟩
  · refine Kd.event_run hgd (v := .tuple #[.bool false]) (w1 := W) ?_ (h0 hall)
    unfold execOp
    simp only [ho, hx]
    simp only [Sem.run_bind, Sem.run_map, hrun, Result.andThen, Sem.run_pure]
  · refine Kd.event_run hgd (v := .tuple #[.bool true, f j, g j]) (w1 := setBlock w1 r o') ?_ (h1 j _ hj hjD ?_ hI')
    · unfold execOp
      simp only [ho, hx]
      simp only [Sem.run_bind, Sem.run_map, hrun, Result.andThen, Sem.run_pure]
    · refine Touch.setBlock (S := fun k => k = r) ?_ (fun _ => rfl) _
      rcases hw1 with rfl | rfl
      · exact Touch.refl _ _
      · exact (Touch.refl _ _).drew

theorem wp_entry (hgd : o.guard = none) {N : Tmp} (_hd : o.dst = some N) {x : Operand} {r j : Nat} {m : Option Nat} (ho : o.op = .entry x) (hx : a.eval x = .pointer (some ⟨r, 0, none⟩)) (hI : IterO W r m f g L (D ++ [j]))
    (h : wpList P ops Q rest (a.put o.dst (.tuple #[f j, g j])) W) : wpList P ops Q (o :: rest) a W := by
  have hrun := entry_run (P := P) hI
  refine Kd.event_run hgd (v := .tuple #[f j, g j]) (w1 := W) ?_ h
  unfold execOp
  simp only [ho, hx]
  simp only [Sem.run_bind, Sem.run_map, hrun, Result.andThen, Sem.run_pure]

theorem wp_lookup (hgd : o.guard = none) {N : Tmp} (_hd : o.dst = some N) {T : TypeId} {x q : Operand} {ok : Bool} {mv kv v : Value} (ho : o.op = .lookup T x q ok) (hx : a.eval x = mv) (hq : a.eval q = kv) (hrun : (Instr.lookup T mv kv ok).run P W = .ok v W)
    (h : wpList P ops Q rest (a.put o.dst v) W) : wpList P ops Q (o :: rest) a W := by
  refine Kd.event_run hgd (v := v) (w1 := W) ?_ h
  unfold execOp
  simp only [ho, hx, hq]
  simp only [Sem.run_bind, Sem.run_map, hrun, Result.andThen, Sem.run_pure]

theorem wp_update (hgd : o.guard = none) (hN : o.dst = none) {T : TypeId} {x q y : Operand} {mv kv vv : Value} {W' : World} (ho : o.op = .mapUpdate T x q y) (hx : a.eval x = mv) (hq : a.eval q = kv) (hy : a.eval y = vv) (hrun : (Instr.mapUpdate T mv kv vv).run P W = .ok () W')
    (h : wpList P ops Q rest a W') : wpList P ops Q (o :: rest) a W := by
  refine wpList_plain hgd fun K hK => ?_
  unfold Oper.wp execOp
  simp only [ho, hx, hq, hy]
  simp only [Sem.run_bind, Sem.run_map, hrun, Result.andThen, Sem.run_pure]
  show K (a.put o.dst undef) W'
  rw [hN]
  exact hK _ _ h

theorem wp_delete (hgd : o.guard = none) (hN : o.dst = none) {x q : Operand} {ts : Array TypeId} {mv kv : Value} {W' : World} (ho : o.op = .call { callee := .builtin .delete, args := #[x, q], argTypes := ts }) (hx : a.eval x = mv) (hq : a.eval q = kv)
    (hrun : (Builtin.delete_ ts o.type #[mv, kv]).run P W = .ok (.tuple #[]) W') (h : wpList P ops Q rest a W') : wpList P ops Q (o :: rest) a W := by
  refine wpList_plain hgd fun K hK => ?_
  unfold Oper.wp execOp
  simp only [ho, resolve, invoke, builtin, Sem.run_bind, Sem.run_pure, Result.andThen_ok, List.map_toArray, List.map_cons, List.map_nil, hx, hq, hrun]
  show K (a.put o.dst _) W'
  rw [hN]
  exact hK _ _ h

end
end Go.Proofs.YtgaadjgfjiljjaaGreat

/- nodeSet.add, number, hasInitializer: what each call does. Conditions: those that each theorem names. -/
namespace Go.Proofs.YtgaadjgfjiljjaaGreat
open Go.RowKit Go.Proofs.YtgaadjgfjiljjaaGreatW.PrintWords Go.Proofs.YtgaadjgfjiljjaaGreatW.PrintLast Go.Proofs.YtgaadjgfjiljjaaGreatW.PrintMore
open Go.ChangeMaps (setBlock)
set_option linter.unusedVariables false
set_option linter.unusedSimpArgs false

def yes (_ : Nat) : Value := .bool true

theorem hasInit_calls (b : Nat) (x : Bool) (w : World) (h : w.cell? ⟨b, 1, none⟩ = some (.bool x)) :
    Calls Tryz.prog 45 #[.pointer (some ⟨b, 0, none⟩)] w fun e w' => e = .returned (.bool x) ∧ w = w' := by
  go_enter Tryz.func45, Tryz.ntmps45
  go_wp2_with fail
  go_ret
  exact ⟨rfl, rfl⟩

theorem order_calls (b : Nat) (x : Int) (w : World) (h : w.cell? ⟨b, 1, none⟩ = some (.int .u32 x)) :
    Calls Tryz.prog 118 #[.pointer (some ⟨b, 0, none⟩)] w fun e w' => e = .returned (.int .u32 x) ∧ w = w' := by
  go_enter Tryz.func118, Tryz.ntmps118
  go_wp2_with fail
  go_ret
  exact ⟨rfl, rfl⟩

theorem zero90 (w : World) : (zeroValue 90).run Tryz.prog w = .ok (.pointer none) w := by kernel_rfl
theorem zero75 (w : World) : (zeroValue 75).run Tryz.prog w = .ok (.pointer none) w := by kernel_rfl
theorem zero94 (w : World) : (zeroValue 94).run Tryz.prog w = .ok (.pointer none) w := by kernel_rfl
theorem assert_yes {t te xT : TypeId} (ht : Tryz.prog.underlying t = some (.pointer te)) (v : Value) (w : World) (ok : Bool) : (Instr.typeAssert (.iface t v) xT t ok).run Tryz.prog w = .ok (if ok then .tuple #[v, .bool true] else v) w := by
  simp [Instr.typeAssert, run_underlying ht]
theorem assert_no {t u te xT : TypeId} {z : Value} (ht : Tryz.prog.underlying t = some (.pointer te)) (hne : u ≠ t) (hz : ∀ w, (zeroValue t).run Tryz.prog w = .ok z w) (v : Value) (w : World) : (Instr.typeAssert (.iface u v) xT t true).run Tryz.prog w = .ok (.tuple #[z, .bool false]) w := by
  simp [Instr.typeAssert, run_underlying ht, hne, hz]

set_option maxRecDepth 100000 in
theorem number_calls (t b : Nat) (ht : OTy t) (x : Int) (w : World) (h : w.cell? ⟨b, 2, none⟩ = some (.int .i64 x)) :
    Calls Tryz.prog 38 #[.iface t (.pointer (some ⟨b, 0, none⟩))] w fun e w' => e = .returned (.int .i64 x) ∧ w = w' := by
  rcases ht with rfl | rfl | rfl
  · have h1 := assert_yes (xT := 82) Tryz.underlying90 (.pointer (some ⟨b, 0, none⟩)) w true
    go_enter Tryz.func38, Tryz.ntmps38
    go_wp2_with fail
    go_ret
    exact ⟨rfl, rfl⟩
  · have h1 := assert_no (xT := 82) Tryz.underlying90 (show 75 ≠ 90 by decide) zero90 (.pointer (some ⟨b, 0, none⟩)) w
    have h2 := assert_yes (xT := 82) Tryz.underlying75 (.pointer (some ⟨b, 0, none⟩)) w true
    go_enter Tryz.func38, Tryz.ntmps38
    go_wp2_with fail
    go_ret
    exact ⟨rfl, rfl⟩
  · have h1 := assert_no (xT := 82) Tryz.underlying90 (show 94 ≠ 90 by decide) zero90 (.pointer (some ⟨b, 0, none⟩)) w
    have h2 := assert_no (xT := 82) Tryz.underlying75 (show 94 ≠ 75 by decide) zero75 (.pointer (some ⟨b, 0, none⟩)) w
    have h3 := assert_yes (xT := 82) Tryz.underlying94 (.pointer (some ⟨b, 0, none⟩)) w true
    go_enter Tryz.func38, Tryz.ntmps38
    go_wp2_with fail
    go_ret
    exact ⟨rfl, rfl⟩

theorem isNaN_calls (x : Int) (w : World) : Calls Tryz.prog 61 #[.int .i64 x] w fun e w' => e = .returned (.bool false) ∧ w = w' := by
  go_enter Tryz.func61, Tryz.ntmps61
  go_wp2_with fail
  go_ret
  exact ⟨by simp, rfl⟩

def cmpI (x y : Int) : Int := if x < y then -1 else if y < x then 1 else 0
theorem compare_calls (x y : Int) (w : World) : Calls Tryz.prog 51 #[.int .i64 x, .int .i64 y] w fun e w' => e = .returned (.int .i64 (cmpI x y)) ∧ w = w' := by
  by_cases h1 : x < y
  · have e1 : cmpI x y = -1 := by unfold cmpI; rw [if_pos h1]
    rw [e1]
    have hb1 := decide_eq_true h1
    clear e1
    go_enter Tryz.func51, Tryz.ntmps51
    go_wp2_with (go_at_call 61; refine (isNaN_calls _ _).mono ?_; rintro e w' ⟨rfl, rfl⟩)
    go_ret
    exact ⟨rfl, rfl⟩
  · have hb1 := decide_eq_false h1
    by_cases h2 : x > y
    · have e1 : cmpI x y = 1 := by unfold cmpI; rw [if_neg h1, if_pos h2]
      rw [e1]
      have hb2 := decide_eq_true h2
      clear e1
      go_enter Tryz.func51, Tryz.ntmps51
      go_wp2_with (go_at_call 61; refine (isNaN_calls _ _).mono ?_; rintro e w' ⟨rfl, rfl⟩)
      go_ret
      exact ⟨rfl, rfl⟩
    · have e1 : cmpI x y = 0 := by unfold cmpI; rw [if_neg h1, if_neg h2]
      rw [e1]
      have hb2 := decide_eq_false h2
      clear e1
      go_enter Tryz.func51, Tryz.ntmps51
      go_wp2_with (go_at_call 61; refine (isNaN_calls _ _).mono ?_; rintro e w' ⟨rfl, rfl⟩)
      go_ret
      exact ⟨rfl, rfl⟩

/-- A number added to a list, once. -/
def addL (L : List Nat) (j : Nat) : List Nat := if j ∈ L then L else L ++ [j]
theorem addL_mem {L : List Nat} {j i : Nat} : i ∈ addL L j ↔ i ∈ L ∨ i = j := by
  unfold addL; split
  · exact ⟨fun h => .inl h, fun h => h.elim id (fun e => e ▸ by assumption)⟩
  · simp
theorem touch_set (w : World) (r : Nat) (o : Obj) : Touch (fun b => b = r) w (setBlock w r o) := Touch.setBlock (S := fun b => b = r) (Touch.refl _ _) (fun _ => rfl) _

set_option maxRecDepth 100000 in
/-- add, where there is a map already. -/
theorem add_some (gb k mb : Nat) (cs : Array Value) (gn : Nat → Nat) (j : Nat) (L : List Nat) (w : World) (hg : w.heap[gb]? = some (.cells cs 109 (0, 0))) (hk : cs[k]? = some (.map (some mb)))
    (hm : MapL w mb (pkey gn) yes L) (hj : IsRow w (gn j)) (hL : ∀ i ∈ L, IsRow w (gn i)) (hinj : ∀ i ∈ L, gn j = gn i → i = j) :
    Calls Tryz.prog 48 #[.pointer (some ⟨gb, k, none⟩), .pointer (some ⟨gn j, 0, none⟩)] w fun e w' => e = .returned (.tuple #[]) ∧ Touch (fun b => b = mb) w w' ∧ MapL w' mb (pkey gn) yes (addL L j) := by
  have hc : w.cell? ⟨gb, k, none⟩ = some (.map (some mb)) := by rw [blk_cell hg k]; exact hk
  have hn := run_eql_map_nil (P := Tryz.prog) w 107 102 4 mb Tryz.underlying107
  have hu : ∃ w', (Instr.mapUpdate 107 (.map (some mb)) (.pointer (some ⟨gn j, 0, none⟩)) (.bool true)).run Tryz.prog w = .ok () w' ∧ Touch (fun b => b = mb) w w' ∧ MapL w' mb (pkey gn) yes (addL L j) := by
    have hka := key_pkey (K := 102) Tryz.underlying102 infoS109 gn yes L j hj hL hinj
    by_cases hjL : j ∈ L
    · rw [show addL L j = L from if_pos hjL]
      obtain ⟨o, h1, h2⟩ := update_found (P := Tryz.prog) (T := 107) Tryz.underlying107 hm hka hjL dec_iff (sameBits_pkey gn j)
      exact ⟨_, h1, touch_set _ _ _, h2⟩
    · rw [show addL L j = L ++ [j] from if_neg hjL]
      obtain ⟨o, h1, h2⟩ := update_absent (P := Tryz.prog) (T := 107) Tryz.underlying107 hm hka (dec_absent hjL) hjL
      exact ⟨_, h1, touch_set _ _ _, h2⟩
  obtain ⟨w', hrun, hT, hM⟩ := hu
  have HT := Aside0.mk hT
  have HM := Aside0.mk hM
  clear hg hk hm hj hL hinj hT hM
  go_enter Tryz.func48, Tryz.ntmps48
  go_wp2_with fail
  go_end0
  exact ⟨rfl, HT.out, HM.out⟩

set_option maxRecDepth 100000 in
/-- add, where there is no map yet. -/
theorem add_none (gb k : Nat) (cs : Array Value) (gn : Nat → Nat) (j : Nat) (w : World) (hg : w.heap[gb]? = some (.cells cs 109 (0, 0))) (hk : cs[k]? = some (.map none)) (hj : IsRow w (gn j)) :
    Calls Tryz.prog 48 #[.pointer (some ⟨gb, k, none⟩), .pointer (some ⟨gn j, 0, none⟩)] w fun e w' => e = .returned (.tuple #[]) ∧ Touch (fun b => b = gb) w w' ∧
      w'.heap[gb]? = some (.cells (cs.setIfInBounds k (.map (some w.heap.size))) 109 (0, 0)) ∧ MapL w' w.heap.size (pkey gn) yes [j] := by
  have hc : w.cell? ⟨gb, k, none⟩ = some (.map none) := by rw [blk_cell hg k]; exact hk
  have hfz : w.frozen? ⟨gb, k, none⟩ = false := blk_frozen hg k
  have hlt := blk_lt hg
  have hn := run_eql_map_nil (P := Tryz.prog) w 107 102 4 none Tryz.underlying107
  have hmm := @run_makeMap Tryz.prog
  have hsz : (w.setCell ⟨gb, k, none⟩ (.map (some w.heap.size))).heap.size = w.heap.size := by simp
  obtain ⟨w2, hw2⟩ : ∃ w2, w2 = (w.setCell ⟨gb, k, none⟩ (.map (some w.heap.size))).alloc (.map #[] 0) := ⟨_, rfl⟩
  have hg2 : w2.heap[gb]? = some (.cells (cs.setIfInBounds k (.map (some w.heap.size))) 109 (0, 0)) := by
    rw [hw2, heap_alloc_old _ _ (by rw [hsz]; exact hlt)]; exact blk_set hg k _
  have hm2 : MapL w2 w.heap.size (pkey gn) yes [] := by
    have h := mapL_new (w.setCell ⟨gb, k, none⟩ (.map (some w.heap.size))) (pkey gn) yes
    rw [hsz, ← hw2] at h; exact h
  have hT2 : Touch (fun b => b = gb) w w2 := by rw [hw2]; exact Touch.alloc (Touch.set_ (S := fun b => b = gb) (Touch.refl _ _) (fun _ => rfl) _) _
  have hj2 : IsRow w2 (gn j) := by
    by_cases e : gn j = gb
    · rw [e]; exact ⟨_, _, hg2⟩
    · exact hj.same (hT2.block _ (by obtain ⟨_, _, h⟩ := hj; exact blk_lt h) e)
  have hka := key_pkey (w := w2) (K := 102) Tryz.underlying102 infoS109 gn yes [] j hj2 (fun i h => (by cases h)) (fun i h => (by cases h))
  obtain ⟨o, h1, h2⟩ := update_absent (P := Tryz.prog) (T := 107) Tryz.underlying107 hm2 hka (fun i h => (by cases h)) (by simp)
  have hc2 : w2.cell? ⟨gb, k, none⟩ = some (.map (some w.heap.size)) := by
    rw [blk_cell hg2 k]
    have hk' := (Array.getElem?_eq_some_iff.1 hk).1
    simp [hk']
  have HT := Aside0.mk (show Touch (fun b => b = gb) w (setBlock w2 w.heap.size o) from hT2.setBlock (fun h => absurd h (Nat.lt_irrefl _)) o)
  have HG := Aside0.mk (show (setBlock w2 w.heap.size o).heap[gb]? = some (.cells (cs.setIfInBounds k (.map (some w.heap.size))) 109 (0, 0)) from (setBlock_ne o (by omega)).trans hg2)
  have HM := Aside0.mk h2
  subst hw2
  have hrun : (Instr.mapUpdate 107 (.map (some w.heap.size)) (.pointer (some ⟨gn j, 0, none⟩)) (.bool true)).run Tryz.prog _ = _ := h1
  clear hg hk hj hg2 hm2 hT2 hj2 hka h2 hsz h1
  go_enter Tryz.func48, Tryz.ntmps48
  go_wp2_with fail
  go_end0
  exact ⟨rfl, HT.out, HG.out, HM.out⟩

end Go.Proofs.YtgaadjgfjiljjaaGreat
