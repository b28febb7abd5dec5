/- FindPath (32): the walk. Conditions: nodes such as NdsOk says. -/
import Derived.Test.YtgaadjgfjiljjaaGreatXi
import Derived.Test.YtgaadjgfjiljjaaGreatXh
import Derived.Deep.RegionHeld3
import Derived.Test.YtgaadjgfjiljjaaGreatXc
namespace Go.Proofs.YtgaadjgfjiljjaaGreat
open Go.RowKit Go.Proofs.YtgaadjgfjiljjaaGreatW.PrintWords Go.Proofs.YtgaadjgfjiljjaaGreatW.PrintLast Go.Proofs.YtgaadjgfjiljjaaGreatW.PrintMore
open Go.ChangeMaps (setBlock)
set_option linter.unusedVariables false
set_option linter.unusedSimpArgs false

/-- What each object refers to, as build has it. -/
def DJSpec (nds : List Nd) (DJ : Nat → List Nat) : Prop := ∀ j, j < nds.length → ∀ k : Nat, k ∈ DJ j ↔ ∃ j', j' < nds.length ∧ (j' = j ∨ ((rd_Nd nds j').gr = (rd_Nd nds j).gr ∧ 0 < (rd_Nd nds j).gr)) ∧ (k : Int) ∈ (rd_Nd nds j').dp

end Go.Proofs.YtgaadjgfjiljjaaGreat

/- impl.Path (17), over declarations; what it says of references. Conditions: PkgOk. -/
namespace Go.Proofs.YtgaadjgfjiljjaaGreat
open Go.RowKit Go.Proofs.YtgaadjgfjiljjaaGreatW.PrintWords Go.Proofs.YtgaadjgfjiljjaaGreatW.PrintLast Go.Proofs.YtgaadjgfjiljjaaGreatW.PrintMore
set_option linter.unusedVariables false
set_option linter.unusedSimpArgs false

theorem nds_mem {p : List It} {x : Nd} (h : x ∈ ndsL p) : ∃ j r, j < p.length ∧ x = ndOf p j r := by
  unfold ndsL ndsN at h
  obtain ⟨j, hj, hx⟩ := List.mem_flatMap.1 h
  obtain ⟨i, hi, rfl⟩ := List.mem_map.1 hx
  exact ⟨j, _, List.mem_range.1 hj, rfl⟩
theorem ndsOk_of {p : List It} (hp : PkgOk p) : NdsOk (ndsL p) := by
  refine ⟨by rw [ndsL_length]; exact hp.tot, fun x hx => ?_, fun x hx => ?_, fun x hx hg => ?_, fun x hx r hr => ?_, fun x hx => ?_⟩
  all_goals obtain ⟨j, r', hj, rfl⟩ := nds_mem hx
  · unfold ndOf
    simp only
    split
    · exact .inr (.inr rfl)
    · split
      · exact .inl rfl
      · exact .inr (.inl rfl)
  · unfold ndOf
    simp only
    split <;> omega
  · unfold ndOf at hg ⊢
    simp only at hg ⊢
    by_cases h1 : (itA p j).f0 = 1
    · rw [h1]; simp
    · rw [if_neg h1] at hg; omega
  · rw [ndsL_length]
    exact hp.refs _ (itA_mem hj) r hr
  · exact hp.short _ (itA_mem hj)

/-- What build's nodes refer to is what the declarations refer to. -/
theorem dj_refs {p : List It} (hp : PkgOk p) {DJ : Nat → List Nat} (h : DJSpec (ndsL p) DJ) (r : Nat) (hr : r < totN p) (k : Nat) : k ∈ DJ r ↔ (k : Int) ∈ refsN p (ow p r) := by
  rw [h r (by rw [ndsL_length]; exact hr) k]
  have dpe : ∀ j, j < totN p → (rd_Nd (ndsL p) j).dp = refsN p (ow p j) := fun j hj => by rw [rd_ndsL p j hj]; rfl
  have gre : ∀ j, j < totN p → (rd_Nd (ndsL p) j).gr = if (itA p (ow p j)).f0 = 1 then ((ow p j : Nat) : Int) + 1 else 0 := fun j hj => by rw [rd_ndsL p j hj]; rfl
  constructor
  · rintro ⟨j', h1, h2, h3⟩
    rw [ndsL_length] at h1
    rw [dpe j' h1] at h3
    rcases h2 with h2 | ⟨h2, h2'⟩
    · rw [← h2]; exact h3
    · rw [gre r hr] at h2 h2'
      rw [gre j' h1] at h2
      by_cases e : (itA p (ow p r)).f0 = 1
      · rw [if_pos e] at h2
        by_cases e' : (itA p (ow p j')).f0 = 1
        · rw [if_pos e'] at h2
          have : ow p j' = ow p r := by omega
          rw [← this]; exact h3
        · rw [if_neg e'] at h2; omega
      · rw [if_neg e] at h2'; omega
  · intro h3
    exact ⟨r, by rw [ndsL_length]; exact hr, .inl rfl, by rw [dpe r hr]; exact h3⟩

end Go.Proofs.YtgaadjgfjiljjaaGreat
