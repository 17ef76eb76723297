/- The plain law behind the search: what it finds is what the package answers, whichever glob comes first. -/
import Derived.Test.YthlhfdidlfdaiaaSpecMeet
namespace Go.Proofs.Ythlhfdidlfdaiaa
open Go.RowKit

theorem bare_k (xs : List KSp) : BareK (xs.map KSp.bare) := by
  intro x hx
  obtain ⟨y, _, rfl⟩ := List.mem_map.1 hx
  rfl

theorem tok_one (x : KSp) : (flg x.q = 43 ↔ x.f = 1) := flg_cases (fun g f => g = 43 ↔ f = 1) x (by decide) (by decide) (by decide)

theorem stepsK_bare {l : List KSp} (h : BareK l) : stepsK l = l := by
  induction l with
  | nil => rfl
  | cons x l ih =>
    have e : stepsK (x :: l) = step1 x ++ stepsK l := rfl
    have h0 := h x (by simp)
    have h1 : ¬ flg x.q = 43 := fun e => by rw [(tok_one x).1 e] at h0; cases h0
    have e1 : step1 x = [x] := if_neg h1
    rw [e, e1, ih (fun y hy => h y (by simp [hy]))]
    rfl

theorem starry_steps (l : List KSp) : Starry (stepsK l) := by
  intro y hy
  obtain ⟨x, _, hx⟩ := List.mem_flatMap.1 hy
  by_cases hq : flg x.q = 43
  · have e1 : step1 x = [⟨x.k, 0⟩, ⟨x.k, 3⟩] := if_pos hq
    rw [e1] at hx
    simp at hx
    rcases hx with rfl | rfl
    · exact .inl rfl
    · exact .inr rfl
  · have e1 : step1 x = [x] := if_neg hq
    rw [e1] at hx
    simp at hx
    subst hx
    rcases y.fine.2 with h | h | h
    · exact .inl h
    · exact absurd ((tok_one y).2 h) hq
    · exact .inr h

theorem bare_tok {g : List KSp} (h : BareK g) : Bare (g.map KSp.tok) := by
  intro t ht
  obtain ⟨x, hx, rfl⟩ := List.mem_map.1 ht
  exact h x hx

/-- What the search finds. -/
theorem meets_found {g ys : List KSp} (hg : BareK g) (hne : g ≠ []) {sm : Bool} (h : sm = true ↔ Reach (stepsK g) (stepsK (spacedK ys)) (endAt (stepsK g) (stepsK (spacedK ys)))) :
    meets (g.map KSp.tok) ((spacedK ys).map KSp.tok) = sm ∧ meets ((spacedK ys).map KSp.tok) (g.map KSp.tok) = sm := by
  obtain ⟨h1, h2⟩ := meets_exact (bare_tok hg) (spacedK_spc ys) (ks_flagged _)
  rw [stepsK_bare hg] at h
  have h3 := reach_iff hg (starry_steps (spacedK ys)) hne
  rw [← cm_steps] at h3
  unfold endAt at h
  rw [h3] at h
  exact ⟨by rw [Bool.eq_iff_iff, h1, h], by rw [Bool.eq_iff_iff, h2, h]⟩

end Go.Proofs.Ythlhfdidlfdaiaa
