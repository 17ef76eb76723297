/- The plain law: the specification's search finds a common text just if there is one. No program here. -/
import Derived.Test.YthlhfdidlfdaiaaSkips
namespace Go.Proofs.Ythlhfdidlfdaiaa

/-- Have the tokens at these places a letter in common? -/
def bothAt (a b : List KSp) (p : Pl) : Bool := match a[p.i]?, b[p.k]? with | some x, some y => mt (kt x.k) (kt y.k) | _, _ => false
/-- The place behind a letter of the token at place i. -/
def nextAt (l : List KSp) (i : Nat) : Nat := match l[i]? with | some x => nextK x i | none => i
/-- The places to which one comes from p. -/
def moves (a b : List KSp) (p : Pl) : List Pl := skipsK a b p ++ (if bothAt a b p then [⟨nextAt a p.i, nextAt b p.k, true⟩] else [])

/-- What can be reached. -/
inductive Reach (a b : List KSp) : Pl → Prop
  | start : Reach a b ⟨0, 0, false⟩
  | move {p q : Pl} : Reach a b p → q ∈ moves a b p → Reach a b q

/-- One place after the other, each that is new. -/
def addAll (row qs : List Pl) : List Pl := qs.foldl (fun row q => if q ∈ row then row else row ++ [q]) row

theorem mem_addAll (row qs : List Pl) (x : Pl) : x ∈ addAll row qs ↔ x ∈ row ∨ x ∈ qs := by
  induction qs generalizing row with
  | nil => simp [addAll]
  | cons q qs ih =>
    have : addAll row (q :: qs) = addAll (if q ∈ row then row else row ++ [q]) qs := rfl
    rw [this, ih]
    split
    · rename_i h
      constructor
      · rintro (h1 | h1)
        · exact .inl h1
        · exact .inr (by simp [h1])
      · rintro (h1 | h1)
        · exact .inl h1
        · simp at h1
          rcases h1 with rfl | h1
          · exact .inl h
          · exact .inr h1
    · simp [or_assoc]

theorem addAll_nodup (row qs : List Pl) (h : row.Nodup) : (addAll row qs).Nodup := by
  induction qs generalizing row with
  | nil => simpa [addAll] using h
  | cons q qs ih =>
    have : addAll row (q :: qs) = addAll (if q ∈ row then row else row ++ [q]) qs := rfl
    rw [this]
    refine ih _ ?_
    split
    · exact h
    · rename_i hn
      rw [List.nodup_append]
      refine ⟨h, by simp, fun x hx y hy => ?_⟩
      simp at hy
      subst hy
      exact fun e => hn (e ▸ hx)

theorem tok_two (x : KSp) : (flg x.q = 42 ↔ x.f = 2) := flg_cases (fun g f => g = 42 ↔ f = 2) x (by decide) (by decide) (by decide)

/-- A plus is one without a flag, and one with a star. -/
theorem cm_steps (g : List Tok) (h : List KSp) : Cm g (h.map KSp.tok) ↔ Cm g ((stepsK h).map KSp.tok) := by
  induction h generalizing g with
  | nil => simp [stepsK]
  | cons x h ih =>
    have e : stepsK (x :: h) = step1 x ++ stepsK h := rfl
    rw [e]
    by_cases hq : flg x.q = 43
    · have hf : x.f = 1 := (flg_cases (fun g f => g = 43 → f = 1) x (by decide) (by decide) (by decide)) hq
      have e1 : step1 x = [⟨x.k, 0⟩, ⟨x.k, 3⟩] := if_pos hq
      have e2 : x.tok = ⟨kt x.k, 1⟩ := by simp [KSp.tok, hf]
      rw [e1, List.map_cons, e2, cm_plus]
      simp only [List.cons_append, List.nil_append, List.map_cons]
      have ihs : ∀ r, Cm r (⟨kt x.k, 2⟩ :: h.map KSp.tok) ↔ Cm r (⟨kt x.k, 2⟩ :: (stepsK h).map KSp.tok) := fun r => by
        simp only [Cm, ih]
      cases g with
      | nil =>
        have := cm_nil_zero (KSp.tok ⟨x.k, 0⟩) (KSp.tok ⟨x.k, 3⟩ :: (stepsK h).map KSp.tok) rfl
        simp [this]
      | cons y g =>
        rw [cm_zero y g (KSp.tok ⟨x.k, 0⟩) _ rfl]
        constructor
        · rintro ⟨y', r, he, h1, h2⟩
          simp at he
          obtain ⟨rfl, rfl⟩ := he
          exact ⟨h1, (ihs _).1 h2⟩
        · rintro ⟨h1, h2⟩
          exact ⟨y, g, rfl, h1, (ihs _).2 h2⟩
    · have e1 : step1 x = [x] := if_neg hq
      rw [e1]
      simp only [List.cons_append, List.nil_append, List.map_cons, Cm, ih]

/-- The rest of a, as tokens. -/
def suf (l : List KSp) (i : Nat) : List Tok := (l.drop i).map KSp.tok
theorem suf_at {l : List KSp} {i : Nat} {x : KSp} (h : l[i]? = some x) : suf l i = x.tok :: suf l (i + 1) := by
  obtain ⟨hl, rfl⟩ := List.getElem?_eq_some_iff.1 h
  unfold suf
  rw [List.drop_eq_getElem_cons hl]
  rfl
theorem suf_end {l : List KSp} {i : Nat} (h : l[i]? = none) : suf l i = [] := by
  unfold suf
  rw [List.drop_of_length_le (by simpa using h)]
  rfl

/-- Only none and star. -/
def Starry (l : List KSp) : Prop := ∀ x ∈ l, x.f = 0 ∨ x.f = 2
def BareK (l : List KSp) : Prop := ∀ x ∈ l, x.f = 0

theorem starAt_bare {a : List KSp} (h : BareK a) (i : Nat) : starAt a i = false := by
  unfold starAt
  cases hi : a[i]? with
  | none => rfl
  | some x =>
    have h0 := h x (List.mem_of_getElem? hi)
    have : ¬ flg x.q = 42 := fun e => by rw [(tok_two x).1 e] at h0; cases h0
    simpa using this

theorem mem_moves {a b : List KSp} (ha : BareK a) {p q : Pl} : q ∈ moves a b p ↔ (starAt b p.k = true ∧ q = ⟨p.i, p.k + 1, p.s⟩) ∨ (bothAt a b p = true ∧ q = ⟨nextAt a p.i, nextAt b p.k, true⟩) := by
  unfold moves skipsK
  rw [starAt_bare ha]
  cases h1 : starAt b p.k <;> cases h2 : bothAt a b p <;> simp

theorem nextAt_bare {a : List KSp} (h : BareK a) {i : Nat} {x : KSp} (hi : a[i]? = some x) : nextAt a i = i + 1 := by
  have h0 := h x (List.mem_of_getElem? hi)
  have : ¬ flg x.q = 42 := fun e => by rw [(tok_two x).1 e] at h0; cases h0
  simp [nextAt, hi, nextK, this]

theorem both_some {a b : List KSp} {p : Pl} (h : bothAt a b p = true) : ∃ x y, a[p.i]? = some x ∧ b[p.k]? = some y ∧ mt (kt x.k) (kt y.k) = true := by
  unfold bothAt at h
  split at h
  · rename_i x y h1 h2
    exact ⟨x, y, h1, h2, h⟩
  · cases h

/-- What is reached: if the rests have a text in common from there on, the whole has. -/
theorem reach_sound {a b : List KSp} (ha : BareK a) (hb : Starry b) {q : Pl} (h : Reach a b q) :
    (Cm (suf a q.i) (suf b q.k) → Cm (suf a 0) (suf b 0)) ∧ q.i ≤ a.length ∧ q.k ≤ b.length := by
  induction h with
  | start => exact ⟨id, by simp, by simp⟩
  | @move p q _ hm ih =>
    obtain ⟨ih1, ih2, ih3⟩ := ih
    rcases (mem_moves ha).1 hm with ⟨hs, rfl⟩ | ⟨hbo, rfl⟩
    · unfold starAt at hs
      cases hk : b[p.k]? with
      | none => rw [hk] at hs; cases hs
      | some y =>
        rw [hk] at hs
        have hy : y.tok.f = 2 := (tok_two y).1 (by simpa using hs)
        have hkl := (List.getElem?_eq_some_iff.1 hk).1
        refine ⟨fun hc => ih1 ?_, ih2, by simp; omega⟩
        rw [suf_at hk, cm_star _ _ _ hy]
        exact .inl hc
    · obtain ⟨x, y, hi, hk, hmt⟩ := both_some hbo
      have hil := (List.getElem?_eq_some_iff.1 hi).1
      have hkl := (List.getElem?_eq_some_iff.1 hk).1
      rw [nextAt_bare ha hi]
      have hx0 := ha x (List.mem_of_getElem? hi)
      by_cases hq : flg y.q = 42
      · have hn : nextAt b p.k = p.k := by simp [nextAt, hk, nextK, hq]
        rw [hn]
        refine ⟨fun hc => ih1 ?_, by simp; omega, by simp; omega⟩
        simp only at hc
        rw [suf_at hi, suf_at hk, cm_star _ _ _ ((tok_two y).1 hq), ← suf_at hk]
        exact .inr ⟨_, _, rfl, hmt, hc⟩
      · have hn : nextAt b p.k = p.k + 1 := by simp [nextAt, hk, nextK, hq]
        have hy0 : y.f = 0 := by
          rcases hb y (List.mem_of_getElem? hk) with h | h
          · exact h
          · exact absurd ((tok_two y).2 h) hq
        rw [hn]
        refine ⟨fun hc => ih1 ?_, by simp; omega, by simp; omega⟩
        simp only at hc
        rw [suf_at hi, suf_at hk, cm_zero _ _ _ _ hy0]
        exact ⟨hmt, hc⟩

/-- From a place on which the rests have a text in common one comes to the end. -/
theorem reach_complete {a b : List KSp} (ha : BareK a) (hb : Starry b) : ∀ (n : Nat) (p : Pl), a.length - p.i + (b.length - p.k) ≤ n → Reach a b p → Cm (suf a p.i) (suf b p.k) → p.i ≤ a.length → p.k ≤ b.length →
    Reach a b ⟨a.length, b.length, p.s || decide (p.i < a.length)⟩ := by
  intro n
  induction n with
  | zero =>
    intro p hn hr hc h1 h2
    obtain ⟨i, k, s⟩ := p
    simp only at hn h1 h2
    have e1 : i = a.length := by omega
    have e2 : k = b.length := by omega
    subst e1; subst e2
    simpa using hr
  | succ n ih =>
    intro p hn hr hc h1 h2
    cases hk : b[p.k]? with
    | none =>
      rw [suf_end hk] at hc
      cases hi : a[p.i]? with
      | none =>
        obtain ⟨i, k, s⟩ := p
        simp only at hi hk h1 h2
        have e1 : i = a.length := by have := List.getElem?_eq_none_iff.1 hi; omega
        have e2 : k = b.length := by have := List.getElem?_eq_none_iff.1 hk; omega
        subst e1; subst e2
        simpa using hr
      | some x =>
        rw [suf_at hi] at hc
        simp [Cm] at hc
    | some y =>
      have hkl := (List.getElem?_eq_some_iff.1 hk).1
      rw [suf_at hk] at hc
      by_cases hq : flg y.q = 42
      · have hs : starAt b p.k = true := by simp [starAt, hk, hq]
        rw [cm_star _ _ _ ((tok_two y).1 hq)] at hc
        rcases hc with hc | ⟨x', r, he, hm, hc⟩
        · exact ih ⟨p.i, p.k + 1, p.s⟩ (by simp; omega) (.move hr ((mem_moves ha).2 (.inl ⟨hs, rfl⟩))) hc h1 (by simp; omega)
        · cases hi : a[p.i]? with
          | none => rw [suf_end hi] at he; cases he
          | some x =>
            have hil := (List.getElem?_eq_some_iff.1 hi).1
            rw [suf_at hi] at he
            simp only [List.cons.injEq] at he
            obtain ⟨rfl, rfl⟩ := he
            have hbo : bothAt a b p = true := by simp only [bothAt, hi, hk]; exact hm
            have hmv := Reach.move hr ((mem_moves ha).2 (.inr ⟨hbo, rfl⟩))
            have hnk : nextAt b p.k = p.k := by simp [nextAt, hk, nextK, hq]
            rw [nextAt_bare ha hi, hnk] at hmv
            have := ih ⟨p.i + 1, p.k, true⟩ (by simp; omega) hmv (by simp only; rw [suf_at hk]; exact hc) (by simp; omega) h2
            simpa [hil] using this
      · have hy0 : y.tok.f = 0 := by
          rcases hb y (List.mem_of_getElem? hk) with h | h
          · exact h
          · exact absurd ((tok_two y).2 h) hq
        cases hi : a[p.i]? with
        | none =>
          rw [suf_end hi] at hc
          exact absurd hc (cm_nil_zero _ _ hy0)
        | some x =>
          have hil := (List.getElem?_eq_some_iff.1 hi).1
          rw [suf_at hi, cm_zero _ _ _ _ hy0] at hc
          have hbo : bothAt a b p = true := by simp only [bothAt, hi, hk]; exact hc.1
          have hmv := Reach.move hr ((mem_moves ha).2 (.inr ⟨hbo, rfl⟩))
          have hnk : nextAt b p.k = p.k + 1 := by simp [nextAt, hk, nextK, hq]
          rw [nextAt_bare ha hi, hnk] at hmv
          have := ih ⟨p.i + 1, p.k + 1, true⟩ (by simp; omega) hmv hc.2 (by simp; omega) (by simp; omega)
          simpa [hil] using this

theorem reach_iff {a b : List KSp} (ha : BareK a) (hb : Starry b) (hne : a ≠ []) : Reach a b ⟨a.length, b.length, true⟩ ↔ Cm (a.map KSp.tok) (b.map KSp.tok) := by
  have e0 : ∀ l : List KSp, suf l 0 = l.map KSp.tok := fun l => by simp [suf]
  have en : ∀ l : List KSp, suf l l.length = [] := fun l => by simp [suf]
  constructor
  · intro h
    have := (reach_sound ha hb h).1
    simp only [en, e0] at this
    exact this rfl
  · intro h
    have := reach_complete ha hb _ ⟨0, 0, false⟩ (Nat.le_refl _) .start (by simpa [e0] using h) (by simp) (by simp)
    have hl : 0 < a.length := List.length_pos_iff.2 hne
    simpa [hl] using this

/-- A list that is closed under the moves, holds the start and only what can be reached, holds all that can be reached. -/
theorem closed_reach {a b : List KSp} {row : List Pl} (h0 : (⟨0, 0, false⟩ : Pl) ∈ row) (h1 : ∀ x ∈ row, Reach a b x) (h2 : ∀ x ∈ row, ∀ q ∈ moves a b x, q ∈ row) (x : Pl) : x ∈ row ↔ Reach a b x := by
  refine ⟨h1 x, fun h => ?_⟩
  induction h with
  | start => exact h0
  | move _ hm ih => exact h2 _ ih _ hm

end Go.Proofs.Ythlhfdidlfdaiaa
