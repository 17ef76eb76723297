/- The plain law: a glob without flags meets a spaced one, as the package reckons it, just if the one can be cut into blocks that fit the other's tokens. No program here. -/
import Derived.Test.YthlhfdidlfdaiaaSelf
namespace Go.Proofs.Ythlhfdidlfdaiaa

/-- A block of tokens that one token can swallow. -/
def Blk (y : Tok) (b : List Tok) : Prop := (∀ x ∈ b, mt x.k y.k = true) ∧ (y.f = 0 → b.length = 1) ∧ (y.f = 1 → b ≠ [])

/-- The flagless glob g and the glob h have a text in common: g falls into blocks, one for each token of h. -/
def Cm : List Tok → List Tok → Prop
  | g, [] => g = []
  | g, y :: h => ∃ b r, g = b ++ r ∧ Blk y b ∧ Cm r h

theorem cm_append (g h1 h2 : List Tok) : Cm g (h1 ++ h2) ↔ ∃ a b, g = a ++ b ∧ Cm a h1 ∧ Cm b h2 := by
  induction h1 generalizing g with
  | nil =>
    simp only [List.nil_append, Cm]
    constructor
    · intro h; exact ⟨[], g, rfl, rfl, h⟩
    · rintro ⟨a, b, rfl, rfl, h⟩; exact h
  | cons y h1 ih =>
    simp only [List.cons_append, Cm]
    constructor
    · rintro ⟨b, r, rfl, hb, hr⟩
      obtain ⟨a, c, rfl, h3, h4⟩ := (ih r).1 hr
      exact ⟨b ++ a, c, by simp, ⟨b, a, rfl, hb, h3⟩, h4⟩
    · rintro ⟨_, c, rfl, ⟨b, a, rfl, hb, h3⟩, h4⟩
      exact ⟨b, a ++ c, by simp, hb, (ih _).2 ⟨a, c, rfl, h3, h4⟩⟩

theorem cm_one (g : List Tok) (y : Tok) : Cm g [y] ↔ Blk y g := by
  simp only [Cm]
  constructor
  · rintro ⟨b, r, rfl, hb, rfl⟩; simpa using hb
  · intro h; exact ⟨g, [], by simp, h, rfl⟩

theorem blk_reverse (y : Tok) (b : List Tok) : Blk y b.reverse ↔ Blk y b := by
  simp [Blk]

theorem cm_reverse (g h : List Tok) : Cm g.reverse h.reverse ↔ Cm g h := by
  induction h generalizing g with
  | nil => simp [Cm]
  | cons y h ih =>
    rw [List.reverse_cons, cm_append]
    constructor
    · rintro ⟨a, b, hab, h1, h2⟩
      refine ⟨b.reverse, a.reverse, ?_, (blk_reverse _ _).2 ((cm_one _ _).1 h2), (ih _).1 (by simpa using h1)⟩
      rw [← List.reverse_append, ← hab, List.reverse_reverse]
    · rintro ⟨b, r, rfl, hb, hr⟩
      exact ⟨r.reverse, b.reverse, by simp, (ih r).2 hr, (cm_one _ _).2 ((blk_reverse _ _).2 hb)⟩

theorem blk_zero (y : Tok) (b : List Tok) (h : y.f = 0) : Blk y b ↔ ∃ x, b = [x] ∧ mt x.k y.k = true := by
  constructor
  · rintro ⟨h1, h2, _⟩
    obtain ⟨x, rfl⟩ := List.length_eq_one_iff.1 (h2 h)
    exact ⟨x, rfl, h1 x (by simp)⟩
  · rintro ⟨x, rfl, hm⟩
    exact ⟨by simpa using hm, by simp, by simp⟩

theorem cm_zero (x : Tok) (g : List Tok) (y : Tok) (h : List Tok) (hy : y.f = 0) : Cm (x :: g) (y :: h) ↔ mt x.k y.k = true ∧ Cm g h := by
  simp only [Cm, blk_zero _ _ hy]
  constructor
  · rintro ⟨b, r, he, ⟨x', rfl, hm⟩, hr⟩
    simp at he
    obtain ⟨rfl, rfl⟩ := he
    exact ⟨hm, hr⟩
  · rintro ⟨hm, hr⟩
    exact ⟨[x], g, rfl, ⟨x, rfl, hm⟩, hr⟩

theorem cm_nil_zero (y : Tok) (h : List Tok) (hy : y.f = 0) : ¬ Cm [] (y :: h) := by
  simp only [Cm, blk_zero _ _ hy]
  rintro ⟨b, r, he, ⟨x', rfl, hm⟩, hr⟩
  simp at he

/-- The first token of h is starred. -/
theorem cm_star (g : List Tok) (y : Tok) (h : List Tok) (hy : y.f = 2) : Cm g (y :: h) ↔ Cm g h ∨ ∃ x r, g = x :: r ∧ mt x.k y.k = true ∧ Cm r (y :: h) := by
  simp only [Cm]
  constructor
  · rintro ⟨b, r, rfl, ⟨h1, h2, h3⟩, hr⟩
    cases b with
    | nil => exact .inl hr
    | cons x b => exact .inr ⟨x, b ++ r, rfl, h1 x (by simp), b, r, rfl, ⟨fun z hz => h1 z (by simp [hz]), by omega, by omega⟩, hr⟩
  · rintro (hr | ⟨x, _, rfl, hm, b, r, rfl, ⟨h1, h2, h3⟩, hr⟩)
    · exact ⟨[], g, rfl, ⟨by simp, by omega, by omega⟩, hr⟩
    · exact ⟨x :: b, r, rfl, ⟨by simpa using ⟨hm, h1⟩, by omega, by omega⟩, hr⟩

/-- The first token of h is plussed: one letter, and then as if it were starred. -/
theorem cm_plus (g : List Tok) (k : TK) (h : List Tok) : Cm g (⟨k, 1⟩ :: h) ↔ ∃ x r, g = x :: r ∧ mt x.k k = true ∧ Cm r (⟨k, 2⟩ :: h) := by
  simp only [Cm]
  constructor
  · rintro ⟨b, r, rfl, ⟨h1, h2, h3⟩, hr⟩
    cases b with
    | nil => exact absurd rfl (h3 rfl)
    | cons x b => exact ⟨x, b ++ r, rfl, h1 x (by simp), b, r, rfl, ⟨fun z hz => h1 z (by simp [hz]), by simp, by simp⟩, hr⟩
  · rintro ⟨x, _, rfl, hm, b, r, rfl, ⟨h1, h2, h3⟩, hr⟩
    exact ⟨x :: b, r, rfl, ⟨by simpa using ⟨hm, h1⟩, by simp, by simp⟩, hr⟩

theorem mt_comm (a b : TK) : mt a b = mt b a := by
  cases a with
  | chr a => cases b <;> simp [mt, Bool.beq_comm]
  | dot => cases b <;> simp [mt]
  | set j =>
    cases b with
    | chr a => simp [mt]
    | dot => simp [mt]
    | set k =>
      simp only [mt]
      rw [Bool.eq_iff_iff, List.any_eq_true, List.any_eq_true]
      simp only [decide_eq_true_eq]
      exact ⟨fun ⟨x, h1, h2⟩ => ⟨x, h2, h1⟩, fun ⟨x, h1, h2⟩ => ⟨x, h2, h1⟩⟩

/-- Spaced: each token with a flag is followed by one without. -/
def Spc : List Tok → Prop
  | [] => True
  | y :: h => (y.f ≠ 0 → ∃ z r, h = z :: r ∧ z.f = 0) ∧ Spc h
/-- Flagless. -/
def Bare (g : List Tok) : Prop := ∀ x ∈ g, x.f = 0
def Flagged (h : List Tok) : Prop := ∀ x ∈ h, x.f = 0 ∨ x.f = 1 ∨ x.f = 2

theorem cm_nil (h : List Tok) (hs : Spc h) : ∀ y h', h = y :: h' → ¬ Cm [] h := by
  rintro y h' rfl hc
  by_cases h0 : y.f = 0
  · exact cm_nil_zero y h' h0 hc
  · obtain ⟨z, r, rfl, hz⟩ := hs.1 h0
    simp only [Cm] at hc
    obtain ⟨b, r', he, _, hr⟩ := hc
    obtain ⟨rfl, rfl⟩ := List.append_eq_nil_iff.1 he.symm
    exact cm_nil_zero z r hz hr

theorem star_exact {nm : List Tok → List Tok → Bool} (k : TK) (f : Int) (z : Tok) (nx : List Tok) (hz : z.f = 0) (g : List Tok) (hn : ∀ i, nm (z :: nx) (g.drop i) = true ↔ Cm (g.drop i) (z :: nx)) :
    starWith nm ⟨k, f⟩ (z :: nx) g = true ↔ Cm g (⟨k, 2⟩ :: z :: nx) := by
  induction g with
  | nil =>
    rw [cm_star _ _ _ rfl]
    simp only [starWith, List.isEmpty_cons, Bool.false_eq_true, false_iff]
    rintro (h | ⟨x, r, h, _⟩)
    · exact cm_nil_zero z nx hz h
    · simp at h
  | cons t r ih =>
    have h0 := hn 0
    rw [List.drop_zero] at h0
    have ih' := ih fun i => hn (i + 1)
    rw [cm_star _ _ _ rfl]
    simp only [starWith, Bool.or_eq_true, Bool.and_eq_true, h0, ih']
    constructor
    · rintro (⟨_, h⟩ | ⟨h1, h2⟩)
      · exact .inl h
      · exact .inr ⟨t, r, rfl, h1, h2⟩
    · rintro (h | ⟨x, r', he, h1, h2⟩)
      · exact .inl ⟨((cm_zero t r z nx hz).1 h).1, h⟩
      · simp at he
        obtain ⟨rfl, rfl⟩ := he
        exact .inr ⟨h1, h2⟩

theorem bare_drop {g : List Tok} (h : Bare g) (i : Nat) : Bare (g.drop i) := fun x hx => h x (List.mem_of_mem_drop hx)

theorem normal_exact {nm : List Tok → List Tok → Bool} {N : Nat} (hnm : ∀ g h, Bare g → Spc h → Flagged h → g.length + h.length < N → (nm h g = true ↔ Cm g h)) (g : List Tok) :
    ∀ h, Bare g → Spc h → Flagged h → g.length + h.length ≤ N → (normalWith (spWith nm) g h = true ↔ Cm g h) ∧ (normalWith (spWith nm) h g = true ↔ Cm g h) := by
  induction g with
  | nil =>
    intro h hb hs hf hl
    cases h with
    | nil => simp [normalWith, Cm]
    | cons y h =>
      have := cm_nil (y :: h) hs y h rfl
      simp [normalWith, this]
  | cons x g ih =>
    intro h hb hs hf hl
    have hx : x.f = 0 := hb x (by simp)
    have hbg : Bare g := fun z hz => hb z (by simp [hz])
    cases h with
    | nil => simp [normalWith, Cm]
    | cons y h =>
      obtain ⟨k, f⟩ := y
      have hfh : Flagged h := fun z hz => hf z (by simp [hz])
      by_cases h0 : f = 0
      · subst h0
        have := ih h hbg hs.2 hfh (by simp at hl ⊢; omega)
        rw [cm_zero x g ⟨k, 0⟩ h rfl]
        simp only [normalWith, hx, if_true, Bool.and_eq_true, this, and_self, mt_comm k x.k]
      · obtain ⟨z, nx, rfl, hz⟩ := hs.1 h0
        have hn : ∀ i, nm (z :: nx) ((x :: g).drop i) = true ↔ Cm ((x :: g).drop i) (z :: nx) := fun i =>
          hnm _ _ (bare_drop hb i) hs.2 hfh (by simp at hl ⊢; omega)
        have hn2 : ∀ i, nm (z :: nx) (g.drop i) = true ↔ Cm (g.drop i) (z :: nx) := fun i => hn (i + 1)
        rcases hf ⟨k, f⟩ (by simp) with hf1 | hf1 | hf1
        · exact absurd hf1 h0
        · simp only at hf1
          subst hf1
          have he := star_exact k 1 z nx hz g hn2
          have hp : plusWith nm ⟨k, 1⟩ (z :: nx) x g = true ↔ Cm (x :: g) (⟨k, 1⟩ :: z :: nx) := by
            rw [cm_plus]
            simp only [plusWith, hx, Bool.and_eq_true, Bool.or_eq_true, he, mt_comm k x.k]
            constructor
            · rintro ⟨h1, h2 | ⟨h2, _⟩⟩
              · exact ⟨x, g, rfl, h1, h2⟩
              · simp at h2
            · rintro ⟨x', r', he, h1, h2⟩
              simp at he
              obtain ⟨rfl, rfl⟩ := he
              exact ⟨h1, .inl h2⟩
          rw [← hp]
          simp [normalWith, spWith, hx]
        · simp only at hf1
          subst hf1
          have he := star_exact k 2 z nx hz (x :: g) hn
          rw [← he]
          simp [normalWith, spWith, hx]

theorem inter_exact : ∀ (k : Nat) (g h : List Tok), Bare g → Spc h → Flagged h → g.length + h.length < k → (inter k g h = true ↔ Cm g h) ∧ (inter k h g = true ↔ Cm g h) := by
  intro k
  induction k with
  | zero => intro g h _ _ _ hl; omega
  | succ k ih =>
    intro g h hb hs hf hl
    exact normal_exact (N := k) (fun g' h' b s f l => (ih g' h' b s f l).2) g h hb hs hf (by omega)

theorem pre_comm (g h : List Tok) : pre h g = pre g h := by
  induction g generalizing h with
  | nil => cases h <;> simp [pre]
  | cons x g ih =>
    cases h with
    | nil => simp [pre]
    | cons y h => simp only [pre, mt_comm y.k x.k, ih h, and_comm]

theorem pre_none {g h : List Tok} (hp : pre g h = none) : ¬ Cm g h := by
  induction g generalizing h with
  | nil => simp [pre] at hp
  | cons x g ih =>
    cases h with
    | nil => simp [pre] at hp
    | cons y h =>
      simp only [pre] at hp
      split at hp
      · rename_i h0
        rw [cm_zero x g y h h0.2]
        split at hp
        · rename_i hm
          simp only [Option.map_eq_none_iff] at hp
          rintro ⟨_, hc⟩
          exact ih hp hc
        · rename_i hm
          rintro ⟨hc, _⟩
          exact hm hc
      · cases hp

theorem pre_some {g h : List Tok} : ∀ {l : Nat}, pre g h = some l → l ≤ g.length ∧ l ≤ h.length ∧ (∀ i z, i < l → h[i]? = some z → z.f = 0) ∧ ∀ i, i ≤ l → (Cm g h ↔ Cm (g.drop i) (h.drop i)) := by
  induction g generalizing h with
  | nil =>
    intro l hp
    simp [pre] at hp
    subst hp
    exact ⟨by simp, by simp, by simp, fun i hi => by obtain rfl : i = 0 := by omega
                                                     simp⟩
  | cons x g ih =>
    intro l hp
    cases h with
    | nil =>
      simp [pre] at hp
      subst hp
      exact ⟨by simp, by simp, by simp, fun i hi => by obtain rfl : i = 0 := by omega
                                                       simp⟩
    | cons y h =>
      simp only [pre] at hp
      split at hp
      · rename_i h0
        split at hp
        · rename_i hm
          rw [Option.map_eq_some_iff] at hp
          obtain ⟨l', hl', rfl⟩ := hp
          obtain ⟨a1, a2, a3, a4⟩ := ih hl'
          refine ⟨by simp; omega, by simp; omega, fun i z hi hz => ?_, fun i hi => ?_⟩
          · cases i with
            | zero => simp at hz; subst hz; exact h0.2
            | succ i => exact a3 i z (by omega) (by simpa using hz)
          · cases i with
            | zero => simp
            | succ i =>
              rw [cm_zero x g y h h0.2, List.drop_succ_cons, List.drop_succ_cons, ← a4 i (by omega)]
              simp [hm]
        · cases hp
      · simp at hp
        subst hp
        exact ⟨by simp, by simp, by simp, fun i hi => by obtain rfl : i = 0 := by omega
                                                         simp⟩

theorem spc_drop {h : List Tok} (hs : Spc h) (i : Nat) : Spc (h.drop i) := by
  induction h generalizing i with
  | nil => simp [Spc]
  | cons y h ih =>
    cases i with
    | zero => simpa using hs
    | succ i => exact ih hs.2 i

theorem spc_take {h : List Tok} (hs : Spc h) (j : Nat) (hj : ∀ z, h[j - 1]? = some z → z.f = 0) : Spc (h.take j) := by
  induction h generalizing j with
  | nil => simp [Spc]
  | cons y h ih =>
    cases j with
    | zero => simp [Spc]
    | succ j =>
      rw [List.take_succ_cons]
      refine ⟨fun h0 => ?_, ?_⟩
      · cases j with
        | zero => exact absurd (hj y (by simp)) h0
        | succ j =>
          obtain ⟨z, r, rfl, hz⟩ := hs.1 h0
          exact ⟨z, r.take j, rfl, hz⟩
      · cases j with
        | zero => simp [Spc]
        | succ j => exact ih hs.2 (j + 1) fun z hz => hj z (by simpa using hz)

theorem trimBack_exact {a b : List Tok} (ha : Bare a) (hs : Spc b) (hf : Flagged b) :
    (trimBack a b = none → ¬ Cm a b) ∧ ∀ a' b', trimBack a b = some (a', b') → Bare a' ∧ Spc b' ∧ Flagged b' ∧ (Cm a b ↔ Cm a' b') := by
  unfold trimBack
  cases hp : pre a.reverse b.reverse with
  | none =>
    refine ⟨fun _ hc => pre_none hp ((cm_reverse a b).2 hc), fun _ _ h => ?_⟩
    simp at h
  | some c =>
    obtain ⟨h1, h2, h3, h4⟩ := pre_some hp
    refine ⟨fun h => by simp at h, fun a' b' h => ?_⟩
    simp only [Option.some.injEq, Prod.mk.injEq] at h
    obtain ⟨rfl, rfl⟩ := h
    refine ⟨fun x hx => ha x (List.mem_of_mem_take hx), ?_, fun x hx => hf x (List.mem_of_mem_take hx), ?_⟩
    · by_cases hc : c = 0
      · subst hc
        rw [List.take_of_length_le (by omega)]
        exact hs
      · refine spc_take hs _ fun z hz => h3 (c - 1) z (by omega) ?_
        rw [List.getElem?_reverse (by simp at h2; omega), ← hz]
        congr 1
        simp at h2
        omega
    · have e := h4 (c - 1) (by omega)
      rw [cm_reverse, List.drop_reverse, List.drop_reverse, cm_reverse] at e
      exact e

theorem trim_exact {g h : List Tok} (hb : Bare g) (hs : Spc h) (hf : Flagged h) :
    (trim g h = none → ¬ Cm g h) ∧ ∀ a b, trim g h = some (a, b) → Bare a ∧ Spc b ∧ Flagged b ∧ (Cm g h ↔ Cm a b) := by
  unfold trim
  cases hp : pre g h with
  | none => exact ⟨fun _ => pre_none hp, fun _ _ h => by simp at h⟩
  | some l =>
    obtain ⟨h1, h2, h3, h4⟩ := pre_some hp
    have e := h4 (l - 1) (by omega)
    have := trimBack_exact (bare_drop hb (l - 1)) (spc_drop hs (l - 1)) (b := h.drop (l - 1)) fun x hx => hf x (List.mem_of_mem_drop hx)
    simp only
    rw [e]
    exact this

theorem trim_comm (g h : List Tok) : trim h g = (trim g h).map fun p => (p.2, p.1) := by
  unfold trim trimBack
  rw [pre_comm g h]
  cases pre g h with
  | none => rfl
  | some l =>
    simp only
    rw [pre_comm (g.drop (l - 1)).reverse (h.drop (l - 1)).reverse]
    cases pre (g.drop (l - 1)).reverse (h.drop (l - 1)).reverse <;> rfl

theorem simp2_spc (t : Tok) (ts : List Tok) (h : Spc (t :: ts)) : simp2 t ts = t :: ts := by
  induction ts generalizing t with
  | nil => rfl
  | cons a ts ih =>
    rw [simp2, if_neg, ih a h.2]
    rintro ⟨h1, h2, _⟩
    obtain ⟨z, r, he, hz⟩ := h.1 h2
    simp at he
    obtain ⟨rfl, rfl⟩ := he
    exact h1 hz
theorem simplify_spc (ts : List Tok) (h : Spc ts) : simplify ts = ts := by
  cases ts with
  | nil => rfl
  | cons a ts => exact simp2_spc a ts h
theorem bare_spc {g : List Tok} (h : Bare g) : Spc g := by
  induction g with
  | nil => trivial
  | cons x g ih => exact ⟨fun h0 => absurd (h x (by simp)) h0, ih fun z hz => h z (by simp [hz])⟩

/-- The package is exact where one glob is flagless and the other spaced. -/
theorem meets_exact {g h : List Tok} (hb : Bare g) (hs : Spc h) (hf : Flagged h) : (meets g h = true ↔ Cm g h) ∧ (meets h g = true ↔ Cm g h) := by
  have ht := trim_exact hb hs hf
  simp only [meets, simplify_spc g (bare_spc hb), simplify_spc h hs, trim_comm g h]
  cases he : trim g h with
  | none => simp [ht.1 he]
  | some p =>
    obtain ⟨a, b⟩ := p
    obtain ⟨h1, h2, h3, h4⟩ := ht.2 a b he
    rw [h4]
    have := inter_exact (a.length + b.length + 1) a b h1 h2 h3 (by omega)
    simp only [Option.map_some]
    rw [show b.length + a.length + 1 = a.length + b.length + 1 by omega]
    exact this

theorem meets_turned {g h : List Tok} (hb : Bare g) (hs : Spc h) (hf : Flagged h) : meets g h = meets h g := by
  obtain ⟨h1, h2⟩ := meets_exact hb hs hf
  rw [Bool.eq_iff_iff, h1, h2]

/-- Two flagless globs: as many tokens, each two matching. -/
def all2 : List Tok → List Tok → Bool
  | [], [] => true
  | x :: g, y :: h => mt x.k y.k && all2 g h
  | _, _ => false
theorem cm_all2 (g h : List Tok) (hh : Bare h) : Cm g h ↔ all2 g h = true := by
  induction h generalizing g with
  | nil => cases g <;> simp [Cm, all2]
  | cons y h ih =>
    have hy := hh y (by simp)
    cases g with
    | nil =>
      have := cm_nil_zero y h hy
      simp [all2, this]
    | cons x g =>
      rw [cm_zero x g y h hy, ih g fun z hz => hh z (by simp [hz])]
      simp [all2]
theorem meets_all2 {g h : List Tok} (hg : Bare g) (hh : Bare h) : meets g h = all2 g h := by
  rw [Bool.eq_iff_iff, (meets_exact hg (bare_spc hh) fun x hx => .inl (hh x hx)).1, cm_all2 g h hh]

end Go.Proofs.Ythlhfdidlfdaiaa
