/- The inside of a set, as the package reads it. No program here. -/
namespace Go.Proofs.Ythlhfdidlfdaiaa

/-- The letters from lo to hi. -/
def rng (lo hi : Int) : List Int := (List.range (hi - lo + 1).toNat).map fun i : Nat => lo + (i : Int)

/-- The inside of a set, read to its end: the letters, and what stands behind. -/
def scan : List Int → Option Int → List Int → Option (List Int × List Int)
  | [], _, _ => none
  | c :: rest, pv, acc =>
    if c = 93 then some (acc, rest)
    else if c = 45 then
      match pv, rest with
      | some lo, d :: rest' => scan rest' none (acc ++ rng lo d)
      | _, _ => none
    else scan rest (some c) (acc ++ [c])

/-- The inside of a set that reads without a fault, but that it may not be shut. -/
def good : List Int → Option Int → Bool
  | [], _ => true
  | c :: rest, pv =>
    if c = 93 then true
    else if c = 45 then
      match pv, rest with
      | some lo, d :: rest' => decide (d ≠ 92 ∧ d ≠ 93 ∧ d ≠ 45 ∧ lo ≤ d ∧ d ≤ lo + 100 ∧ 0 ≤ lo ∧ d ≤ 1000000 ∧ rest' ≠ []) && good rest' none
      | _, _ => false
    else decide (c ≠ 92) && good rest (some c)

theorem scan_shut1 (rest : List Int) (pv : Option Int) (acc : List Int) : scan (93 :: rest) pv acc = some (acc, rest) := by
  cases rest <;> cases pv <;> simp [scan]
theorem scan_plain1 (c : Int) (rest : List Int) (pv : Option Int) (acc : List Int) (h1 : c ≠ 93) (h2 : c ≠ 45) : scan (c :: rest) pv acc = scan rest (some c) (acc ++ [c]) := by
  cases rest <;> cases pv <;> simp [scan, h1, h2]
theorem scan_dash1 (lo d : Int) (rest acc : List Int) : scan (45 :: d :: rest) (some lo) acc = scan rest none (acc ++ rng lo d) := by
  rw [scan]
  simp
theorem good_plain1 (c : Int) (rest : List Int) (pv : Option Int) (h1 : c ≠ 93) (h2 : c ≠ 45) : good (c :: rest) pv = (decide (c ≠ 92) && good rest (some c)) := by
  cases rest <;> cases pv <;> simp [good, h1, h2]
theorem good_dash1 (lo d : Int) (rest : List Int) : good (45 :: d :: rest) (some lo) = (decide (d ≠ 92 ∧ d ≠ 93 ∧ d ≠ 45 ∧ lo ≤ d ∧ d ≤ lo + 100 ∧ 0 ≤ lo ∧ d ≤ 1000000 ∧ rest ≠ []) && good rest none) := by
  rw [good]
  simp
theorem good_dash_none (rest : List Int) : good (45 :: rest) none = false := by
  cases rest <;> simp [good]
theorem good_dash_nil (pv : Option Int) : good [45] pv = false := by
  cases pv <;> simp [good]
theorem good_slash (rest : List Int) (pv : Option Int) : good (92 :: rest) pv = false := by
  cases rest <;> cases pv <;> simp [good]

theorem scan_end {l : List Int} {pv : Option Int} {acc : List Int} : scan (l.drop l.length) pv acc = none := by
  rw [List.drop_of_length_le (Nat.le_refl _)]
  rfl
theorem scan_shut {l : List Int} {p : Nat} {pv : Option Int} {acc : List Int} (h : l[p]? = some 93) : scan (l.drop p) pv acc = some (acc, l.drop (p + 1)) := by
  obtain ⟨hlt, hv⟩ := List.getElem?_eq_some_iff.1 h
  rw [List.drop_eq_getElem_cons hlt, hv, scan_shut1]
theorem scan_plain {l : List Int} {p : Nat} {pv : Option Int} {acc : List Int} {c : Int} (h : l[p]? = some c) (h1 : c ≠ 93) (h2 : c ≠ 45) : scan (l.drop p) pv acc = scan (l.drop (p + 1)) (some c) (acc ++ [c]) := by
  obtain ⟨hlt, hv⟩ := List.getElem?_eq_some_iff.1 h
  rw [List.drop_eq_getElem_cons hlt, hv, scan_plain1 _ _ _ _ h1 h2]
theorem good_plain {l : List Int} {p : Nat} {pv : Option Int} {c : Int} (h : l[p]? = some c) (h1 : c ≠ 93) (h2 : c ≠ 45) (hg : good (l.drop p) pv = true) : good (l.drop (p + 1)) (some c) = true := by
  obtain ⟨hlt, hv⟩ := List.getElem?_eq_some_iff.1 h
  rw [List.drop_eq_getElem_cons hlt, hv, good_plain1 _ _ _ h1 h2] at hg
  simp at hg
  exact hg.2
theorem good_head {l : List Int} {p : Nat} {pv : Option Int} (hg : good (l.drop p) pv = true) : ∀ c, l[p]? = some c → c ≠ 92 := fun c hc e => by
  subst e
  obtain ⟨hlt, hv⟩ := List.getElem?_eq_some_iff.1 hc
  rw [List.drop_eq_getElem_cons hlt, hv, good_slash] at hg
  cases hg
theorem good_dash {l : List Int} {p : Nat} {pv : Option Int} (acc : List Int) (h : l[p]? = some 45) (hg : good (l.drop p) pv = true) :
    ∃ lo d, pv = some lo ∧ l[p + 1]? = some d ∧ p + 2 < l.length ∧ d ≠ 92 ∧ d ≠ 93 ∧ d ≠ 45 ∧ lo ≤ d ∧ d ≤ lo + 100 ∧ 0 ≤ lo ∧ d ≤ 1000000 ∧ good (l.drop (p + 2)) none = true ∧ scan (l.drop p) pv acc = scan (l.drop (p + 2)) none (acc ++ rng lo d) := by
  obtain ⟨hlt, hv⟩ := List.getElem?_eq_some_iff.1 h
  rw [List.drop_eq_getElem_cons hlt, hv] at hg ⊢
  cases pv with
  | none => rw [good_dash_none] at hg; cases hg
  | some lo =>
    cases hd : l.drop (p + 1) with
    | nil => rw [hd, good_dash_nil] at hg; cases hg
    | cons d r =>
      rw [hd, good_dash1] at hg
      have hd2 : l.drop (p + 2) = r := by
        have := congrArg (List.drop 1) hd
        simpa [List.drop_drop, Nat.add_comm 1] using this
      have hp1 : l[p + 1]? = some d := by
        have := congrArg (·[0]?) hd
        simpa using this
      simp only [Bool.and_eq_true, decide_eq_true_eq] at hg
      obtain ⟨⟨a1, a2, a3, a4, a5, a6, a7, a8⟩, a9⟩ := hg
      refine ⟨lo, d, rfl, hp1, ?_, a1, a2, a3, a4, a5, a6, a7, by rw [hd2]; exact a9, by rw [hd2, scan_dash1]⟩
      have : (l.drop (p + 2)).length ≠ 0 := by rw [hd2]; simpa using a8
      simp at this
      omega

end Go.Proofs.Ythlhfdidlfdaiaa
