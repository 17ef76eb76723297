/- A row of places in memory; what the search has found so far; how much it can find. -/
import Derived.Test.YthlhfdidlfdaiaaSearch
namespace Go.Proofs.Ythlhfdidlfdaiaa
open Go.RowKit

theorem pl_form {B : Nat} {w : World} {v : Value} {ps : List Pl} (h : PlRow B w v ps) : (v = .slice none 0 0 ∧ ps = []) ∨ ∃ g cap, v = .slice (some ⟨g, 0, none⟩) ps.length cap ∧ B ≤ g ∧ g < w.heap.size := by
  rcases h.2 with ⟨rfl, h0⟩ | ⟨g, cap, cur, rfl, hb, hgc, hle, r⟩
  · exact .inl ⟨rfl, List.length_eq_zero_iff.1 h0⟩
  · exact .inr ⟨g, cap, rfl, hb, (Array.getElem?_eq_some_iff.1 hgc).1⟩

theorem pl_cells {w : World} {B n g cap : Nat} {ts : List Pl} (h : PlRow B w (.slice (some ⟨g, 0, none⟩) n cap) ts) {i : Nat} {t : Pl} (hi : ts[i]? = some t) :
    w.cell? ⟨g, i * 3, none⟩ = some (.int .i64 (t.i : Int)) ∧ w.cell? ⟨g, i * 3 + 1, none⟩ = some (.int .i64 (t.k : Int)) ∧ w.cell? ⟨g, i * 3 + 2, none⟩ = some (.bool t.s) := by
  have hl : (ts.flatMap Pl.cs).length = ts.length * 3 := by
    clear h hi
    induction ts with
    | nil => rfl
    | cons x xs ih => simp only [List.flatMap_cons, List.length_append, ih, List.length_cons]; simp [Pl.cs]; omega
  have hg : ∀ j, j < 3 → (ts.flatMap Pl.cs)[i * 3 + j]? = t.cs[j]? := by
    clear h hl
    induction ts generalizing i with
    | nil => simp at hi
    | cons x xs ih =>
      intro j hj
      cases i with
      | zero =>
        simp at hi
        subst hi
        rw [List.flatMap_cons, List.getElem?_append_left (by simp [Pl.cs]; omega)]
        simp
      | succ i =>
        simp at hi
        rw [List.flatMap_cons, List.getElem?_append_right (by simp [Pl.cs]; omega)]
        rw [← ih hi j hj]
        congr 1
        simp [Pl.cs]
        omega
  have hil := (List.getElem?_eq_some_iff.1 hi).1
  rcases h with ⟨hl2, ⟨h0, _⟩ | ⟨g', cap', cur, hv, hb, hgc, hle, hm, hc, ht⟩⟩
  · simp at h0
  · simp at hv
    obtain ⟨rfl, rfl, rfl⟩ := hv
    have key : ∀ j, j < 3 → w.cell? ⟨g, i * 3 + j, none⟩ = t.cs[j]? := by
      intro j hj
      rw [cell_of_block hgc, ← hg j hj, ← ht, List.getElem?_take, if_pos (by omega)]
      simp
    exact ⟨key 0 (by omega), key 1 (by omega), key 2 (by omega)⟩

/-! ### How many there can be -/
theorem nodup_le (l : List Pl) : ∀ m : List Pl, l.Nodup → (∀ x ∈ l, x ∈ m) → l.length ≤ m.length := by
  induction l with
  | nil => intro m _ _; simp
  | cons x l ih =>
    intro m hn hs
    have hx : x ∈ m := hs x (by simp)
    have hn' := List.nodup_cons.1 hn
    have := ih (m.erase x) hn'.2 (fun y hy => (List.mem_erase_of_ne (fun e : y = x => hn'.1 (e ▸ hy))).2 (hs y (by simp [hy])))
    rw [List.length_erase_of_mem hx] at this
    have hpos := List.length_pos_of_mem hx
    simp
    omega

def grid : List Pl := (List.range 21).flatMap fun i => (List.range 21).flatMap fun k => [⟨i, k, false⟩, ⟨i, k, true⟩]
theorem grid_length : grid.length = 882 := by decide +kernel
theorem mem_grid (p : Pl) (hi : p.i ≤ 20) (hk : p.k ≤ 20) : p ∈ grid := by
  obtain ⟨i, k, s⟩ := p
  simp only at hi hk
  unfold grid
  simp only [List.mem_flatMap, List.mem_range]
  refine ⟨i, by omega, k, by omega, ?_⟩
  cases s <;> simp

theorem star_lt {l : List KSp} {i : Nat} (h : starAt l i = true) : i < l.length := by
  unfold starAt at h
  split at h
  · rename_i x hx
    exact (List.getElem?_eq_some_iff.1 hx).1
  · cases h
theorem nextAt_le {l : List KSp} {i : Nat} (h : i < l.length) : nextAt l i ≤ l.length := by
  unfold nextAt nextK
  rw [List.getElem?_eq_getElem h]
  simp only
  split <;> omega
theorem moves_le {a b : List KSp} {p q : Pl} (h1 : p.i ≤ a.length) (h2 : p.k ≤ b.length) (h : q ∈ moves a b p) : q.i ≤ a.length ∧ q.k ≤ b.length := by
  unfold moves skipsK at h
  simp only [List.mem_append] at h
  rcases h with (h | h) | h
  · split at h
    · rename_i hs
      simp at h
      subst h
      exact ⟨star_lt hs, h2⟩
    · cases h
  · split at h
    · rename_i hs
      simp at h
      subst h
      exact ⟨h1, star_lt hs⟩
    · cases h
  · split at h
    · rename_i hs
      simp at h
      subst h
      obtain ⟨x, y, hx, hy, _⟩ := both_some hs
      exact ⟨nextAt_le (List.getElem?_eq_some_iff.1 hx).1, nextAt_le (List.getElem?_eq_some_iff.1 hy).1⟩
    · cases h
theorem reach_le {a b : List KSp} {q : Pl} (h : Reach a b q) : q.i ≤ a.length ∧ q.k ≤ b.length := by
  induction h with
  | start => exact ⟨Nat.zero_le _, Nat.zero_le _⟩
  | move _ hm ih => exact moves_le ih.1 ih.2 hm
theorem skips_len (a b : List KSp) (p : Pl) : (skipsK a b p).length ≤ 2 := by
  unfold skipsK
  split <;> split <;> simp
theorem moves_len (a b : List KSp) (p : Pl) : (moves a b p).length ≤ 3 := by
  have := skips_len a b p
  unfold moves
  rw [List.length_append]
  split <;> simp <;> omega

/-! ### What has been found -/
/-- The place at which both globs are at their ends behind a letter. -/
def endAt (a b : List KSp) : Pl := ⟨a.length, b.length, true⟩

structure Inv (a b : List KSp) (row : List Pl) (n : Nat) (sm : Bool) : Prop where
  nodup : row.Nodup
  start : (⟨0, 0, false⟩ : Pl) ∈ row
  reach : ∀ x ∈ row, Reach a b x
  closed : ∀ j x, j < n → row[j]? = some x → ∀ q ∈ moves a b x, q ∈ row
  found : sm = true ↔ ∃ j, j < n ∧ row[j]? = some (endAt a b)
  le : n ≤ row.length

theorem Inv.init (a b : List KSp) : Inv a b [⟨0, 0, false⟩] 0 false :=
  ⟨by simp, by simp, fun x hx => by simp at hx; subst hx; exact .start, fun j x h => by omega, by simp, by simp⟩

theorem addAll_pre (row qs : List Pl) : ∃ l, addAll row qs = row ++ l := by
  induction qs generalizing row with
  | nil => exact ⟨[], by simp [addAll]⟩
  | cons q qs ih =>
    have e : addAll row (q :: qs) = addAll (if q ∈ row then row else row ++ [q]) qs := rfl
    rw [e]
    split
    · exact ih row
    · obtain ⟨l, hl⟩ := ih (row ++ [q])
      exact ⟨q :: l, by rw [hl]; simp⟩

/-- Is this place the end of both? -/
def isEnd (a b : List KSp) (p : Pl) : Bool := decide (p.i = a.length) && decide (p.k = b.length)

theorem Inv.step {a b : List KSp} {row : List Pl} {n : Nat} {sm : Bool} (h : Inv a b row n sm) {p : Pl} (hp : row[n]? = some p) :
    Inv a b (addAll row (moves a b p)) (n + 1) (if isEnd a b p then sm || p.s else sm) := by
  obtain ⟨l, hl⟩ := addAll_pre row (moves a b p)
  have hlt := (List.getElem?_eq_some_iff.1 hp).1
  have hat : ∀ j, j < n + 1 → (addAll row (moves a b p))[j]? = row[j]? := fun j hj => by
    rw [hl, List.getElem?_append_left (by omega)]
  refine ⟨addAll_nodup _ _ h.nodup, (mem_addAll _ _ _).2 (.inl h.start), ?_, ?_, ?_, ?_⟩
  · intro x hx
    rcases (mem_addAll _ _ _).1 hx with hx | hx
    · exact h.reach x hx
    · exact .move (h.reach p (List.mem_of_getElem? hp)) hx
  · intro j x hj hx q hq
    rw [hat j hj] at hx
    by_cases hjn : j = n
    · subst hjn
      rw [hp] at hx
      obtain rfl := Option.some.inj hx
      exact (mem_addAll _ _ _).2 (.inr hq)
    · exact (mem_addAll _ _ _).2 (.inl (h.closed j x (by omega) hx q hq))
  · have hpe : p = endAt a b ↔ (isEnd a b p = true ∧ p.s = true) := by
      obtain ⟨i, k, s⟩ := p
      simp [endAt, isEnd, and_assoc]
    have hex : (∃ j, j < n + 1 ∧ (addAll row (moves a b p))[j]? = some (endAt a b)) ↔ (∃ j, j < n ∧ row[j]? = some (endAt a b)) ∨ p = endAt a b := by
      constructor
      · rintro ⟨j, hj, hx⟩
        rw [hat j hj] at hx
        by_cases hjn : j = n
        · subst hjn
          rw [hp] at hx
          exact .inr (Option.some.inj hx)
        · exact .inl ⟨j, by omega, hx⟩
      · rintro (⟨j, hj, hx⟩ | rfl)
        · exact ⟨j, by omega, by rw [hat j (by omega)]; exact hx⟩
        · exact ⟨n, by omega, by rw [hat n (by omega)]; exact hp⟩
    rw [hex, ← h.found, hpe]
    cases isEnd a b p <;> simp
  · rw [hl, List.length_append]
    omega

theorem Inv.small {a b : List KSp} {row : List Pl} {n : Nat} {sm : Bool} (h : Inv a b row n sm) (h1 : a.length ≤ 20) (h2 : b.length ≤ 20) : row.length ≤ 882 := by
  rw [← grid_length]
  refine nodup_le row grid h.nodup fun x hx => ?_
  have := reach_le (h.reach x hx)
  exact mem_grid x (by omega) (by omega)

theorem Inv.done {a b : List KSp} {row : List Pl} {sm : Bool} (h : Inv a b row row.length sm) : sm = true ↔ Reach a b (endAt a b) := by
  rw [h.found, ← closed_reach h.start h.reach (fun x hx q hq => ?_)]
  · constructor
    · rintro ⟨j, _, hx⟩
      exact List.mem_of_getElem? hx
    · intro hx
      obtain ⟨j, hj, e⟩ := List.mem_iff_getElem.1 hx
      exact ⟨j, hj, by rw [List.getElem?_eq_getElem hj, e]⟩
  · obtain ⟨j, hj, e⟩ := List.mem_iff_getElem.1 hx
    exact h.closed j x hj (by rw [List.getElem?_eq_getElem hj, e]) q hq

/-- One place more. -/
theorem addAll_take (row qs : List Pl) (k : Nat) (q : Pl) (h : qs[k]? = some q) : addAll row (qs.take (k + 1)) = if q ∈ addAll row (qs.take k) then addAll row (qs.take k) else addAll row (qs.take k) ++ [q] := by
  rw [List.take_add_one, h]
  unfold addAll
  rw [List.foldl_append]
  rfl

theorem addAll_len (row qs : List Pl) : (addAll row qs).length ≤ row.length + qs.length := by
  induction qs generalizing row with
  | nil => simp [addAll]
  | cons q qs ih =>
    have e : addAll row (q :: qs) = addAll (if q ∈ row then row else row ++ [q]) qs := rfl
    rw [e]
    have := ih (if q ∈ row then row else row ++ [q])
    have e2 : (if q ∈ row then row else row ++ [q]).length ≤ row.length + 1 := by split <;> simp
    rw [List.length_cons]
    omega

end Go.Proofs.Ythlhfdidlfdaiaa
