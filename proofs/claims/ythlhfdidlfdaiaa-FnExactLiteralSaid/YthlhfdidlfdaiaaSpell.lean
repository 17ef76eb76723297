/- How texts that are made of tokens read. -/
import Derived.Test.YthlhfdidlfdaiaaGlob
namespace Go.Proofs.Ythlhfdidlfdaiaa
open Go.RowKit

/-- The runes xs read as the token t, whatever follows (a flag, or something else). -/
def Good (xs : List Int) (t : TK) : Prop :=
  ∀ (l : List Int) (i : Nat) (rest : List Int), l.drop i = xs ++ rest → l.length ≤ 5000 → (rest.head? = some 92 → 2 ≤ rest.length) →
    ∀ (b off cap : Nat) (w : World), RunesIs w b off cap l → Calls Try.prog 47 #[.int .i64 i, .slice (some ⟨b, off, none⟩) l.length cap] w (NextRet w (flagAt l (i + xs.length)).1 ⟨t, (flagAt l (i + xs.length)).2⟩)

theorem drop_at {l xs rest : List Int} {i : Nat} (h : l.drop i = xs ++ rest) : l.drop (i + xs.length) = rest := by
  rw [← List.drop_drop, h, List.drop_left]
theorem at_of_drop {l xs : List Int} {i : Nat} (h : l.drop i = xs) (k : Nat) : l[i + k]? = xs[k]? := by
  rw [← h, List.getElem?_drop]
theorem len_of_drop {l xs : List Int} {i : Nat} (h : l.drop i = xs) (hx : xs ≠ []) : l.length = i + xs.length := by
  have := congrArg List.length h
  simp at this
  have : xs.length ≠ 0 := by simpa using hx
  omega

theorem esc_rest {l xs rest : List Int} {i : Nat} (h : l.drop i = xs ++ rest) (hx : xs ≠ []) (hr : rest.head? = some 92 → 2 ≤ rest.length) : l[i + xs.length]? = some 92 → i + xs.length + 1 < l.length := by
  intro h9
  have h0 := at_of_drop (drop_at h) 0
  rw [Nat.add_zero, h9] at h0
  have := hr (by rw [List.head?_eq_getElem?, ← h0])
  have hl := len_of_drop h (by simp [hx])
  simp at hl
  omega

theorem good_chr (r : Int) (hm : r ≠ 92) (ht : isTT r = false) (hf : isFlag r = false) : Good [r] (.chr r) := by
  intro l i rest hd hs hr b off cap w h
  exact next_plain h i r (by have := at_of_drop hd 0; simpa using this) hm ht hf (esc_rest hd (by simp) hr)

theorem good_dot : Good [46] .dot := by
  intro l i rest hd hs hr b off cap w h
  exact next_dot h i (by have := at_of_drop hd 0; simpa using this) (esc_rest hd (by simp) hr)

theorem good_escaped (r : Int) : Good [92, r] (.chr r) := by
  intro l i rest hd hs hr b off cap w h
  exact next_esc h i r (by have := at_of_drop hd 0; simpa using this) (by have := at_of_drop hd 1; simpa using this) (esc_rest hd (by simp) hr)

theorem good_set (body ks : List Int) (hb : body ≠ []) (hR : ∀ rest, scan (body ++ rest) none [] = some (ks, rest)) (hg : ∀ rest, good (body ++ rest) none = true) : Good (91 :: body) (.set (keysOf ks)) := by
  intro l i rest hd hs hr b off cap w h
  have hl := len_of_drop hd (by simp)
  have hbl : body.length ≠ 0 := by simpa using hb
  simp at hl
  have hd1 : l.drop (i + 1) = body ++ rest := drop_at (xs := [91]) (by simpa using hd)
  have e : i + (91 :: body).length = l.length - rest.length := by simp; omega
  have := next_set h hs i (by have := at_of_drop hd 0; simpa using this) (by omega) ks rest (by rw [hd1]; exact hR rest) (by rw [hd1]; exact hg rest) (i + (91 :: body).length) e (esc_rest hd (by simp) hr)
  exact this

/-- A flag as it is spelt. -/
def FlagOf (fs : List Int) (f : Int) : Prop := (fs = [] ∧ f = 0) ∨ (fs = [43] ∧ f = 1) ∨ (fs = [42] ∧ f = 2)

theorem step_item {xs fs : List Int} {t : TK} {f : Int} (hG : Good xs t) (hx : xs ≠ []) (hf : FlagOf fs f) {l rest : List Int} {i : Nat} (hd : l.drop i = xs ++ (fs ++ rest)) (hs : l.length ≤ 5000)
    (h1 : fs = [] → rest.head? ≠ some 42 ∧ rest.head? ≠ some 43 ∧ (rest.head? = some 92 → 2 ≤ rest.length)) : StepAt l i (i + (xs ++ fs).length) ⟨t, f⟩ := by
  have hl := len_of_drop hd (by simp [hx])
  have hxl : xs.length ≠ 0 := by simpa using hx
  have hfl : flagAt l (i + xs.length) = (i + (xs ++ fs).length, f) := by
    have h0 := at_of_drop (drop_at hd) 0
    rw [Nat.add_zero] at h0
    rcases hf with ⟨rfl, rfl⟩ | ⟨rfl, rfl⟩ | ⟨rfl, rfl⟩
    · obtain ⟨h2, h3, _⟩ := h1 rfl
      unfold flagAt
      rw [h0]
      cases rest with
      | nil => simp
      | cons c rest =>
        simp at h2 h3
        simp [isFlag, flagVal, h2, h3]
    · unfold flagAt
      rw [h0]
      simp [isFlag, flagVal]
      omega
    · unfold flagAt
      rw [h0]
      simp [isFlag, flagVal]
      omega
  refine ⟨by simp; omega, by simp at hl ⊢; omega, fun b off cap w h => ?_⟩
  have := hG l i (fs ++ rest) hd hs ?_ b off cap w h
  · rw [hfl] at this
    exact this
  · rcases hf with ⟨rfl, rfl⟩ | ⟨rfl, rfl⟩ | ⟨rfl, rfl⟩
    · exact (h1 rfl).2.2
    · simp
    · simp

/-- A token as it is spelt. -/
structure Item where
  xs : List Int
  t : TK
  fs : List Int
  f : Int

structure Item.Ok (x : Item) : Prop where
  good : Good x.xs x.t
  ne : x.xs ≠ []
  flag : FlagOf x.fs x.f
  no42 : x.xs.head? ≠ some 42
  no43 : x.xs.head? ≠ some 43
  esc : x.xs.head? = some 92 → 2 ≤ x.xs.length

def Item.runes (x : Item) : List Int := x.xs ++ x.fs
def Item.tok (x : Item) : Tok := ⟨x.t, x.f⟩

theorem items_head {its : List Item} (h : ∀ x ∈ its, x.Ok) : (its.flatMap Item.runes).head? ≠ some 42 ∧ (its.flatMap Item.runes).head? ≠ some 43 ∧ ((its.flatMap Item.runes).head? = some 92 → 2 ≤ (its.flatMap Item.runes).length) := by
  cases its with
  | nil => simp
  | cons x its =>
    have hx := h x (by simp)
    have hne : x.xs ≠ [] := hx.ne
    obtain ⟨c, r, hc⟩ : ∃ c r, x.xs = c :: r := by
      cases hxs : x.xs with
      | nil => exact absurd hxs hne
      | cons c r => exact ⟨c, r, rfl⟩
    have e : ((x :: its).flatMap Item.runes).head? = x.xs.head? := by simp [Item.runes, hc]
    rw [e]
    refine ⟨hx.no42, hx.no43, fun h9 => ?_⟩
    have := hx.esc h9
    simp [Item.runes]
    omega

theorem reads_items {its : List Item} (h : ∀ x ∈ its, x.Ok) : ∀ {l : List Int} {i : Nat}, i ≤ l.length → l.drop i = its.flatMap Item.runes → l.length ≤ 5000 → Reads l i (some (its.map Item.tok)) := by
  induction its with
  | nil =>
    intro l i hi hd hs
    have := congrArg List.length hd
    simp at this
    obtain rfl : i = l.length := by omega
    exact .done
  | cons x its ih =>
    intro l i hi hd hs
    have hx := h x (by simp)
    have hd' : l.drop i = x.xs ++ (x.fs ++ its.flatMap Item.runes) := by rw [hd]; simp [Item.runes]
    have hst := step_item hx.good hx.ne hx.flag hd' hs (fun _ => items_head fun y hy => h y (by simp [hy]))
    have hl := len_of_drop hd' (by simp [hx.ne])
    have hr := ih (fun y hy => h y (by simp [hy])) (l := l) (i := i + (x.xs ++ x.fs).length) (by simp at hl ⊢; omega) (drop_at (xs := x.xs ++ x.fs) (by rw [hd']; simp)) hs
    exact .step hst hr

theorem spells_items {its : List Item} (h : ∀ x ∈ its, x.Ok) {bs : List UInt8} (hp : ∀ b ∈ bs, b.toNat < 128) (hb : ru bs = its.flatMap Item.runes) (hs : bs.length ≤ 5000) : Spells bs (some (its.map Item.tok)) := by
  refine ⟨hp, by omega, reads_items h (by simp) (by simpa using hb) (by simpa [ru] using hs), ?_⟩
  rintro ts ⟨⟩
  have h1 : its.length ≤ (its.flatMap Item.runes).length := by
    clear hb
    induction its with
    | nil => simp
    | cons x its ih =>
      have hx := (h x (by simp)).ne
      have : x.xs.length ≠ 0 := by simpa using hx
      have := ih fun y hy => h y (by simp [hy])
      rw [List.flatMap_cons, List.length_append, List.length_cons]
      have e : x.runes.length = x.xs.length + x.fs.length := by simp [Item.runes]
      omega
  rw [← hb] at h1
  simp [ru] at h1 ⊢
  omega

end Go.Proofs.Ythlhfdidlfdaiaa
