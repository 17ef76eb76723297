/- The plain law: a glob meets itself. No program here. -/
import Derived.Test.YthlhfdidlfdaiaaSane
namespace Go.Proofs.Ythlhfdidlfdaiaa

/-- A token that matches itself, its flag none, plus or star. -/
def Fine (t : Tok) : Prop := mt t.k t.k = true ∧ (t.f = 0 ∨ t.f = 1 ∨ t.f = 2)

theorem star_self {nm : List Tok → List Tok → Bool} (s : Tok) (r : List Tok) (h : ∀ x ∈ r, Fine x) (hn : nm r r = true) : starWith nm s r r = true := by
  cases r with
  | nil => rfl
  | cons y r =>
    have := (h y (by simp)).1
    simp only [starWith, this, hn, Bool.true_and, Bool.true_or]

theorem normal_self {nm : List Tok → List Tok → Bool} (a : List Tok) (h : ∀ x ∈ a, Fine x) (hn : ∀ r, r.length < a.length → (∀ x ∈ r, Fine x) → nm r r = true) : normalWith (spWith nm) a a = true := by
  induction a with
  | nil => rfl
  | cons t r ih =>
    obtain ⟨hm, hf⟩ := h t (by simp)
    have hr : ∀ x ∈ r, Fine x := fun x hx => h x (by simp [hx])
    have hnr := hn r (by simp) hr
    have hs := star_self (nm := nm) t r hr hnr
    simp only [normalWith]
    by_cases h0 : t.f = 0
    · rw [if_pos ⟨h0, h0⟩, hm, ih hr (fun r' h1 h2 => hn r' (by simp; omega) h2)]
      rfl
    · rw [if_neg (by simp [h0])]
      simp only [spWith, if_pos h0]
      rcases hf with hf | hf | hf
      · exact absurd hf h0
      · rw [if_pos hf]
        simp [plusWith, hm, hs]
      · rw [if_neg (by omega), if_pos hf]
        simp [starWith, hm, hs]

theorem inter_self : ∀ (k : Nat) (a : List Tok), a.length < k → (∀ x ∈ a, Fine x) → inter k a a = true := by
  intro k
  induction k with
  | zero => intro a h; omega
  | succ k ih =>
    intro a hl h
    exact normal_self a h fun r h1 h2 => ih r (by omega) h2

theorem pre_self (a : List Tok) (h : ∀ x ∈ a, Fine x) : ∃ l, pre a a = some l := by
  induction a with
  | nil => exact ⟨0, rfl⟩
  | cons t r ih =>
    obtain ⟨l, hl⟩ := ih fun x hx => h x (by simp [hx])
    have hm := (h t (by simp)).1
    by_cases h0 : t.f = 0
    · exact ⟨l + 1, by simp [pre, h0, hm, hl]⟩
    · exact ⟨0, by simp [pre, h0]⟩

theorem trim_self (a : List Tok) (h : ∀ x ∈ a, Fine x) : ∃ b, trim a a = some (b, b) ∧ ∀ x ∈ b, Fine x := by
  obtain ⟨l, hl⟩ := pre_self a h
  have hd : ∀ x ∈ a.drop (l - 1), Fine x := fun x hx => h x (List.mem_of_mem_drop hx)
  obtain ⟨c, hc⟩ := pre_self (a.drop (l - 1)).reverse fun x hx => hd x (List.mem_reverse.1 hx)
  exact ⟨(a.drop (l - 1)).take ((a.drop (l - 1)).length - (c - 1)), by simp only [trim, hl, trimBack, hc], fun x hx => hd x (List.mem_of_mem_take hx)⟩

theorem simp2_fine (l : Tok) (ts : List Tok) (hl : Fine l) (h : ∀ x ∈ ts, Fine x) : ∀ x ∈ simp2 l ts, Fine x := by
  induction ts generalizing l with
  | nil => simpa [simp2] using hl
  | cons t ts ih =>
    have ht := h t (by simp)
    have hts : ∀ x ∈ ts, Fine x := fun x hx => h x (by simp [hx])
    simp only [simp2]
    split
    · refine ih _ ⟨hl.1, ?_⟩ hts
      split
      · exact .inr (.inl rfl)
      · exact .inr (.inr rfl)
    · intro x hx
      rcases List.mem_cons.1 hx with rfl | hx
      · exact hl
      · exact ih t ht hts x hx
theorem simplify_fine (ts : List Tok) (h : ∀ x ∈ ts, Fine x) : ∀ x ∈ simplify ts, Fine x := by
  cases ts with
  | nil => simp [simplify]
  | cons t ts => exact simp2_fine t ts (h t (by simp)) fun x hx => h x (by simp [hx])

theorem meets_self (ts : List Tok) (h : ∀ x ∈ ts, Fine x) : meets ts ts = true := by
  obtain ⟨b, hb, hf⟩ := trim_self _ (simplify_fine ts h)
  simp only [meets, hb]
  exact inter_self _ b (by omega) hf

theorem kt_self (k : Nat) : mt (kt k) (kt k) = true := by
  match k with
  | 0 => rfl
  | 1 => rfl
  | 2 => rfl
  | 3 => rfl
  | 4 => rfl
  | 5 => rfl
  | 6 => rfl
  | n + 7 => rfl
theorem KSp.fine (x : KSp) : Fine x.tok :=
  ⟨kt_self x.k, flg_cases (fun _ f => f = 0 ∨ f = 1 ∨ f = 2) x (.inl rfl) (.inr (.inl rfl)) (.inr (.inr rfl))⟩
theorem meets_ks_self (xs : List KSp) : meets (xs.map KSp.tok) (xs.map KSp.tok) = true :=
  meets_self _ fun t ht => by obtain ⟨x, _, rfl⟩ := List.mem_map.1 ht; exact x.fine

end Go.Proofs.Ythlhfdidlfdaiaa
