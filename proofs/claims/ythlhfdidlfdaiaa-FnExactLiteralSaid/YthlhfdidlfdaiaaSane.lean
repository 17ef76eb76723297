/- The law functions' common part: sane; what the texts of the specification's globs spell. -/
import Derived.Test.YthlhfdidlfdaiaaSpell
import Derived.Test.YthlhfdidlfdaiaaText
namespace Go.Proofs.Ythlhfdidlfdaiaa
open Go.RowKit

theorem item_chr (r : Int) (fs : List Int) (f : Int) (h : r = 97 ∨ r = 98 ∨ r = 99 ∨ r = 100) (hf : FlagOf fs f) : (⟨[r], .chr r, fs, f⟩ : Item).Ok := by
  refine ⟨good_chr r (by omega) ?_ ?_, by simp, hf, ?_, ?_, ?_⟩ <;> rcases h with rfl | rfl | rfl | rfl <;> first | decide | simp

theorem spells_a : Spells [97] (some [⟨.chr 97, 0⟩]) :=
  spells_items (its := [⟨[97], .chr 97, [], 0⟩]) (by simp; exact item_chr 97 [] 0 (by decide) (.inl ⟨rfl, rfl⟩)) (by decide) rfl (by decide)
theorem spells_b : Spells [98] (some [⟨.chr 98, 0⟩]) :=
  spells_items (its := [⟨[98], .chr 98, [], 0⟩]) (by simp; exact item_chr 98 [] 0 (by decide) (.inl ⟨rfl, rfl⟩)) (by decide) rfl (by decide)

/-- The kinds, as tokens. -/
def kt : Nat → TK
  | 0 => .chr 97
  | 1 => .chr 98
  | 2 => .chr 99
  | 3 => .chr 100
  | 4 => .dot
  | 5 => .set [97, 98]
  | 6 => .set [98, 99, 100]
  | _ => .set [97, 100]

theorem good_shut1 (rest : List Int) (pv : Option Int) : good (93 :: rest) pv = true := by
  cases rest <;> cases pv <;> simp [good]

theorem good_kind (k : Nat) : Good (ru (kd k).1) (kt k) := by
  match k with
  | 0 => exact good_chr 97 (by decide) (by decide) (by decide)
  | 1 => exact good_chr 98 (by decide) (by decide) (by decide)
  | 2 => exact good_chr 99 (by decide) (by decide) (by decide)
  | 3 => exact good_chr 100 (by decide) (by decide) (by decide)
  | 4 => exact good_dot
  | 5 => exact good_set [97, 98, 93] [97, 98] (by simp) (fun rest => by simp [scan_plain1, scan_shut1]) (fun rest => by simp [good_plain1, good_shut1])
  | 6 => exact good_set [98, 45, 100, 93] [98, 98, 99, 100] (by simp) (fun rest => by simp [scan_plain1, scan_shut1, scan_dash1]; rfl) (fun rest => by simp [good_plain1, good_dash1, good_shut1])
  | n + 7 => exact good_set [97, 100, 93] [97, 100] (by simp) (fun rest => by simp [scan_plain1, scan_shut1]) (fun rest => by simp [good_plain1, good_shut1])

/-- A specification token of a kind, with a flag. -/
structure KSp where
  k : Nat
  q : Nat
  deriving Inhabited, DecidableEq

def KSp.sp (x : KSp) : Sp := ⟨(kd x.k).1, (kd x.k).2, flg x.q⟩
/-- The flag, as the package numbers it. -/
def KSp.f (x : KSp) : Int := match x.q with | 2 => 1 | 3 => 2 | _ => 0
def KSp.tok (x : KSp) : Tok := ⟨kt x.k, x.f⟩
def KSp.item (x : KSp) : Item := ⟨ru (kd x.k).1, kt x.k, ru (flagText (flg x.q)), x.f⟩

theorem kd_cases (P : List UInt8 × Int → Prop) (h : ∀ p ∈ [(([97] : List UInt8), (1 : Int)), ([98], 2), ([99], 4), ([100], 8), ([46], 31), ([91, 97, 98, 93], 3), ([91, 98, 45, 100, 93], 14), ([91, 97, 100, 93], 9)], P p) (k : Nat) : P (kd k) := by
  match k with
  | 0 => exact h _ (by simp [kd])
  | 1 => exact h _ (by simp [kd])
  | 2 => exact h _ (by simp [kd])
  | 3 => exact h _ (by simp [kd])
  | 4 => exact h _ (by simp [kd])
  | 5 => exact h _ (by simp [kd])
  | 6 => exact h _ (by simp [kd])
  | n + 7 => exact h _ (by simp [kd])

theorem flg_cases (P : Int → Int → Prop) (x : KSp) (h0 : P 0 0) (h1 : P 43 1) (h2 : P 42 2) : P (flg x.q) x.f := by
  unfold KSp.f
  match x.q with
  | 0 => exact h0
  | 1 => exact h0
  | 2 => exact h1
  | 3 => exact h2
  | n + 4 => exact h0

theorem KSp.ok (x : KSp) : x.item.Ok := by
  refine ⟨good_kind x.k, ?_, ?_, ?_, ?_, ?_⟩
  · exact kd_cases (fun p => ru p.1 ≠ []) (by decide) x.k
  · exact flg_cases (fun g f => FlagOf (ru (flagText g)) f) x (.inl ⟨rfl, rfl⟩) (.inr (.inl ⟨rfl, rfl⟩)) (.inr (.inr ⟨rfl, rfl⟩))
  · exact kd_cases (fun p => (ru p.1).head? ≠ some 42) (by decide) x.k
  · exact kd_cases (fun p => (ru p.1).head? ≠ some 43) (by decide) x.k
  · exact kd_cases (fun p => (ru p.1).head? = some 92 → 2 ≤ (ru p.1).length) (by decide) x.k

theorem KSp.plain (x : KSp) : ∀ b ∈ x.sp.text, b.toNat < 128 := by
  intro b hb
  simp only [Sp.text, KSp.sp, List.mem_append] at hb
  rcases hb with hb | hb
  · exact kd_cases (fun p => ∀ b ∈ p.1, b.toNat < 128) (by decide) x.k b hb
  · exact flg_cases (fun g _ => ∀ b ∈ flagText g, b.toNat < 128) x (by decide) (by decide) (by decide) b hb

theorem KSp.len (x : KSp) : x.sp.s.length ≤ 5 := kd_cases (fun p => p.1.length ≤ 5) (by decide) x.k
theorem KSp.fl (x : KSp) : x.sp.g = 0 ∨ x.sp.g = 43 ∨ x.sp.g = 42 := flg_cases (fun g _ => g = 0 ∨ g = 43 ∨ g = 42) x (.inl rfl) (.inr (.inl rfl)) (.inr (.inr rfl))

theorem ru_textOf (xs : List KSp) : ru (textOf (xs.map KSp.sp)) = (xs.map KSp.item).flatMap Item.runes := by
  induction xs with
  | nil => rfl
  | cons x xs ih =>
    have e : ru x.sp.text = x.item.runes := by simp [ru, Sp.text, Item.runes, KSp.item, KSp.sp]
    simp only [List.map_cons, textOf, List.flatMap_cons] at ih ⊢
    rw [← ih, ← e]
    simp [ru]

theorem plain_textOf (xs : List KSp) : ∀ b ∈ textOf (xs.map KSp.sp), b.toNat < 128 := by
  intro b hb
  simp only [textOf, List.mem_flatMap, List.mem_map] at hb
  obtain ⟨_, ⟨x, _, rfl⟩, hb⟩ := hb
  exact x.plain b hb

theorem len_textOf (xs : List KSp) : (textOf (xs.map KSp.sp)).length ≤ xs.length * 6 := by
  have := textOf_len (xs.map KSp.sp) (by intro t ht; obtain ⟨x, _, rfl⟩ := List.mem_map.1 ht; exact x.len)
  simpa using this

/-- What a glob's text spells. -/
theorem spells_glob (xs : List KSp) (h : xs.length ≤ 100) : Spells (textOf (xs.map KSp.sp)) (some (xs.map KSp.tok)) := by
  have := spells_items (its := xs.map KSp.item) (by intro y hy; obtain ⟨x, _, rfl⟩ := List.mem_map.1 hy; exact x.ok) (plain_textOf xs) (ru_textOf xs) (by have := len_textOf xs; omega)
  rw [List.map_map] at this
  exact this

theorem spells_star (bs : List UInt8) (hp : ∀ b ∈ bs, b.toNat < 128) (hs : bs.length ≤ 1000) : Spells ([42] ++ bs) none :=
  ⟨by intro b hb; simp at hb; rcases hb with rfl | hb; decide; exact hp b hb, by simp; omega, .bad fun b off cap w h => next_badflag h 0 42 (by simp [ru]) (.inr rfl), by intro ts h; cases h⟩

theorem spells_plus (bs : List UInt8) (hp : ∀ b ∈ bs, b.toNat < 128) (hs : bs.length ≤ 1000) : Spells ([97, 42, 43] ++ bs) none := by
  have hst : StepAt (ru ([97, 42, 43] ++ bs)) 0 2 ⟨.chr 97, 2⟩ := by
    have := step_item (item_chr 97 [42] 2 (by decide) (.inr (.inr ⟨rfl, rfl⟩))).good (by simp) (fs := [42]) (f := 2) (.inr (.inr ⟨rfl, rfl⟩)) (l := ru ([97, 42, 43] ++ bs)) (rest := 43 :: ru bs) (i := 0) rfl (by simp [ru]; omega) (by simp)
    exact this
  have hr : Reads (ru ([97, 42, 43] ++ bs)) 2 none := .bad fun b off cap w h => next_badflag h 2 43 (by simp [ru]) (.inl rfl)
  exact ⟨by intro b hb; simp at hb; rcases hb with rfl | rfl | rfl | hb; decide; decide; decide; exact hp b hb, by simp; omega, .step hst hr, by intro ts h; cases h⟩

theorem spells_open : Spells [91, 97, 98] none :=
  ⟨by decide, by decide, .bad fun b off cap w h => next_badset h (by decide) 0 rfl (by decide) rfl rfl, by intro ts h; cases h⟩

attribute [local irreducible] wpList wpQuiet

theorem meets_aa : meetR (some [⟨.chr 97, 0⟩]) (some [⟨.chr 97, 0⟩]) = (true, true) := by decide
theorem meets_ab : meetR (some [⟨.chr 97, 0⟩]) (some [⟨.chr 98, 0⟩]) = (false, true) := by decide

theorem sane_any (w : World) : Calls Try.prog 15 #[] w fun e w' => e = .returned (.bool true) ∧ Below w.heap.size w w' := by
  go_enter Try.func15, Try.ntmps15
  go_upto_region 2 with (go_at_call 14; refine (meet_any spells_a spells_a _).mono ?_; rintro e w2 ⟨hB2, rfl⟩)
  rw [meets_aa]
  go_wp2_with (go_at_call 14; refine (meet_any spells_a spells_b _).mono ?_; rintro e w3 ⟨hB3, rfl⟩; rw [meets_ab])
  go_ret
  exact ⟨rfl, hB2.trans (hB3.mono hB2.size)⟩

/-- What the bytes tell, as tokens. -/
def ksOf (d : Nat) : KSp := ⟨d % 8, d / 8 % 4⟩
def gOf (ds : List Nat) : List KSp := (ds.take 6).map ksOf
theorem globOf_eq (ds : List Nat) : globOf ds = (gOf ds).map KSp.sp := by
  simp only [globOf, gOf, List.map_map]
  rfl
theorem gOf_length (ds : List Nat) : (gOf ds).length ≤ 6 := by simp [gOf]; omega

end Go.Proofs.Ythlhfdidlfdaiaa
