/- The specification's globs by their kinds and flags: the contracts of Glob, Plain, Text, Tokens and Meet, said of them. -/
import Derived.Test.YthlhfdidlfdaiaaFrame
import Derived.Test.YthlhfdidlfdaiaaPlain
namespace Go.Proofs.Ythlhfdidlfdaiaa
open Go.RowKit

def KSp.bare (x : KSp) : KSp := ⟨x.k, 0⟩
theorem bare_sp (xs : List KSp) : (xs.map KSp.sp).map Sp.bare = (xs.map KSp.bare).map KSp.sp := by
  simp only [List.map_map]
  rfl

theorem simp2_bare (t : Tok) (ts : List Tok) (h : ∀ x ∈ ts, x.f = 0) : simp2 t ts = t :: ts := by
  induction ts generalizing t with
  | nil => rfl
  | cons a ts ih =>
    have h1 := h a (by simp)
    rw [simp2, if_neg (by simp [h1]), ih a (fun x hx => h x (by simp [hx]))]
theorem simplify_bare (ts : List Tok) (h : ∀ x ∈ ts, x.f = 0) : simplify ts = ts := by
  cases ts with
  | nil => rfl
  | cons a ts => exact simp2_bare a ts (fun x hx => h x (by simp [hx]))
theorem bare_f (xs : List KSp) : ∀ t ∈ (xs.map KSp.bare).map KSp.tok, t.f = 0 := by
  intro t ht
  simp only [List.map_map, List.mem_map] at ht
  obtain ⟨x, _, rfl⟩ := ht
  rfl

theorem sp_ok (xs : List KSp) : ∀ t ∈ xs.map KSp.sp, t.s.length ≤ 5 ∧ (t.g = 0 ∨ t.g = 43 ∨ t.g = 42) := by
  intro t ht
  obtain ⟨x, _, rfl⟩ := List.mem_map.1 ht
  exact ⟨x.len, x.fl⟩


/-- A row of the specification's tokens. -/
def KsRow (B : Nat) (w : World) (v : Value) (xs : List KSp) : Prop := w.ownsRow B 43 3 v xs.length ((xs.map KSp.sp).flatMap Sp.cs)

theorem KsRow.keep {B : Nat} {w w' : World} {v : Value} {xs : List KSp} (h : KsRow B w v xs) (hB : Below w.heap.size w w') : KsRow B w' v xs := owns_below hB h

theorem KsRow.form {B : Nat} {w : World} {v : Value} {xs : List KSp} (h : KsRow B w v xs) : (v = .slice none 0 0 ∧ xs = []) ∨ ∃ g cap, v = .slice (some ⟨g, 0, none⟩) xs.length cap ∧ xs.length ≤ cap := by
  rcases sp_form h (by simp) with ⟨rfl, he⟩ | ⟨g, cap, rfl, hcap, hBg, hgw⟩
  · exact .inl ⟨rfl, by simpa using he⟩
  · rw [List.length_map] at hcap ⊢
    exact .inr ⟨g, cap, rfl, hcap⟩

theorem glob_ks {v : Value} {ds : List Nat} {w : World} (h : BytesIs w v ds) : Calls Try.prog 13 #[v] w fun e w' => ∃ r, e = .returned r ∧ Below w.heap.size w w' ∧ KsRow w.heap.size w' r (gOf ds) :=
  (glob_any h).mono fun e w' ⟨r, he, hB, ho⟩ => ⟨r, he, hB, by rw [globOf_eq, List.length_map] at ho; exact ho⟩

theorem text_ks {B : Nat} {v : Value} {xs : List KSp} {w : World} (h : KsRow B w v xs) (hx : xs.length ≤ 100) :
    Calls Try.prog 12 #[v] w fun e w' => e = .returned (.string (txt (textOf (xs.map KSp.sp)))) ∧ Below w.heap.size w w' :=
  text_any h (by simp) (sp_ok xs) (by simp; omega)

theorem plain_ks {B : Nat} {v : Value} {xs : List KSp} {w : World} (h : KsRow B w v xs) (hx : xs.length ≤ 100) :
    Calls Try.prog 19 #[v] w fun e w' => ∃ r, e = .returned r ∧ Below w.heap.size w w' ∧ KsRow w.heap.size w' r (xs.map KSp.bare) :=
  (plain_any h (by simp) (by simp; omega)).mono fun e w' ⟨r, he, hB, ho⟩ => ⟨r, he, hB, by rw [bare_sp, List.length_map] at ho; unfold KsRow; rw [List.length_map]; exact ho⟩

theorem tokens_ks (xs : List KSp) (hx : xs.length ≤ 100) (w : World) :
    Calls Try.prog 27 #[.string (txt (textOf (xs.map KSp.sp)))] w fun e w' => Below w.heap.size w w' ∧ e = .returned (.tuple #[.int .i64 xs.length, .int .i64 (simplify (xs.map KSp.tok)).length, .bool true]) :=
  (tokens_any (spells_glob xs hx) w).mono fun e w' ⟨hB, he⟩ => ⟨hB, by rw [he, List.length_map]⟩

theorem meet_ks (xs ys : List KSp) (hx : xs.length ≤ 100) (hy : ys.length ≤ 100) (w : World) :
    Calls Try.prog 14 #[.string (txt (textOf (xs.map KSp.sp))), .string (txt (textOf (ys.map KSp.sp)))] w fun e w' => Below w.heap.size w w' ∧ e = .returned (.tuple #[.bool (meets (xs.map KSp.tok) (ys.map KSp.tok)), .bool true]) :=
  meet_any (spells_glob xs hx) (spells_glob ys hy) w

end Go.Proofs.Ythlhfdidlfdaiaa
