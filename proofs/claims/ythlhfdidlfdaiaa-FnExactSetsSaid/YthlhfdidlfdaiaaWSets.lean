/- The contracts of SetsMeet and AnyMeets; the walk of laws.FnExactSets. -/
import Derived.Test.YthlhfdidlfdaiaaLetters
namespace Go.Proofs.Ythlhfdidlfdaiaa
open Go.RowKit

theorem mem_ins (ks : List Int) (r x : Int) : x ∈ ins ks r ↔ x ∈ ks ∨ x = r := by
  unfold ins
  split
  · rename_i h
    constructor
    · exact .inl
    · rintro (h1 | rfl)
      · exact h1
      · exact h
  · simp
theorem mem_foldl_ins (l ks : List Int) (x : Int) : x ∈ l.foldl ins ks ↔ x ∈ ks ∨ x ∈ l := by
  induction l generalizing ks with
  | nil => simp
  | cons r l ih => simp only [List.foldl_cons, ih, mem_ins, List.mem_cons, or_assoc]
theorem mem_keysOf (l : List Int) (x : Int) : x ∈ keysOf l ↔ x ∈ l := by simp [keysOf, mem_foldl_ins]

theorem mt_sets (xs ys : List Int) : mt (.set (keysOf xs)) (.set (keysOf ys)) = commonB xs ys := by
  rw [Bool.eq_iff_iff]
  simp only [mt, commonB, List.any_eq_true, decide_eq_true_eq, beq_iff_eq, mem_keysOf]
  exact ⟨fun ⟨x, h1, h2⟩ => ⟨x, h1, x, h2, rfl⟩, fun ⟨x, h1, y, h2, e⟩ => ⟨x, h1, e ▸ h2⟩⟩

attribute [local irreducible] wpList wpQuiet Calls

theorem newAt_tok {B : Nat} {w : World} {v : Value} {t : Tok} (h : NewAt B w v t) : TokAt w v t := by
  obtain ⟨b, _, hv, hc⟩ := h
  exact ⟨b, hv, hc⟩
theorem TokAt.below {w w' : World} {v : Value} {t : Tok} (h : TokAt w v t) (hB : Below w.heap.size w w') : TokAt w' v t := h.ext ⟨w', hB⟩
theorem RunesIs.below {w w' : World} {b off cap : Nat} {l : List Int} (h : RunesIs w b off cap l) (hB : Below w.heap.size w w') : RunesIs w' b off cap l := h.ext ⟨w', hB⟩

/-- Match, at tokens that lie in the world of the call. -/
theorem match_now {w : World} {v1 v2 : Value} {t1 t2 : Tok} {b : Bool} (h1 : TokAt w v1 t1) (h2 : TokAt w v2 t2) (hb : mt t1.k t2.k = b) : Calls Try.prog 33 #[v1, v2] w fun e w' => e = .returned (.bool b) ∧ Below w.heap.size w w' := by
  subst hb
  exact (match_any h1 h2 (Ext.self w)).mono fun e w' ⟨he, d, hd⟩ => ⟨he, hd ▸ d.ok⟩

theorem setsMeet_any {g1 c1 g2 c2 : Nat} {xs ys : List Int} {w : World} (h1 : RunesIs w g1 0 c1 xs) (h2 : RunesIs w g2 0 c2 ys) :
    Calls Try.prog 25 #[.slice (some ⟨g1, 0, none⟩) xs.length c1, .slice (some ⟨g2, 0, none⟩) ys.length c2] w fun e w' => e = .returned (.bool (commonB xs ys)) ∧ Below w.heap.size w w' := by
  go_enter Try.func25, Try.ntmps25
  go_wp2_with (first
    | (go_at_call 35; first
        | (refine (newSet_any _ h1).mono ?_; rintro e w2 ⟨v2, rfl, hB2, ht2⟩; replace h2 := h2.below hB2; clear h1)
        | (refine (newSet_any _ h2).mono ?_; rintro e w3 ⟨v3, rfl, hB3, ht3⟩))
    | (go_at_call 33; refine (match_now ((newAt_tok ht2).below hB3) (newAt_tok ht3) (mt_sets xs ys)).mono ?_; rintro e w4 ⟨rfl, hB4⟩))
  go_ret
  exact ⟨rfl, hB2.trans ((hB3.trans (hB4.mono hB3.size)).mono hB2.size)⟩

theorem anyMeets_any {g1 c1 : Nat} {xs : List Int} (r : Int) {w : World} (h1 : RunesIs w g1 0 c1 xs) :
    Calls Try.prog 24 #[.slice (some ⟨g1, 0, none⟩) xs.length c1, .int .i32 r] w fun e w' => e = .returned (.tuple #[.bool true, .bool true]) ∧ Below w.heap.size w w' := by
  have hB0 : Below w.heap.size w w := Below.refl _ _
  go_enter Try.func24, Try.ntmps24
  go_wp2_with (first
    | (go_at_call 35; refine (newSet_any _ h1).mono ?_; rintro e w3 ⟨v3, rfl, hB3, ht3⟩; replace hB0 := hB0.trans (hB3.mono hB0.size))
    | (go_at_call 36; refine (newChar_any _ _).mono ?_; rintro e w5 ⟨v5, rfl, hB5, ht5⟩; replace hB0 := hB0.trans (hB5.mono hB0.size))
    | (go_at_call 34; refine (newDot_any _).mono ?_; rintro e w2 ⟨v2, rfl, hB2, ht2⟩; replace hB0 := hB0.trans (hB2.mono hB0.size); try replace h1 := h1.below hB2)
    | (go_at_call 33; first
        | (refine (match_now (b := true) ((newAt_tok ht5).below hB2) (newAt_tok ht2) rfl).mono ?_; rintro e w6 ⟨rfl, hB6⟩; replace hB0 := hB0.trans (hB6.mono hB0.size))
        | (refine (match_now (b := true) ((newAt_tok ht2).below hB3) (newAt_tok ht3) rfl).mono ?_; rintro e w4 ⟨rfl, hB4⟩; replace hB0 := hB0.trans (hB4.mono hB0.size))))
  go_ret2
  exact ⟨rfl, hB0⟩

set_option maxRecDepth 100000 in
set_option maxHeartbeats 2000000 in
theorem sets_walk {a0 a1 : Option Addr} {len0 cap0 len1 cap1 : Nat} {ds es : List Nat} (w : World) (hl0 : ds.length = len0) (hl1 : es.length = len1) (hby : BytesIs w (.slice a0 len0 cap0) ds) (hby1 : BytesIs w (.slice a1 len1 cap1) es) :
    Calls Try.prog 10 #[.slice a0 len0 cap0, .slice a1 len1 cap1] w fun e w' => e = .returned (.bool true) ∧ Below w.heap.size w w' := by
  by_cases hbig : (2147483647 : Int) < (len0 : Int)
  · go_enter Try.func10, Try.ntmps10
    go_wp2_with fail
    go_ret
    exact ⟨rfl, Below.refl _ _⟩
  by_cases hbig1 : (2147483647 : Int) < (len1 : Int)
  · go_enter Try.func10, Try.ntmps10
    go_wp2_with fail
    go_ret
    exact ⟨rfl, Below.refl _ _⟩
  · have hs0 : ds.length ≤ 2147483647 := by omega
    have hs1 : es.length ≤ 2147483647 := by omega
    have hne : 0 < (lettersOf es).length := by simp [lettersOf]
    generalize hxs : lettersOf ds = xs
    generalize hys : lettersOf es = ys at hne
    have HX : Hid _ := hid hxs
    have HY : Hid _ := hid hys
    clear hxs hys hl0 hl1
    have hB0 : Below w.heap.size w w := Below.refl _ _
    go_enter Try.func10, Try.ntmps10
    go_upto_region 4 with (go_at_call 23; first
      | (refine (letters_any hby hs0).mono ?_; rw [HX.out]; rintro e w2 ⟨g2, c2, rfl, hB2, hr2⟩; clear hby; replace hby1 := hby1.keep hB2; replace hB0 := hB0.trans (hB2.mono hB0.size))
      | (refine (letters_any hby1 hs1).mono ?_; rw [HY.out]; rintro e w3 ⟨g3, c3, rfl, hB3, hr3⟩; replace hr2 := hr2.below hB3; replace hB0 := hB0.trans (hB3.mono hB0.size)))
    have hc := hr3.rune 0 _ (List.getElem?_eq_getElem hne)
    rw [Nat.zero_add] at hc
    generalize ys[0] = y0 at hc
    clear hB2 hB3 hby1
    have hne' : (0 : Int) < (ys.length : Int) := by omega
    go_upto_region 5 with (go_at_call 24; refine (anyMeets_any y0 hr2).mono ?_; rintro e w4 ⟨rfl, hB4⟩; replace hr2 := hr2.below hB4; replace hr3 := hr3.below hB4; replace hB0 := hB0.trans (hB4.mono hB0.size))
    generalize hcb : commonB xs ys = b
    have hS := fun w (h2 : RunesIs w g2 0 c2 xs) (h3 : RunesIs w g3 0 c3 ys) => setsMeet_any h2 h3
    have hC := fun w (h2 : RunesIs w g2 0 c2 xs) (h3 : RunesIs w g3 0 c3 ys) => common_any h2 h3
    rw [hcb] at hS hC
    cases b
    all_goals
      go_wp2_with (first
        | (go_at_call 25; refine (hS _ hr2 hr3).mono ?_; rintro e w5 ⟨rfl, hB5⟩; replace hr2 := hr2.below hB5; replace hr3 := hr3.below hB5; replace hB0 := hB0.trans (hB5.mono hB0.size))
        | (go_at_call 26; refine (hC _ hr2 hr3).mono ?_; rintro e w6 ⟨rfl, rfl⟩)
        | (go_at_call 15; refine (sane_any _).mono ?_; rintro e wA ⟨rfl, hBA⟩; replace hB0 := hB0.trans (hBA.mono hB0.size)))
      go_ret
      exact ⟨rfl, hB0⟩

end Go.Proofs.Ythlhfdidlfdaiaa
