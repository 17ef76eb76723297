/- The walk of laws.FnExactPlain. -/
import Derived.Test.YthlhfdidlfdaiaaPlainMeet
namespace Go.Proofs.Ythlhfdidlfdaiaa
open Go.RowKit

theorem KsRow.form2 {B : Nat} {w : World} {v : Value} {xs : List KSp} (h : KsRow B w v xs) : ∃ a cap, v = .slice a xs.length cap := by
  rcases h.form with ⟨rfl, rfl⟩ | ⟨g, cap, rfl, _⟩
  · exact ⟨none, 0, rfl⟩
  · exact ⟨_, _, rfl⟩

theorem bare_bare (xs : List KSp) : Bare ((xs.map KSp.bare).map KSp.tok) := bare_f xs

theorem meets_pmk (xs ys : List KSp) : meets ((xs.map KSp.bare).map KSp.tok) ((ys.map KSp.bare).map KSp.tok) = pmk (xs.map KSp.bare) (ys.map KSp.bare) := by
  rw [meets_all2 (bare_bare xs) (bare_bare ys), pmk_all2]

attribute [local irreducible] wpList wpQuiet Calls

set_option maxRecDepth 100000 in
set_option maxHeartbeats 2000000 in
theorem exactPlain_walk {a0 a1 : Option Addr} {len0 cap0 len1 cap1 : Nat} {ds es : List Nat} (w : World) (hby : BytesIs w (.slice a0 len0 cap0) ds) (hby1 : BytesIs w (.slice a1 len1 cap1) es) :
    Calls Try.prog 6 #[.slice a0 len0 cap0, .slice a1 len1 cap1] w fun e w' => e = .returned (.bool true) ∧ Below w.heap.size w w' := by
  by_cases hbig : (2147483647 : Int) < (len0 : Int)
  · go_enter Try.func6, Try.ntmps6
    go_wp2_with fail
    go_ret
    exact ⟨rfl, Below.refl _ _⟩
  by_cases hbig1 : (2147483647 : Int) < (len1 : Int)
  · go_enter Try.func6, Try.ntmps6
    go_wp2_with fail
    go_ret
    exact ⟨rfl, Below.refl _ _⟩
  · have hg := gOf_length ds
    have hg1 := gOf_length es
    have hm := meets_pmk (gOf ds) (gOf es)
    obtain ⟨xs, hxs⟩ : ∃ xs, xs = (gOf ds).map KSp.bare := ⟨_, rfl⟩
    obtain ⟨ys, hys⟩ : ∃ ys, ys = (gOf es).map KSp.bare := ⟨_, rfl⟩
    have hx : xs.length ≤ 100 := by rw [hxs]; simp; omega
    have hy : ys.length ≤ 100 := by rw [hys]; simp; omega
    rw [← hxs, ← hys] at hm
    have HX : Hid _ := hid hxs
    have HY : Hid _ := hid hys
    have hgx : (gOf ds).length ≤ 100 := by omega
    have hgy : (gOf es).length ≤ 100 := by omega
    clear hxs hys hg hg1
    go_enter Try.func6, Try.ntmps6
    have hB0 : Below w.heap.size w w := Below.refl _ _
    have hby0 := hby1
    go_upto_region 4 with (first
      | (go_at_call 13; first
          | (refine (glob_ks hby).mono ?_; rintro e w2 ⟨r, rfl, hB2, hown2⟩; clear hby; replace hby0 := hby1.keep hB2; replace hB0 := hB0.trans (hB2.mono hB0.size))
          | (refine (glob_ks hby0).mono ?_; rintro e w3 ⟨r3, rfl, hB3, hown3⟩; replace hown2 := hown2.keep hB3; replace hB0 := hB0.trans (hB3.mono hB0.size)))
      | (go_at_call 19; first
          | (refine (plain_ks hown3 hgy).mono ?_; rintro e w5 ⟨r5, rfl, hB5, hown5⟩; rw [← HY.out] at hown5; replace hown2 := hown2.keep hB5; replace hB0 := hB0.trans (hB5.mono hB0.size))
          | (refine (plain_ks hown2 hgx).mono ?_; rintro e w4 ⟨r4, rfl, hB4, hown4⟩; rw [← HX.out] at hown4; replace hown2 := hown4; replace hby0 := hby0.keep hB4; replace hB0 := hB0.trans (hB4.mono hB0.size))))
    obtain ⟨s5, c5, rfl⟩ := hown2.form2
    obtain ⟨s6, c6, rfl⟩ := hown5.form2
    clear hown3 hown4 hby0 hby1 hB2 hB3 hB4 hB5
    by_cases h0 : xs.length = 0
    · have h0' : (xs.length : Int) = 0 := by omega
      go_wp2_with (go_at_call 15; refine (sane_any _).mono ?_; rintro e w7 ⟨rfl, hB7⟩)
      go_ret
      exact ⟨rfl, hB0.trans (hB7.mono hB0.size)⟩
    by_cases h1 : ys.length = 0
    · have h0' : ¬ (xs.length : Int) = 0 := by omega
      have h1' : (ys.length : Int) = 0 := by omega
      go_wp2_with (go_at_call 15; refine (sane_any _).mono ?_; rintro e w7 ⟨rfl, hB7⟩)
      go_ret
      exact ⟨rfl, hB0.trans (hB7.mono hB0.size)⟩
    · have h0' : ¬ (xs.length : Int) = 0 := by omega
      have h1' : ¬ (ys.length : Int) = 0 := by omega
      have e5 : ((xs.length : Int) == 0) = false := by simpa using h0
      have e6 : ((ys.length : Int) == 0) = false := by simpa using h1
      have hne0 : xs ≠ [] := fun e => h0 (by rw [e]; rfl)
      have hne1 : ys ≠ [] := fun e => h1 (by rw [e]; rfl)
      generalize hb : pmk xs ys = b at hm
      go_upto_region 7 with (first
        | (go_at_call 12; first
            | (refine (text_ks hown5 hy).mono ?_; rintro e w7 ⟨rfl, hB7⟩; replace hB0 := hB0.trans (hB7.mono hB0.size); replace hown5 := hown5.keep hB7; replace hown2 := hown2.keep hB7)
            | (refine (text_ks hown2 hx).mono ?_; rintro e w6 ⟨rfl, hB6⟩; replace hB0 := hB0.trans (hB6.mono hB0.size); replace hown5 := hown5.keep hB6; replace hown2 := hown2.keep hB6))
        | (go_at_call 14; refine (meet_ks xs ys hx hy _).mono ?_; rintro e w8 ⟨hB8, rfl⟩; rw [hm]; replace hB0 := hB0.trans (hB8.mono hB0.size); replace hown5 := hown5.keep hB8; replace hown2 := hown2.keep hB8))
      have hP := plainMeet_any hown2 hown5 hx hy hne0 hne1
      rw [hb] at hP
      clear hown2 hown5 hm hb
      cases b
      · go_wp2_with (first
          | (go_at_call 20; refine hP.mono ?_; rintro e w9 ⟨rfl, d9, rfl⟩)
          | (go_at_call 15; refine (sane_any _).mono ?_; rintro e wA ⟨rfl, hBA⟩))
        go_ret
        exact ⟨rfl, hB0.trans ((d9.ok.trans (hBA.mono d9.size)).mono hB0.size)⟩
      · go_wp2_with (first
          | (go_at_call 20; refine hP.mono ?_; rintro e w9 ⟨rfl, d9, rfl⟩)
          | (go_at_call 15; refine (sane_any _).mono ?_; rintro e wA ⟨rfl, hBA⟩))
        go_ret
        exact ⟨rfl, hB0.trans ((d9.ok.trans (hBA.mono d9.size)).mono hB0.size)⟩

end Go.Proofs.Ythlhfdidlfdaiaa
