/- The walk of laws.FnExactLiteral. -/
import Derived.Test.YthlhfdidlfdaiaaLiteral
import Derived.Test.YthlhfdidlfdaiaaWTurned
namespace Go.Proofs.Ythlhfdidlfdaiaa
open Go.RowKit

attribute [local irreducible] wpList wpQuiet Calls

set_option maxRecDepth 100000 in
set_option maxHeartbeats 2000000 in
theorem exactLiteral_walk {a0 a1 : Option Addr} {len0 cap0 len1 cap1 : Nat} {ds es : List Nat} (w : World) (hby : BytesIs w (.slice a0 len0 cap0) ds) (hby1 : BytesIs w (.slice a1 len1 cap1) es) :
    Calls Try.prog 4 #[.slice a0 len0 cap0, .slice a1 len1 cap1] w fun e w' => e = .returned (.bool true) ∧ Below w.heap.size w w' := by
  by_cases hbig : (2147483647 : Int) < (len0 : Int)
  · go_enter Try.func4, Try.ntmps4
    go_wp2_with fail
    go_ret
    exact ⟨rfl, Below.refl _ _⟩
  by_cases hbig1 : (2147483647 : Int) < (len1 : Int)
  · go_enter Try.func4, Try.ntmps4
    go_wp2_with fail
    go_ret
    exact ⟨rfl, Below.refl _ _⟩
  · have hg1 := gOf_length es
    obtain ⟨xs, hxs⟩ : ∃ xs, xs = litK ds := ⟨_, rfl⟩
    obtain ⟨ys, hys⟩ : ∃ ys, ys = spacedK (gOf es) := ⟨_, rfl⟩
    have hx10 : xs.length ≤ 10 := by rw [hxs]; exact Nat.le_trans (litK_length ds) (by decide)
    have hy10 : ys.length ≤ 10 := by rw [hys, spacedK_length]; omega
    have hx : xs.length ≤ 100 := by omega
    have hy : ys.length ≤ 100 := by omega
    have hfound : ∀ sm : Bool, xs ≠ [] → (sm = true ↔ Reach (stepsK xs) (stepsK ys) (endAt (stepsK xs) (stepsK ys))) → meets (xs.map KSp.tok) (ys.map KSp.tok) = sm ∧ meets (ys.map KSp.tok) (xs.map KSp.tok) = sm := by
      intro sm hne h
      subst hys
      exact meets_found (by rw [hxs]; exact litK_bare ds) hne h
    have HX : Hid _ := hid hxs
    have HY : Hid _ := hid hys
    have HF : Hid _ := hid hfound
    have hgy : (gOf es).length ≤ 100 := by omega
    clear hxs hys hg1 hfound
    go_enter Try.func4, Try.ntmps4
    have hB0 : Below w.heap.size w w := Below.refl _ _
    have hby0 := hby1
    go_upto_region 4 with (first
      | (go_at_call 16; refine (literal_ks hby).mono ?_; rintro e w4 ⟨r4, rfl, hB4, hown4⟩; rw [← HX.out] at hown4; replace hby0 := hby0.keep hB4; replace hB0 := hB0.trans (hB4.mono hB0.size))
      | (go_at_call 13; refine (glob_ks hby0).mono ?_; rintro e w3 ⟨r3, rfl, hB3, hown3⟩; replace hown4 := hown4.keep hB3; replace hB0 := hB0.trans (hB3.mono hB0.size))
      | (go_at_call 17; refine (spaced_ks hown3 hgy).mono ?_; rintro e w5 ⟨r5, rfl, hB5, hown5⟩; rw [← HY.out] at hown5; replace hown4 := hown4.keep hB5; replace hB0 := hB0.trans (hB5.mono hB0.size)))
    obtain ⟨s4, c4, rfl⟩ := hown4.form2
    obtain ⟨s5, c5, rfl⟩ := hown5.form2
    clear hown3 hby0 hby1 hby hB3 hB4 hB5
    by_cases h0 : xs.length = 0
    · have h0' : (xs.length : Int) = 0 := by omega
      go_wp2_with (go_at_call 15; refine (sane_any _).mono ?_; rintro e w7 ⟨rfl, hB7⟩)
      go_ret
      exact ⟨rfl, hB0.trans (hB7.mono hB0.size)⟩
    by_cases h1 : ys.length = 0
    · have h0' : ¬ (xs.length : Int) = 0 := by omega
      have h1' : (ys.length : Int) = 0 := by omega
      go_wp2_with (go_at_call 15; refine (sane_any _).mono ?_; rintro e w7 ⟨rfl, hB7⟩)
      go_ret
      exact ⟨rfl, hB0.trans (hB7.mono hB0.size)⟩
    · have h0' : ¬ (xs.length : Int) = 0 := by omega
      have h1' : ¬ (ys.length : Int) = 0 := by omega
      have e5 : ((xs.length : Int) == 0) = false := by simpa using h0
      have e6 : ((ys.length : Int) == 0) = false := by simpa using h1
      have hne0 : xs ≠ [] := fun e => h0 (by rw [e]; rfl)
      go_upto_region 7 with (go_at_call 18; refine (specMeet_any hown4 hown5 hx10 hy10).mono ?_; rintro e w6 ⟨hB6, one, sm, rfl, hsm⟩; replace hB0 := hB0.trans (hB6.mono hB0.size); replace hown4 := hown4.keep hB6; replace hown5 := hown5.keep hB6)
      obtain ⟨hm, hmt⟩ := HF.out sm hne0 hsm
      have hM1 := meet_ks xs ys hx hy
      have hM2 := meet_ks ys xs hy hx
      rw [hm] at hM1
      rw [hmt] at hM2
      clear hsm hB6 HF hm hmt
      go_upto_region 9 with (first
        | (go_at_call 12; first
            | (refine (text_ks hown5 hy).mono ?_; rintro e w7 ⟨rfl, hB7⟩; replace hB0 := hB0.trans (hB7.mono hB0.size); replace hown4 := hown4.keep hB7; replace hown5 := hown5.keep hB7)
            | (refine (text_ks hown4 hx).mono ?_; rintro e w8 ⟨rfl, hB8⟩; replace hB0 := hB0.trans (hB8.mono hB0.size); replace hown5 := hown5.keep hB8; replace hown4 := hown4.keep hB8))
        | (go_at_call 14; first
            | (refine (hM1 _).mono ?_; rintro e w9 ⟨hB9, rfl⟩; replace hB0 := hB0.trans (hB9.mono hB0.size); replace hown5 := hown5.keep hB9; replace hown4 := hown4.keep hB9)
            | (refine (hM2 _).mono ?_; rintro e w9 ⟨hB9, rfl⟩; replace hB0 := hB0.trans (hB9.mono hB0.size))))
      clear hown4 hown5 hM1 hM2
      cases sm
      · go_wp2_with (go_at_call 15; refine (sane_any _).mono ?_; rintro e wA ⟨rfl, hBA⟩)
        go_ret
        exact ⟨rfl, hB0.trans (hBA.mono hB0.size)⟩
      · go_wp2_with (go_at_call 15; refine (sane_any _).mono ?_; rintro e wA ⟨rfl, hBA⟩)
        go_ret
        exact ⟨rfl, hB0.trans (hBA.mono hB0.size)⟩

end Go.Proofs.Ythlhfdidlfdaiaa
