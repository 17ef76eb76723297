/- The walk of laws.FnTurned. -/
import Derived.Test.YthlhfdidlfdaiaaSpaced
import Derived.Test.YthlhfdidlfdaiaaWPlain
namespace Go.Proofs.Ythlhfdidlfdaiaa
open Go.RowKit

theorem spaced_ks {B : Nat} {v : Value} {xs : List KSp} {w : World} (h : KsRow B w v xs) (hx : xs.length ≤ 100) :
    Calls Try.prog 17 #[v] w fun e w' => ∃ r, e = .returned r ∧ Below w.heap.size w w' ∧ KsRow w.heap.size w' r (spacedK xs) := spaced_any h hx

attribute [local irreducible] wpList wpQuiet Calls

set_option maxRecDepth 100000 in
set_option maxHeartbeats 2000000 in
theorem turned_walk {a0 a1 : Option Addr} {len0 cap0 len1 cap1 : Nat} {ds es : List Nat} (w : World) (hby : BytesIs w (.slice a0 len0 cap0) ds) (hby1 : BytesIs w (.slice a1 len1 cap1) es) :
    Calls Try.prog 9 #[.slice a0 len0 cap0, .slice a1 len1 cap1] w fun e w' => e = .returned (.bool true) ∧ Below w.heap.size w w' := by
  by_cases hbig : (2147483647 : Int) < (len0 : Int)
  · go_enter Try.func9, Try.ntmps9
    go_wp2_with fail
    go_ret
    exact ⟨rfl, Below.refl _ _⟩
  by_cases hbig1 : (2147483647 : Int) < (len1 : Int)
  · go_enter Try.func9, Try.ntmps9
    go_wp2_with fail
    go_ret
    exact ⟨rfl, Below.refl _ _⟩
  · have hg := gOf_length ds
    have hg1 := gOf_length es
    obtain ⟨xs, hxs⟩ : ∃ xs, xs = (gOf ds).map KSp.bare := ⟨_, rfl⟩
    obtain ⟨ys, hys⟩ : ∃ ys, ys = spacedK (gOf es) := ⟨_, rfl⟩
    have hx : xs.length ≤ 100 := by rw [hxs]; simp; omega
    have hy : ys.length ≤ 100 := by rw [hys, spacedK_length]; omega
    have hm : meets (xs.map KSp.tok) (ys.map KSp.tok) = meets (ys.map KSp.tok) (xs.map KSp.tok) := by
      rw [hxs, hys]
      exact meets_turned (bare_bare _) (spacedK_spc _) (ks_flagged _)
    have HX : Hid _ := hid hxs
    have HY : Hid _ := hid hys
    have hgx : (gOf ds).length ≤ 100 := by omega
    have hgy : (gOf es).length ≤ 100 := by omega
    clear hxs hys hg hg1
    go_enter Try.func9, Try.ntmps9
    have hB0 : Below w.heap.size w w := Below.refl _ _
    have hby0 := hby1
    go_upto_region 4 with (first
      | (go_at_call 13; first
          | (refine (glob_ks hby).mono ?_; rintro e w2 ⟨r, rfl, hB2, hown2⟩; clear hby; replace hby0 := hby1.keep hB2; replace hB0 := hB0.trans (hB2.mono hB0.size))
          | (refine (glob_ks hby0).mono ?_; rintro e w3 ⟨r3, rfl, hB3, hown3⟩; replace hB0 := hB0.trans (hB3.mono hB0.size)))
      | (go_at_call 19; refine (plain_ks hown2 hgx).mono ?_; rintro e w4 ⟨r4, rfl, hB4, hown4⟩; rw [← HX.out] at hown4; replace hby0 := hby0.keep hB4; replace hB0 := hB0.trans (hB4.mono hB0.size))
      | (go_at_call 17; refine (spaced_ks hown3 hgy).mono ?_; rintro e w5 ⟨r5, rfl, hB5, hown5⟩; rw [← HY.out] at hown5; replace hB0 := hB0.trans (hB5.mono hB0.size))
      | (go_at_call 12; first
          | (refine (text_ks hown5 hy).mono ?_; rintro e w7 ⟨rfl, hB7⟩; replace hB0 := hB0.trans (hB7.mono hB0.size))
          | (refine (text_ks hown4 hx).mono ?_; rintro e w6 ⟨rfl, hB6⟩; replace hB0 := hB0.trans (hB6.mono hB0.size); replace hby0 := hby0.keep hB6)))
    generalize hb : meets (xs.map KSp.tok) (ys.map KSp.tok) = b at hm
    have hm1 := meet_ks xs ys hx hy
    have hm2 := meet_ks ys xs hy hx
    rw [hb] at hm1
    rw [← hm] at hm2
    clear hb hm
    go_upto_region 6 with (go_at_call 14; first
      | (refine (hm1 _).mono ?_; rintro e w8 ⟨hB8, rfl⟩; replace hB0 := hB0.trans (hB8.mono hB0.size); clear hm1)
      | (refine (hm2 _).mono ?_; rintro e w9 ⟨hB9, rfl⟩; replace hB0 := hB0.trans (hB9.mono hB0.size)))
    cases b
    · go_wp2_with (go_at_call 15; refine (sane_any _).mono ?_; rintro e wA ⟨rfl, hBA⟩; replace hB0 := hB0.trans (hBA.mono hB0.size))
      go_ret
      exact ⟨rfl, hB0⟩
    · go_wp2_with (go_at_call 15; refine (sane_any _).mono ?_; rintro e wA ⟨rfl, hBA⟩; replace hB0 := hB0.trans (hBA.mono hB0.size))
      go_ret
      exact ⟨rfl, hB0⟩

end Go.Proofs.Ythlhfdidlfdaiaa
