/- The walk of laws.FnShorter. -/
import Derived.Test.YthlhfdidlfdaiaaKs
namespace Go.Proofs.Ythlhfdidlfdaiaa
open Go.RowKit
attribute [local irreducible] wpList wpQuiet

set_option maxRecDepth 100000 in
set_option maxHeartbeats 1000000 in
theorem shorter_walk {a0 : Option Addr} {len0 cap0 : Nat} {ds : List Nat} (w : World) (hby : BytesIs w (.slice a0 len0 cap0) ds) :
    Calls Try.prog 11 #[.slice a0 len0 cap0] w fun e w' => e = .returned (.bool true) ∧ Below w.heap.size w w' := by
  by_cases hbig : (2147483647 : Int) < (len0 : Int)
  · go_enter Try.func11, Try.ntmps11
    go_wp2_with fail
    go_ret
    exact ⟨rfl, Below.refl _ _⟩
  · have hg := gOf_length ds
    go_enter Try.func11, Try.ntmps11
    go_upto_region 4 with (go_at_call 13; refine (glob_ks hby).mono ?_; rintro e w2 ⟨r, rfl, hB2, hown2⟩)
    generalize gOf ds = xs at hown2 hg
    clear hby
    have hx : xs.length ≤ 100 := by omega
    obtain ⟨ys, hys⟩ : ∃ ys, ys = xs.map KSp.bare := ⟨_, rfl⟩
    have hy : ys.length ≤ 100 := by rw [hys]; simp; omega
    have HY : Hid _ := hid hys
    clear hys
    rcases hown2.form with ⟨rfl, rfl⟩ | ⟨g, cap, rfl, hcap⟩
    · go_wp2_with (go_at_call 15; refine (sane_any _).mono ?_; rintro e w7 ⟨rfl, hB7⟩)
      go_ret
      exact ⟨rfl, hB2.trans (hB7.mono hB2.size)⟩
    · by_cases h0 : xs.length = 0
      · have h0' : (xs.length : Int) = 0 := by omega
        go_wp2_with (go_at_call 15; refine (sane_any _).mono ?_; rintro e w7 ⟨rfl, hB7⟩)
        go_ret
        exact ⟨rfl, hB2.trans (hB7.mono hB2.size)⟩
      · have h0' : ¬ (xs.length : Int) = 0 := by omega
        go_upto_region 7 with (first
          | (go_at_call 12; refine (text_ks hown2 hx).mono ?_; rintro e w3 ⟨rfl, hB3⟩)
          | (go_at_call 27; refine (tokens_ks xs hx _).mono ?_; rintro e w4 ⟨hB4, rfl⟩))
        have hB34 := hB3.trans (hB4.mono hB3.size)
        have hown4 := hown2.keep hB34
        go_upto_region 8 with (first
          | (go_at_call 19; refine (plain_ks hown4 hx).mono ?_; rintro e w5 ⟨r5, rfl, hB5, hown5⟩; rw [← HY.out] at hown5)
          | (go_at_call 12; refine (text_ks hown5 hy).mono ?_; rintro e w6 ⟨rfl, hB6⟩)
          | (go_at_call 27; refine (tokens_ks ys hy _).mono ?_; rintro e w7 ⟨hB7, rfl⟩))
        have e1 : (simplify (ys.map KSp.tok)).length = xs.length := by
          rw [HY.out, simplify_bare _ (bare_f xs)]
          simp
        have e2 : ys.length = xs.length := by rw [HY.out]; simp
        have e4 : ((simplify (xs.map KSp.tok)).length : Int) ≤ (xs.length : Int) := by
          have := simplify_length (xs.map KSp.tok)
          rw [List.length_map] at this
          omega
        rw [e1, e2]
        generalize (simplify (xs.map KSp.tok)).length = m at e4 ⊢
        have HB : Hid _ := hid (hB34.trans ((hB5.trans (hB6.trans (hB7.mono hB6.size) |>.mono hB5.size)).mono hB34.size))
        clear hB5 hB6 hB7 hown5 hown4 hown2 hB34 hB3 hB4 e1 e2
        go_wp2_with (go_at_call 15; refine (sane_any _).mono ?_; rintro e w9 ⟨rfl, hB9⟩)
        go_ret
        have h1 := hB2.trans (HB.out.mono hB2.size)
        exact ⟨rfl, h1.trans (hB9.mono h1.size)⟩

end Go.Proofs.Ythlhfdidlfdaiaa
