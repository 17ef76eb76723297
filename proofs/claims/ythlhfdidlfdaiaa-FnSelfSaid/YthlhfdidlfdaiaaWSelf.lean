/- The walk of laws.FnSelf. -/
import Derived.Test.YthlhfdidlfdaiaaKs
import Derived.Test.YthlhfdidlfdaiaaSelf
namespace Go.Proofs.Ythlhfdidlfdaiaa
open Go.RowKit
attribute [local irreducible] wpList wpQuiet

set_option maxRecDepth 100000 in
set_option maxHeartbeats 1000000 in
theorem self_walk {a0 : Option Addr} {len0 cap0 : Nat} {ds : List Nat} (w : World) (hby : BytesIs w (.slice a0 len0 cap0) ds) :
    Calls Try.prog 8 #[.slice a0 len0 cap0] w fun e w' => e = .returned (.bool true) ∧ Below w.heap.size w w' := by
  by_cases hbig : (2147483647 : Int) < (len0 : Int)
  · go_enter Try.func8, Try.ntmps8
    go_wp2_with fail
    go_ret
    exact ⟨rfl, Below.refl _ _⟩
  · have hg := gOf_length ds
    go_enter Try.func8, Try.ntmps8
    go_upto_region 4 with (go_at_call 13; refine (glob_ks hby).mono ?_; rintro e w2 ⟨r, rfl, hB2, hown2⟩)
    generalize gOf ds = xs at hown2 hg
    clear hby
    have hx : xs.length ≤ 100 := by omega
    rcases hown2.form with ⟨rfl, rfl⟩ | ⟨g, cap, rfl, hcap⟩
    · go_wp2_with (go_at_call 15; refine (sane_any _).mono ?_; rintro e w7 ⟨rfl, hB7⟩)
      go_ret
      exact ⟨rfl, hB2.trans (hB7.mono hB2.size)⟩
    · by_cases h0 : xs.length = 0
      · have h0' : (xs.length : Int) = 0 := by omega
        go_wp2_with (go_at_call 15; refine (sane_any _).mono ?_; rintro e w7 ⟨rfl, hB7⟩)
        go_ret
        exact ⟨rfl, hB2.trans (hB7.mono hB2.size)⟩
      · have h0' : ¬ (xs.length : Int) = 0 := by omega
        have hm := meets_ks_self xs
        go_wp2_with (first
          | (go_at_call 12; refine (text_ks hown2 hx).mono ?_; rintro e w3 ⟨rfl, hB3⟩; replace hown2 := hown2.keep hB3; replace hB2 := hB2.trans (hB3.mono hB2.size))
          | (go_at_call 14; refine (meet_ks xs xs hx hx _).mono ?_; rintro e w4 ⟨hB4, rfl⟩; rw [hm]; replace hB2 := hB2.trans (hB4.mono hB2.size))
          | (go_at_call 15; refine (sane_any _).mono ?_; rintro e w9 ⟨rfl, hB9⟩; replace hB9 := hB2.trans (hB9.mono hB2.size)))
        go_ret
        exact ⟨rfl, hB9⟩

end Go.Proofs.Ythlhfdidlfdaiaa
