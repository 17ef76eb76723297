/- The walk of laws.FnExactSigns. -/
import Derived.Test.YthlhfdidlfdaiaaEscaped
namespace Go.Proofs.Ythlhfdidlfdaiaa
open Go.RowKit

theorem runesBytes_signs (ss : List UInt8) (h : ∀ b ∈ ss, isSign b) : runesBytes (ru ss) = ⟨ss.toArray⟩ := by
  have enc : ∀ b, isSign b → Utf8.encode (b.toNat : Int) = ⟨[b].toArray⟩ := by
    rintro b (rfl | rfl | rfl | rfl | rfl | rfl | rfl | rfl)
    all_goals kernel_rfl
  have key : ∀ (l pre : List UInt8), (∀ b ∈ l, isSign b) → (ru l).foldl (fun r n => r ++ Utf8.encode n) (⟨pre.toArray⟩ : ByteArray) = ⟨(pre ++ l).toArray⟩ := by
    intro l
    induction l with
    | nil => intro pre _; simp [ru]
    | cons b l ih =>
      intro pre hl
      have e : ru (b :: l) = (b.toNat : Int) :: ru l := rfl
      rw [e, List.foldl_cons, enc b (hl b (by simp)), txt_add, ih _ fun c hc => hl c (by simp [hc])]
      simp
  exact key ss [] h

/-- A row of runes that may be nil. -/
theorem su_form {B : Nat} {w : World} {r : Value} {ss : List UInt8} (h : w.ownsRow B 21 1 r ss.length ((ru ss).map (Value.int .i32))) (hs : ss.length ≤ 100) :
    ∃ a cap, r = .slice a ss.length cap ∧ (ss ≠ [] → ∃ g, a = some ⟨g, 0, none⟩ ∧ RunesIs w g 0 cap (ru ss)) := by
  rcases h.2 with ⟨rfl, h0⟩ | ⟨g, cap, cur, rfl, r⟩
  · obtain rfl : ss = [] := List.length_eq_zero_iff.1 h0
    exact ⟨none, 0, rfl, fun h => absurd rfl h⟩
  · exact ⟨_, _, rfl, fun _ => ⟨g, rfl, (runes_of_row h (by simp [ru]; omega)).2⟩⟩

theorem conv_back {w : World} {g cap : Nat} {ss : List UInt8} (h : RunesIs w g 0 cap (ru ss)) (hg : ∀ b ∈ ss, isSign b) :
    (convert 34 9 (.slice (some ⟨g, 0, none⟩) ss.length cap)).run Try.prog w = .ok (.string ⟨ss.toArray⟩) w := by
  have := run_convert_runes (P := Try.prog) w 34 9 21 ⟨g, 0, none⟩ ss.length cap (ru ss) (by simp [ru]) Try.underlying34 Try.underlying21 Try.underlying9 (fun j hj => by
    have hadd : (⟨g, 0, none⟩ : Addr).add j = ⟨g, j, none⟩ := by unfold Addr.add; split <;> simp_all
    rw [hadd]
    have := h.rune j _ (List.getElem?_eq_getElem hj)
    rw [Nat.zero_add] at this
    rw [this, List.getD_eq_getElem?_getD, List.getElem?_eq_getElem hj]
    rfl)
  rw [this, List.take_of_length_le (by simp [ru]), runesBytes_signs ss hg]

attribute [local irreducible] wpList wpQuiet Calls

set_option maxRecDepth 100000 in
set_option maxHeartbeats 2000000 in
theorem signs_walk {a0 a1 : Option Addr} {len0 cap0 len1 cap1 : Nat} {ds es : List Nat} (same : Bool) (w : World) (hby : BytesIs w (.slice a0 len0 cap0) ds) (hby1 : BytesIs w (.slice a1 len1 cap1) es) :
    Calls Try.prog 7 #[.slice a0 len0 cap0, .slice a1 len1 cap1, .bool same] w fun e w' => e = .returned (.bool true) ∧ Below w.heap.size w w' := by
  by_cases hbig : (2147483647 : Int) < (len0 : Int)
  · go_enter Try.func7, Try.ntmps7
    go_wp2_with fail
    go_ret
    exact ⟨rfl, Below.refl _ _⟩
  by_cases hbig1 : (2147483647 : Int) < (len1 : Int)
  · go_enter Try.func7, Try.ntmps7
    go_wp2_with fail
    go_ret
    exact ⟨rfl, Below.refl _ _⟩
  · have hs := signs_length ds
    have ht := signs_length es
    have hgs := signs_isSign ds
    have hgt := signs_isSign es
    have hS := fun w (h : BytesIs w (.slice a0 len0 cap0) ds) => signs_any h
    have hT := fun w (h : BytesIs w (.slice a1 len1 cap1) es) => signs_any h
    generalize signsOf ds = ss at hs hgs hS
    generalize signsOf es = ts at ht hgt hT
    have hB0 : Below w.heap.size w w := Below.refl _ _
    go_enter Try.func7, Try.ntmps7
    go_upto_region 4 with (go_at_call 21; first
      | (refine (hS _ hby).mono ?_; rintro e w2 ⟨r2, rfl, hB2, hr2⟩; clear hby; replace hby1 := hby1.keep hB2; replace hB0 := hB0.trans (hB2.mono hB0.size))
      | (refine (hT _ hby1).mono ?_; rintro e w3 ⟨r3, rfl, hB3, hr3⟩; replace hr2 := owns_below hB3 hr2; replace hB0 := hB0.trans (hB3.mono hB0.size)))
    obtain ⟨a2, k2, rfl, f2⟩ := su_form hr2 (by omega)
    obtain ⟨a3, k3, rfl, f3⟩ := su_form hr3 (by omega)
    clear hr2 hr3 hS hT hB2 hB3 hby1
    -- what stands in the two slots from here on
    cases same
    · by_cases h0 : ss.length = 0
      · have h0' : (ss.length : Int) = 0 := by omega
        go_wp2_with (go_at_call 15; refine (sane_any _).mono ?_; rintro e w7 ⟨rfl, hB7⟩; replace hB0 := hB0.trans (hB7.mono hB0.size))
        go_ret
        exact ⟨rfl, hB0⟩
      by_cases h1 : ts.length = 0
      · have e5 : ((ss.length : Int) == 0) = false := by simpa using h0
        have h1' : (ts.length : Int) = 0 := by omega
        go_wp2_with (go_at_call 15; refine (sane_any _).mono ?_; rintro e w7 ⟨rfl, hB7⟩; replace hB0 := hB0.trans (hB7.mono hB0.size))
        go_ret
        exact ⟨rfl, hB0⟩
      · have e5 : ((ss.length : Int) == 0) = false := by simpa using h0
        have e6 : ((ts.length : Int) == 0) = false := by simpa using h1
        obtain ⟨g2, rfl, hr2⟩ := f2 (fun e => h0 (by rw [e]; rfl))
        obtain ⟨g3, rfl, hr3⟩ := f3 (fun e => h1 (by rw [e]; rfl))
        clear f2 f3
        have hm := fun w => meet_esc ss ts hgs hgt (by omega) (by omega) w
        go_upto_region 9 with (first
          | (go_at_call 22; first
              | (refine (escaped_any hr2 hgs (by omega)).mono ?_; rintro e w5 ⟨rfl, rfl⟩)
              | (refine (escaped_any hr3 hgt (by omega)).mono ?_; rintro e w6 ⟨rfl, rfl⟩))
          | (go_at_call 14; refine (hm _).mono ?_; rintro e w8 ⟨hB8, rfl⟩; replace hr2 := hr2.ext ⟨_, hB8⟩; replace hr3 := hr3.ext ⟨_, hB8⟩; replace hB0 := hB0.trans (hB8.mono hB0.size)))
        have hc1 := conv_back hr2 hgs
        have hc2 := conv_back hr3 hgt
        by_cases hst : ss = ts
        · subst hst
          go_wp2_with (go_at_call 15; refine (sane_any _).mono ?_; rintro e w7 ⟨rfl, hB7⟩; replace hB0 := hB0.trans (hB7.mono hB0.size))
          go_ret
          exact ⟨rfl, hB0⟩
        · have hb : (ss == ts) = false := by simpa using hst
          have hd : decide (ss = ts) = false := by simpa using hst
          rw [hd]
          go_wp2_with (go_at_call 15; refine (sane_any _).mono ?_; rintro e w7 ⟨rfl, hB7⟩; replace hB0 := hB0.trans (hB7.mono hB0.size))
          go_ret
          exact ⟨rfl, hB0⟩
    · by_cases h0 : ss.length = 0
      · have h0' : (ss.length : Int) = 0 := by omega
        go_wp2_with (go_at_call 15; refine (sane_any _).mono ?_; rintro e w7 ⟨rfl, hB7⟩; replace hB0 := hB0.trans (hB7.mono hB0.size))
        go_ret
        exact ⟨rfl, hB0⟩
      · have e5 : ((ss.length : Int) == 0) = false := by simpa using h0
        obtain ⟨g2, rfl, hr2⟩ := f2 (fun e => h0 (by rw [e]; rfl))
        clear f2 f3
        have hm := fun w => meet_esc ss ss hgs hgs (by omega) (by omega) w
        go_upto_region 9 with (first
          | (go_at_call 22; refine (escaped_any hr2 hgs (by omega)).mono ?_; rintro e w5 ⟨rfl, rfl⟩)
          | (go_at_call 14; refine (hm _).mono ?_; rintro e w8 ⟨hB8, rfl⟩; replace hr2 := hr2.ext ⟨_, hB8⟩; replace hB0 := hB0.trans (hB8.mono hB0.size)))
        have hc1 := conv_back hr2 hgs
        go_wp2_with (go_at_call 15; refine (sane_any _).mono ?_; rintro e w7 ⟨rfl, hB7⟩; replace hB0 := hB0.trans (hB7.mono hB0.size))
        go_ret
        exact ⟨rfl, hB0⟩

end Go.Proofs.Ythlhfdidlfdaiaa
