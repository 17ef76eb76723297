/- The contract of intersectNormal, by induction on the number that bounds the calls within calls. -/
import Derived.Test.YthlhfdidlfdaiaaInter
namespace Go.Proofs.Ythlhfdidlfdaiaa
open Go.RowKit
attribute [local irreducible] wpList wpQuiet

set_option maxRecDepth 100000 in
set_option maxHeartbeats 1000000 in
theorem normal_with {w0 : World} {sp : List Tok → List Tok → Bool} (g1 g2 : List Tok) (b1 o1 c1 b2 o2 c2 : Nat) (h1 : GlobIs w0 b1 o1 c1 g1) (h2 : GlobIs w0 b2 o2 c2 g2)
    (hsp : ∀ k, k < g1.length → k < g2.length → ∀ d : Ext w0, Calls Try.prog 49 #[.slice (some ⟨b1, o1 + k, none⟩) (g1.length - k) (c1 - k), .slice (some ⟨b2, o2 + k, none⟩) (g2.length - k) (c2 - k)] d.u (Ret w0 (.bool (sp (g1.drop k) (g2.drop k))))) (d : Ext w0) :
    Calls Try.prog 40 #[.slice (some ⟨b1, o1, none⟩) g1.length c1, .slice (some ⟨b2, o2, none⟩) g2.length c2] d.u (Ret w0 (.bool (normalWith sp g1 g2))) := by
  have hc1 := h1.room
  have hc2 := h1.small
  have hg1 := h2.room
  have hg2 := h2.small
  go_enter Try.func40, Try.ntmps40
  go_wp2_with fail
  go_loopw [5, 6] (fun i j wr => ∃ (k : Nat) (d' : Ext w0), k ≤ g1.length ∧ k ≤ g2.length ∧ i = .int .i64 k ∧ j = .int .i64 k ∧ wr = d'.u ∧ normalWith sp g1 g2 = normalWith sp (g1.drop k) (g2.drop k)) (fun i _ _ => g1.length - (intOf i).toNat)
  case atStart => exact ⟨0, d, by omega, by omega, rfl, rfl, rfl, rfl⟩
  case round =>
    obtain ⟨k, d', hk1, hk2, rfl, rfl, rfl, he⟩ := hrel
    have HE : Hid _ := hid he
    clear he
    by_cases hl1 : k < g1.length
    · by_cases hl2 : k < g2.length
      · obtain ⟨t1, v1, hd1, hv1, ht1⟩ := h1.at k hl1
        obtain ⟨t2, v2, hd2, hv2, ht2⟩ := h2.at k hl2
        have HD1 : Hid _ := hid hd1
        have HD2 : Hid _ := hid hd2
        have hc := hsp k hl1 hl2
        rw [hd1, hd2] at hc
        clear hd1 hd2
        have hI1 : (k : Int) < (g1.length : Int) := by omega
        have hI2 : (k : Int) < (g2.length : Int) := by omega
        have hm := match_any ht1 ht2
        cases f1 : (t1.f == 0)
        · go_wp2_with (first | (refine wpList_flag _ _ rfl rfl rfl ht1 ?_; intro d2) | (refine wpList_flag _ _ rfl rfl rfl ht2 ?_; intro d2) | (refine wp_region_ext _ rfl (by kernel_rfl) ?_; (repeat (first | (refine wpQuiet_call hm rfl rfl rfl Try.call33 ?_; simp only [Act.put, List.setIfInBounds_toArray, List.set_cons_zero, List.set_cons_succ]) | (refine wpQuiet_call hc rfl rfl rfl Try.call49 ?_; simp only [Act.put, List.setIfInBounds_toArray, List.set_cons_zero, List.set_cons_succ]) | go_big_quiet_step (fail))); refine wpQuiet_nil ?_; intro d3))
          go_ret
          have e1 : t1.f ≠ 0 := by simpa using f1
          rw [HE.out, HD1.out, HD2.out, normalWith, if_neg (by simp [e1])]
          exact .mk _
        · cases f2 : (t2.f == 0)
          · go_wp2_with (first | (refine wpList_flag _ _ rfl rfl rfl ht1 ?_; intro d2) | (refine wpList_flag _ _ rfl rfl rfl ht2 ?_; intro d2) | (refine wp_region_ext _ rfl (by kernel_rfl) ?_; (repeat (first | (refine wpQuiet_call hm rfl rfl rfl Try.call33 ?_; simp only [Act.put, List.setIfInBounds_toArray, List.set_cons_zero, List.set_cons_succ]) | (refine wpQuiet_call hc rfl rfl rfl Try.call49 ?_; simp only [Act.put, List.setIfInBounds_toArray, List.set_cons_zero, List.set_cons_succ]) | go_big_quiet_step (fail))); refine wpQuiet_nil ?_; intro d3))
            go_ret
            have e2 : t2.f ≠ 0 := by simpa using f2
            rw [HE.out, HD1.out, HD2.out, normalWith, if_neg (by simp [e2])]
            exact .mk _
          · have E1 : Hid (t1.f = 0) := hid (by simpa using f1)
            have E2 : Hid (t2.f = 0) := hid (by simpa using f2)
            cases hmb : mt t1.k t2.k
            · rw [hmb] at hm
              go_wp2_with (first | (refine wpList_flag _ _ rfl rfl rfl ht1 ?_; intro d2) | (refine wpList_flag _ _ rfl rfl rfl ht2 ?_; intro d2) | (refine wp_region_ext _ rfl (by kernel_rfl) ?_; (repeat (first | (refine wpQuiet_call hm rfl rfl rfl Try.call33 ?_; simp only [Act.put, List.setIfInBounds_toArray, List.set_cons_zero, List.set_cons_succ]) | (refine wpQuiet_call hc rfl rfl rfl Try.call49 ?_; simp only [Act.put, List.setIfInBounds_toArray, List.set_cons_zero, List.set_cons_succ]) | go_big_quiet_step (fail))); refine wpQuiet_nil ?_; intro d3))
              go_ret
              rw [HE.out, HD1.out, HD2.out, normalWith, if_pos ⟨E1.out, E2.out⟩, hmb]
              exact .mk _
            · rw [hmb] at hm
              go_wp2_with (first | (refine wpList_flag _ _ rfl rfl rfl ht1 ?_; intro d2) | (refine wpList_flag _ _ rfl rfl rfl ht2 ?_; intro d2) | (refine wp_region_ext _ rfl (by kernel_rfl) ?_; (repeat (first | (refine wpQuiet_call hm rfl rfl rfl Try.call33 ?_; simp only [Act.put, List.setIfInBounds_toArray, List.set_cons_zero, List.set_cons_succ]) | (refine wpQuiet_call hc rfl rfl rfl Try.call49 ?_; simp only [Act.put, List.setIfInBounds_toArray, List.set_cons_zero, List.set_cons_succ]) | go_big_quiet_step (fail))); refine wpQuiet_nil ?_; intro d3))
              go_roundw
              case rel => exact ⟨k + 1, d3, by omega, by omega, by go_num, by go_num, rfl, by rw [HE.out, HD1.out, HD2.out, normalWith, if_pos ⟨E1.out, E2.out⟩, hmb, Bool.true_and]⟩
              case measure => simp [intOf]; omega
      · have hk : k = g2.length := by omega
        subst hk
        have hI1 : (g2.length : Int) < (g1.length : Int) := by omega
        have hne : ((g2.length : Int) == (g1.length : Int)) = false := by simp; omega
        go_wp2_with fail
        go_ret
        have hD : g1.drop g2.length ≠ [] := by simp; omega
        obtain ⟨x, xs, hx⟩ := List.exists_cons_of_ne_nil hD
        rw [HE.out, hx, List.drop_of_length_le (Nat.le_refl _), normalWith]
        · exact .mk _
        all_goals simp
    · have hk : k = g1.length := by omega
      subst hk
      by_cases hl2 : g1.length = g2.length
      · have hII : ((g1.length : Int) == (g2.length : Int)) = true := by simp; omega
        have HL : Hid _ := hid hl2
        clear hl2
        go_wp2_with fail
        go_ret
        rw [HE.out, List.drop_of_length_le (Nat.le_refl _), List.drop_of_length_le (by rw [HL.out]; exact Nat.le_refl _), normalWith]
        exact .mk _
      · have hII : ((g1.length : Int) == (g2.length : Int)) = false := by simp; omega
        go_wp2_with fail
        go_ret
        have hD : g2.drop g1.length ≠ [] := by simp; omega
        obtain ⟨x, xs, hx⟩ := List.exists_cons_of_ne_nil hD
        rw [HE.out, hx, List.drop_of_length_le (Nat.le_refl _), normalWith]
        · exact .mk _
        all_goals simp


/-- What the induction supposes. -/
def Known (w0 : World) (k : Nat) : Prop :=
  ∀ (g1 g2 : List Tok) (v1 v2 : Value), GlobAt w0 v1 g1 → GlobAt w0 v2 g2 → g1.length + g2.length < k → ∀ d : Ext w0, Calls Try.prog 40 #[v1, v2] d.u (Ret w0 (.bool (inter k g1 g2)))

theorem star_any {w0 : World} {k : Nat} (ih : Known w0 k) (s : Tok) (r g : List Tok) (v1 v2 : Value) (h1 : GlobAt w0 v1 (s :: r)) (h2 : GlobAt w0 v2 g) (hl : r.length + 1 + g.length ≤ k) (d : Ext w0) :
    Calls Try.prog 60 #[v1, v2] d.u (Ret w0 (.bool (starWith (inter k) s r g))) := by
  obtain ⟨b1, o1, c1, rfl, h1⟩ := h1
  obtain ⟨b2, o2, c2, rfl, h2⟩ := h2
  cases r with
  | nil => exact star_last s g b1 o1 c1 b2 o2 c2 h1 h2 d
  | cons y r =>
    refine star_next s y r g b1 o1 c1 b2 o2 c2 h1 h2 (fun j hj d => ?_) d
    simp only [List.length_cons] at hl
    exact ih (y :: r) (g.drop j) _ _ ⟨b1, o1 + 1, c1 - 1, rfl, by simpa using h1.drop 1 (by simp)⟩ ⟨b2, o2 + j, c2 - j, by simp, h2.drop j (by omega)⟩ (by simp only [List.length_cons, List.length_drop]; omega) d

theorem plus_known {w0 : World} {k : Nat} (ih : Known w0 k) (p o : Tok) (r1 r2 : List Tok) (b1 o1 c1 b2 o2 c2 : Nat) (h1 : GlobIs w0 b1 o1 c1 (p :: r1)) (h2 : GlobIs w0 b2 o2 c2 (o :: r2)) (hl : r1.length + 1 + (r2.length + 1) ≤ k) (d : Ext w0) :
    Calls Try.prog 59 #[.slice (some ⟨b1, o1, none⟩) (r1.length + 1) c1, .slice (some ⟨b2, o2, none⟩) (r2.length + 1) c2] d.u (Ret w0 (.bool (plusWith (inter k) p r1 o r2))) :=
  plus_any p o r1 r2 b1 o1 c1 b2 o2 c2 h1 h2 (fun v hv d => star_any ih p r1 r2 _ v ⟨b1, o1, c1, rfl, h1⟩ hv (by omega) d)
    (fun v hv d => ih r1 (o :: r2) v _ hv ⟨b2, o2, c2, rfl, h2⟩ (by simp only [List.length_cons]; omega) d) d

theorem normal_any {w0 : World} : ∀ k, Known w0 k := by
  intro k
  induction k with
  | zero => intro g1 g2 v1 v2 _ _ h; omega
  | succ k ih =>
    intro g1 g2 v1 v2 h1 h2 hl d
    obtain ⟨b1, o1, c1, rfl, h1⟩ := h1
    obtain ⟨b2, o2, c2, rfl, h2⟩ := h2
    refine normal_with g1 g2 b1 o1 c1 b2 o2 c2 h1 h2 (fun i hi1 hi2 d => ?_) d
    have q1 := h1.drop i (by omega)
    have q2 := h2.drop i (by omega)
    have e1 : g1.length - i = (g1.drop i).length := by simp
    have e2 : g2.length - i = (g2.drop i).length := by simp
    have hl' : (g1.drop i).length + (g2.drop i).length ≤ k := by simp; omega
    rw [e1, e2]
    obtain ⟨t1, r1, hd1⟩ := List.exists_cons_of_ne_nil (l := g1.drop i) (by simp; omega)
    obtain ⟨t2, r2, hd2⟩ := List.exists_cons_of_ne_nil (l := g2.drop i) (by simp; omega)
    rw [hd1] at q1 hl' ⊢
    rw [hd2] at q2 hl' ⊢
    simp only [List.length_cons] at hl' ⊢
    obtain ⟨k1, f1⟩ := t1
    obtain ⟨k2, f2⟩ := t2
    have G1 : GlobAt w0 (.slice (some ⟨b1, o1 + i, none⟩) (r1.length + 1) (c1 - i)) (⟨k1, f1⟩ :: r1) := ⟨b1, o1 + i, c1 - i, rfl, q1⟩
    have G2 : GlobAt w0 (.slice (some ⟨b2, o2 + i, none⟩) (r2.length + 1) (c2 - i)) (⟨k2, f2⟩ :: r2) := ⟨b2, o2 + i, c2 - i, rfl, q2⟩
    have S12 := star_any ih ⟨k1, f1⟩ r1 (⟨k2, f2⟩ :: r2) _ _ G1 G2 (by simp only [List.length_cons]; omega)
    have S21 := star_any ih ⟨k2, f2⟩ r2 (⟨k1, f1⟩ :: r1) _ _ G2 G1 (by simp only [List.length_cons]; omega)
    have P12 := plus_known ih ⟨k1, f1⟩ ⟨k2, f2⟩ r1 r2 b1 (o1 + i) (c1 - i) b2 (o2 + i) (c2 - i) q1 q2 (by omega)
    have P21 := plus_known ih ⟨k2, f2⟩ ⟨k1, f1⟩ r2 r1 b2 (o2 + i) (c2 - i) b1 (o1 + i) (c1 - i) q2 q1 (by omega)
    by_cases hf : f1 = 0
    · subst hf
      exact special_right k1 k2 f2 r1 r2 b1 (o1 + i) (c1 - i) b2 (o2 + i) (c2 - i) q1 q2 S21 P21 d
    · exact special_left k1 f1 ⟨k2, f2⟩ r1 r2 b1 (o1 + i) (c1 - i) b2 (o2 + i) (c2 - i) q1 q2 S12 P12 hf d

end Go.Proofs.Ythlhfdidlfdaiaa
