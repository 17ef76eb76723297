/- The contracts of intersectNormal, intersectSpecial, intersectPlus, intersectStar. -/
import Derived.Test.YthlhfdidlfdaiaaMatch
namespace Go.Proofs.Ythlhfdidlfdaiaa
open Go.RowKit
attribute [local irreducible] wpList wpQuiet

/-- From the cell ⟨b, off⟩ on lie the tokens g, in a slice of capacity cap. -/
structure GlobIs (w0 : World) (b off cap : Nat) (g : List Tok) : Prop where
  small : g.length ≤ 1000000
  room : g.length ≤ cap
  tok : ∀ i t, g[i]? = some t → ∃ v, w0.cell? ⟨b, off + i, none⟩ = some v ∧ TokAt w0 v t

/-- The value v is a slice of the tokens g. -/
def GlobAt (w0 : World) (v : Value) (g : List Tok) : Prop := ∃ b off cap, v = .slice (some ⟨b, off, none⟩) g.length cap ∧ GlobIs w0 b off cap g

theorem GlobIs.drop {w0 : World} {b off cap : Nat} {g : List Tok} (h : GlobIs w0 b off cap g) (i : Nat) (_hi : i ≤ g.length) : GlobIs w0 b (off + i) (cap - i) (g.drop i) :=
  ⟨by have := h.small; simp; omega, by have := h.room; simp; omega, fun j t hj => by
    rw [List.getElem?_drop] at hj
    rw [show off + i + j = off + (i + j) by omega]
    exact h.tok _ t hj⟩

theorem GlobIs.at {w0 : World} {b off cap : Nat} {g : List Tok} (h : GlobIs w0 b off cap g) (k : Nat) (hk : k < g.length) :
    ∃ t v, g.drop k = t :: g.drop (k + 1) ∧ (∀ d : Ext w0, d.u.cell? ⟨b, off + k, none⟩ = some v) ∧ TokAt w0 v t := by
  obtain ⟨v, hv, ht⟩ := h.tok k g[k] (List.getElem?_eq_getElem hk)
  exact ⟨g[k], v, List.drop_eq_getElem_cons hk, fun d => d.cell hv, ht⟩

theorem GlobIs.head {w0 : World} {b off cap : Nat} {s : Tok} {r : List Tok} (h : GlobIs w0 b off cap (s :: r)) :
    ∃ v, (∀ d : Ext w0, d.u.cell? ⟨b, off, none⟩ = some v) ∧ TokAt w0 v s := by
  obtain ⟨v, hv, ht⟩ := h.tok 0 s rfl
  exact ⟨v, fun d => d.cell hv, ht⟩
theorem GlobIs.second {w0 : World} {b off cap : Nat} {s y : Tok} {r : List Tok} (h : GlobIs w0 b off cap (s :: y :: r)) :
    ∃ v, (∀ d : Ext w0, d.u.cell? ⟨b, off + 1, none⟩ = some v) ∧ TokAt w0 v y := by
  obtain ⟨v, hv, ht⟩ := h.tok 1 y rfl
  exact ⟨v, fun d => d.cell hv, ht⟩

set_option maxRecDepth 100000 in
theorem star_last {w0 : World} {nm : List Tok → List Tok → Bool} (s : Tok) (g : List Tok) (b1 o1 c1 b2 o2 c2 : Nat) (h1 : GlobIs w0 b1 o1 c1 [s]) (h2 : GlobIs w0 b2 o2 c2 g) (d : Ext w0) :
    Calls Try.prog 60 #[.slice (some ⟨b1, o1, none⟩) 1 c1, .slice (some ⟨b2, o2, none⟩) g.length c2] d.u (Ret w0 (.bool (starWith nm s [] g))) := by
  obtain ⟨vs, hs, ts⟩ := h1.head
  have hg1 := h2.small
  go_enter Try.func60, Try.ntmps60
  go_wp2_with fail
  go_loopw [21] (fun i wr => ∃ (k : Nat) (d' : Ext w0), k ≤ g.length ∧ i = .int .i64 k ∧ wr = d'.u ∧ starWith nm s [] g = starWith nm s [] (g.drop k)) (fun i _ => g.length - (intOf i).toNat)
  case atStart => exact ⟨0, d, by omega, rfl, rfl, rfl⟩
  case round =>
    obtain ⟨k, d', hk, rfl, rfl, he⟩ := hrel
    have HE : Hid _ := hid he
    clear he
    by_cases hlt : k < g.length
    · obtain ⟨t, v, hdr, hv, ht⟩ := h2.at k hlt
      have HD : Hid _ := hid hdr
      clear hdr
      cases hm : mt t.k s.k
      · go_wp2_with (refine wpList_call (match_any ht ts _) rfl rfl rfl Try.call33 ?_; intro d2)
        go_ret
        rw [HE.out, HD.out, starWith, hm]
        exact .mk _
      · go_wp2_with (refine wpList_call (match_any ht ts _) rfl rfl rfl Try.call33 ?_; intro d2)
        go_roundw
        case rel => exact ⟨k + 1, d2, by omega, by go_num, rfl, by rw [HE.out, HD.out, starWith, hm]; simp⟩
        case measure => simp [intOf]; omega
    · go_wp2_with fail
      go_ret
      rw [HE.out, List.drop_of_length_le (by omega)]
      exact .mk _


set_option maxRecDepth 100000 in
theorem star_next {w0 : World} {nm : List Tok → List Tok → Bool} (s y : Tok) (r g : List Tok) (b1 o1 c1 b2 o2 c2 : Nat) (h1 : GlobIs w0 b1 o1 c1 (s :: y :: r)) (h2 : GlobIs w0 b2 o2 c2 g)
    (hnm : ∀ k, k < g.length → ∀ d : Ext w0, Calls Try.prog 40 #[.slice (some ⟨b1, o1 + 1, none⟩) (r.length + 1) (c1 - 1), .slice (some ⟨b2, o2 + k, none⟩) (g.length - k) (c2 - k)] d.u (Ret w0 (.bool (nm (y :: r) (g.drop k))))) (d : Ext w0) :
    Calls Try.prog 60 #[.slice (some ⟨b1, o1, none⟩) (r.length + 2) c1, .slice (some ⟨b2, o2, none⟩) g.length c2] d.u (Ret w0 (.bool (starWith nm s (y :: r) g))) := by
  obtain ⟨vs, hs, ts⟩ := h1.head
  obtain ⟨vy, hy, ty⟩ := h1.second
  have hg1 := h2.small
  have hg2 := h2.room
  have hc1 := h1.room
  have hc2 := h1.small
  simp only [List.length_cons] at hc1 hc2
  obtain ⟨q, rfl⟩ : ∃ q, vy = .iface y.k.ty q := let ⟨b, h, _⟩ := ty; ⟨_, h⟩
  have hL : (1 : Int) < (r.length : Int) + 2 := by omega
  go_enter Try.func60, Try.ntmps60
  go_wp2_with fail
  go_loopw [21] (fun i wr => ∃ (k : Nat) (d' : Ext w0), k ≤ g.length ∧ i = .int .i64 k ∧ wr = d'.u ∧ starWith nm s (y :: r) g = starWith nm s (y :: r) (g.drop k)) (fun i _ => g.length - (intOf i).toNat)
  case atStart => exact ⟨0, d, by omega, rfl, rfl, rfl⟩
  case round =>
    obtain ⟨k, d', hk, rfl, rfl, he⟩ := hrel
    have HE : Hid _ := hid he
    clear he
    by_cases hlt : k < g.length
    · obtain ⟨t, v, hdr, hv, ht⟩ := h2.at k hlt
      have HD : Hid _ := hid hdr
      clear hdr
      have hc := hnm k hlt
      have hI : (k : Int) ≤ (g.length : Int) := by omega
      cases hm2 : mt t.k y.k
      · cases hm : mt t.k s.k
        · go_wp2_with (first | (refine wpList_call (match_any ht ty _) rfl rfl rfl Try.call33 ?_; intro d2) | (refine wpList_call (match_any ht ts _) rfl rfl rfl Try.call33 ?_; intro d2))
          go_ret
          rw [HE.out, HD.out, starWith, hm2, hm]
          exact .mk _
        · go_wp2_with (first | (refine wpList_call (match_any ht ty _) rfl rfl rfl Try.call33 ?_; intro d2) | (refine wpList_call (match_any ht ts _) rfl rfl rfl Try.call33 ?_; intro d2))
          go_roundw
          case rel => exact ⟨k + 1, d2, by omega, by go_num, rfl, by rw [HE.out, HD.out, starWith, hm2, hm]; simp⟩
          case measure => simp [intOf]; omega
      · cases hn : nm (y :: r) (g.drop k)
        · rw [hn] at hc
          have HN : Hid _ := hid hn
          clear hn
          cases hm : mt t.k s.k
          · go_wp2_with (first | (refine wpList_call (match_any ht ty _) rfl rfl rfl Try.call33 ?_; intro d2) | (refine wpList_call (match_any ht ts _) rfl rfl rfl Try.call33 ?_; intro d2) | (refine wp_region_ext _ rfl (by kernel_rfl) ?_; (repeat (first | (refine wpQuiet_call hc rfl rfl rfl Try.call40 ?_; simp only [Act.put, List.setIfInBounds_toArray, List.set_cons_zero, List.set_cons_succ]) | go_big_quiet_step (fail))); refine wpQuiet_nil ?_; intro d3))
            go_ret
            have hn := HN.out
            rw [HD.out] at hn
            rw [HE.out, HD.out, starWith, hm2, hm, hn]
            exact .mk _
          · go_wp2_with (first | (refine wpList_call (match_any ht ty _) rfl rfl rfl Try.call33 ?_; intro d2) | (refine wpList_call (match_any ht ts _) rfl rfl rfl Try.call33 ?_; intro d2) | (refine wp_region_ext _ rfl (by kernel_rfl) ?_; (repeat (first | (refine wpQuiet_call hc rfl rfl rfl Try.call40 ?_; simp only [Act.put, List.setIfInBounds_toArray, List.set_cons_zero, List.set_cons_succ]) | go_big_quiet_step (fail))); refine wpQuiet_nil ?_; intro d3))
            go_roundw
            case rel =>
              have hn := HN.out
              rw [HD.out] at hn
              exact ⟨k + 1, d2, by omega, by go_num, rfl, by rw [HE.out, HD.out, starWith, hm2, hm, hn]; simp⟩
            case measure => simp [intOf]; omega
        · rw [hn] at hc
          have HN : Hid _ := hid hn
          clear hn
          go_wp2_with (first | (refine wpList_call (match_any ht ty _) rfl rfl rfl Try.call33 ?_; intro d2) | (refine wpList_call (match_any ht ts _) rfl rfl rfl Try.call33 ?_; intro d2) | (refine wp_region_ext _ rfl (by kernel_rfl) ?_; (repeat (first | (refine wpQuiet_call hc rfl rfl rfl Try.call40 ?_; simp only [Act.put, List.setIfInBounds_toArray, List.set_cons_zero, List.set_cons_succ]) | go_big_quiet_step (fail))); refine wpQuiet_nil ?_; intro d3))
          go_ret
          have hn := HN.out
          rw [HD.out] at hn
          rw [HE.out, HD.out, starWith, hm2, hn]
          exact .mk _
    · go_wp2_with fail
      go_ret
      rw [HE.out, List.drop_of_length_le (by omega)]
      exact .mk _


theorem GlobIs.tail {w0 : World} {b o c : Nat} {t : Tok} {r : List Tok} (h : GlobIs w0 b o c (t :: r)) :
    (c = 1 ∧ r = [] ∧ GlobAt w0 (.slice (some ⟨b, o, none⟩) 0 0) []) ∨ (c ≠ 1 ∧ GlobAt w0 (.slice (some ⟨b, o + 1, none⟩) r.length (c - 1)) r) := by
  have h1 := h.room
  simp only [List.length_cons] at h1
  by_cases e : c = 1
  · have hr : r = [] := List.eq_nil_of_length_eq_zero (by omega)
    subst hr
    exact .inl ⟨e, rfl, b, o, 0, rfl, by simp, by simp, by simp⟩
  · exact .inr ⟨e, b, o + 1, c - 1, rfl, by simpa using h.drop 1 (by simp)⟩

set_option maxRecDepth 100000 in
set_option maxHeartbeats 1000000 in
theorem plus_any {w0 : World} {nm : List Tok → List Tok → Bool} (p o : Tok) (r1 r2 : List Tok) (b1 o1 c1 b2 o2 c2 : Nat) (h1 : GlobIs w0 b1 o1 c1 (p :: r1)) (h2 : GlobIs w0 b2 o2 c2 (o :: r2))
    (hst : ∀ v, GlobAt w0 v r2 → ∀ d : Ext w0, Calls Try.prog 60 #[.slice (some ⟨b1, o1, none⟩) (r1.length + 1) c1, v] d.u (Ret w0 (.bool (starWith nm p r1 r2))))
    (hnm : ∀ v, GlobAt w0 v r1 → ∀ d : Ext w0, Calls Try.prog 40 #[v, .slice (some ⟨b2, o2, none⟩) (r2.length + 1) c2] d.u (Ret w0 (.bool (nm r1 (o :: r2))))) (d : Ext w0) :
    Calls Try.prog 59 #[.slice (some ⟨b1, o1, none⟩) (r1.length + 1) c1, .slice (some ⟨b2, o2, none⟩) (r2.length + 1) c2] d.u (Ret w0 (.bool (plusWith nm p r1 o r2))) := by
  obtain ⟨vp, hp, tp⟩ := h1.head
  obtain ⟨vo, ho, to⟩ := h2.head
  have hc1 := h1.room
  have hc2 := h1.small
  have hg1 := h2.room
  have hg2 := h2.small
  simp only [List.length_cons] at hc1 hc2 hg1 hg2
  have hm := match_any tp to
  unfold plusWith
  generalize mt p.k o.k = mb at hm ⊢
  generalize starWith nm p r1 r2 = sb at hst ⊢
  generalize nm r1 (o :: r2) = nb at hnm ⊢
  rcases h1.tail with ⟨rfl, rfl, G1⟩ | ⟨e1, G1⟩ <;> rcases h2.tail with ⟨rfl, rfl, G2⟩ | ⟨e2, G2⟩
  all_goals clear h1 h2
  all_goals try simp only [List.length_nil, Nat.zero_add] at hst hnm hc1 hc2 hg1 hg2 ⊢
  all_goals
    cases mb
    · go_enter Try.func59, Try.ntmps59
      go_wp2_with (first | (refine wp_region_ext _ rfl (by kernel_rfl) ?_; (repeat (first | (refine wpQuiet_call hm rfl rfl rfl Try.call33 ?_; simp only [Act.put, List.setIfInBounds_toArray, List.set_cons_zero, List.set_cons_succ]) | go_big_quiet_step (fail))); refine wpQuiet_nil ?_; intro d3) | (refine wpList_call (hst _ G2 _) rfl rfl rfl Try.call60 ?_; intro d2) | (refine wpList_call (hnm _ G1 _) rfl rfl rfl Try.call40 ?_; intro d2) | (refine wpList_flag _ _ rfl rfl rfl to ?_; intro d2))
      go_ret
      exact .mk _
    · cases sb
      · cases hf : (o.f != 0)
        · go_enter Try.func59, Try.ntmps59
          go_wp2_with (first | (refine wp_region_ext _ rfl (by kernel_rfl) ?_; (repeat (first | (refine wpQuiet_call hm rfl rfl rfl Try.call33 ?_; simp only [Act.put, List.setIfInBounds_toArray, List.set_cons_zero, List.set_cons_succ]) | go_big_quiet_step (fail))); refine wpQuiet_nil ?_; intro d3) | (refine wpList_call (hst _ G2 _) rfl rfl rfl Try.call60 ?_; intro d2) | (refine wpList_call (hnm _ G1 _) rfl rfl rfl Try.call40 ?_; intro d2) | (refine wpList_flag _ _ rfl rfl rfl to ?_; intro d2))
          go_ret
          exact .mk _
        · go_enter Try.func59, Try.ntmps59
          go_wp2_with (first | (refine wp_region_ext _ rfl (by kernel_rfl) ?_; (repeat (first | (refine wpQuiet_call hm rfl rfl rfl Try.call33 ?_; simp only [Act.put, List.setIfInBounds_toArray, List.set_cons_zero, List.set_cons_succ]) | go_big_quiet_step (fail))); refine wpQuiet_nil ?_; intro d3) | (refine wpList_call (hst _ G2 _) rfl rfl rfl Try.call60 ?_; intro d2) | (refine wpList_call (hnm _ G1 _) rfl rfl rfl Try.call40 ?_; intro d2) | (refine wpList_flag _ _ rfl rfl rfl to ?_; intro d2))
          go_ret
          exact .mk _
      · go_enter Try.func59, Try.ntmps59
        go_wp2_with (first | (refine wp_region_ext _ rfl (by kernel_rfl) ?_; (repeat (first | (refine wpQuiet_call hm rfl rfl rfl Try.call33 ?_; simp only [Act.put, List.setIfInBounds_toArray, List.set_cons_zero, List.set_cons_succ]) | go_big_quiet_step (fail))); refine wpQuiet_nil ?_; intro d3) | (refine wpList_call (hst _ G2 _) rfl rfl rfl Try.call60 ?_; intro d2) | (refine wpList_call (hnm _ G1 _) rfl rfl rfl Try.call40 ?_; intro d2) | (refine wpList_flag _ _ rfl rfl rfl to ?_; intro d2))
        go_ret
        exact .mk _


set_option maxRecDepth 100000 in
set_option maxHeartbeats 1000000 in
/-- A flag ahead of the first glob. -/
theorem special_left {w0 : World} {nm : List Tok → List Tok → Bool} (k1 : TK) (f1 : Int) (t2 : Tok) (r1 r2 : List Tok) (b1 o1 c1 b2 o2 c2 : Nat) (h1 : GlobIs w0 b1 o1 c1 (⟨k1, f1⟩ :: r1)) (h2 : GlobIs w0 b2 o2 c2 (t2 :: r2))
    (hst : ∀ d : Ext w0, Calls Try.prog 60 #[.slice (some ⟨b1, o1, none⟩) (r1.length + 1) c1, .slice (some ⟨b2, o2, none⟩) (r2.length + 1) c2] d.u (Ret w0 (.bool (starWith nm ⟨k1, f1⟩ r1 (t2 :: r2)))))
    (hpl : ∀ d : Ext w0, Calls Try.prog 59 #[.slice (some ⟨b1, o1, none⟩) (r1.length + 1) c1, .slice (some ⟨b2, o2, none⟩) (r2.length + 1) c2] d.u (Ret w0 (.bool (plusWith nm ⟨k1, f1⟩ r1 t2 r2))))
    (hf : f1 ≠ 0) (d : Ext w0) :
    Calls Try.prog 49 #[.slice (some ⟨b1, o1, none⟩) (r1.length + 1) c1, .slice (some ⟨b2, o2, none⟩) (r2.length + 1) c2] d.u (Ret w0 (.bool (spWith nm (⟨k1, f1⟩ :: r1) (t2 :: r2)))) := by
  obtain ⟨va, ha, ta⟩ := h1.head
  obtain ⟨vb, hb, tb⟩ := h2.head
  have hc1 := h1.room
  have hc2 := h1.small
  simp only [List.length_cons] at hc1 hc2
  clear h1 h2
  simp only [spWith, ne_eq, hf, not_false_eq_true, if_true]
  by_cases e1 : f1 = 1
  · subst e1
    rw [if_pos rfl]
    generalize plusWith nm ⟨k1, 1⟩ r1 t2 r2 = pb at hpl ⊢
    clear hst
    have hc := hpl
    clear hpl
    go_enter Try.func49, Try.ntmps49
    go_wp2_with (first | (refine wpList_flag _ _ rfl rfl rfl ta ?_; intro d2) | (refine wpList_flag _ _ rfl rfl rfl tb ?_; intro d2) | (refine wpList_call (hc _) rfl rfl rfl Try.call59 ?_; intro d2) | (refine wpList_call (hc _) rfl rfl rfl Try.call60 ?_; intro d2))
    go_ret
    exact .mk _
  · rw [if_neg e1]
    by_cases e2 : f1 = 2
    · subst e2
      rw [if_pos rfl]
      generalize starWith nm ⟨k1, 2⟩ r1 (t2 :: r2) = sb at hst ⊢
      have hc := hst
      clear hst hpl
      go_enter Try.func49, Try.ntmps49
      go_wp2_with (first | (refine wpList_flag _ _ rfl rfl rfl ta ?_; intro d2) | (refine wpList_flag _ _ rfl rfl rfl tb ?_; intro d2) | (refine wpList_call (hc _) rfl rfl rfl Try.call59 ?_; intro d2) | (refine wpList_call (hc _) rfl rfl rfl Try.call60 ?_; intro d2))
      go_ret
      exact .mk _
    · rw [if_neg e2]
      have q0 : (f1 != 0) = true := by simp [hf]
      have q1 : (f1 == 1) = false := by simp [e1]
      have q2 : (f1 == 2) = false := by simp [e2]
      clear hst hpl
      have hc : True := trivial
      go_enter Try.func49, Try.ntmps49
      go_wp2_with (first | (refine wpList_flag _ _ rfl rfl rfl ta ?_; intro d2) | (refine wpList_flag _ _ rfl rfl rfl tb ?_; intro d2) | (refine wpList_call (hc _) rfl rfl rfl Try.call59 ?_; intro d2) | (refine wpList_call (hc _) rfl rfl rfl Try.call60 ?_; intro d2))
      go_ret
      exact .mk _


set_option maxRecDepth 100000 in
set_option maxHeartbeats 1000000 in
/-- No flag ahead of the first glob: the second one's flag decides. -/
theorem special_right {w0 : World} {nm : List Tok → List Tok → Bool} (k1 k2 : TK) (f2 : Int) (r1 r2 : List Tok) (b1 o1 c1 b2 o2 c2 : Nat) (h1 : GlobIs w0 b1 o1 c1 (⟨k1, 0⟩ :: r1)) (h2 : GlobIs w0 b2 o2 c2 (⟨k2, f2⟩ :: r2))
    (hst : ∀ d : Ext w0, Calls Try.prog 60 #[.slice (some ⟨b2, o2, none⟩) (r2.length + 1) c2, .slice (some ⟨b1, o1, none⟩) (r1.length + 1) c1] d.u (Ret w0 (.bool (starWith nm ⟨k2, f2⟩ r2 (⟨k1, 0⟩ :: r1)))))
    (hpl : ∀ d : Ext w0, Calls Try.prog 59 #[.slice (some ⟨b2, o2, none⟩) (r2.length + 1) c2, .slice (some ⟨b1, o1, none⟩) (r1.length + 1) c1] d.u (Ret w0 (.bool (plusWith nm ⟨k2, f2⟩ r2 ⟨k1, 0⟩ r1))))
    (d : Ext w0) :
    Calls Try.prog 49 #[.slice (some ⟨b1, o1, none⟩) (r1.length + 1) c1, .slice (some ⟨b2, o2, none⟩) (r2.length + 1) c2] d.u (Ret w0 (.bool (spWith nm (⟨k1, 0⟩ :: r1) (⟨k2, f2⟩ :: r2)))) := by
  obtain ⟨va, ha, ta⟩ := h1.head
  obtain ⟨vb, hb, tb⟩ := h2.head
  have hc1 := h1.room
  have hc2 := h1.small
  have hg1 := h2.room
  have hg2 := h2.small
  simp only [List.length_cons] at hc1 hc2 hg1 hg2
  clear h1 h2
  simp only [spWith, ne_eq, not_true_eq_false, if_false]
  by_cases e1 : f2 = 1
  · subst e1
    rw [if_pos rfl]
    generalize plusWith nm ⟨k2, 1⟩ r2 ⟨k1, 0⟩ r1 = pb at hpl ⊢
    clear hst
    have hc := hpl
    clear hpl
    go_enter Try.func49, Try.ntmps49
    go_wp2_with (first | (refine wpList_flag _ _ rfl rfl rfl ta ?_; intro d2) | (refine wpList_flag _ _ rfl rfl rfl tb ?_; intro d2) | (refine wpList_call (hc _) rfl rfl rfl Try.call59 ?_; intro d2) | (refine wpList_call (hc _) rfl rfl rfl Try.call60 ?_; intro d2))
    go_ret
    exact .mk _
  · rw [if_neg e1]
    by_cases e2 : f2 = 2
    · subst e2
      rw [if_pos rfl]
      generalize starWith nm ⟨k2, 2⟩ r2 (⟨k1, 0⟩ :: r1) = sb at hst ⊢
      have hc := hst
      clear hst hpl
      go_enter Try.func49, Try.ntmps49
      go_wp2_with (first | (refine wpList_flag _ _ rfl rfl rfl ta ?_; intro d2) | (refine wpList_flag _ _ rfl rfl rfl tb ?_; intro d2) | (refine wpList_call (hc _) rfl rfl rfl Try.call59 ?_; intro d2) | (refine wpList_call (hc _) rfl rfl rfl Try.call60 ?_; intro d2))
      go_ret
      exact .mk _
    · rw [if_neg e2]
      have q1 : (f2 == 1) = false := by simp [e1]
      have q2 : (f2 == 2) = false := by simp [e2]
      clear hst hpl
      have hc : True := trivial
      go_enter Try.func49, Try.ntmps49
      go_wp2_with (first | (refine wpList_flag _ _ rfl rfl rfl ta ?_; intro d2) | (refine wpList_flag _ _ rfl rfl rfl tb ?_; intro d2) | (refine wpList_call (hc _) rfl rfl rfl Try.call59 ?_; intro d2) | (refine wpList_call (hc _) rfl rfl rfl Try.call60 ?_; intro d2))
      go_ret
      exact .mk _

end Go.Proofs.Ythlhfdidlfdaiaa
