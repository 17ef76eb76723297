/- The contract of trimGlobs. -/
import Derived.Test.YthlhfdidlfdaiaaNormal
import Derived.Deep.Cut
import Derived.Deep.CutBlock
namespace Go.Proofs.Ythlhfdidlfdaiaa
open Go.RowKit
attribute [local irreducible] wpList wpQuiet

/-- What trimGlobs leaves. -/
def TrimRet (w0 : World) (r : Option (List Tok × List Tok)) (e : Ending) (w' : World) : Prop :=
  (∃ d : Ext w0, w' = d.u) ∧ match r with
    | none => e = .returned (.tuple #[.slice none 0 0, .slice none 0 0, .bool false])
    | some (a, b) => ∃ s1 s2, e = .returned (.tuple #[s1, s2, .bool true]) ∧ GlobAt w0 s1 a ∧ GlobAt w0 s2 b

theorem TrimRet.no {w0 : World} {r : Option (List Tok × List Tok)} (h : r = none) (d : Ext w0) : TrimRet w0 r (.returned (.tuple #[.slice none 0 0, .slice none 0 0, .bool false])) d.u := by
  subst h; exact ⟨⟨d, rfl⟩, rfl⟩

theorem GlobIs.cut {w0 : World} {b o cap : Nat} {g : List Tok} (h : GlobIs w0 b o cap g) (L n : Nat) (hL : L + n ≤ g.length) :
    GlobAt w0 (.slice (if cap = L then some ⟨b, o, none⟩ else some ⟨b, o + L, none⟩) n (cap - L)) ((g.drop L).take n) := by
  have h1 := h.room
  have h3 := h.small
  have hn : ((g.drop L).take n).length = n := by simp; omega
  by_cases e : cap = L
  · rw [if_pos e]
    obtain rfl : n = 0 := by omega
    exact ⟨b, o, cap - L, by simp, by simp, by simp, by simp⟩
  · rw [if_neg e]
    refine ⟨b, o + L, cap - L, by rw [hn], by omega, by omega, fun i t hi => ?_⟩
    have hi' : (g.drop L)[i]? = some t := by
      rw [List.getElem?_take] at hi
      split at hi
      · exact hi
      · cases hi
    exact (h.drop L (by omega)).tok i t hi'

theorem TrimRet.yes {w0 : World} {r : Option (List Tok × List Tok)} {a b : List Tok} {s1 s2 : Value} (h : r = some (a, b)) (G1 : GlobAt w0 s1 a) (G2 : GlobAt w0 s2 b) (d : Ext w0) : TrimRet w0 r (.returned (.tuple #[s1, s2, .bool true])) d.u := by
  subst h; exact ⟨⟨d, rfl⟩, s1, s2, rfl, G1, G2⟩

theorem trim_some {g1 g2 : List Tok} {l L c : Nat} (hp : pre g1 g2 = some l) (hL : L = l - 1) (hc : pre (g1.drop L).reverse (g2.drop L).reverse = some c) {n m : Nat} (hn : n = g1.length - L - (c - 1)) (hm : m = g2.length - L - (c - 1)) :
    trim g1 g2 = some ((g1.drop L).take n, (g2.drop L).take m) := by
  unfold trim trimBack
  simp only [hp, ← hL, hc, List.length_drop, hn, hm]

theorem GlobIs.back {w0 : World} {b off cap : Nat} {g : List Tok} (h : GlobIs w0 b off cap g) (L c x : Nat) (hx : x + 1 + c = g.length) (hL : L ≤ x) :
    ∃ t v, (g.drop L).reverse.drop c = t :: (g.drop L).reverse.drop (c + 1) ∧ (∀ d : Ext w0, d.u.cell? ⟨b, off + x, none⟩ = some v) ∧ TokAt w0 v t := by
  obtain ⟨v, hv, ht⟩ := h.tok x g[x] (List.getElem?_eq_getElem (by omega))
  refine ⟨g[x], v, ?_, fun d => d.cell hv, ht⟩
  have hc : c < (g.drop L).reverse.length := by simp; omega
  rw [List.drop_eq_getElem_cons hc]
  congr 1
  rw [List.getElem_reverse, List.getElem_drop]
  congr 1
  simp; omega

set_option maxRecDepth 100000 in
set_option maxHeartbeats 1000000 in
theorem trim_any {w0 : World} (g1 g2 : List Tok) (b1 o1 c1 b2 o2 c2 : Nat) (h1 : GlobIs w0 b1 o1 c1 g1) (h2 : GlobIs w0 b2 o2 c2 g2) (d : Ext w0) :
    Calls Try.prog 39 #[.slice (some ⟨b1, o1, none⟩) g1.length c1, .slice (some ⟨b2, o2, none⟩) g2.length c2] d.u (TrimRet w0 (trim g1 g2)) := by
  have hc1 := h1.room
  have hc2 := h1.small
  have hg1 := h2.room
  have hg2 := h2.small
  go_enter Try.func39, Try.ntmps39
  go_upto_block 0 with fail
  go_cut [7] from 10 (fun s7 w => ∃ (l : Nat) (d' : Ext w0), s7 = .int .i64 l ∧ w = d'.u ∧ l ≤ g1.length ∧ l ≤ g2.length ∧ pre g1 g2 = some l)
  case first =>
    go_wp2_with fail
    go_loopw [7] (fun i wr => ∃ (k : Nat) (d' : Ext w0), k ≤ g1.length ∧ k ≤ g2.length ∧ i = .int .i64 k ∧ wr = d'.u ∧ pre g1 g2 = (pre (g1.drop k) (g2.drop k)).map (· + k)) (fun i _ => g1.length - (intOf i).toNat)
    case atStart => exact ⟨0, d, by omega, by omega, rfl, rfl, by simp⟩
    case round =>
      obtain ⟨k, d', hk1, hk2, rfl, rfl, he⟩ := hrel
      have HE : Hid _ := hid he
      clear he
      by_cases hl1 : k < g1.length
      · by_cases hl2 : k < g2.length
        · obtain ⟨t1, v1, hd1, hv1, ht1⟩ := h1.at k hl1
          obtain ⟨t2, v2, hd2, hv2, ht2⟩ := h2.at k hl2
          have HD1 : Hid _ := hid hd1
          have HD2 : Hid _ := hid hd2
          clear hd1 hd2
          have hI1 : (k : Int) < (g1.length : Int) := by omega
          have hI2 : (k : Int) < (g2.length : Int) := by omega
          have hm := match_any ht1 ht2
          cases f1 : (t1.f == 0)
          · go_wp2_with (first | (refine wpList_flag _ _ rfl rfl rfl ht1 ?_; intro d2) | (refine wpList_flag _ _ rfl rfl rfl ht2 ?_; intro d2) | (refine wp_region_ext _ rfl (by kernel_rfl) ?_; (repeat (first | (refine wpQuiet_call hm rfl rfl rfl Try.call33 ?_; simp only [Act.put, List.setIfInBounds_toArray, List.set_cons_zero, List.set_cons_succ]) | go_big_quiet_step (fail))); refine wpQuiet_nil ?_; intro d3))
            go_meet
            case rel =>
              have e1 : t1.f ≠ 0 := by simpa using f1
              refine ⟨k, d2, rfl, rfl, by omega, by omega, ?_⟩
              rw [HE.out, HD1.out, HD2.out, pre, if_neg (by simp [e1])]
              simp
          · cases f2 : (t2.f == 0)
            · go_wp2_with (first | (refine wpList_flag _ _ rfl rfl rfl ht1 ?_; intro d2) | (refine wpList_flag _ _ rfl rfl rfl ht2 ?_; intro d2) | (refine wp_region_ext _ rfl (by kernel_rfl) ?_; (repeat (first | (refine wpQuiet_call hm rfl rfl rfl Try.call33 ?_; simp only [Act.put, List.setIfInBounds_toArray, List.set_cons_zero, List.set_cons_succ]) | go_big_quiet_step (fail))); refine wpQuiet_nil ?_; intro d3))
              go_meet
              case rel =>
                have e2 : t2.f ≠ 0 := by simpa using f2
                refine ⟨k, d2, rfl, rfl, by omega, by omega, ?_⟩
                rw [HE.out, HD1.out, HD2.out, pre, if_neg (by simp [e2])]
                simp
            · have E1 : Hid (t1.f = 0) := hid (by simpa using f1)
              have E2 : Hid (t2.f = 0) := hid (by simpa using f2)
              cases hmb : mt t1.k t2.k
              · rw [hmb] at hm
                go_wp2_with (first | (refine wpList_flag _ _ rfl rfl rfl ht1 ?_; intro d2) | (refine wpList_flag _ _ rfl rfl rfl ht2 ?_; intro d2) | (refine wp_region_ext _ rfl (by kernel_rfl) ?_; (repeat (first | (refine wpQuiet_call hm rfl rfl rfl Try.call33 ?_; simp only [Act.put, List.setIfInBounds_toArray, List.set_cons_zero, List.set_cons_succ]) | go_big_quiet_step (fail))); refine wpQuiet_nil ?_; intro d3))
                go_ret3
                refine .no ?_ _
                unfold trim
                rw [HE.out, HD1.out, HD2.out, pre, if_pos ⟨E1.out, E2.out⟩, hmb]
                rfl
              · rw [hmb] at hm
                go_wp2_with (first | (refine wpList_flag _ _ rfl rfl rfl ht1 ?_; intro d2) | (refine wpList_flag _ _ rfl rfl rfl ht2 ?_; intro d2) | (refine wp_region_ext _ rfl (by kernel_rfl) ?_; (repeat (first | (refine wpQuiet_call hm rfl rfl rfl Try.call33 ?_; simp only [Act.put, List.setIfInBounds_toArray, List.set_cons_zero, List.set_cons_succ]) | go_big_quiet_step (fail))); refine wpQuiet_nil ?_; intro d3))
                go_roundw
                case rel =>
                  refine ⟨k + 1, d3, by omega, by omega, by go_num, rfl, ?_⟩
                  rw [HE.out, HD1.out, HD2.out, pre, if_pos ⟨E1.out, E2.out⟩, hmb, if_pos rfl, Option.map_map]
                  congr 1
                  funext x
                  simp; omega
                case measure => simp [intOf]; omega
        · have hk : k = g2.length := by omega
          subst hk
          have hI1 : (g2.length : Int) < (g1.length : Int) := by omega
          go_wp2_with fail
          go_meet
          case rel =>
            refine ⟨g2.length, d', rfl, rfl, by omega, by omega, ?_⟩
            rw [HE.out, List.drop_of_length_le (Nat.le_refl g2.length)]
            cases g1.drop g2.length <;> simp [pre]
      · have hk : k = g1.length := by omega
        subst hk
        go_wp2_with fail
        go_meet
        case rel =>
          refine ⟨g1.length, d', rfl, rfl, by omega, by omega, ?_⟩
          rw [HE.out, List.drop_of_length_le (Nat.le_refl g1.length)]
          simp [pre]
  case rest =>
    obtain ⟨l, d', rfl, rfl, hl1, hl2, hp⟩ := hcut
    have HP : Hid _ := hid hp
    clear hp
    go_upto_if 49 with (fail)
    go_cut [7] from 10 (fun s7 w => s7 = .int .i64 ((l - 1 : Nat) : Int) ∧ w = d'.u)
    case first =>
      by_cases h0 : l = 0
      · subst h0
        go_wp2_with fail
        go_meet
        case rel => exact ⟨rfl, rfl⟩
      · have h0' : (0 : Int) < (l : Int) := by omega
        go_wp2_with fail
        go_meet
        case rel => exact ⟨by congr 1; omega, rfl⟩
    case rest =>
      obtain ⟨rfl, rfl⟩ := hcut
      obtain ⟨L, hL⟩ : ∃ L, L = l - 1 := ⟨_, rfl⟩
      have HL : Hid _ := hid hL
      rw [← hL]
      have hL1 : L ≤ g1.length := by omega
      have hL2 : L ≤ g2.length := by omega
      clear hL
      go_upto_block 2 with fail
      go_cut [8, 9] from 10 (fun s8 s9 w => ∃ (x y : Int) (c : Nat) (d2 : Ext w0), s8 = .int .i64 x ∧ s9 = .int .i64 y ∧ w = d2.u ∧ x + 1 + c = g1.length ∧ y + 1 + c = g2.length ∧ L + c ≤ g1.length ∧ L + c ≤ g2.length ∧ pre (g1.drop L).reverse (g2.drop L).reverse = some c)
      case first =>
        go_wp2_with fail
        go_loopw [8, 9] (fun s8 s9 wr => ∃ (x y : Int) (c : Nat) (d2 : Ext w0), s8 = .int .i64 x ∧ s9 = .int .i64 y ∧ wr = d2.u ∧ x + 1 + c = g1.length ∧ y + 1 + c = g2.length ∧ L + c ≤ g1.length ∧ L + c ≤ g2.length ∧ pre (g1.drop L).reverse (g2.drop L).reverse = (pre ((g1.drop L).reverse.drop c) ((g2.drop L).reverse.drop c)).map (· + c)) (fun s8 _ _ => (intOf s8 + 1).toNat)
        case atStart => exact ⟨_, _, 0, d', rfl, rfl, rfl, by omega, by omega, by omega, by omega, by simp⟩
        case round =>
          obtain ⟨x, y, c, d4, rfl, rfl, rfl, hx, hy, hcx, hcy, he⟩ := hrel
          have HE : Hid _ := hid he
          clear he
          by_cases hx1 : (L : Int) ≤ x
          · by_cases hy1 : (L : Int) ≤ y
            · obtain ⟨x, rfl⟩ := Int.eq_ofNat_of_zero_le (a := x) (by omega)
              obtain ⟨y, rfl⟩ := Int.eq_ofNat_of_zero_le (a := y) (by omega)
              obtain ⟨t1, v1, hd1, hv1, ht1⟩ := h1.back L c x (by omega) (by omega)
              obtain ⟨t2, v2, hd2, hv2, ht2⟩ := h2.back L c y (by omega) (by omega)
              have HD1 : Hid _ := hid hd1
              have HD2 : Hid _ := hid hd2
              clear hd1 hd2
              have hI1 : (x : Int) < (g1.length : Int) := by omega
              have hI2 : (y : Int) < (g2.length : Int) := by omega
              have HX : Hid _ := hid hx
              have HY : Hid _ := hid hy
              clear hx hy
              have hm := match_any ht1 ht2
              cases f1 : (t1.f == 0)
              · go_wp2_with (first | (refine wpList_flag _ _ rfl rfl rfl ht1 ?_; intro d2) | (refine wpList_flag _ _ rfl rfl rfl ht2 ?_; intro d2) | (refine wp_region_ext _ rfl (by kernel_rfl) ?_; (repeat (first | (refine wpQuiet_call hm rfl rfl rfl Try.call33 ?_; simp only [Act.put, List.setIfInBounds_toArray, List.set_cons_zero, List.set_cons_succ]) | go_big_quiet_step (fail))); refine wpQuiet_nil ?_; intro d3))
                go_meet
                case rel =>
                  have e1 : t1.f ≠ 0 := by simpa using f1
                  have hx := HX.out
                  have hy := HY.out
                  refine ⟨x, y, c, _, rfl, rfl, rfl, by omega, by omega, by omega, by omega, ?_⟩
                  rw [HE.out, HD1.out, HD2.out, pre, if_neg (by simp [e1])]
                  simp
              · cases f2 : (t2.f == 0)
                · go_wp2_with (first | (refine wpList_flag _ _ rfl rfl rfl ht1 ?_; intro d2) | (refine wpList_flag _ _ rfl rfl rfl ht2 ?_; intro d2) | (refine wp_region_ext _ rfl (by kernel_rfl) ?_; (repeat (first | (refine wpQuiet_call hm rfl rfl rfl Try.call33 ?_; simp only [Act.put, List.setIfInBounds_toArray, List.set_cons_zero, List.set_cons_succ]) | go_big_quiet_step (fail))); refine wpQuiet_nil ?_; intro d3))
                  go_meet
                  case rel =>
                    have e2 : t2.f ≠ 0 := by simpa using f2
                    have hx := HX.out
                    have hy := HY.out
                    refine ⟨x, y, c, _, rfl, rfl, rfl, by omega, by omega, by omega, by omega, ?_⟩
                    rw [HE.out, HD1.out, HD2.out, pre, if_neg (by simp [e2])]
                    simp
                · have E1 : Hid (t1.f = 0) := hid (by simpa using f1)
                  have E2 : Hid (t2.f = 0) := hid (by simpa using f2)
                  cases hmb : mt t1.k t2.k
                  · rw [hmb] at hm
                    go_wp2_with (first | (refine wpList_flag _ _ rfl rfl rfl ht1 ?_; intro d2) | (refine wpList_flag _ _ rfl rfl rfl ht2 ?_; intro d2) | (refine wp_region_ext _ rfl (by kernel_rfl) ?_; (repeat (first | (refine wpQuiet_call hm rfl rfl rfl Try.call33 ?_; simp only [Act.put, List.setIfInBounds_toArray, List.set_cons_zero, List.set_cons_succ]) | go_big_quiet_step (fail))); refine wpQuiet_nil ?_; intro d3))
                    go_ret3
                    refine .no ?_ _
                    unfold trim
                    rw [HP.out]
                    unfold trimBack
                    simp only
                    rw [← HL.out, HE.out, HD1.out, HD2.out, pre, if_pos ⟨E1.out, E2.out⟩, hmb]
                    rfl
                  · rw [hmb] at hm
                    go_wp2_with (first | (refine wpList_flag _ _ rfl rfl rfl ht1 ?_; intro d2) | (refine wpList_flag _ _ rfl rfl rfl ht2 ?_; intro d2) | (refine wp_region_ext _ rfl (by kernel_rfl) ?_; (repeat (first | (refine wpQuiet_call hm rfl rfl rfl Try.call33 ?_; simp only [Act.put, List.setIfInBounds_toArray, List.set_cons_zero, List.set_cons_succ]) | go_big_quiet_step (fail))); refine wpQuiet_nil ?_; intro d3))
                    go_roundw
                    case rel =>
                      have hx := HX.out
                      have hy := HY.out
                      refine ⟨_, _, c + 1, d3, rfl, rfl, rfl, by omega, by omega, by omega, by omega, ?_⟩
                      rw [HE.out, HD1.out, HD2.out, pre, if_pos ⟨E1.out, E2.out⟩, hmb, if_pos rfl, Option.map_map]
                      congr 1
                      funext x
                      simp; omega
                    case measure => simp [intOf]
            · obtain ⟨x, rfl⟩ := Int.eq_ofNat_of_zero_le (a := x) (by omega)
              have hend : pre (g1.drop L).reverse (g2.drop L).reverse = some c := by
                rw [HE.out, List.drop_of_length_le (i := c) (l := (g2.drop L).reverse) (by simp; omega)]
                cases (g1.drop L).reverse.drop c <;> simp [pre]
              have HN : Hid _ := hid hend
              clear hend
              by_cases hy0 : (0 : Int) ≤ y
              · go_wp2_with fail
                go_meet
                case rel => exact ⟨x, y, c, _, rfl, rfl, rfl, by omega, by omega, by omega, by omega, HN.out⟩
              · go_wp2_with fail
                go_meet
                case rel => exact ⟨x, y, c, _, rfl, rfl, rfl, by omega, by omega, by omega, by omega, HN.out⟩
          · have hend : pre (g1.drop L).reverse (g2.drop L).reverse = some c := by
              rw [HE.out, List.drop_of_length_le (i := c) (l := (g1.drop L).reverse) (by simp; omega)]
              simp [pre]
            have HN : Hid _ := hid hend
            clear hend
            by_cases hx0 : (0 : Int) ≤ x
            · go_wp2_with fail
              go_meet
              case rel => exact ⟨x, y, c, _, rfl, rfl, rfl, by omega, by omega, by omega, by omega, HN.out⟩
            · go_wp2_with fail
              go_meet
              case rel => exact ⟨x, y, c, _, rfl, rfl, rfl, by omega, by omega, by omega, by omega, HN.out⟩
      case rest =>
        obtain ⟨x, y, c, d2, rfl, rfl, rfl, hx, hy, hcx, hcy, he⟩ := hcut
        have HE : Hid _ := hid he
        clear he
        by_cases h0 : c = 0
        · subst h0
          obtain rfl : x = (g1.length : Int) - 1 := by omega
          obtain rfl : y = (g2.length : Int) - 1 := by omega
          clear hx hy
          have hI : (L : Int) ≤ (g1.length : Int) := by omega
          have hI2 : (L : Int) ≤ (g2.length : Int) := by omega
          have hI3 : (g1.length : Int) ≤ (c1 : Int) := by omega
          have hI4 : (g2.length : Int) ≤ (c2 : Int) := by omega
          have G1 := h1.cut L (g1.length - L) (by omega)
          have G2 := h2.cut L (g2.length - L) (by omega)
          go_wp2_with fail
          refine wp_region_ext _ rfl (by kernel_rfl) ?_
          repeat (go_big_quiet_step (fail))
          generalize (Value.slice (if c1 = L then some ⟨b1, o1, none⟩ else some ⟨b1, o1 + L, none⟩) (g1.length - L) (c1 - L)) = S1 at G1 ⊢
          generalize (Value.slice (if c2 = L then some ⟨b2, o2, none⟩ else some ⟨b2, o2 + L, none⟩) (g2.length - L) (c2 - L)) = S2 at G2 ⊢
          refine wpQuiet_nil ?_
          intro d3
          go_wp2_with fail
          go_ret3
          exact .yes (trim_some HP.out HL.out HE.out (by omega) (by omega)) G1 G2 d3
        · obtain ⟨c, rfl⟩ := Nat.exists_eq_succ_of_ne_zero h0
          have hI : x < (g1.length : Int) - 1 := by omega
          obtain ⟨p, rfl⟩ : ∃ p : Nat, x = (p : Int) - 1 := ⟨(x + 1).toNat, by omega⟩
          obtain ⟨q, rfl⟩ : ∃ q : Nat, y = (q : Int) - 1 := ⟨(y + 1).toNat, by omega⟩
          have HX : Hid _ := hid hx
          have HY : Hid _ := hid hy
          have hpL : (L : Int) ≤ (p : Int) := by omega
          have hqL : (L : Int) ≤ (q : Int) := by omega
          have hp1 : (p : Int) + 1 ≤ (c1 : Int) := by omega
          have hp2 : (p : Int) + 1 ≤ 1000000 := by omega
          have hq2 : (q : Int) + 1 ≤ 1000000 := by omega
          have hq1 : (q : Int) + 1 ≤ (c2 : Int) := by omega
          have G1 := h1.cut L (p + 1 - L) (by omega)
          have G2 := h2.cut L (q + 1 - L) (by omega)
          rw [if_neg (show ¬ c1 = L by omega)] at G1
          rw [if_neg (show ¬ c2 = L by omega)] at G2
          clear hx hy
          go_wp2_with fail
          refine wp_region_ext _ rfl (by kernel_rfl) ?_
          repeat (go_big_quiet_step (fail))
          refine wpQuiet_nil ?_
          intro d3
          go_wp2_with fail
          go_ret3
          have hx := HX.out
          have hy := HY.out
          exact .yes (trim_some HP.out HL.out HE.out (by omega) (by omega)) G1 G2 d3

end Go.Proofs.Ythlhfdidlfdaiaa
