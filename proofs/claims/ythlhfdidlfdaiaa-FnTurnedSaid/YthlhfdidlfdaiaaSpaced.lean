/- The contract of the specification's Spaced. -/
import Derived.Test.YthlhfdidlfdaiaaPlainMeet
namespace Go.Proofs.Ythlhfdidlfdaiaa
open Go.RowKit

/-- Spaced: a token loses its flag where it is the last, or where the next one (already turned) has a flag. -/
def spacedK : List KSp → List KSp
  | [] => []
  | x :: xs => (match spacedK xs with | [] => x.bare | y :: _ => if flg y.q ≠ 0 then x.bare else x) :: spacedK xs

theorem spacedK_length (xs : List KSp) : (spacedK xs).length = xs.length := by
  induction xs with
  | nil => rfl
  | cons x xs ih => simp [spacedK, ih]

theorem flg_f (x : KSp) : flg x.q = 0 ↔ x.f = 0 := flg_cases (fun g f => g = 0 ↔ f = 0) x (by decide) (by decide) (by decide)

theorem spacedK_spc (xs : List KSp) : Spc ((spacedK xs).map KSp.tok) := by
  induction xs with
  | nil => trivial
  | cons x xs ih =>
    simp only [spacedK, List.map_cons]
    refine ⟨fun h0 => ?_, ih⟩
    cases hs : spacedK xs with
    | nil => rw [hs] at h0; exact absurd rfl h0
    | cons y ys =>
      rw [hs] at h0
      by_cases hy : flg y.q ≠ 0
      · simp only [if_pos hy] at h0
        exact absurd rfl h0
      · exact ⟨y.tok, ys.map KSp.tok, rfl, (flg_f y).1 (Decidable.not_not.1 hy)⟩
theorem ks_flagged (xs : List KSp) : Flagged (xs.map KSp.tok) := by
  intro t ht
  obtain ⟨x, _, rfl⟩ := List.mem_map.1 ht
  exact x.fine.2

/-- How the loop stands when k places are still to be done: the head as it was, the tail turned. -/
def mixK (xs : List KSp) (k : Nat) : List KSp := xs.take k ++ spacedK (xs.drop k)

theorem mix_length (xs : List KSp) (k : Nat) (hk : k ≤ xs.length) : (mixK xs k).length = xs.length := by
  simp [mixK, spacedK_length]
  omega
theorem mix_last (xs : List KSp) (k : Nat) (hk : k < xs.length) : (mixK xs (k + 1))[k]? = some xs[k] := by
  unfold mixK
  rw [List.getElem?_append_left (by simp; omega), List.getElem?_take, if_pos (by omega), List.getElem?_eq_getElem hk]
theorem mix_next (xs : List KSp) (k : Nat) (hk : k < xs.length) : (mixK xs (k + 1))[k + 1]? = (spacedK (xs.drop (k + 1))).head? := by
  unfold mixK
  rw [List.getElem?_append_right (by simp; omega), List.head?_eq_getElem?]
  congr 1
  simp
  omega
theorem mix_step (xs : List KSp) (k : Nat) (hk : k < xs.length) :
    mixK xs k = match (mixK xs (k + 1))[k + 1]? with | none => (mixK xs (k + 1)).set k xs[k].bare | some y => if flg y.q ≠ 0 then (mixK xs (k + 1)).set k xs[k].bare else mixK xs (k + 1) := by
  have e1 : xs.take (k + 1) = xs.take k ++ [xs[k]] := by rw [List.take_add_one, List.getElem?_eq_getElem hk]; rfl
  have e2 : (mixK xs (k + 1)).set k xs[k].bare = xs.take k ++ xs[k].bare :: spacedK (xs.drop (k + 1)) := by
    unfold mixK
    rw [e1, List.append_assoc, List.set_append_right _ _ (by simp; omega)]
    have : k - (xs.take k).length = 0 := by simp; omega
    rw [this]
    rfl
  have e3 : mixK xs (k + 1) = xs.take k ++ xs[k] :: spacedK (xs.drop (k + 1)) := by
    unfold mixK
    rw [e1, List.append_assoc]
    rfl
  rw [mix_next xs k hk, e2]
  conv => lhs; unfold mixK
  rw [List.drop_eq_getElem_cons hk, spacedK]
  cases hs : spacedK (xs.drop (k + 1)) with
  | nil => rfl
  | cons y ys =>
    simp only [List.head?_cons]
    split
    · rfl
    · rw [e3, hs]

theorem row_set3 {w : World} {base n g cap : Nat} {e : TypeId} {size : Nat} {xs : List Value} (h : w.ownsRow base e size (.slice (some ⟨g, 0, none⟩) n cap) n xs) (o : Nat) (v : Value) (_ho : o < n * size) :
    (w.setCell ⟨g, o, none⟩ v).ownsRow base e size (.slice (some ⟨g, 0, none⟩) n cap) n (xs.set o v) := by
  rcases h with ⟨hl, ⟨h0, _⟩ | ⟨g', cap', cur, hv, hb, hg, hle, hm, hc, ht⟩⟩
  · simp at h0
  · simp at hv
    obtain ⟨rfl, rfl⟩ := hv
    refine ⟨by simpa using hl, .inr ⟨g, cap, cur.setIfInBounds o v, rfl, hb, ?_, hle, hm, by simpa using hc, ?_⟩⟩
    · simp [World.setCell, Array.getElem?_modify, hg]
    · rw [← ht]
      simp [List.take_set]

theorem cells_set (L : List KSp) (k : Nat) (x : KSp) (hx : L[k]? = some x) : ((L.map KSp.sp).flatMap Sp.cs).set (k * 3 + 2) (.int .u8 0) = ((L.set k x.bare).map KSp.sp).flatMap Sp.cs := by
  induction L generalizing k with
  | nil => simp at hx
  | cons y L ih =>
    cases k with
    | zero =>
      simp at hx
      subst hx
      simp [Sp.cs, KSp.sp, KSp.bare, flg]
    | succ k =>
      simp only [List.map_cons, List.flatMap_cons, List.set_cons_succ]
      rw [← ih k (by simpa using hx), List.set_append_right _ _ (by simp [Sp.cs]; omega)]
      congr 2
      simp [Sp.cs]
      omega

/-- The append of a row onto an empty slice that the call itself made. -/
theorem wpList_extend {ops : Array Oper} {rest : List Oper} {o : Oper} {a : Act} {Q : Exit → Act → World → Prop} {w : World} {base B g c : Nat} {v : Value} {xs : List KSp} {s x : Operand}
    (hown : w.ownsRow base 43 3 v 0 []) (hsrc : KsRow B w (.slice (some ⟨g, 0, none⟩) xs.length c) xs) (hn : xs.length ≤ 100) (hbase : base ≤ w.heap.size) (hgd : o.guard = none)
    (ho : o.op = .call { callee := .builtin .append, args := #[s, x], argTypes := #[24, 24] }) (hs : a.eval s = v) (hx : a.eval x = .slice (some ⟨g, 0, none⟩) xs.length c)
    (h : ∀ v' w', KsRow base w' v' xs → w.grownBy w' v.ownBlock → wpList Try.prog ops Q rest (a.put o.dst v') w') : wpList Try.prog ops Q (o :: rest) a w := by
  obtain ⟨i, hi, hz0, hz1, hz2⟩ := info_parts elem24.info
  refine wpList_append_own _ hgd s x 24 ho base 43 i _ 3 32 elem24.und hi hz0 hz1 hz2 elem24.zsize elem24.pos v 0 [] hs hown ⟨g, 0, none⟩ xs.length c ((xs.map KSp.sp).flatMap Sp.cs) hx hsrc.1 ?_ ?_ ?_ ?_ hbase ?_
  · intro j u hj
    have hadd : (⟨g, 0, none⟩ : Addr).add j = ⟨g, j, none⟩ := by unfold Addr.add; split <;> simp_all
    rw [hadd]
    have := World.ownsRow.cells (g := g) hsrc rfl j u hj
    rw [hadd] at this
    exact this
  · intro u hu
    obtain ⟨t, ht, hu⟩ := List.mem_flatMap.1 hu
    exact sp_oneCell t.s t.m t.g u hu
  · unfold maxLen; omega
  · omega
  · intro v' w' hown' hg _
    refine h v' w' ?_ hg
    unfold KsRow
    simpa using hown'

attribute [local irreducible] wpList wpQuiet Calls

set_option maxRecDepth 100000 in
set_option maxHeartbeats 2000000 in
theorem spaced_any {B : Nat} {v : Value} {xs : List KSp} {w : World} (h : KsRow B w v xs) (hx : xs.length ≤ 100) :
    Calls Try.prog 17 #[v] w fun e w' => ∃ r, e = .returned r ∧ Below w.heap.size w w' ∧ KsRow w.heap.size w' r (spacedK xs) := by
  have hown0 : (w.alloc (.cells #[] 43)).ownsRow w.heap.size 43 3 (.slice (some ⟨w.heap.size, 0, none⟩) 0 0) 0 [] := World.ownsRow_made w #[] 0 (Nat.le_refl _) (by decide) rfl
  have hB0 : Below w.heap.size w (w.alloc (.cells #[] 43)) := (Below.refl _ _).alloc (Nat.le_refl _) _
  have h1 := h.keep hB0
  rcases h.form with ⟨rfl, rfl⟩ | ⟨g, cap, rfl, hcap⟩
  · go_enter Try.func17, Try.ntmps17
    go_wp2_with fail
    go_loopw [4] (fun s4 wr => s4 = .int .i64 (-1) ∧ wr = w.alloc (.cells #[] 43)) (fun _ _ => 0)
    case atStart => exact ⟨rfl, rfl⟩
    case round =>
      obtain ⟨rfl, rfl⟩ := hrel
      go_wp2_with fail
      go_ret
      exact ⟨_, rfl, hB0, hown0⟩
  · go_enter Try.func17, Try.ntmps17
    go_upto_region 2 with (at_builtin; refine wpList_extend hown0 h1 hx (base_alloc (Nat.le_refl _) _) rfl rfl rfl rfl ?_; intro v2 w2 hks hg2)
    have hBw2 : Below w.heap.size w w2 := hB0.grown hg2 (by simp) (by rintro k ⟨⟩; exact Nat.le_refl _)
    clear h h1 hown0 hB0 hg2
    rcases hks.form with ⟨rfl, rfl⟩ | ⟨g2, cap2, rfl, hcap2⟩
    · go_wp2_with fail
      go_loopw [4] (fun s4 wr => s4 = .int .i64 (-1) ∧ wr = w2) (fun _ _ => 0)
      case atStart => exact ⟨rfl, rfl⟩
      case round =>
        obtain ⟨rfl, rfl⟩ := hrel
        go_wp2_with fail
        go_ret
        exact ⟨_, rfl, hBw2, hks⟩
    · go_wp2_with fail
      go_loopw [4] (fun s4 wr => ∃ k : Nat, k ≤ xs.length ∧ s4 = .int .i64 ((k : Int) - 1) ∧ Below w.heap.size w wr ∧ wr.ownsRow w.heap.size 43 3 (.slice (some ⟨g2, 0, none⟩) xs.length cap2) xs.length (((mixK xs k).map KSp.sp).flatMap Sp.cs)) (fun s4 _ => (intOf s4 + 1).toNat)
      case atStart =>
        refine ⟨xs.length, Nat.le_refl _, rfl, hBw2, ?_⟩
        have : mixK xs xs.length = xs := by simp [mixK, spacedK]
        rw [this]
        exact hks
      case round =>
        clear hks hBw2
        obtain ⟨k, hk, hs4, hB, hown⟩ := hrel
        have hg2 : w.heap.size ≤ g2 := (hown.lt g2 rfl).1
        cases k with
        | zero =>
          obtain rfl : u4 = .int .i64 (-1) := hs4
          go_wp2_with fail
          go_ret
          refine ⟨_, rfl, hB, ?_⟩
          have : mixK xs 0 = spacedK xs := by simp [mixK]
          rw [this] at hown
          unfold KsRow
          rw [spacedK_length]
          exact hown
        | succ j =>
          obtain rfl : u4 = .int .i64 (j : Int) := by rw [hs4]; congr 1; omega
          clear hs4
          have hj : j < xs.length := hk
          have hl := mix_length xs (j + 1) hk
          have hkr : KsRow w.heap.size wr (.slice (some ⟨g2, 0, none⟩) xs.length cap2) (mixK xs (j + 1)) := by unfold KsRow; rw [hl]; exact hown
          obtain ⟨_, _, c2⟩ := ks_cells hkr hl.symm (mix_last xs j hj)
          obtain ⟨cur, hblk⟩ := row_block hown
          have f2 : wr.frozen? ⟨g2, j * 3 + 2, none⟩ = false := by simp [World.frozen?, hblk]
          have hset : (wr.setCell ⟨g2, j * 3 + 2, none⟩ (.int .u8 0)).ownsRow w.heap.size 43 3 (.slice (some ⟨g2, 0, none⟩) xs.length cap2) xs.length ((((mixK xs (j + 1)).set j xs[j].bare).map KSp.sp).flatMap Sp.cs) := by
            rw [← cells_set _ _ _ (mix_last xs j hj)]
            exact row_set3 hown _ _ (by omega)
          have hBs : Below w.heap.size w (wr.setCell ⟨g2, j * 3 + 2, none⟩ (.int .u8 0)) := hB.setCell (p := ⟨g2, j * 3 + 2, none⟩) hg2 _
          have hstep := mix_step xs j hj
          by_cases hjn : j + 1 = xs.length
          · have hnone : (mixK xs (j + 1))[j + 1]? = none := by rw [List.getElem?_eq_none_iff, hl]; omega
            rw [hnone] at hstep
            simp only at hstep
            rw [← hstep] at hset
            have eA : ((j : Int) == (xs.length : Int) - 1) = true := by simp; omega
            have HS : Hid _ := hid hset
            have HB : Hid _ := hid hBs
            clear hset hBs hstep hown hkr hnone hblk
            go_wp2_with fail
            go_roundw
            case rel => exact ⟨j, by omega, rfl, HB.out, HS.out⟩
            case measure => simp [intOf]
          · have hj1 : j + 1 < (mixK xs (j + 1)).length := by omega
            have hy := List.getElem?_eq_getElem hj1
            obtain ⟨_, _, d2⟩ := ks_cells hkr hl.symm hy
            rw [hy] at hstep
            simp only at hstep
            have eA : ((j : Int) == (xs.length : Int) - 1) = false := by simp; omega
            have hjx : j + 1 < xs.length := by omega
            generalize (mixK xs (j + 1))[j + 1] = y at d2 hstep
            by_cases hq : flg y.q = 0
            · rw [if_neg (by simpa using hq)] at hstep
              rw [hq] at d2
              rw [← hstep] at hown
              have HS : Hid _ := hid hown
              clear hset hBs hstep hown hkr hblk hy
              go_wp2_with fail
              go_roundw
              case rel => exact ⟨j, by omega, rfl, hB, HS.out⟩
              case measure => simp [intOf]
            · rw [if_pos hq] at hstep
              have eQ : (flg y.q != 0) = true := by simpa using hq
              rw [← hstep] at hset
              have HS : Hid _ := hid hset
              have HB : Hid _ := hid hBs
              clear hset hBs hstep hown hkr hblk hy
              go_wp2_with fail
              go_roundw
              case rel => exact ⟨j, by omega, rfl, HB.out, HS.out⟩
              case measure => simp [intOf]

end Go.Proofs.Ythlhfdidlfdaiaa
