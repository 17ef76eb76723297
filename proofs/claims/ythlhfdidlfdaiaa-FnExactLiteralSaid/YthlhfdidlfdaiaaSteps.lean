/- The contracts of steps and next of the specification. -/
import Derived.Test.YthlhfdidlfdaiaaSpaced
import Derived.Test.YthlhfdidlfdaiaaSeen
import Derived.Maps.AppendAt
namespace Go.Proofs.Ythlhfdidlfdaiaa
open Go.RowKit

/-- A glob without plus. -/
def step1 (x : KSp) : List KSp := if flg x.q = 43 then [⟨x.k, 0⟩, ⟨x.k, 3⟩] else [x]
def stepsK (xs : List KSp) : List KSp := xs.flatMap step1

theorem stepsK_snoc (xs : List KSp) (k : Nat) (x : KSp) (h : xs[k]? = some x) : stepsK (xs.take (k + 1)) = stepsK (xs.take k) ++ step1 x := by
  unfold stepsK
  rw [List.take_add_one, h]
  simp [List.flatMap_append]

attribute [local irreducible] wpList wpQuiet Calls

/-- The append of one element, which lies alone in the last block; and where the row lies then. -/
theorem wpList_push_at {T E : TypeId} {size bytes : Nat} {z : Value} (he : ElemOf T E size bytes z) {ops : Array Oper} {rest : List Oper} {o : Oper} {a : Act} {Q : Exit → Act → World → Prop} {w : World}
    {s x : Operand} {base n : Nat} {v : Value} {xs news : List Value} (hown : w.ownsRow base E size v n xs) (hl : news.length = size) (h1 : ∀ u ∈ news, u.oneCell' = true) (hn : n < 1000000000) (hbase : base ≤ w.heap.size)
    (hgd : o.guard = none) (ho : o.op = .call { callee := .builtin .append, args := #[s, x], argTypes := #[T, T] }) (hs : a.eval s = v) (hx : a.eval x = .slice (some ⟨w.heap.size, 0, none⟩) 1 1)
    (h : ∀ g cap w', w'.ownsRow base E size (.slice (some ⟨g, 0, none⟩) (n + 1) cap) (n + 1) (xs ++ news) → w.grownBy w' v.ownBlock → (some g = v.ownBlock ∨ g = w.heap.size + 1) → wpList Try.prog ops Q rest (a.put o.dst (.slice (some ⟨g, 0, none⟩) (n + 1) cap)) w') :
    wpList Try.prog ops Q (o :: rest) a (w.alloc (.cells news.toArray E)) := by
  obtain ⟨i, hi, hz0, hz1, hz2⟩ := info_parts he.info
  have hb := he.small
  refine wpList_append_own_at _ hgd s x T ho base E i z size bytes he.und hi hz0 hz1 hz2 he.zsize he.pos v n xs hs (hown.alloc _) ⟨w.heap.size, 0, none⟩ 1 1 news hx (by omega) ?_ h1 ?_ ?_ ?_ ?_
  · intro j u hj
    have hadd : (⟨w.heap.size, 0, none⟩ : Addr).add j = ⟨w.heap.size, j, none⟩ := by unfold Addr.add; split <;> simp_all
    rw [hadd, cell_of_block (heap_alloc_new _ _)]
    simpa using hj
  · unfold maxLen; omega
  · have : (n + 1) * bytes ≤ (n + 1) * 100 := Nat.mul_le_mul_left _ hb
    omega
  · show base ≤ (w.alloc _).heap.size
    simp; omega
  · intro v' w' hown' hg hnil hat
    rcases hown'.2 with ⟨rfl, h0⟩ | ⟨g, cap, cur, rfl, r⟩
    · omega
    · refine h g cap w' hown' ⟨hg.os, hg.tape, hg.output, ?_, fun k hk hne => ?_⟩ (by simpa [Value.ownBlock] using hat)
      · have := hg.size
        simp at this
        omega
      · rw [hg.block k (by simp; omega) hne, heap_alloc_old _ _ hk]

/-- The place behind a letter. -/
def nextK (x : KSp) (i : Nat) : Nat := if flg x.q = 42 then i else i + 1

theorem next_any {B g cap n : Nat} {xs : List KSp} {w : World} (h : KsRow B w (.slice (some ⟨g, 0, none⟩) n cap) xs) (hn : n = xs.length) (hs : xs.length ≤ 1000) {i : Nat} {x : KSp} (hi : xs[i]? = some x) :
    Calls Try.prog 32 #[.slice (some ⟨g, 0, none⟩) n cap, .int .i64 (i : Int)] w fun e w' => e = .returned (.int .i64 ((nextK x i : Nat) : Int)) ∧ w' = w := by
  obtain ⟨_, _, c2⟩ := ks_cells h hn hi
  have hil := (List.getElem?_eq_some_iff.1 hi).1
  subst hn
  by_cases hq : flg x.q = 42
  · rw [hq] at c2
    have e : nextK x i = i := if_pos hq
    rw [e]
    go_enter Try.func32, Try.ntmps32
    go_wp2_with fail
    go_ret
    exact ⟨rfl, rfl⟩
  · have e : nextK x i = i + 1 := if_neg hq
    have eq : (flg x.q == 42) = false := by simpa using hq
    rw [e]
    go_enter Try.func32, Try.ntmps32
    go_wp2_with fail
    go_ret
    exact ⟨rfl, rfl⟩

theorem stepsK_length (xs : List KSp) : (stepsK xs).length ≤ xs.length * 2 := by
  induction xs with
  | nil => simp [stepsK]
  | cons x xs ih =>
    have : (step1 x).length ≤ 2 := by unfold step1; split <;> simp
    simp [stepsK] at ih ⊢
    omega

set_option maxRecDepth 100000 in
set_option maxHeartbeats 2000000 in
theorem steps_any {B : Nat} {v : Value} {xs : List KSp} {w : World} (h : KsRow B w v xs) (hx : xs.length ≤ 100) :
    Calls Try.prog 30 #[v] w fun e w' => ∃ r, e = .returned r ∧ Below w.heap.size w w' ∧ KsRow w.heap.size w' r (stepsK xs) := by
  rcases h.form with ⟨rfl, rfl⟩ | ⟨g, cap, rfl, hcap⟩
  · go_enter Try.func30, Try.ntmps30
    go_wp2_with fail
    go_loopw [3, 8] (fun s3 s8 wr => s3 = .slice none 0 0 ∧ s8 = .int .i64 0 ∧ wr = w) (fun _ s8 _ => 0)
    case atStart => exact ⟨rfl, rfl, rfl⟩
    case round =>
      obtain ⟨rfl, rfl, rfl⟩ := hrel
      go_wp2_with fail
      go_ret
      exact ⟨_, rfl, Below.refl _ _, by simpa [KsRow, stepsK] using World.ownsRow_nil _ _ _ _⟩
  · go_enter Try.func30, Try.ntmps30
    go_wp2_with fail
    go_loopw [3, 8] (fun s3 s8 wr => ∃ k : Nat, k ≤ xs.length ∧ s8 = .int .i64 (k : Int) ∧ Below w.heap.size w wr ∧ KsRow w.heap.size wr s3 (stepsK (xs.take k))) (fun _ s8 _ => xs.length - (intOf s8).toNat)
    case atStart => exact ⟨0, by omega, rfl, Below.refl _ _, by simpa [KsRow, stepsK] using World.ownsRow_nil _ _ _ _⟩
    case round =>
      obtain ⟨k, hk, rfl, hB, hown⟩ := hrel
      by_cases hlt : k < xs.length
      · have hi := List.getElem?_eq_getElem hlt
        have hkr : KsRow B wr (.slice (some ⟨g, 0, none⟩) xs.length cap) xs := h.keep ⟨hB.os, hB.tape, hB.output, hB.size, hB.block⟩
        obtain ⟨d0, d1, d2⟩ := ks_cells hkr rfl hi
        have HT : Hid _ := hid (stepsK_snoc xs k _ hi)
        generalize xs[k] = x at d0 d1 d2 HT
        have hlen := stepsK_length (xs.take k)
        rw [List.length_take] at hlen
        have hsz := hB.size
        have hrow3 : ∀ kk, u3.ownBlock = some kk → w.heap.size ≤ kk ∧ kk < wr.heap.size := fun kk h => hown.lt kk h
        have HR3 : Hid _ := hid hrow3
        unfold KsRow at hown
        generalize hL : stepsK (xs.take k) = L at hown hlen HT
        have HO : Hid _ := hid hown
        have hLn : L.length < 1000000000 := by omega
        clear hi hrow3 hown hkr hL
        by_cases hq : flg x.q = 43
        · have e1 : step1 x = [⟨x.k, 0⟩, ⟨x.k, 3⟩] := if_pos hq
          rw [e1] at HT
          rw [hq] at d2
          clear e1
          go_upto_region 8 with (at_builtin; refine wpList_push_at elem24 (HO.out.alloc _) rfl (sp_oneCell (kd x.k).1 (kd x.k).2 0) hLn (base_alloc hsz _) rfl rfl rfl (slice_alloc wr _) ?_; intro g3 cp3 w3 hown3 hg3 hat3)
          have hB3 : Below w.heap.size w w3 := one_add_alloc _ hB hg3 (fun kk h => (HR3.out kk h).1)
          have hne : u3.ownBlock ≠ some wr.heap.size := fun e => by have := (HR3.out _ e).2; omega
          have hblk : w3.heap[wr.heap.size]? = some (.cells #[.string ⟨(kd x.k).1.toArray⟩, .int .i64 (kd x.k).2, .int .u8 0] 43 (0, 0)) := by
            rw [hg3.block wr.heap.size (by simp) (fun e => hne e.symm)]
            exact heap_alloc_new wr _
          have b0 : w3.cell? ⟨wr.heap.size, 0, none⟩ = some (.string ⟨(kd x.k).1.toArray⟩) := by rw [cell_of_block hblk]; rfl
          have b1 : w3.cell? ⟨wr.heap.size, 1, none⟩ = some (.int .i64 (kd x.k).2) := by rw [cell_of_block hblk]; rfl
          have b2 : w3.cell? ⟨wr.heap.size, 2, none⟩ = some (.int .u8 0) := by rw [cell_of_block hblk]; rfl
          have bf : w3.frozen? ⟨wr.heap.size, 2, none⟩ = false := by simp [World.frozen?, hblk]
          have hg3lt := hown3.lt g3 rfl
          have hneg : g3 ≠ wr.heap.size := by
            rcases hat3 with h | h
            · have := (HR3.out g3 h.symm).2
              omega
            · simp at h
              omega
          have hsz3 := hB3.size
          have hownS : ∀ v', (w3.setCell ⟨wr.heap.size, 2, none⟩ v').ownsRow w.heap.size 43 3 (.slice (some ⟨g3, 0, none⟩) (L.length + 1) cp3) (L.length + 1) ((L.map KSp.sp).flatMap Sp.cs ++ (⟨(kd x.k).1, (kd x.k).2, 0⟩ : Sp).cs) := fun v' => hown3.kept (grown_setCell 2) (.inr (by simpa [Value.ownBlock] using hneg))
          have HS : Hid _ := hid hownS
          have HB3 : Hid _ := hid hB3
          have HG : Hid _ := hid hg3lt
          have hLn2 : L.length + 1 < 1000000000 := by omega
          clear hownS hown3 hg3 hblk hB3 d0 d1 d2 hat3 hne hneg
          go_wp2_with (at_builtin; refine wpList_push elem24 (HS.out _) rfl (sp_oneCell (kd x.k).1 (kd x.k).2 42) hLn2 (base_set (Nat.le_refl _) hsz3) rfl rfl rfl (slice_set w3 _ _) ?_; intro g4 cp4 w4 hown4 hg4)
          go_roundw
          case rel =>
            refine ⟨k + 1, by omega, by go_num, HB3.out.trans ((Below.refl _ _).setCell (p := ⟨wr.heap.size, 2, none⟩) (by exact hsz) _ |>.grown hg4 (by simp; omega) (by rintro kk ⟨⟩; exact HG.out.1)), ?_⟩
            rw [HT.out]
            unfold KsRow
            rw [List.length_append, List.map_append, List.flatMap_append]
            simp only [List.map_cons, List.map_nil, List.flatMap_cons, List.flatMap_nil, List.append_nil]
            rw [← List.append_assoc]
            exact hown4
          case measure => simp [intOf]; omega
        · have eq : (flg x.q == 43) = false := by simpa using hq
          have e1 : step1 x = [x] := if_neg hq
          rw [e1] at HT
          clear e1
          go_wp2_with (at_builtin; refine wpList_push elem24 (HO.out.alloc _) rfl (sp_oneCell (kd x.k).1 (kd x.k).2 (flg x.q)) hLn (base_alloc hsz _) rfl rfl rfl (slice_alloc wr _) ?_; intro g3 cp3 w3 hown3 hg3)
          go_roundw
          case rel =>
            refine ⟨k + 1, by omega, by go_num, one_add_alloc _ hB hg3 (fun kk h => (HR3.out kk h).1), ?_⟩
            rw [HT.out]
            unfold KsRow
            rw [List.length_append, List.map_append, List.flatMap_append]
            simp only [List.map_cons, List.map_nil, List.flatMap_cons, List.flatMap_nil, List.append_nil]
            exact hown3
          case measure => simp [intOf]; omega
      · obtain rfl : k = xs.length := by omega
        go_wp2_with fail
        go_ret
        rw [List.take_length] at hown
        exact ⟨_, rfl, hB, hown⟩

end Go.Proofs.Ythlhfdidlfdaiaa
