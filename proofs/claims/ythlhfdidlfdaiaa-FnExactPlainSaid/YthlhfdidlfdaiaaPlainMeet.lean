/- The contract of the specification's PlainMeet. -/
import Derived.Test.YthlhfdidlfdaiaaKs
import Derived.Test.YthlhfdidlfdaiaaExact
namespace Go.Proofs.Ythlhfdidlfdaiaa
open Go.RowKit

/-- The letters of two kinds, as bits: what they have in common. -/
def andk (i j : Nat) : Int := (((kd i).2.toNat &&& (kd j).2.toNat : Nat) : Int)

theorem kd_lt (k : Nat) : ∃ j, j < 8 ∧ kd k = kd j ∧ kt k = kt j := by
  match k with
  | 0 => exact ⟨0, by decide, rfl, rfl⟩
  | 1 => exact ⟨1, by decide, rfl, rfl⟩
  | 2 => exact ⟨2, by decide, rfl, rfl⟩
  | 3 => exact ⟨3, by decide, rfl, rfl⟩
  | 4 => exact ⟨4, by decide, rfl, rfl⟩
  | 5 => exact ⟨5, by decide, rfl, rfl⟩
  | 6 => exact ⟨6, by decide, rfl, rfl⟩
  | n + 7 => exact ⟨7, by decide, rfl, rfl⟩

theorem andk_mt (i j : Nat) : (andk i j = 0) ↔ mt (kt i) (kt j) = false := by
  obtain ⟨i', hi, e1, e2⟩ := kd_lt i
  obtain ⟨j', hj, e3, e4⟩ := kd_lt j
  unfold andk
  rw [e1, e2, e3, e4]
  clear e1 e2 e3 e4
  have : ∀ i, i < 8 → ∀ j, j < 8 → ((((kd i).2.toNat &&& (kd j).2.toNat : Nat) : Int) = 0 ↔ mt (kt i) (kt j) = false) := by decide
  exact this i' hi j' hj

theorem bits_and (i j : Nat) : bits BinOp.and IntKind.i64 (kd i).2 (kd j).2 = andk i j := by
  obtain ⟨i', hi, e1, e2⟩ := kd_lt i
  obtain ⟨j', hj, e3, e4⟩ := kd_lt j
  unfold andk
  rw [e1, e3]
  clear e1 e2 e3 e4
  obtain rfl | rfl | rfl | rfl | rfl | rfl | rfl | rfl : i' = 0 ∨ i' = 1 ∨ i' = 2 ∨ i' = 3 ∨ i' = 4 ∨ i' = 5 ∨ i' = 6 ∨ i' = 7 := by omega
  all_goals
    obtain rfl | rfl | rfl | rfl | rfl | rfl | rfl | rfl : j' = 0 ∨ j' = 1 ∨ j' = 2 ∨ j' = 3 ∨ j' = 4 ∨ j' = 5 ∨ j' = 6 ∨ j' = 7 := by omega
    all_goals kernel_rfl

theorem bits_mt (i j : Nat) : (bits BinOp.and IntKind.i64 (kd i).2 (kd j).2 == 0) = !mt (kt i) (kt j) := by
  rw [bits_and]
  have := andk_mt i j
  cases h : mt (kt i) (kt j) with
  | false => simpa using this.2 h
  | true => simpa [h] using this

theorem ks_cells {B : Nat} {w : World} {g cap n : Nat} {xs : List KSp} (h : KsRow B w (.slice (some ⟨g, 0, none⟩) n cap) xs) (hn : n = xs.length) {i : Nat} {t : KSp} (hi : xs[i]? = some t) :
    w.cell? ⟨g, i * 3, none⟩ = some (.string ⟨(kd t.k).1.toArray⟩) ∧ w.cell? ⟨g, i * 3 + 1, none⟩ = some (.int .i64 (kd t.k).2) ∧ w.cell? ⟨g, i * 3 + 2, none⟩ = some (.int .u8 (flg t.q)) := by
  subst hn
  exact sp_cells (ts := xs.map KSp.sp) (t := t.sp) h (by rw [List.getElem?_map, hi]; rfl)

/-- PlainMeet's answer. -/
def pmk : List KSp → List KSp → Bool
  | [], [] => true
  | x :: xs, y :: ys => mt (kt x.k) (kt y.k) && pmk xs ys
  | _, _ => false

theorem pmk_all2 (xs ys : List KSp) : pmk xs ys = all2 (xs.map KSp.tok) (ys.map KSp.tok) := by
  induction xs generalizing ys with
  | nil => cases ys <;> rfl
  | cons x xs ih =>
    cases ys with
    | nil => rfl
    | cons y ys => simp only [pmk, List.map_cons, all2, ih ys]; rfl

theorem pmk_len (xs ys : List KSp) (h : xs.length ≠ ys.length) : pmk xs ys = false := by
  induction xs generalizing ys with
  | nil => cases ys with
    | nil => simp at h
    | cons y ys => rfl
  | cons x xs ih =>
    cases ys with
    | nil => rfl
    | cons y ys => simp only [pmk, ih ys (by simpa using h), Bool.and_false]

attribute [local irreducible] wpList wpQuiet

set_option maxRecDepth 100000 in
set_option maxHeartbeats 1000000 in
theorem plainMeet_any {B1 B2 : Nat} {v1 v2 : Value} {xs ys : List KSp} {w : World} (h1 : KsRow B1 w v1 xs) (h2 : KsRow B2 w v2 ys) (hx : xs.length ≤ 100) (_hy : ys.length ≤ 100) (hn1 : xs ≠ []) (hn2 : ys ≠ []) :
    Calls Try.prog 20 #[v1, v2] w (Ret w (.bool (pmk xs ys))) := by
  rcases h1.form with ⟨rfl, e⟩ | ⟨g1, c1, rfl, hc1⟩
  · exact absurd e hn1
  rcases h2.form with ⟨rfl, e⟩ | ⟨g2, c2, rfl, hc2⟩
  · exact absurd e hn2
  by_cases hl : (xs.length : Int) = (ys.length : Int)
  · have hl' : ys.length = xs.length := by omega
    have HL : Hid _ := hid hl'
    rw [hl'] at h2 hc2 ⊢
    clear hl' hl
    go_enter Try.func20, Try.ntmps20
    go_wp2_with fail
    go_loopw [13] (fun s13 wr => ∃ (k : Nat) (d : Ext w), k ≤ xs.length ∧ s13 = .int .i64 (k : Int) ∧ wr = d.u ∧ pmk xs ys = pmk (xs.drop k) (ys.drop k)) (fun s13 _ => xs.length - (intOf s13).toNat)
    case atStart => exact ⟨0, Ext.self w, by omega, rfl, rfl, rfl⟩
    case round =>
      obtain ⟨k, d, hk, rfl, rfl, he⟩ := hrel
      have HE : Hid _ := hid he
      clear he
      by_cases hlt : k < xs.length
      · have hlt2 : k < ys.length := by rw [HL.out]; exact hlt
        obtain ⟨_, a1, _⟩ := ks_cells h1 rfl (List.getElem?_eq_getElem hlt)
        obtain ⟨_, b1, _⟩ := ks_cells h2 HL.out.symm (List.getElem?_eq_getElem hlt2)
        have p1 : ∀ d : Ext w, d.u.cell? ⟨g1, k * 3 + 1, none⟩ = some (.int .i64 (kd xs[k].k).2) := fun d => d.cell a1
        have q1 : ∀ d : Ext w, d.u.cell? ⟨g2, k * 3 + 1, none⟩ = some (.int .i64 (kd ys[k].k).2) := fun d => d.cell b1
        have hm := bits_mt xs[k].k ys[k].k
        have hdr : pmk (xs.drop k) (ys.drop k) = (mt (kt xs[k].k) (kt ys[k].k) && pmk (xs.drop (k + 1)) (ys.drop (k + 1))) := by
          rw [List.drop_eq_getElem_cons hlt, List.drop_eq_getElem_cons hlt2]
          rfl
        have HD : Hid _ := hid hdr
        clear hdr a1 b1
        generalize xs[k] = x at p1 hm HD
        generalize ys[k] = y at q1 hm HD
        cases hmm : mt (kt x.k) (kt y.k) with
        | false =>
          rw [hmm] at hm
          simp only [Bool.not_false] at hm
          go_wp2_with (refine wp_region_ext _ rfl (by kernel_rfl) ?_; (repeat (go_big_quiet_step (fail))); refine wpQuiet_nil ?_; intro d2)
          go_ret
          rw [HE.out, HD.out, hmm]
          exact .mk _
        | true =>
          rw [hmm] at hm
          simp only [Bool.not_true] at hm
          go_wp2_with (refine wp_region_ext _ rfl (by kernel_rfl) ?_; (repeat (go_big_quiet_step (fail))); refine wpQuiet_nil ?_; intro d2)
          go_roundw
          case rel => exact ⟨k + 1, d2, by omega, by go_num, rfl, by rw [HE.out, HD.out, hmm]; simp⟩
          case measure => simp [intOf]; omega
      · obtain rfl : k = xs.length := by omega
        go_wp2_with fail
        go_ret
        rw [HE.out, List.drop_length, ← HL.out, List.drop_length]
        exact .mk _
  · go_enter Try.func20, Try.ntmps20
    go_wp2_with fail
    go_ret
    rw [pmk_len xs ys (by omega)]
    exact .mk (Ext.self w)

end Go.Proofs.Ythlhfdidlfdaiaa
