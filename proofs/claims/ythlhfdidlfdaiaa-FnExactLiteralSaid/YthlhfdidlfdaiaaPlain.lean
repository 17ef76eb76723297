/- The contract of the specification's Plain. -/
import Derived.Test.YthlhfdidlfdaiaaText
namespace Go.Proofs.Ythlhfdidlfdaiaa
open Go.RowKit

def Sp.bare (t : Sp) : Sp := ⟨t.s, t.m, 0⟩

attribute [local irreducible] wpList wpQuiet

theorem map_snoc {β : Type} (f : Sp → β) (ts : List Sp) (k : Nat) (t : Sp) (h : ts[k]? = some t) : (ts.take (k + 1)).map f = (ts.take k).map f ++ [f t] := by
  rw [List.take_add_one, h]
  simp

theorem base_alloc {n : Nat} {w : World} (h : n ≤ w.heap.size) (o : Obj) : n ≤ (w.alloc o).heap.size := by
  simp
  omega
theorem slice_alloc (w : World) (o : Obj) : Value.slice (some ⟨w.heap.size + 1, 0, none⟩) 1 1 = Value.slice (some ⟨(w.alloc o).heap.size, 0, none⟩) 1 1 := by simp
theorem one_add_alloc {w wr w' : World} (o : Obj) (h : Below w.heap.size w wr) {row : Option Nat} (hg : (wr.alloc o).grownBy w' row) (hr : ∀ k, row = some k → w.heap.size ≤ k) : Below w.heap.size w w' :=
  h.trans (((Below.refl _ _).alloc h.size o).grown hg (by have := h.size; simp; omega) hr)

set_option maxHeartbeats 1000000 in
theorem plain_any {B n : Nat} {v : Value} {ts : List Sp} {w : World} (h : w.ownsRow B 43 3 v n (ts.flatMap Sp.cs)) (hn : n = ts.length) (hs : ts.length ≤ 100) :
    Calls Try.prog 19 #[v] w fun e w' => ∃ r, e = .returned r ∧ Below w.heap.size w w' ∧ w'.ownsRow w.heap.size 43 3 r ts.length ((ts.map Sp.bare).flatMap Sp.cs) := by
  subst hn
  rcases sp_form h rfl with ⟨rfl, rfl⟩ | ⟨g, cap, rfl, hcap, hBg, hgw⟩
  · go_enter Try.func19, Try.ntmps19
    go_wp2_with fail
    go_loopw [3, 8] (fun s3 s8 wr => s3 = .slice none 0 0 ∧ s8 = .int .i64 0 ∧ Below w.heap.size w wr) (fun _ s8 _ => 0)
    case atStart => exact ⟨rfl, rfl, Below.refl _ _⟩
    case round =>
      obtain ⟨rfl, rfl, hB⟩ := hrel
      go_wp2_with fail
      go_ret
      exact ⟨_, rfl, hB, by simpa using World.ownsRow_nil _ _ _ _⟩
  · go_enter Try.func19, Try.ntmps19
    go_wp2_with fail
    go_loopw [3, 8] (fun s3 s8 wr => ∃ k : Nat, k ≤ ts.length ∧ s8 = .int .i64 (k : Int) ∧ Below w.heap.size w wr ∧ wr.ownsRow w.heap.size 43 3 s3 k (((ts.take k).map Sp.bare).flatMap Sp.cs)) (fun _ s8 _ => ts.length - (intOf s8).toNat)
    case atStart => exact ⟨0, by omega, rfl, Below.refl _ _, by simpa using World.ownsRow_nil _ _ _ _⟩
    case round =>
      obtain ⟨k, hk, rfl, hB, hown⟩ := hrel
      by_cases hlt : k < ts.length
      · have hi := List.getElem?_eq_getElem hlt
        obtain ⟨c0, c1, c2⟩ := sp_cells h hi
        have d0 : wr.cell? ⟨g, k * 3, none⟩ = some (.string ⟨ts[k].s.toArray⟩) := by rw [hB.cell hgw]; exact c0
        have d1 : wr.cell? ⟨g, k * 3 + 1, none⟩ = some (.int .i64 ts[k].m) := by rw [hB.cell hgw]; exact c1
        have d2 : wr.cell? ⟨g, k * 3 + 2, none⟩ = some (.int .u8 ts[k].g) := by rw [hB.cell hgw]; exact c2
        have HT : Hid _ := hid (map_snoc Sp.bare ts k _ hi)
        generalize ts[k] = t at d0 d1 d2 HT
        obtain ⟨s, m, fl⟩ := t
        simp only [Sp.bare] at d0 d1 d2 HT
        have hsz := hB.size
        have hrow3 : ∀ kk, u3.ownBlock = some kk → w.heap.size ≤ kk := fun kk h => (hown.lt kk h).1
        have HR3 : Hid _ := hid hrow3
        have HO : Hid _ := hid hown
        clear c0 c1 c2 hi hrow3 hown
        go_wp2_with (at_builtin; refine wpList_push elem24 (HO.out.alloc _) rfl (sp_oneCell s m 0) (Nat.lt_of_lt_of_le hlt (Nat.le_trans hs (by decide))) (base_alloc hsz _) rfl rfl rfl (slice_alloc wr _) ?_; intro g3 cp3 w3 hown3 hg3)
        go_roundw
        case rel =>
          refine ⟨k + 1, by omega, by go_num, one_add_alloc _ hB hg3 HR3.out, ?_⟩
          rw [HT.out, List.flatMap_append, List.flatMap_cons, List.flatMap_nil, List.append_nil]
          exact hown3
        case measure => simp [intOf]; omega
      · obtain rfl : k = ts.length := by omega
        go_wp2_with fail
        go_ret
        rw [List.take_length] at hown
        exact ⟨_, rfl, hB, hown⟩

end Go.Proofs.Ythlhfdidlfdaiaa
