/- The contracts of Signs and Escaped. -/
import Derived.Test.YthlhfdidlfdaiaaLetters
import Derived.Test.YthlhfdidlfdaiaaPlain
import Derived.Laws.Cover4
namespace Go.Proofs.Ythlhfdidlfdaiaa
open Go.RowKit

def sgn : Nat → UInt8
  | 0 => 97
  | 1 => 46
  | 2 => 42
  | 3 => 43
  | 4 => 91
  | 5 => 93
  | 6 => 92
  | _ => 98
def signsOf (ds : List Nat) : List UInt8 := (ds.take 8).map fun d => sgn (d % 8)

theorem signs_length (ds : List Nat) : (signsOf ds).length ≤ 8 := by simp [signsOf]; omega

attribute [local irreducible] wpList wpQuiet Calls

set_option maxRecDepth 100000 in
set_option maxHeartbeats 1000000 in
theorem signs_any {v : Value} {ds : List Nat} {w : World} (h : BytesIs w v ds) :
    Calls Try.prog 21 #[v] w fun e w' => ∃ r, e = .returned r ∧ Below w.heap.size w w' ∧ w'.ownsRow w.heap.size 21 1 r (signsOf ds).length ((ru (signsOf ds)).map (Value.int .i32)) := by
  obtain ⟨a, cap, rfl, hc, hlt⟩ := h
  go_enter Try.func21, Try.ntmps21
  go_wp2_with fail
  go_loopw [3, 4] (fun s3 s4 wr => ∃ k : Nat, s4 = .int .i64 (k : Int) ∧ k ≤ (signsOf ds).length ∧ Below w.heap.size w wr ∧ wr.ownsRow w.heap.size 21 1 s3 k ((ru ((signsOf ds).take k)).map (Value.int .i32))) (fun _ s4 _ => ds.length - (intOf s4).toNat)
  case atStart =>
    exact ⟨0, rfl, by omega, Below.refl _ _, by simpa [ru] using World.ownsRow_nil _ _ _ _⟩
  case round =>
    obtain ⟨k, rfl, hk, hB, hown⟩ := hrel
    by_cases hlt2 : k < (signsOf ds).length
    · have hkl : k < ds.length ∧ k < 8 := by simp [signsOf] at hlt2; omega
      obtain ⟨h1, h2⟩ := hkl
      obtain ⟨x, rfl, hx⟩ := hc k ds[k] (List.getElem?_eq_getElem h1)
      have hx2 : wr.cell? (x.add k) = some (.int .u8 (ds[k] : Int)) := by
        rw [hB.cell (World.block_lt_of_cell? _ _ hx)]; exact hx
      have hxlt : (x.add k).block < wr.heap.size := World.block_lt_of_cell? _ _ hx2
      have hx3 : ∀ o, (wr.alloc o).cell? (x.add k) = some (.int .u8 (ds[k] : Int)) := fun o => by
        rw [((Below.refl wr.heap.size wr).alloc (Nat.le_refl _) o).cell (by exact hxlt)]; exact hx2
      have hd : ds[k] < 256 := hlt _ (List.getElem_mem h1)
      have htk : (signsOf ds).take (k + 1) = (signsOf ds).take k ++ [sgn (ds[k] % 8)] := by
        rw [List.take_add_one]
        congr 1
        simp [signsOf, h2, List.getElem?_eq_getElem h1]
      have HT : Hid _ := hid htk
      clear htk hc
      generalize ds[k] = d at hx hx2 hx3 hd HT
      obtain ⟨m, hm, em, em'⟩ : ∃ m : Nat, m < 8 ∧ (d : Int) % 8 = (m : Int) ∧ d % 8 = m := ⟨d % 8, by omega, by omega, rfl⟩
      rw [em'] at HT
      have hsz := hB.size
      have hrow3 : ∀ kk, u3.ownBlock = some kk → w.heap.size ≤ kk := fun kk h => (hown.lt kk h).1
      have HR3 : Hid _ := hid hrow3
      have HO : Hid _ := hid hown
      have hk6 : (k : Int) < 8 := by omega
      clear hown em' hx hrow3
      obtain rfl | rfl | rfl | rfl | rfl | rfl | rfl | rfl : m = 0 ∨ m = 1 ∨ m = 2 ∨ m = 3 ∨ m = 4 ∨ m = 5 ∨ m = 6 ∨ m = 7 := by omega
      all_goals
        go_wp2_with (at_builtin; refine wpList_push elem34 (HO.out.alloc _) rfl (one_oneCell rfl) (Nat.lt_trans h2 (by decide)) (base_alloc hsz _) rfl rfl rfl (slice_alloc wr _) ?_; intro g3 cp3 w3 hown3 hg3)
        go_roundw
        case rel =>
          refine ⟨k + 1, by go_num, by omega, one_add_alloc _ hB hg3 HR3.out, ?_⟩
          rw [HT.out]
          simpa [ru, sgn] using hown3
        case measure => simp [intOf]; omega
    · have hk2 : ¬ (k < ds.length ∧ k < 8) := by simp [signsOf] at hlt2; omega
      obtain rfl : k = (signsOf ds).length := by omega
      by_cases h6 : (signsOf ds).length < ds.length
      · have h7 : ¬ (((signsOf ds).length : Int) < 8) := by omega
        go_wp2_with fail
        go_ret
        rw [List.take_length] at hown
        exact ⟨_, rfl, hB, hown⟩
      · go_wp2_with fail
        go_ret
        rw [List.take_length] at hown
        exact ⟨_, rfl, hB, hown⟩

end Go.Proofs.Ythlhfdidlfdaiaa
