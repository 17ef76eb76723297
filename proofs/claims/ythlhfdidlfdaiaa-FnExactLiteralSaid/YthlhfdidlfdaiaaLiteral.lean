/- The contract of the specification's Literal. -/
import Derived.Test.YthlhfdidlfdaiaaFound
namespace Go.Proofs.Ythlhfdidlfdaiaa
open Go.RowKit

/-- The letter that a byte tells. -/
def litK (ds : List Nat) : List KSp := (ds.take 8).map fun d => ⟨d % 4, 0⟩
theorem litK_length (ds : List Nat) : (litK ds).length ≤ 8 := by
  unfold litK
  rw [List.length_map, List.length_take]
  omega
theorem litK_bare (ds : List Nat) : BareK (litK ds) := by
  intro x hx
  unfold litK at hx
  obtain ⟨d, _, rfl⟩ := List.mem_map.1 hx
  rfl

attribute [local irreducible] wpList wpQuiet Calls

set_option maxRecDepth 100000 in
set_option maxHeartbeats 4000000 in
theorem literal_ks {v : Value} {ds : List Nat} {w : World} (h : BytesIs w v ds) :
    Calls Try.prog 16 #[v] w fun e w' => ∃ r, e = .returned r ∧ Below w.heap.size w w' ∧ KsRow w.heap.size w' r (litK ds) := by
  obtain ⟨a, cap, rfl, hc, hlt⟩ := h
  go_enter Try.func16, Try.ntmps16
  go_wp2_with fail
  go_loopw [3, 4] (fun s3 s4 wr => ∃ k : Nat, s4 = .int .i64 (k : Int) ∧ k ≤ (litK ds).length ∧ Below w.heap.size w wr ∧ KsRow w.heap.size wr s3 ((litK ds).take k)) (fun _ s4 _ => ds.length - (intOf s4).toNat)
  case atStart =>
    exact ⟨0, rfl, by omega, Below.refl _ _, by simpa [KsRow] using World.ownsRow_nil _ _ _ _⟩
  case round =>
    obtain ⟨k, rfl, hk, hB, hown⟩ := hrel
    by_cases hlt2 : k < (litK ds).length
    · have hkl : k < ds.length ∧ k < 8 := by simp [litK] at hlt2; omega
      obtain ⟨h1, h2⟩ := hkl
      obtain ⟨x, rfl, hx⟩ := hc k ds[k] (List.getElem?_eq_getElem h1)
      have hx2 : wr.cell? (x.add k) = some (.int .u8 (ds[k] : Int)) := by
        rw [hB.cell (World.block_lt_of_cell? _ _ hx)]; exact hx
      have hxlt : (x.add k).block < wr.heap.size := World.block_lt_of_cell? _ _ hx2
      have hx3 : ∀ o, (wr.alloc o).cell? (x.add k) = some (.int .u8 (ds[k] : Int)) := fun o => by
        rw [((Below.refl wr.heap.size wr).alloc (Nat.le_refl _) o).cell (by exact hxlt)]; exact hx2
      have h2' : (k : Int) < 8 := by omega
      have h1' : (k : Int) < (ds.length : Int) := by omega
      go_upto_region 5 with fail
      have hd : ds[k] < 256 := hlt _ (List.getElem_mem h1)
      have htk : (litK ds).take (k + 1) = (litK ds).take k ++ [⟨ds[k] % 4, 0⟩] := by
        rw [List.take_add_one]
        congr 1
        simp [litK, h2, List.getElem?_eq_getElem h1]
      have HT : Hid _ := hid htk
      clear htk
      generalize ds[k] = d at hx hx2 hx3 hd HT
      obtain ⟨n4, hn4, e8, e8'⟩ : ∃ n4 : Nat, n4 < 4 ∧ (d : Int) % 4 = (n4 : Int) ∧ d % 4 = n4 := ⟨d % 4, by omega, by omega, rfl⟩
      obtain ⟨k0, k1, k2⟩ := kind_cell n4 (by omega)
      have hn4' : (n4 : Int) < 8 := by omega
      have e9 : (d : Int).tmod 4 = (n4 : Int) := by rw [Int.tmod_eq_emod_of_nonneg (by omega)]; exact e8
      rw [e8'] at HT
      clear e8' hc hx
      have hsz := hB.size
      have hkn : ((litK ds).take k).length < 1000000000 := by have := litK_length ds; rw [List.length_take]; omega
      have hlow : ∀ kk, u3.ownBlock = some kk → w.heap.size ≤ kk := fun kk h => (hown.lt kk h).1
      have HO : Hid _ := hid hown
      have HL : Hid _ := hid hlow
      clear hown hlow
      go_region_law (first
        | (refine step_push elem24 (World.ownsRow.alloc HO.out _) rfl (sp_oneCell (kd n4).1 (kd n4).2 0) hkn (base_alloc hsz _) rfl rfl rfl (slice_alloc wr _) ?_; intro g3 cp3 w3 hown3 hg3)
        | (go_simp; go_at_call 28; refine (kinds_any _).mono ?_; rintro e w2 ⟨rfl, rfl⟩))
      all_goals
        go_wp2_with fail
        go_roundw
        case rel =>
          have hlk : ((litK ds).take k).length = k := by rw [List.length_take]; omega
          refine ⟨k + 1, by go_num, by omega, hB.trans (((Below.refl _ _).alloc hsz _).grown hg3 (by simp; omega) HL.out), ?_⟩
          rw [HT.out]
          unfold KsRow
          rw [List.length_append, List.map_append, List.flatMap_append]
          simp only [List.map_cons, List.map_nil, List.flatMap_cons, List.flatMap_nil, List.append_nil, List.length_cons, List.length_nil, Nat.zero_add]
          rw [hlk] at hown3 ⊢
          exact hown3
        case measure => simp [intOf]; omega
    · have hkl := litK_length ds
      obtain rfl : k = (litK ds).length := by omega
      by_cases h6 : ((litK ds).length : Int) < (ds.length : Int)
      · have h8 : ¬ ((litK ds).length : Int) < 8 := by
          intro h
          have : (litK ds).length = min 8 ds.length := by simp [litK]
          omega
        go_wp2_with fail
        go_ret
        rw [List.take_length] at hown
        exact ⟨_, rfl, hB, hown⟩
      · go_wp2_with fail
        go_ret
        rw [List.take_length] at hown
        exact ⟨_, rfl, hB, hown⟩

end Go.Proofs.Ythlhfdidlfdaiaa
