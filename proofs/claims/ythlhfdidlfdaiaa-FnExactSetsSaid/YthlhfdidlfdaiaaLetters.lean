/- The contracts of Letters, Common, SetsMeet and AnyMeets. -/
import Derived.Test.YthlhfdidlfdaiaaFrame
namespace Go.Proofs.Ythlhfdidlfdaiaa
open Go.RowKit

def letterOf (d : Nat) : Int := 97 + ((d % 12 : Nat) : Int)
/-- The letters that the bytes tell. -/
def lettersOf (ds : List Nat) : List Int := (97 + ((ds.length % 7 : Nat) : Int)) :: (ds.take 9).map letterOf

theorem letters_length (ds : List Nat) : (lettersOf ds).length ≤ 10 := by simp [lettersOf]; omega

attribute [local irreducible] wpList wpQuiet Calls

set_option maxRecDepth 100000 in
set_option maxHeartbeats 1000000 in
theorem letters_any {v : Value} {ds : List Nat} {w : World} (h : BytesIs w v ds) (hsmall : ds.length ≤ 2147483647) :
    Calls Try.prog 23 #[v] w fun e w' => ∃ g cap, e = .returned (.slice (some ⟨g, 0, none⟩) (lettersOf ds).length cap) ∧ Below w.heap.size w w' ∧ RunesIs w' g 0 cap (lettersOf ds) := by
  obtain ⟨a, cap, rfl, hc, hlt⟩ := h
  obtain ⟨n7, hn7, e7, e7'⟩ : ∃ n7 : Nat, n7 < 7 ∧ (ds.length : Int) % 7 = (n7 : Int) ∧ ds.length % 7 = n7 := ⟨ds.length % 7, by omega, by omega, rfl⟩
  have hown0 : (w.alloc (.cells #[.int .i32 (97 + (n7 : Int))] 21)).ownsRow w.heap.size 21 1 (.slice (some ⟨w.heap.size, 0, none⟩) 1 1) 1 [.int .i32 (97 + (n7 : Int))] := World.ownsRow_lit w #[.int .i32 (97 + (n7 : Int))] 1 (Nat.le_refl _) (by decide) rfl
  go_enter Try.func23, Try.ntmps23
  go_wp2_with fail
  have H7 : Hid _ := hid e7'
  clear e7 e7'
  go_loopw [3, 4] (fun s3 s4 wr => ∃ k g cp : Nat, s3 = .slice (some ⟨g, 0, none⟩) (k + 1) cp ∧ s4 = .int .i64 (k : Int) ∧ k + 1 ≤ (lettersOf ds).length ∧ Below w.heap.size w wr ∧ wr.ownsRow w.heap.size 21 1 (.slice (some ⟨g, 0, none⟩) (k + 1) cp) (k + 1) (((lettersOf ds).take (k + 1)).map (Value.int .i32))) (fun _ s4 _ => ds.length - (intOf s4).toNat)
  case atStart =>
    refine ⟨0, _, _, rfl, rfl, by simp [lettersOf], (Below.refl _ _).alloc (Nat.le_refl _) _, ?_⟩
    simpa [lettersOf, H7.out] using hown0
  case round =>
    clear hown0
    obtain ⟨k, g, cp, rfl, rfl, hk, hB, hown⟩ := hrel
    by_cases hlt2 : k + 1 < (lettersOf ds).length
    · have hkl : k < ds.length ∧ k < 9 := by simp [lettersOf] at hlt2; omega
      obtain ⟨h1, h2⟩ := hkl
      obtain ⟨x, rfl, hx⟩ := hc k ds[k] (List.getElem?_eq_getElem h1)
      have hx2 : wr.cell? (x.add k) = some (.int .u8 (ds[k] : Int)) := by
        rw [hB.cell (World.block_lt_of_cell? _ _ hx)]; exact hx
      have hd : ds[k] < 256 := hlt _ (List.getElem_mem h1)
      have htk : (lettersOf ds).take (k + 1 + 1) = (lettersOf ds).take (k + 1) ++ [letterOf ds[k]] := by
        rw [List.take_add_one]
        congr 1
        simp [lettersOf, h2, List.getElem?_eq_getElem h1]
      have HT : Hid _ := hid htk
      clear htk hc
      generalize ds[k] = d at hx hx2 hd HT
      obtain ⟨m, hm, em, em'⟩ : ∃ m : Nat, m < 12 ∧ (d : Int) % 12 = (m : Int) ∧ d % 12 = m := ⟨d % 12, by omega, by omega, rfl⟩
      have hlet : letterOf d = 97 + (m : Int) := by simp [letterOf, em']
      rw [hlet] at HT
      have hsz := hB.size
      have HO : Hid _ := hid hown
      have hrow3 : w.heap.size ≤ g := (hown.lt g rfl).1
      have hk6 : (k : Int) < 9 := by omega
      clear hown hlet em' hx
      go_wp2_with (at_builtin; refine wpList_push elem34 HO.out rfl (one_oneCell rfl) (Nat.lt_of_le_of_lt (Nat.le_of_lt_succ (Nat.succ_lt_succ h2)) (by decide)) hsz rfl rfl rfl rfl ?_; intro g3 cp3 w3 hown3 hg3)
      go_roundw
      case rel =>
        refine ⟨k + 1, g3, cp3, rfl, by go_num, by omega, hB.grown hg3 hsz (by rintro kk ⟨⟩; exact hrow3), ?_⟩
        rw [HT.out, List.map_append]
        exact hown3
      case measure => simp [intOf]; omega
    · have hk2 : ¬ (k < ds.length ∧ k < 9) := by simp [lettersOf] at hlt2; omega
      have hkn : k + 1 = (lettersOf ds).length := by omega
      by_cases h6 : k < ds.length
      · have h7 : ¬ ((k : Int) < 9) := by omega
        go_wp2_with fail
        go_ret
        rw [hkn, List.take_length] at hown
        have hr := (runes_of_row hown (by have := letters_length ds; omega)).2
        first
        | exact ⟨_, _, rfl, hB, hr⟩
        | exact ⟨_, _, by rw [← hkn]; rfl, hB, hr⟩
      · go_wp2_with fail
        go_ret
        rw [hkn, List.take_length] at hown
        have hr := (runes_of_row hown (by have := letters_length ds; omega)).2
        first
        | exact ⟨_, _, rfl, hB, hr⟩
        | exact ⟨_, _, by rw [← hkn]; rfl, hB, hr⟩

/-- Common's answer. -/
def commonB (xs ys : List Int) : Bool := xs.any fun x => ys.any fun y => x == y

set_option maxRecDepth 100000 in
set_option maxHeartbeats 1000000 in
theorem common_any {g1 c1 g2 c2 : Nat} {xs ys : List Int} {w : World} (h1 : RunesIs w g1 0 c1 xs) (h2 : RunesIs w g2 0 c2 ys) :
    Calls Try.prog 26 #[.slice (some ⟨g1, 0, none⟩) xs.length c1, .slice (some ⟨g2, 0, none⟩) ys.length c2] w fun e w' => e = .returned (.bool (commonB xs ys)) ∧ w' = w := by
  have hs1 := h1.small
  have hs2 := h2.small
  go_enter Try.func26, Try.ntmps26
  go_wp2_with fail
  go_loopw [11] (fun s wr => ∃ k : Nat, k ≤ xs.length ∧ s = .int .i64 (k : Int) ∧ wr = w ∧ commonB xs ys = commonB (xs.drop k) ys) (fun s _ => xs.length - (intOf s).toNat)
  case atStart => exact ⟨0, by omega, rfl, rfl, rfl⟩
  case round =>
    obtain ⟨k, hk, rfl, rfl, he⟩ := hrel
    have HE : Hid _ := hid he
    clear he
    by_cases hlt : k < xs.length
    · have hc := h1.rune k xs[k] (List.getElem?_eq_getElem hlt)
      have hdr : commonB (xs.drop k) ys = ((ys.any fun y => xs[k] == y) || commonB (xs.drop (k + 1)) ys) := by
        rw [List.drop_eq_getElem_cons hlt]
        rfl
      have HD : Hid _ := hid hdr
      clear hdr
      rw [Nat.zero_add] at hc
      generalize xs[k] = x at hc HD
      go_wp2_with fail
      go_loopw [17] (fun s wr' => ∃ j : Nat, j ≤ ys.length ∧ s = .int .i64 (j : Int) ∧ wr' = wr ∧ (ys.any fun y => x == y) = ((ys.drop j).any fun y => x == y)) (fun s _ => ys.length - (intOf s).toNat)
      case atStart => exact ⟨0, by omega, rfl, rfl, rfl⟩
      case round =>
        obtain ⟨j, hj, rfl, rfl, he⟩ := hrel
        have HE2 : Hid _ := hid he
        clear he
        by_cases hlt2 : j < ys.length
        · have hc2 := h2.rune j ys[j] (List.getElem?_eq_getElem hlt2)
          have hdr2 : ((ys.drop j).any fun y => x == y) = ((x == ys[j]) || (ys.drop (j + 1)).any fun y => x == y) := by
            rw [List.drop_eq_getElem_cons hlt2]
            rfl
          have HD2 : Hid _ := hid hdr2
          clear hdr2
          rw [Nat.zero_add] at hc2
          generalize ys[j] = y at hc2 HD2
          by_cases hxy : x = y
          · have exy : (x == y) = true := by simpa using hxy
            go_wp2_with fail
            go_ret
            refine ⟨?_, by trivial⟩
            rw [HE.out, HD.out, HE2.out, HD2.out, exy]
            simp
          · have exy : (x == y) = false := by simpa using hxy
            go_wp2_with fail
            go_roundw
            case rel => exact ⟨j + 1, by omega, by go_num, by trivial, by rw [HE2.out, HD2.out, exy]; simp⟩
            case measure => simp [intOf]; omega
        · obtain rfl : j = ys.length := by omega
          go_wp2_with fail
          go_roundw
          case rel =>
            refine ⟨k + 1, by omega, by go_num, by trivial, ?_⟩
            rw [HE.out, HD.out, HE2.out, List.drop_length]
            rfl
          case measure => simp [intOf]; omega
    · obtain rfl : k = xs.length := by omega
      go_wp2_with fail
      go_ret
      rw [HE.out, List.drop_length]
      exact ⟨rfl, by trivial⟩

end Go.Proofs.Ythlhfdidlfdaiaa
