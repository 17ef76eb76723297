/- The tokens of the specification: how they lie in memory; the contracts of kinds and Glob. -/
import Derived.Test.YthlhfdidlfdaiaaPush
import Derived.Deep.Cut
import Derived.Deep.CutRange
import Derived.Deep.RegionWith
namespace Go.Proofs.Ythlhfdidlfdaiaa
open Go.RowKit

/-- A token of the specification. -/
structure Sp where
  s : List UInt8
  m : Int
  g : Int
  deriving Inhabited, DecidableEq

def Sp.cs (t : Sp) : List Value := [.string ⟨t.s.toArray⟩, .int .i64 t.m, .int .u8 t.g]

/-- The kinds. -/
def kd : Nat → List UInt8 × Int
  | 0 => ([97], 1)
  | 1 => ([98], 2)
  | 2 => ([99], 4)
  | 3 => ([100], 8)
  | 4 => ([46], 31)
  | 5 => ([91, 97, 98, 93], 3)
  | 6 => ([91, 98, 45, 100, 93], 14)
  | _ => ([91, 97, 100, 93], 9)

def flg : Nat → Int
  | 2 => 43
  | 3 => 42
  | _ => 0

/-- What a byte tells. -/
def spOf (d : Nat) : Sp := ⟨(kd (d % 8)).1, (kd (d % 8)).2, flg (d / 8 % 4)⟩
def globOf (ds : List Nat) : List Sp := (ds.take 6).map spOf

/-- The bytes that came in. -/
def BytesIs (w : World) (v : Value) (ds : List Nat) : Prop :=
  ∃ a cap, v = .slice a ds.length cap ∧ (∀ (i d : Nat), ds[i]? = some d → ∃ x, a = some x ∧ w.cell? (x.add i) = some (.int .u8 (d : Int))) ∧ ∀ d ∈ ds, d < 256

def kindCells : List Value := (List.range 8).flatMap fun k => (⟨(kd k).1, (kd k).2, 0⟩ : Sp).cs

theorem kinds_any (w : World) : Calls Try.prog 28 #[] w fun e w' => e = .returned (.slice (some ⟨w.heap.size, 0, none⟩) 8 8) ∧ w' = w.alloc (.cells kindCells.toArray 43) := by
  go_enter Try.func28, Try.ntmps28
  go_wp2_with fail
  go_ret
  exact ⟨rfl, rfl⟩

theorem kind_cell (k : Nat) (hk : k < 8) : kindCells[k * 3]? = some (.string ⟨(kd k).1.toArray⟩) ∧ kindCells[k * 3 + 1]? = some (.int .i64 (kd k).2) ∧ kindCells[k * 3 + 2]? = some (.int .u8 0) := by
  obtain rfl | rfl | rfl | rfl | rfl | rfl | rfl | rfl : k = 0 ∨ k = 1 ∨ k = 2 ∨ k = 3 ∨ k = 4 ∨ k = 5 ∨ k = 6 ∨ k = 7 := by omega
  all_goals exact ⟨rfl, rfl, rfl⟩

theorem grown_setCell {w : World} {b : Nat} {v : Value} (o : Nat) : w.grownBy (w.setCell ⟨b, o, none⟩ v) (some b) :=
  ⟨rfl, rfl, rfl, by simp [World.setCell], fun k hk hne => by
    have : b ≠ k := fun e => hne (by rw [e])
    simp [World.setCell, Array.getElem?_modify, this]⟩
theorem base_set {w a b : World} {p : Addr} {v : Value} (h : w.heap.size ≤ a.heap.size) (k : a.heap.size ≤ b.heap.size) : w.heap.size ≤ (b.setCell p v).heap.size := by
  simp [World.setCell]
  omega
theorem slice_set (w : World) (p : Addr) (v : Value) : Value.slice (some ⟨w.heap.size, 0, none⟩) 1 1 = Value.slice (some ⟨(w.setCell p v).heap.size, 0, none⟩) 1 1 := by
  simp [World.setCell]
theorem sp_oneCell (s : List UInt8) (m g : Int) : ∀ u ∈ (⟨s, m, g⟩ : Sp).cs, u.oneCell' = true := by
  intro u hu
  simp [Sp.cs] at hu
  rcases hu with rfl | rfl | rfl <;> rfl
theorem two_below (w : World) (o o' : Obj) : Below w.heap.size w ((w.alloc o).alloc o') := ((Below.refl _ _).alloc (Nat.le_refl _) _).alloc (by simp) _
theorem two_new (w : World) (o o' : Obj) : ((w.alloc o).alloc o').heap[w.heap.size + 1]? = some o' := by
  have := heap_alloc_new (w.alloc o) o'
  simpa using this
theorem two_old (w : World) (o o' : Obj) : ((w.alloc o).alloc o').heap[w.heap.size]? = some o := by
  rw [heap_alloc_old (w.alloc o) o' (by simp)]
  exact heap_alloc_new w o

attribute [local irreducible] wpList wpQuiet

set_option maxRecDepth 100000 in
set_option maxHeartbeats 4000000 in
theorem glob_any {v : Value} {ds : List Nat} {w : World} (h : BytesIs w v ds) :
    Calls Try.prog 13 #[v] w fun e w' => ∃ r, e = .returned r ∧ Below w.heap.size w w' ∧ w'.ownsRow w.heap.size 43 3 r (globOf ds).length ((globOf ds).flatMap Sp.cs) := by
  obtain ⟨a, cap, rfl, hc, hlt⟩ := h
  go_enter Try.func13, Try.ntmps13
  go_wp2_with fail
  go_loopw [3, 4] (fun s3 s4 wr => ∃ k : Nat, s4 = .int .i64 (k : Int) ∧ k ≤ (globOf ds).length ∧ Below w.heap.size w wr ∧ wr.ownsRow w.heap.size 43 3 s3 k (((globOf ds).take k).flatMap Sp.cs)) (fun _ s4 _ => ds.length - (intOf s4).toNat)
  case atStart =>
    exact ⟨0, rfl, by omega, Below.refl _ _, by simpa using World.ownsRow_nil _ _ _ _⟩
  case round =>
    obtain ⟨k, rfl, hk, hB, hown⟩ := hrel
    by_cases hlt2 : k < (globOf ds).length
    · have hkl : k < ds.length ∧ k < 6 := by simp [globOf] at hlt2; omega
      obtain ⟨h1, h2⟩ := hkl
      obtain ⟨x, rfl, hx⟩ := hc k ds[k] (List.getElem?_eq_getElem h1)
      have hx2 : wr.cell? (x.add k) = some (.int .u8 (ds[k] : Int)) := by
        rw [hB.cell (World.block_lt_of_cell? _ _ hx)]; exact hx
      have hxlt : (x.add k).block < wr.heap.size := World.block_lt_of_cell? _ _ hx2
      have hx3 : ∀ o, (wr.alloc o).cell? (x.add k) = some (.int .u8 (ds[k] : Int)) := fun o => by
        rw [((Below.refl wr.heap.size wr).alloc (Nat.le_refl _) o).cell (by exact hxlt)]; exact hx2
      have hx4 : ∀ o o', ((wr.alloc o).alloc o').cell? (x.add k) = some (.int .u8 (ds[k] : Int)) := fun o o' => by
        rw [(((Below.refl wr.heap.size wr).alloc (Nat.le_refl _) o).alloc (by simp) o').cell (by exact hxlt)]; exact hx2
      go_upto_region 5 with fail
      have hd : ds[k] < 256 := hlt _ (List.getElem_mem h1)
      have htk : ((globOf ds).take (k + 1)).flatMap Sp.cs = ((globOf ds).take k).flatMap Sp.cs ++ (spOf ds[k]).cs := by
        rw [List.take_add_one, List.flatMap_append]
        congr 1
        simp [globOf, h2, List.getElem?_eq_getElem h1]
      have HT : Hid _ := hid htk
      clear htk
      generalize ds[k] = d at hx hx2 hx3 hx4 hd HT
      obtain ⟨n8, hn8, e8, e8'⟩ : ∃ n8 : Nat, n8 < 8 ∧ (d : Int) % 8 = (n8 : Int) ∧ d % 8 = n8 := ⟨d % 8, by omega, by omega, rfl⟩
      obtain ⟨q4, hq4, e4, e4'⟩ : ∃ q4 : Nat, q4 < 4 ∧ (d : Int) / 8 % 4 = (q4 : Int) ∧ d / 8 % 4 = q4 := ⟨d / 8 % 4, by omega, by omega, rfl⟩
      obtain ⟨k0, k1, k2⟩ := kind_cell n8 hn8
      have hn8' : (n8 : Int) < 8 := by omega
      have e9 : (d : Int).tmod 8 = (n8 : Int) := by rw [Int.tmod_eq_emod_of_nonneg (by omega)]; exact e8
      have hsp : spOf d = ⟨(kd n8).1, (kd n8).2, flg q4⟩ := by simp [spOf, e8', e4']
      rw [hsp] at HT
      clear e8' e4' hc hx hsp
      go_cut [5] from 6 to 39 (fun s5 wx => ∃ bP : Nat, s5 = .pointer (some ⟨bP, 0, none⟩) ∧ Below wr.heap.size wr wx ∧ wr.heap.size ≤ bP ∧ wx.heap[bP]? = some (.cells #[.string ⟨(kd n8).1.toArray⟩, .int .i64 (kd n8).2, .int .u8 0] 43 (0, 0)))
      case first =>
        clear hown hB hlt hlt2 hk HT hq4 e4
        go_region_with (go_at_call 28; refine (kinds_any _).mono ?_; rintro e w2 ⟨rfl, rfl⟩)
        all_goals
          go_wp2_with fail
          go_meet
          case rel =>
            first
            | exact ⟨wr.heap.size, rfl, (two_below _ _ _).drew, Nat.le_refl _, two_old _ _ _⟩
            | exact ⟨wr.heap.size + 1, rfl, (two_below _ _ _).drew, Nat.le_succ _, two_new _ _ _⟩
      case rest =>
        obtain ⟨bP, rfl, hBc, hbP, hcells⟩ := hcut
        have hxc : wc.cell? (x.add k) = some (.int .u8 (d : Int)) := by rw [hBc.cell hxlt]; exact hx2
        have c0 : wc.cell? ⟨bP, 0, none⟩ = some (.string ⟨(kd n8).1.toArray⟩) := by rw [cell_of_block hcells]; rfl
        have c1 : wc.cell? ⟨bP, 1, none⟩ = some (.int .i64 (kd n8).2) := by rw [cell_of_block hcells]; rfl
        have c2 : wc.cell? ⟨bP, 2, none⟩ = some (.int .u8 0) := by rw [cell_of_block hcells]; rfl
        have f2 : wc.frozen? ⟨bP, 2, none⟩ = false := by simp [World.frozen?, hcells]
        have hownc := owns_below hBc hown
        have hsz := hB.size
        have hszc := hBc.size
        have hne : u3.ownBlock ≠ some bP := fun e => by
          have := (hown.lt bP e).2
          omega
        have hownS : ∀ v', (wc.setCell ⟨bP, 2, none⟩ v').ownsRow w.heap.size 43 3 u3 k (((globOf ds).take k).flatMap Sp.cs) := fun v' => hownc.kept (grown_setCell 2) (.inr hne)
        have HO : Hid _ := hid hownc
        have HS : Hid _ := hid hownS
        have HB2 : Hid _ := hid hBc
        have hrow3 : ∀ kk, u3.ownBlock = some kk → w.heap.size ≤ kk := fun kk h => (hown.lt kk h).1
        have HR3 : Hid _ := hid hrow3
        clear hx2 hx3 hx4 hownc hBc hownS hown hrow3
        have hk6 : (k : Int) < 6 := by omega
        obtain rfl | rfl | ⟨hq2, hq3⟩ : q4 = 2 ∨ q4 = 3 ∨ (q4 ≠ 2 ∧ q4 ≠ 3) := by omega
        · go_wp2_with (at_builtin; refine wpList_push elem24 (HS.out _) rfl (sp_oneCell (kd n8).1 (kd n8).2 43) (Nat.lt_trans h2 (by decide)) (base_set hsz hszc) rfl rfl rfl (slice_set wc _ _) ?_; intro g3 cp3 w3 hown3 hg3)
          go_roundw
          case rel =>
            refine ⟨k + 1, by go_num, by omega, hB.trans ((HB2.out.mono hsz).trans ((Below.refl _ _).setCell (p := ⟨bP, 2, none⟩) (by exact Nat.le_trans hsz hbP) _ |>.grown hg3 (by simp; omega) HR3.out)), ?_⟩
            rw [HT.out]
            exact hown3
          case measure => simp [intOf]; omega
        · go_wp2_with (at_builtin; refine wpList_push elem24 (HS.out _) rfl (sp_oneCell (kd n8).1 (kd n8).2 42) (Nat.lt_trans h2 (by decide)) (base_set hsz hszc) rfl rfl rfl (slice_set wc _ _) ?_; intro g3 cp3 w3 hown3 hg3)
          go_roundw
          case rel =>
            refine ⟨k + 1, by go_num, by omega, hB.trans ((HB2.out.mono hsz).trans ((Below.refl _ _).setCell (p := ⟨bP, 2, none⟩) (by exact Nat.le_trans hsz hbP) _ |>.grown hg3 (by simp; omega) HR3.out)), ?_⟩
            rw [HT.out]
            exact hown3
          case measure => simp [intOf]; omega
        · have hq2' : ¬ ((q4 : Int) = 2) := by omega
          have hq3' : ¬ ((q4 : Int) = 3) := by omega
          have hfl : flg q4 = 0 := by
            obtain rfl | rfl : q4 = 0 ∨ q4 = 1 := by omega
            · rfl
            · rfl
          rw [hfl] at HT
          go_wp2_with (at_builtin; refine wpList_push elem24 HO.out rfl (sp_oneCell (kd n8).1 (kd n8).2 0) (Nat.lt_trans h2 (by decide)) (Nat.le_trans hsz hszc) rfl rfl rfl rfl ?_; intro g3 cp3 w3 hown3 hg3)
          go_roundw
          case rel =>
            refine ⟨k + 1, by go_num, by omega, hB.trans ((HB2.out.mono hsz).trans (grown_below hg3 (by omega) HR3.out)), ?_⟩
            rw [HT.out]
            exact hown3
          case measure => simp [intOf]; omega
    · have hk2 : ¬ (k < ds.length ∧ k < 6) := by simp [globOf] at hlt2; omega
      obtain rfl : k = (globOf ds).length := by omega
      by_cases h6 : (globOf ds).length < ds.length
      · have h7 : ¬ (((globOf ds).length : Int) < 6) := by omega
        go_wp2_with fail
        go_ret
        rw [List.take_length] at hown
        exact ⟨_, rfl, hB, hown⟩
      · go_wp2_with fail
        go_ret
        rw [List.take_length] at hown
        exact ⟨_, rfl, hB, hown⟩

end Go.Proofs.Ythlhfdidlfdaiaa
