/- The contract of skips of the specification. -/
import Derived.Test.YthlhfdidlfdaiaaSteps
import Derived.Test.YthlhfdidlfdaiaaWPlain
import Derived.Deep.CutRange
import Derived.Deep.Onto
namespace Go.Proofs.Ythlhfdidlfdaiaa
open Go.RowKit

def Pl.cs (p : Pl) : List Value := [.int .i64 (p.i : Int), .int .i64 (p.k : Int), .bool p.s]
/-- A row of places. -/
def PlRow (B : Nat) (w : World) (v : Value) (ps : List Pl) : Prop := w.ownsRow B 50 3 v ps.length (ps.flatMap Pl.cs)
theorem PlRow.keep {B : Nat} {w w' : World} {v : Value} {ps : List Pl} (h : PlRow B w v ps) (hB : Below w.heap.size w w') : PlRow B w' v ps := owns_below hB h

/-- Is there a starred token at place i? -/
def starAt (l : List KSp) (i : Nat) : Bool := match l[i]? with | some x => flg x.q == 42 | none => false

/-- The places to which one comes without a letter. -/
def skipsK (a b : List KSp) (p : Pl) : List Pl := (if starAt a p.i then [⟨p.i + 1, p.k, p.s⟩] else []) ++ (if starAt b p.k then [⟨p.i, p.k + 1, p.s⟩] else [])

theorem pl_oneCell (p : Pl) : ∀ u ∈ p.cs, u.oneCell' = true := by
  intro u hu
  simp [Pl.cs] at hu
  rcases hu with rfl | rfl | rfl <;> rfl

/-- What the test at place i sees. -/
theorem star_cases {B : Nat} {w : World} {v : Value} {a : List KSp} (h : KsRow B w v a) (i : Nat) :
    (¬ i < a.length ∧ starAt a i = false ∧ ∃ s c, v = .slice s a.length c) ∨
    ∃ g c q, v = .slice (some ⟨g, 0, none⟩) a.length c ∧ i < a.length ∧ w.cell? ⟨g, i * 3 + 2, none⟩ = some (.int .u8 q) ∧ starAt a i = (q == 42) := by
  by_cases hi : i < a.length
  · right
    rcases h.form with ⟨rfl, rfl⟩ | ⟨g, c, rfl, _⟩
    · simp at hi
    · obtain ⟨_, _, c2⟩ := ks_cells h rfl (List.getElem?_eq_getElem hi)
      exact ⟨g, c, _, rfl, hi, c2, by simp [starAt, List.getElem?_eq_getElem hi]⟩
  · left
    refine ⟨hi, ?_, h.form2⟩
    have : a[i]? = none := List.getElem?_eq_none_iff.2 (by omega)
    simp [starAt, this]

attribute [local irreducible] wpList wpQuiet Calls

set_option maxRecDepth 100000 in
set_option maxHeartbeats 4000000 in
theorem skips_any {B1 B2 : Nat} {v1 v2 : Value} {a b : List KSp} {w : World} (h1 : KsRow B1 w v1 a) (h2 : KsRow B2 w v2 b) (p : Pl) (hi : p.i ≤ 1000) (hk : p.k ≤ 1000) :
    Calls Try.prog 31 #[v1, v2, p.val] w fun e w' => ∃ r, e = .returned r ∧ Below w.heap.size w w' ∧ PlRow w.heap.size w' r (skipsK a b p) := by
  obtain ⟨i, k, s⟩ := p
  simp only [Pl.val] at *
  obtain ⟨wb, hwb⟩ : ∃ wb, wb = w.alloc (.cells #[.int .i64 (i : Int), .int .i64 (k : Int), .bool s] 50) := ⟨_, rfl⟩
  have hBb : Below w.heap.size w wb := by rw [hwb]; exact (Below.refl _ _).alloc (Nat.le_refl _) _
  have hszb : wb.heap.size = w.heap.size + 1 := by rw [hwb]; simp
  have hbox : wb.heap[w.heap.size]? = some (.cells #[.int .i64 (i : Int), .int .i64 (k : Int), .bool s] 50 (0, 0)) := by rw [hwb]; exact heap_alloc_new _ _
  have h1b := h1.keep hBb
  have h2b := h2.keep hBb
  have p0 : ∀ d : Ext wb, d.u.cell? ⟨w.heap.size, 0, none⟩ = some (.int .i64 (i : Int)) := fun d => d.cell (by rw [cell_of_block hbox]; rfl)
  have p1 : ∀ d : Ext wb, d.u.cell? ⟨w.heap.size, 1, none⟩ = some (.int .i64 (k : Int)) := fun d => d.cell (by rw [cell_of_block hbox]; rfl)
  have p2 : ∀ d : Ext wb, d.u.cell? ⟨w.heap.size, 2, none⟩ = some (.bool s) := fun d => d.cell (by rw [cell_of_block hbox]; rfl)
  have HW : Hid _ := hid hwb
  have HS : Hid _ := hid hszb
  generalize hA : (if starAt a i then [(⟨i + 1, k, s⟩ : Pl)] else []) = A
  have HA : Hid _ := hid hA
  clear hwb hbox h1 h2 hA hszb
  go_enter Try.func31, Try.ntmps31
  go_upto_region 2 with fail
  rw [← HW.out]
  obtain ⟨d1, hd1⟩ : ∃ d1 : Ext wb, d1.u = wb := ⟨Ext.self wb, rfl⟩
  rw [← hd1]
  clear HW hd1
  have hwd : Below w.heap.size w d1.u := hBb.trans (d1.ok.mono hBb.size)
  go_cut [21] from 8 to 58 (fun s21 wx => s21 = .bool (starAt a i) ∧ ∃ d : Ext wb, wx = d.u)
  case first =>
    rcases star_cases h1b i with ⟨hia, ea, s1, c1, rfl⟩ | ⟨g1, c1, q1, rfl, hia, ca, ea⟩
    · have hia' : ¬ (i : Int) < (a.length : Int) := by omega
      go_wp2_with fail
      go_meet
      case rel => exact ⟨by rw [ea], d1, rfl⟩
    · have hia' : (i : Int) < (a.length : Int) := by omega
      have ca' : ∀ d : Ext wb, d.u.cell? ⟨g1, i * 3 + 2, none⟩ = some (.int .u8 q1) := fun d => d.cell ca
      go_wp2_with fail
      go_meet
      case rel => exact ⟨by rw [ea], d1, rfl⟩
  case rest =>
    clear hwd
    obtain ⟨rfl, d2, rfl⟩ := hcut
    cases hsa : starAt a i
    · obtain ⟨d3, hd3⟩ : ∃ d3 : Ext wb, d3 = d2 := ⟨_, rfl⟩
      rw [← hd3]
      clear hd3
      have hown7 : d3.u.ownsRow wb.heap.size 50 3 (.slice none 0 0) 0 [] := World.ownsRow_nil _ _ _ _
      go_upto_region 4 with fail
      have p0' : ∀ d : Ext d3.u, d.u.cell? ⟨w.heap.size, 0, none⟩ = some (.int .i64 (i : Int)) := fun d => p0 (d3.on d.ok)
      have p1' : ∀ d : Ext d3.u, d.u.cell? ⟨w.heap.size, 1, none⟩ = some (.int .i64 (k : Int)) := fun d => p1 (d3.on d.ok)
      have p2' : ∀ d : Ext d3.u, d.u.cell? ⟨w.heap.size, 2, none⟩ = some (.bool s) := fun d => p2 (d3.on d.ok)
      have h2d := h2b.keep d3.ok
      obtain ⟨d4, hd4⟩ : ∃ d4 : Ext d3.u, d4.u = d3.u := ⟨Ext.self d3.u, rfl⟩
      rw [← hd4]
      clear hd4
      go_cut [46] from 22 to 58 (fun s46 wx => s46 = .bool (starAt b k) ∧ ∃ d : Ext d3.u, wx = d.u)
      case first =>
        rcases star_cases h2d k with ⟨hkb, eb, s2, c2, rfl⟩ | ⟨g2, c2, q2, rfl, hkb, cb, eb⟩
        · have hkb' : ¬ (k : Int) < (b.length : Int) := by omega
          go_wp2_with fail
          go_meet
          case rel => exact ⟨by rw [eb], d4, rfl⟩
        · have hkb' : (k : Int) < (b.length : Int) := by omega
          have cb' : ∀ d : Ext d3.u, d.u.cell? ⟨g2, k * 3 + 2, none⟩ = some (.int .u8 q2) := fun d => d.cell cb
          go_wp2_with fail
          go_meet
          case rel => exact ⟨by rw [eb], d4, rfl⟩
      case rest =>
        obtain ⟨rfl, d5, rfl⟩ := hcut
        have hB5 : Below w.heap.size w d5.u := hBb.trans ((d3.ok.trans (d5.ok.mono d3.size)).mono hBb.size)
        have hszw : w.heap.size ≤ wb.heap.size := hBb.size
        have hown5 := owns_below d5.ok hown7
        have hlow : ∀ kk, (Value.slice none 0 0).ownBlock = some kk → wb.heap.size ≤ kk := fun kk h => (hown5.lt kk h).1
        have HL : Hid _ := hid hlow
        have HO : Hid _ := hid hown5
        have HB5 : Hid _ := hid hB5
        have hsz5 : wb.heap.size ≤ d5.u.heap.size := Nat.le_trans d3.size d5.size
        clear hown7 hown5 hlow hB5 h2d
        cases hsb : starAt b k
        · go_wp2_with fail
          go_ret
          refine ⟨_, rfl, HB5.out, ?_⟩
          have e : skipsK a b ⟨i, k, s⟩ = [] := by simp [skipsK, hsa, hsb]
          rw [e]
          exact World.ownsRow.mono HO.out hszw
        · go_wp2_with (at_builtin; refine wpList_push elem51 HO.out rfl (pl_oneCell ⟨i, k + 1, s⟩) (by decide) hsz5 rfl rfl rfl rfl ?_; intro g6 cp6 w6 hown6 hg6)
          go_ret
          refine ⟨_, rfl, HB5.out.grown hg6 (Nat.le_trans hszw hsz5) (fun kk h => Nat.le_trans hszw (HL.out kk h)), ?_⟩
          have e : skipsK a b ⟨i, k, s⟩ = [⟨i, k + 1, s⟩] := by simp [skipsK, hsa, hsb]
          rw [e]
          exact World.ownsRow.mono hown6 hszw
    · go_upto_region 4 with (at_builtin; refine wpList_push elem51 (World.ownsRow_nil d2.u wb.heap.size 50 3) rfl (pl_oneCell ⟨i + 1, k, s⟩) (by decide) d2.size rfl rfl rfl rfl ?_; intro g3 cp3 w3 hown3 hg3)
      obtain ⟨d3, rfl⟩ : ∃ d3 : Ext wb, d3.u = w3 := ⟨⟨w3, d2.ok.grown hg3 d2.size (by rintro k ⟨⟩)⟩, rfl⟩
      have hown7 : d3.u.ownsRow wb.heap.size 50 3 (.slice (some ⟨g3, 0, none⟩) 1 cp3) 1 (Pl.cs ⟨i + 1, k, s⟩) := hown3
      clear hown3 hg3
      have p0' : ∀ d : Ext d3.u, d.u.cell? ⟨w.heap.size, 0, none⟩ = some (.int .i64 (i : Int)) := fun d => p0 (d3.on d.ok)
      have p1' : ∀ d : Ext d3.u, d.u.cell? ⟨w.heap.size, 1, none⟩ = some (.int .i64 (k : Int)) := fun d => p1 (d3.on d.ok)
      have p2' : ∀ d : Ext d3.u, d.u.cell? ⟨w.heap.size, 2, none⟩ = some (.bool s) := fun d => p2 (d3.on d.ok)
      have h2d := h2b.keep d3.ok
      obtain ⟨d4, hd4⟩ : ∃ d4 : Ext d3.u, d4.u = d3.u := ⟨Ext.self d3.u, rfl⟩
      rw [← hd4]
      clear hd4
      go_cut [46] from 22 to 58 (fun s46 wx => s46 = .bool (starAt b k) ∧ ∃ d : Ext d3.u, wx = d.u)
      case first =>
        rcases star_cases h2d k with ⟨hkb, eb, s2, c2, rfl⟩ | ⟨g2, c2, q2, rfl, hkb, cb, eb⟩
        · have hkb' : ¬ (k : Int) < (b.length : Int) := by omega
          go_wp2_with fail
          go_meet
          case rel => exact ⟨by rw [eb], d4, rfl⟩
        · have hkb' : (k : Int) < (b.length : Int) := by omega
          have cb' : ∀ d : Ext d3.u, d.u.cell? ⟨g2, k * 3 + 2, none⟩ = some (.int .u8 q2) := fun d => d.cell cb
          go_wp2_with fail
          go_meet
          case rel => exact ⟨by rw [eb], d4, rfl⟩
      case rest =>
        obtain ⟨rfl, d5, rfl⟩ := hcut
        have hB5 : Below w.heap.size w d5.u := hBb.trans ((d3.ok.trans (d5.ok.mono d3.size)).mono hBb.size)
        have hszw : w.heap.size ≤ wb.heap.size := hBb.size
        have hown5 := owns_below d5.ok hown7
        have hlow : ∀ kk, (Value.slice (some ⟨g3, 0, none⟩) 1 cp3).ownBlock = some kk → wb.heap.size ≤ kk := fun kk h => (hown5.lt kk h).1
        have HL : Hid _ := hid hlow
        have HO : Hid _ := hid hown5
        have HB5 : Hid _ := hid hB5
        have hsz5 : wb.heap.size ≤ d5.u.heap.size := Nat.le_trans d3.size d5.size
        clear hown7 hown5 hlow hB5 h2d
        cases hsb : starAt b k
        · go_wp2_with fail
          go_ret
          refine ⟨_, rfl, HB5.out, ?_⟩
          have e : skipsK a b ⟨i, k, s⟩ = [⟨i + 1, k, s⟩] := by simp [skipsK, hsa, hsb]
          rw [e]
          exact World.ownsRow.mono HO.out hszw
        · go_wp2_with (at_builtin; refine wpList_push elem51 HO.out rfl (pl_oneCell ⟨i, k + 1, s⟩) (by decide) hsz5 rfl rfl rfl rfl ?_; intro g6 cp6 w6 hown6 hg6)
          go_ret
          refine ⟨_, rfl, HB5.out.grown hg6 (Nat.le_trans hszw hsz5) (fun kk h => Nat.le_trans hszw (HL.out kk h)), ?_⟩
          have e : skipsK a b ⟨i, k, s⟩ = [⟨i + 1, k, s⟩] ++ [⟨i, k + 1, s⟩] := by simp [skipsK, hsa, hsb]
          rw [e]
          exact World.ownsRow.mono hown6 hszw

end Go.Proofs.Ythlhfdidlfdaiaa
