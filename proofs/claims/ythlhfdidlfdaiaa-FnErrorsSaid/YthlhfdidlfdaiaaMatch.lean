/- The contract of Match. -/
import Derived.Test.YthlhfdidlfdaiaaTok
namespace Go.Proofs.Ythlhfdidlfdaiaa
open Go.RowKit
attribute [local irreducible] wpList wpQuiet

theorem mcd_any (x y : Value) (w : World) : Calls Try.prog 42 #[x, y] w fun e w' => e = .returned (.bool true) ∧ Below w.heap.size w w' := by
  go_enter Try.func42, Try.ntmps42
  go_wp2
  go_ret
  exact ⟨rfl, Below.refl _ _⟩
theorem mdd_any (x y : Value) (w : World) : Calls Try.prog 44 #[x, y] w fun e w' => e = .returned (.bool true) ∧ Below w.heap.size w w' := by
  go_enter Try.func44, Try.ntmps44
  go_wp2
  go_ret
  exact ⟨rfl, Below.refl _ _⟩
theorem mds_any (x y : Value) (w : World) : Calls Try.prog 45 #[x, y] w fun e w' => e = .returned (.bool true) ∧ Below w.heap.size w w' := by
  go_enter Try.func45, Try.ntmps45
  go_wp2
  go_ret
  exact ⟨rfl, Below.refl _ _⟩

theorem mcc_any {w0 : World} (b1 b2 : Nat) (f1 f2 r1 r2 : Int) (c1 : CellsAt w0 b1 f1 (.chr r1)) (c2 : CellsAt w0 b2 f2 (.chr r2)) (d : Ext w0) :
    Calls Try.prog 41 #[.pointer (some ⟨b1, 0, none⟩), .pointer (some ⟨b2, 0, none⟩)] d.u (Ret w0 (.bool (r1 == r2))) := by
  have p0 : ∀ d : Ext w0, d.u.cell? ⟨b1, 0, none⟩ = some (.int .u64 0) := fun d => d.cell c1.c0
  have p1 : ∀ d : Ext w0, d.u.cell? ⟨b1, 1, none⟩ = some (.int .u64 f1) := fun d => d.cell c1.c1
  have p2 : ∀ d : Ext w0, d.u.cell? ⟨b1, 2, none⟩ = some (.int .i32 r1) := fun d => d.cell (by rw [cell_of_block c1]; rfl)
  have q0 : ∀ d : Ext w0, d.u.cell? ⟨b2, 0, none⟩ = some (.int .u64 0) := fun d => d.cell c2.c0
  have q1 : ∀ d : Ext w0, d.u.cell? ⟨b2, 1, none⟩ = some (.int .u64 f2) := fun d => d.cell c2.c1
  have q2 : ∀ d : Ext w0, d.u.cell? ⟨b2, 2, none⟩ = some (.int .i32 r2) := fun d => d.cell (by rw [cell_of_block c2]; rfl)
  go_enter Try.func41, Try.ntmps41
  go_wp2_with fail
  refine wp_region_ext d rfl (by kernel_rfl) ?_
  repeat (first | (refine wpQuiet_call (fun d => calls_ret (crune_any _ _ _ _)) rfl rfl rfl Try.call50 ?_; simp only [Act.put, List.setIfInBounds_toArray, List.set_cons_zero, List.set_cons_succ]) | go_big_quiet_step (fail))
  refine wpQuiet_nil ?_
  intro d'
  go_wp2
  go_ret
  exact .mk d'

theorem mcs_any {w0 : World} (b1 b2 : Nat) (f1 f2 r1 : Int) (ks : List Int) (c1 : CellsAt w0 b1 f1 (.chr r1)) (c2 : CellsAt w0 b2 f2 (.set ks)) (d : Ext w0) :
    Calls Try.prog 43 #[.pointer (some ⟨b1, 0, none⟩), .pointer (some ⟨b2, 0, none⟩)] d.u (Ret w0 (.bool (decide (r1 ∈ ks)))) := by
  have p0 : ∀ d : Ext w0, d.u.cell? ⟨b1, 0, none⟩ = some (.int .u64 0) := fun d => d.cell c1.c0
  have p1 : ∀ d : Ext w0, d.u.cell? ⟨b1, 1, none⟩ = some (.int .u64 f1) := fun d => d.cell c1.c1
  have p2 : ∀ d : Ext w0, d.u.cell? ⟨b1, 2, none⟩ = some (.int .i32 r1) := fun d => d.cell (by rw [cell_of_block c1]; rfl)
  have q0 : ∀ d : Ext w0, d.u.cell? ⟨b2, 0, none⟩ = some (.int .u64 2) := fun d => d.cell c2.c0
  have q1 : ∀ d : Ext w0, d.u.cell? ⟨b2, 1, none⟩ = some (.int .u64 f2) := fun d => d.cell c2.c1
  obtain ⟨m, c2, hm⟩ := c2
  have q2 : ∀ d : Ext w0, d.u.cell? ⟨b2, 2, none⟩ = some (.map (some m)) := fun d => d.cell (by rw [cell_of_block c2]; rfl)
  have hl := fun d : Ext w0 => run_lookup_set (hm.ext d) r1
  go_enter Try.func43, Try.ntmps43
  go_wp2_with fail
  refine wp_region_ext d rfl (by kernel_rfl) ?_
  repeat (first | (refine wpQuiet_call (fun d => calls_ret (crune_any _ _ _ _)) rfl rfl rfl Try.call50 ?_; simp only [Act.put, List.setIfInBounds_toArray, List.set_cons_zero, List.set_cons_succ]) | (refine wpQuiet_call (fun d => calls_ret (srunes_any _ _ _ _)) rfl rfl rfl Try.call51 ?_; simp only [Act.put, List.setIfInBounds_toArray, List.set_cons_zero, List.set_cons_succ]) | go_big_quiet_step (fail))
  refine wpQuiet_nil ?_
  intro d'
  go_wp2
  go_ret
  exact .mk d'

theorem mss_any {w0 : World} (b1 b2 : Nat) (f1 f2 : Int) (ks1 ks : List Int) (c1 : CellsAt w0 b1 f1 (.set ks1)) (c2 : CellsAt w0 b2 f2 (.set ks)) (d : Ext w0) :
    Calls Try.prog 46 #[.pointer (some ⟨b1, 0, none⟩), .pointer (some ⟨b2, 0, none⟩)] d.u (Ret w0 (.bool (ks1.any fun r => decide (r ∈ ks)))) := by
  have p0 : ∀ d : Ext w0, d.u.cell? ⟨b1, 0, none⟩ = some (.int .u64 2) := fun d => d.cell c1.c0
  have p1 : ∀ d : Ext w0, d.u.cell? ⟨b1, 1, none⟩ = some (.int .u64 f1) := fun d => d.cell c1.c1
  have q0 : ∀ d : Ext w0, d.u.cell? ⟨b2, 0, none⟩ = some (.int .u64 2) := fun d => d.cell c2.c0
  have q1 : ∀ d : Ext w0, d.u.cell? ⟨b2, 1, none⟩ = some (.int .u64 f2) := fun d => d.cell c2.c1
  obtain ⟨m1, c1, hm1⟩ := c1
  obtain ⟨m, c2, hm⟩ := c2
  have p2 : ∀ d : Ext w0, d.u.cell? ⟨b1, 2, none⟩ = some (.map (some m1)) := fun d => d.cell (by rw [cell_of_block c1]; rfl)
  have q2 : ∀ d : Ext w0, d.u.cell? ⟨b2, 2, none⟩ = some (.map (some m)) := fun d => d.cell (by rw [cell_of_block c2]; rfl)
  obtain ⟨es, clock, hb, hk, hv, hst⟩ := hm1
  have hrg := fun d : Ext w0 => run_range_map (P := Try.prog) d.u 88 21 4 m1 es clock Try.underlying88 (d.block hb)
  go_enter Try.func46, Try.ntmps46
  go_wp2_with (refine wpList_call (calls_ret (srunes_any _ _ _ _)) rfl rfl rfl Try.call51 ?_; intro d1)
  generalize hR : d1.u.heap.size = R
  have hR0 : w0.heap.size ≤ R := hR ▸ d1.size
  go_loopw [] (fun wr => ∃ (d' : Ext w0) (seen : Array Nat) (c0 : Nat), wr = d'.u ∧ d'.u.heap[R]? = some (.mapIter (some m1) clock seen c0) ∧ clock ≤ c0 ∧ ∀ x ∈ es.toList, seen.contains x.born = true → ∀ r, x.key = .int .i32 r → r ∉ ks) (fun wr => (leftOf es (wr.iterSeen R)).size)
  case atStart =>
    refine ⟨d1.on ((Below.refl _ _).alloc (Nat.le_refl _) _), #[], clock, rfl, ?_, Nat.le_refl _, fun x _ h => by simp at h⟩
    show (d1.u.alloc _).heap[R]? = _
    rw [← hR]
    exact heap_alloc_new _ _
  case round =>
    obtain ⟨d2, seen, c0, rfl, hit, hc0, hno⟩ := hrel
    have hs2 : d2.u.iterSeen R = seen := by simp [World.iterSeen, hit]
    rcases run_next_iter hit (d2.block hb) hst.1 hc0 with ⟨h0, hnx⟩ | ⟨e, he, u', hnx, hit', hB⟩
    · go_wp2
      go_ret
      have hf : (ks1.any fun r => decide (r ∈ ks)) = false := by
        rw [List.any_eq_false]
        intro r hr
        obtain ⟨x, hx, e⟩ := set_mem hk hr
        simpa using hno x hx (all_seen es seen h0 x hx) r e
      rw [hf]
      exact .mk d2
    · obtain ⟨d3, rfl⟩ : ∃ d3 : Ext w0, d3.u = u' := ⟨d2.onto (hB _ hR0), rfl⟩
      have hem := (mem_left he).1
      obtain ⟨r, hr, hkey⟩ := set_keys hk e hem
      have hen := run_entry_iter hit' (d3.block hb) hem hst.2.1
      rw [hkey] at hnx hen
      have hl := fun d : Ext w0 => run_lookup_set (hm.ext d) r
      by_cases hrk : r ∈ ks
      · go_wp2_with (go_at_call 51; refine (srunes_any _ _ _ _).mono ?_; rintro e w4 ⟨rfl, hb4⟩; obtain ⟨d4, rfl⟩ : ∃ d4 : Ext w0, d4.u = w4 := ⟨d3.on hb4, rfl⟩)
        go_ret
        have ht : (ks1.any fun r => decide (r ∈ ks)) = true := List.any_eq_true.2 ⟨r, hr, by simpa using hrk⟩
        rw [ht]
        exact .mk d4
      · go_wp2_with (go_at_call 51; refine (srunes_any _ _ _ _).mono ?_; rintro e w4 ⟨rfl, hb4⟩; obtain ⟨d4, rfl⟩ : ∃ d4 : Ext w0, d4.u = w4 := ⟨d3.on hb4, rfl⟩)
        have hit4 : d4.u.heap[R]? = some (.mapIter (some m1) clock (seen.push e.born) clock) := by
          rw [hb4.block R (Array.getElem?_eq_some_iff.1 hit').1]; exact hit'
        go_roundw
        case rel =>
          refine ⟨d4, _, _, rfl, hit4, Nat.le_refl _, fun x hx hc r' hr' => ?_⟩
          rw [contains_push] at hc
          rcases Bool.or_eq_true _ _ ▸ hc with h1 | h1
          · exact hno x hx h1 r' hr'
          · have : x = e := born_inj hst.2.1 hx hem (beq_iff_eq.1 h1)
            subst this
            rw [hkey] at hr'
            cases hr'
            exact hrk
        case measure =>
          have hs4 : d4.u.iterSeen R = seen.push e.born := by simp [World.iterSeen, hit4]
          rw [hs4, hs2]
          exact left_shrinks es seen e he


@[go_sem] theorem run_assert73 (v : Value) (w : World) : (Instr.typeAssert (.iface 73 v) 57 73 false).run Try.prog w = .ok v w := by
  simp [Instr.typeAssert, go_sem]
@[go_sem] theorem run_assert76 (v : Value) (w : World) : (Instr.typeAssert (.iface 76 v) 57 76 false).run Try.prog w = .ok v w := by
  simp [Instr.typeAssert, go_sem]
@[go_sem] theorem run_assert78 (v : Value) (w : World) : (Instr.typeAssert (.iface 78 v) 57 78 false).run Try.prog w = .ok v w := by
  simp [Instr.typeAssert, go_sem]

set_option maxRecDepth 100000 in
theorem match_cc {w0 : World} (b1 b2 : Nat) (f1 f2 : Int) (r1 : Int) (r2 : Int) (c1 : CellsAt w0 b1 f1 (.chr r1)) (c2 : CellsAt w0 b2 f2 (.chr r2)) (d : Ext w0) :
    Calls Try.prog 33 #[.iface 73 (.pointer (some ⟨b1, 0, none⟩)), .iface 73 (.pointer (some ⟨b2, 0, none⟩))] d.u (Ret w0 (.bool (r1 == r2))) := by
  have t1 : TokAt w0 (.iface 73 (.pointer (some ⟨b1, 0, none⟩))) ⟨.chr r1, f1⟩ := ⟨b1, rfl, c1⟩
  have t2 : TokAt w0 (.iface 73 (.pointer (some ⟨b2, 0, none⟩))) ⟨.chr r2, f2⟩ := ⟨b2, rfl, c2⟩
  have hc := mcc_any b1 b2 f1 f2 r1 r2 c1 c2
  clear c1 c2
  go_enter Try.func33, Try.ntmps33
  go_wp2_with (first
    | (refine wpList_type (n := 0) _ _ rfl rfl rfl t1 rfl ?_; intro d')
    | (refine wpList_type (n := 0) _ _ rfl rfl rfl t2 rfl ?_; intro d')
    | (refine wpList_call (hc _) rfl rfl rfl Try.call41 ?_; intro d'))
  go_ret
  exact .mk _

set_option maxRecDepth 100000 in
theorem match_cd {w0 : World} (b1 b2 : Nat) (f1 f2 : Int) (r1 : Int) (c1 : CellsAt w0 b1 f1 (.chr r1)) (c2 : CellsAt w0 b2 f2 .dot) (d : Ext w0) :
    Calls Try.prog 33 #[.iface 73 (.pointer (some ⟨b1, 0, none⟩)), .iface 76 (.pointer (some ⟨b2, 0, none⟩))] d.u (Ret w0 (.bool true)) := by
  have t1 : TokAt w0 (.iface 73 (.pointer (some ⟨b1, 0, none⟩))) ⟨.chr r1, f1⟩ := ⟨b1, rfl, c1⟩
  have t2 : TokAt w0 (.iface 76 (.pointer (some ⟨b2, 0, none⟩))) ⟨.dot, f2⟩ := ⟨b2, rfl, c2⟩
  have hc := fun d : Ext w0 => calls_ret (v := .bool true) (mcd_any (.pointer (some ⟨b1, 0, none⟩)) (.pointer (some ⟨b2, 0, none⟩)) d.u)
  clear c1 c2
  go_enter Try.func33, Try.ntmps33
  go_wp2_with (first
    | (refine wpList_type (n := 0) _ _ rfl rfl rfl t1 rfl ?_; intro d')
    | (refine wpList_type (n := 1) _ _ rfl rfl rfl t2 rfl ?_; intro d')
    | (refine wpList_call (hc _) rfl rfl rfl Try.call42 ?_; intro d'))
  go_ret
  exact .mk _

set_option maxRecDepth 100000 in
theorem match_cs {w0 : World} (b1 b2 : Nat) (f1 f2 : Int) (r1 : Int) (k2 : List Int) (c1 : CellsAt w0 b1 f1 (.chr r1)) (c2 : CellsAt w0 b2 f2 (.set k2)) (d : Ext w0) :
    Calls Try.prog 33 #[.iface 73 (.pointer (some ⟨b1, 0, none⟩)), .iface 78 (.pointer (some ⟨b2, 0, none⟩))] d.u (Ret w0 (.bool (decide (r1 ∈ k2)))) := by
  have t1 : TokAt w0 (.iface 73 (.pointer (some ⟨b1, 0, none⟩))) ⟨.chr r1, f1⟩ := ⟨b1, rfl, c1⟩
  have t2 : TokAt w0 (.iface 78 (.pointer (some ⟨b2, 0, none⟩))) ⟨.set k2, f2⟩ := ⟨b2, rfl, c2⟩
  have hc := mcs_any b1 b2 f1 f2 r1 k2 c1 c2
  clear c1 c2
  go_enter Try.func33, Try.ntmps33
  go_wp2_with (first
    | (refine wpList_type (n := 0) _ _ rfl rfl rfl t1 rfl ?_; intro d')
    | (refine wpList_type (n := 2) _ _ rfl rfl rfl t2 rfl ?_; intro d')
    | (refine wpList_call (hc _) rfl rfl rfl Try.call43 ?_; intro d'))
  go_ret
  exact .mk _

set_option maxRecDepth 100000 in
theorem match_dc {w0 : World} (b1 b2 : Nat) (f1 f2 : Int) (r2 : Int) (c1 : CellsAt w0 b1 f1 .dot) (c2 : CellsAt w0 b2 f2 (.chr r2)) (d : Ext w0) :
    Calls Try.prog 33 #[.iface 76 (.pointer (some ⟨b1, 0, none⟩)), .iface 73 (.pointer (some ⟨b2, 0, none⟩))] d.u (Ret w0 (.bool true)) := by
  have t1 : TokAt w0 (.iface 76 (.pointer (some ⟨b1, 0, none⟩))) ⟨.dot, f1⟩ := ⟨b1, rfl, c1⟩
  have t2 : TokAt w0 (.iface 73 (.pointer (some ⟨b2, 0, none⟩))) ⟨.chr r2, f2⟩ := ⟨b2, rfl, c2⟩
  have hc := fun d : Ext w0 => calls_ret (v := .bool true) (mcd_any (.pointer (some ⟨b2, 0, none⟩)) (.pointer (some ⟨b1, 0, none⟩)) d.u)
  clear c1 c2
  go_enter Try.func33, Try.ntmps33
  go_wp2_with (first
    | (refine wpList_type (n := 1) _ _ rfl rfl rfl t1 rfl ?_; intro d')
    | (refine wpList_type (n := 0) _ _ rfl rfl rfl t2 rfl ?_; intro d')
    | (refine wpList_call (hc _) rfl rfl rfl Try.call42 ?_; intro d'))
  go_ret
  exact .mk _

set_option maxRecDepth 100000 in
theorem match_dd {w0 : World} (b1 b2 : Nat) (f1 f2 : Int)  (c1 : CellsAt w0 b1 f1 .dot) (c2 : CellsAt w0 b2 f2 .dot) (d : Ext w0) :
    Calls Try.prog 33 #[.iface 76 (.pointer (some ⟨b1, 0, none⟩)), .iface 76 (.pointer (some ⟨b2, 0, none⟩))] d.u (Ret w0 (.bool true)) := by
  have t1 : TokAt w0 (.iface 76 (.pointer (some ⟨b1, 0, none⟩))) ⟨.dot, f1⟩ := ⟨b1, rfl, c1⟩
  have t2 : TokAt w0 (.iface 76 (.pointer (some ⟨b2, 0, none⟩))) ⟨.dot, f2⟩ := ⟨b2, rfl, c2⟩
  have hc := fun d : Ext w0 => calls_ret (v := .bool true) (mdd_any (.pointer (some ⟨b1, 0, none⟩)) (.pointer (some ⟨b2, 0, none⟩)) d.u)
  clear c1 c2
  go_enter Try.func33, Try.ntmps33
  go_wp2_with (first
    | (refine wpList_type (n := 1) _ _ rfl rfl rfl t1 rfl ?_; intro d')
    | (refine wpList_type (n := 1) _ _ rfl rfl rfl t2 rfl ?_; intro d')
    | (refine wpList_call (hc _) rfl rfl rfl Try.call44 ?_; intro d'))
  go_ret
  exact .mk _

set_option maxRecDepth 100000 in
theorem match_ds {w0 : World} (b1 b2 : Nat) (f1 f2 : Int) (k2 : List Int) (c1 : CellsAt w0 b1 f1 .dot) (c2 : CellsAt w0 b2 f2 (.set k2)) (d : Ext w0) :
    Calls Try.prog 33 #[.iface 76 (.pointer (some ⟨b1, 0, none⟩)), .iface 78 (.pointer (some ⟨b2, 0, none⟩))] d.u (Ret w0 (.bool true)) := by
  have t1 : TokAt w0 (.iface 76 (.pointer (some ⟨b1, 0, none⟩))) ⟨.dot, f1⟩ := ⟨b1, rfl, c1⟩
  have t2 : TokAt w0 (.iface 78 (.pointer (some ⟨b2, 0, none⟩))) ⟨.set k2, f2⟩ := ⟨b2, rfl, c2⟩
  have hc := fun d : Ext w0 => calls_ret (v := .bool true) (mds_any (.pointer (some ⟨b1, 0, none⟩)) (.pointer (some ⟨b2, 0, none⟩)) d.u)
  clear c1 c2
  go_enter Try.func33, Try.ntmps33
  go_wp2_with (first
    | (refine wpList_type (n := 1) _ _ rfl rfl rfl t1 rfl ?_; intro d')
    | (refine wpList_type (n := 2) _ _ rfl rfl rfl t2 rfl ?_; intro d')
    | (refine wpList_call (hc _) rfl rfl rfl Try.call45 ?_; intro d'))
  go_ret
  exact .mk _

set_option maxRecDepth 100000 in
theorem match_sc {w0 : World} (b1 b2 : Nat) (f1 f2 : Int) (k1 : List Int) (r2 : Int) (c1 : CellsAt w0 b1 f1 (.set k1)) (c2 : CellsAt w0 b2 f2 (.chr r2)) (d : Ext w0) :
    Calls Try.prog 33 #[.iface 78 (.pointer (some ⟨b1, 0, none⟩)), .iface 73 (.pointer (some ⟨b2, 0, none⟩))] d.u (Ret w0 (.bool (decide (r2 ∈ k1)))) := by
  have t1 : TokAt w0 (.iface 78 (.pointer (some ⟨b1, 0, none⟩))) ⟨.set k1, f1⟩ := ⟨b1, rfl, c1⟩
  have t2 : TokAt w0 (.iface 73 (.pointer (some ⟨b2, 0, none⟩))) ⟨.chr r2, f2⟩ := ⟨b2, rfl, c2⟩
  have hc := mcs_any b2 b1 f2 f1 r2 k1 c2 c1
  clear c1 c2
  go_enter Try.func33, Try.ntmps33
  go_wp2_with (first
    | (refine wpList_type (n := 2) _ _ rfl rfl rfl t1 rfl ?_; intro d')
    | (refine wpList_type (n := 0) _ _ rfl rfl rfl t2 rfl ?_; intro d')
    | (refine wpList_call (hc _) rfl rfl rfl Try.call43 ?_; intro d'))
  go_ret
  exact .mk _

set_option maxRecDepth 100000 in
theorem match_sd {w0 : World} (b1 b2 : Nat) (f1 f2 : Int) (k1 : List Int) (c1 : CellsAt w0 b1 f1 (.set k1)) (c2 : CellsAt w0 b2 f2 .dot) (d : Ext w0) :
    Calls Try.prog 33 #[.iface 78 (.pointer (some ⟨b1, 0, none⟩)), .iface 76 (.pointer (some ⟨b2, 0, none⟩))] d.u (Ret w0 (.bool true)) := by
  have t1 : TokAt w0 (.iface 78 (.pointer (some ⟨b1, 0, none⟩))) ⟨.set k1, f1⟩ := ⟨b1, rfl, c1⟩
  have t2 : TokAt w0 (.iface 76 (.pointer (some ⟨b2, 0, none⟩))) ⟨.dot, f2⟩ := ⟨b2, rfl, c2⟩
  have hc := fun d : Ext w0 => calls_ret (v := .bool true) (mds_any (.pointer (some ⟨b2, 0, none⟩)) (.pointer (some ⟨b1, 0, none⟩)) d.u)
  clear c1 c2
  go_enter Try.func33, Try.ntmps33
  go_wp2_with (first
    | (refine wpList_type (n := 2) _ _ rfl rfl rfl t1 rfl ?_; intro d')
    | (refine wpList_type (n := 1) _ _ rfl rfl rfl t2 rfl ?_; intro d')
    | (refine wpList_call (hc _) rfl rfl rfl Try.call45 ?_; intro d'))
  go_ret
  exact .mk _

set_option maxRecDepth 100000 in
theorem match_ss {w0 : World} (b1 b2 : Nat) (f1 f2 : Int) (k1 : List Int) (k2 : List Int) (c1 : CellsAt w0 b1 f1 (.set k1)) (c2 : CellsAt w0 b2 f2 (.set k2)) (d : Ext w0) :
    Calls Try.prog 33 #[.iface 78 (.pointer (some ⟨b1, 0, none⟩)), .iface 78 (.pointer (some ⟨b2, 0, none⟩))] d.u (Ret w0 (.bool (k1.any fun r => decide (r ∈ k2)))) := by
  have t1 : TokAt w0 (.iface 78 (.pointer (some ⟨b1, 0, none⟩))) ⟨.set k1, f1⟩ := ⟨b1, rfl, c1⟩
  have t2 : TokAt w0 (.iface 78 (.pointer (some ⟨b2, 0, none⟩))) ⟨.set k2, f2⟩ := ⟨b2, rfl, c2⟩
  have hc := mss_any b1 b2 f1 f2 k1 k2 c1 c2
  clear c1 c2
  go_enter Try.func33, Try.ntmps33
  go_wp2_with (first
    | (refine wpList_type (n := 2) _ _ rfl rfl rfl t1 rfl ?_; intro d')
    | (refine wpList_type (n := 2) _ _ rfl rfl rfl t2 rfl ?_; intro d')
    | (refine wpList_call (hc _) rfl rfl rfl Try.call46 ?_; intro d')
    | (refine wp_region_ext _ rfl (by kernel_rfl) ?_; (repeat (first | (refine wpQuiet_call hc rfl rfl rfl Try.call46 ?_; simp only [Act.put, List.setIfInBounds_toArray, List.set_cons_zero, List.set_cons_succ]) | go_big_quiet_step (fail))); refine wpQuiet_nil ?_; intro d'))
  go_ret
  exact .mk _


theorem match_any {w0 : World} {v1 v2 : Value} {t1 t2 : Tok} (h1 : TokAt w0 v1 t1) (h2 : TokAt w0 v2 t2) (d : Ext w0) :
    Calls Try.prog 33 #[v1, v2] d.u (Ret w0 (.bool (mt t1.k t2.k))) := by
  obtain ⟨k1, f1⟩ := t1
  obtain ⟨k2, f2⟩ := t2
  obtain ⟨b1, rfl, c1⟩ := h1
  obtain ⟨b2, rfl, c2⟩ := h2
  cases k1 <;> cases k2
  · exact match_cc b1 b2 f1 f2 _ _ c1 c2 d
  · exact match_cd b1 b2 f1 f2 _ c1 c2 d
  · exact match_cs b1 b2 f1 f2 _ _ c1 c2 d
  · exact match_dc b1 b2 f1 f2 _ c1 c2 d
  · exact match_dd b1 b2 f1 f2 c1 c2 d
  · exact match_ds b1 b2 f1 f2 _ c1 c2 d
  · exact match_sc b1 b2 f1 f2 _ _ c1 c2 d
  · exact match_sd b1 b2 f1 f2 _ c1 c2 d
  · exact match_ss b1 b2 f1 f2 _ _ c1 c2 d

end Go.Proofs.Ythlhfdidlfdaiaa
