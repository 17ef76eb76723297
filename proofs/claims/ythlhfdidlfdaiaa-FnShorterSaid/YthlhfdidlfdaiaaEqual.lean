/- The contract of the method Equal. -/
import Derived.Test.YthlhfdidlfdaiaaMatch
import Derived.Deep.Cut
namespace Go.Proofs.Ythlhfdidlfdaiaa
open Go.RowKit

/-- The package's Equal: two tokens alike but for their flags. -/
def eqv : TK → TK → Bool
  | .chr a, .chr b => a == b
  | .dot, .dot => true
  | .set a, .set b => a.length == b.length && a.all fun r => decide (r ∈ b)
  | _, _ => false

theorem mth73e : (Try.prog.info? 73).map (fun i => (i.methods.find? (fun m => m.name == "Equal")).map fun m => (m.path.toList, m.func)) = some (some ([], some (76, false))) := by kernel_rfl
theorem mth76e : (Try.prog.info? 76).map (fun i => (i.methods.find? (fun m => m.name == "Equal")).map fun m => (m.path.toList, m.func)) = some (some ([], some (81, false))) := by kernel_rfl
theorem mth78e : (Try.prog.info? 78).map (fun i => (i.methods.find? (fun m => m.name == "Equal")).map fun m => (m.path.toList, m.func)) = some (some ([], some (83, false))) := by kernel_rfl

/-- A token's own cells, as a value. -/
def TK.rest (w : World) (b : Nat) : TK → List Value → Prop
  | .chr r, vs => vs = [.int .i32 r]
  | .dot, vs => vs = []
  | .set ks, vs => ∃ m, vs = [.map (some m)] ∧ w.cell? ⟨b, 2, none⟩ = some (.map (some m)) ∧ SetAt w m ks

def TK.eqf : TK → FuncId | .chr _ => 76 | .dot => 81 | .set _ => 83

theorem run_method0 {P : Program} {t : TypeId} {name : String} {v : Value} {n : Nat} {w : World} {f : FuncId} {pr : Bool}
    (hm : (P.info? t).map (fun i => (i.methods.find? (fun m => m.name == name)).map fun m => (m.path.toList, m.func)) = some (some ([], some (f, pr)))) :
    (method (n+1) t v name).run P w = Sem.run P (do pure (f, ← receiverAt t (.val v) pr (some ((name.splitOn ".").getLastD name)))) w := by
  cases hi : P.info? t with
  | none => rw [hi] at hm; simp at hm
  | some i =>
    rw [hi] at hm
    simp only [Option.map_some, Option.some.injEq] at hm
    cases hf : i.methods.find? (fun m => m.name == name) with
    | none => rw [hf] at hm; simp at hm
    | some m =>
      rw [hf] at hm
      simp only [Option.map_some, Option.some.injEq, Prod.mk.injEq] at hm
      obtain ⟨h1, h2⟩ := hm
      have h1' : m.path = #[] := by
        apply Array.toList_inj.1
        simpa using h1
      unfold method
      simp [typeInfo, hi, hf, h1', h2, go_sem, follow]

theorem nilchk (ts : Array TypeId) (t : TypeId) (a : Addr) (x y : ByteArray) : Builtin.ssaWrapNilChk_ ts t #[.pointer (some a), .string x, .string y] = pure (.pointer (some a)) := rfl

theorem method_equal {k : TK} {b : Nat} {f : Int} {w : World} (h : CellsAt w b f k) :
    ∃ vs, k.rest w b vs ∧ (method 235 k.ty (.pointer (some ⟨b, 0, none⟩)) "Equal").run Try.prog w = .ok (k.eqf, .agg (.int .u64 k.tt :: .int .u64 f :: vs).toArray) w := by
  have h0 := h.c0
  have h1 := h.c1
  cases k with
  | chr r =>
    have h2 : w.cell? ⟨b, 2, none⟩ = some (.int .i32 r) := by rw [cell_of_block h]; rfl
    refine ⟨_, rfl, ?_⟩
    simp only [TK.ty] at *
    rw [run_method0 mth73e]
    simp [receiverAt, Place.get, go_sem, strVal, nilchk, h0, h1, h2, TK.eqf]
  | dot =>
    refine ⟨_, rfl, ?_⟩
    simp only [TK.ty] at *
    rw [run_method0 mth76e]
    simp [receiverAt, Place.get, go_sem, strVal, nilchk, h0, h1, TK.eqf]
  | set ks =>
    obtain ⟨m, hb, hm⟩ := h
    have h2 : w.cell? ⟨b, 2, none⟩ = some (.map (some m)) := by rw [cell_of_block hb]; rfl
    refine ⟨_, ⟨m, rfl, h2, hm⟩, ?_⟩
    simp only [TK.ty] at *
    rw [run_method0 mth78e]
    simp [receiverAt, Place.get, go_sem, strVal, nilchk, h0, h1, h2, TK.eqf]

attribute [local irreducible] wpList wpQuiet

theorem eq_cc {w : World} (f : Int) (r : Int) (b2 : Nat) (f2 : Int) (r2 : Int) (c2 : CellsAt w b2 f2 (.chr r2)) :
    Calls Try.prog 76 #[.agg #[.int .u64 0, .int .u64 f, .int .i32 r], .iface (.chr r2 : TK).ty (.pointer (some ⟨b2, 0, none⟩))] w (Ret w (.bool (eqv (.chr r) (.chr r2)))) := by
  obtain ⟨w1, hw1⟩ : ∃ w1, w1 = w.alloc (.cells #[.int .u64 0, .int .u64 f, .int .i32 r] 92) := ⟨_, rfl⟩
  have hbox : w1.heap[w.heap.size]? = some (.cells #[.int .u64 0, .int .u64 f, .int .i32 r] 92 (0, 0)) := by rw [hw1]; exact heap_alloc_new _ _
  have hB1 : Below w.heap.size w w1 := by rw [hw1]; exact (Below.refl _ _).alloc (Nat.le_refl _) _
  have c2' : CellsAt w1 b2 f2 (.chr r2) := c2.ext ⟨w1, hB1⟩
  have t2 : TokAt w1 (.iface (.chr r2 : TK).ty (.pointer (some ⟨b2, 0, none⟩))) ⟨.chr r2, f2⟩ := ⟨b2, rfl, c2'⟩
  have p0 : ∀ d : Ext w1, d.u.cell? ⟨w.heap.size, 0, none⟩ = some (.int .u64 0) := fun d => d.cell (by rw [cell_of_block hbox]; rfl)
  have p1 : ∀ d : Ext w1, d.u.cell? ⟨w.heap.size, 1, none⟩ = some (.int .u64 f) := fun d => d.cell (by rw [cell_of_block hbox]; rfl)
  have p2 : ∀ d : Ext w1, d.u.cell? ⟨w.heap.size, 2, none⟩ = some (.int .i32 r) := fun d => d.cell (by rw [cell_of_block hbox]; rfl)
  have q0 : ∀ d : Ext w1, d.u.cell? ⟨b2, 0, none⟩ = some (.int .u64 0) := fun d => d.cell c2'.c0
  have q1 : ∀ d : Ext w1, d.u.cell? ⟨b2, 1, none⟩ = some (.int .u64 f2) := fun d => d.cell c2'.c1
  have q2 : ∀ d : Ext w1, d.u.cell? ⟨b2, 2, none⟩ = some (.int .i32 r2) := fun d => d.cell (by rw [cell_of_block c2']; rfl)
  have HW : Hid _ := hid hw1
  clear hw1 c2 c2' hbox
  simp only [TK.ty] at *
  go_enter Try.func76, Try.ntmps76
  go_upto_region 1 with fail
  rw [← HW.out]
  obtain ⟨d1, hd1⟩ : ∃ d1 : Ext w1, d1.u = w1 := ⟨Ext.self w1, rfl⟩
  rw [← hd1]
  clear HW hd1
  go_wp2_with (first
    | (refine wpList_call (calls_ret (ttype_any _ _ _)) rfl rfl rfl Try.call80 ?_; intro d2)
    | (refine wpList_type (n := 0) _ _ rfl rfl rfl t2 rfl ?_; intro d2)
    | (refine wp_region_ext _ rfl (by kernel_rfl) ?_; (repeat (first | (refine wpQuiet_call (fun d => calls_ret (crune_any _ _ _ _)) rfl rfl rfl Try.call50 ?_; simp only [Act.put, List.setIfInBounds_toArray, List.set_cons_zero, List.set_cons_succ]) | go_big_quiet_step (fail))); refine wpQuiet_nil ?_; intro d2))
  go_ret
  exact ⟨rfl, ⟨_, hB1.trans (d2.ok.mono hB1.size)⟩, rfl⟩

theorem eq_cd {w : World} (f : Int) (r : Int) (b2 : Nat) (f2 : Int)  (c2 : CellsAt w b2 f2 (.dot)) :
    Calls Try.prog 76 #[.agg #[.int .u64 0, .int .u64 f, .int .i32 r], .iface (.dot : TK).ty (.pointer (some ⟨b2, 0, none⟩))] w (Ret w (.bool (eqv (.chr r) (.dot)))) := by
  obtain ⟨w1, hw1⟩ : ∃ w1, w1 = w.alloc (.cells #[.int .u64 0, .int .u64 f, .int .i32 r] 92) := ⟨_, rfl⟩
  have hbox : w1.heap[w.heap.size]? = some (.cells #[.int .u64 0, .int .u64 f, .int .i32 r] 92 (0, 0)) := by rw [hw1]; exact heap_alloc_new _ _
  have hB1 : Below w.heap.size w w1 := by rw [hw1]; exact (Below.refl _ _).alloc (Nat.le_refl _) _
  have c2' : CellsAt w1 b2 f2 (.dot) := c2.ext ⟨w1, hB1⟩
  have t2 : TokAt w1 (.iface (.dot : TK).ty (.pointer (some ⟨b2, 0, none⟩))) ⟨.dot, f2⟩ := ⟨b2, rfl, c2'⟩
  have p0 : ∀ d : Ext w1, d.u.cell? ⟨w.heap.size, 0, none⟩ = some (.int .u64 0) := fun d => d.cell (by rw [cell_of_block hbox]; rfl)
  have p1 : ∀ d : Ext w1, d.u.cell? ⟨w.heap.size, 1, none⟩ = some (.int .u64 f) := fun d => d.cell (by rw [cell_of_block hbox]; rfl)
  have p2 : ∀ d : Ext w1, d.u.cell? ⟨w.heap.size, 2, none⟩ = some (.int .i32 r) := fun d => d.cell (by rw [cell_of_block hbox]; rfl)
  have HW : Hid _ := hid hw1
  clear hw1 c2 c2' hbox
  simp only [TK.ty] at *
  go_enter Try.func76, Try.ntmps76
  go_upto_region 1 with fail
  rw [← HW.out]
  obtain ⟨d1, hd1⟩ : ∃ d1 : Ext w1, d1.u = w1 := ⟨Ext.self w1, rfl⟩
  rw [← hd1]
  clear HW hd1
  go_wp2_with (first
    | (refine wpList_call (calls_ret (ttype_any _ _ _)) rfl rfl rfl Try.call80 ?_; intro d2)
    | (refine wpList_type (n := 1) _ _ rfl rfl rfl t2 rfl ?_; intro d2)
    | (refine wp_region_ext _ rfl (by kernel_rfl) ?_; (repeat (first | (refine wpQuiet_call (fun d => calls_ret (crune_any _ _ _ _)) rfl rfl rfl Try.call50 ?_; simp only [Act.put, List.setIfInBounds_toArray, List.set_cons_zero, List.set_cons_succ]) | go_big_quiet_step (fail))); refine wpQuiet_nil ?_; intro d2))
  go_ret
  exact ⟨rfl, ⟨_, hB1.trans (d2.ok.mono hB1.size)⟩, rfl⟩

theorem eq_cs {w : World} (f : Int) (r : Int) (b2 : Nat) (f2 : Int) (ks2 : List Int) (c2 : CellsAt w b2 f2 (.set ks2)) :
    Calls Try.prog 76 #[.agg #[.int .u64 0, .int .u64 f, .int .i32 r], .iface (.set ks2 : TK).ty (.pointer (some ⟨b2, 0, none⟩))] w (Ret w (.bool (eqv (.chr r) (.set ks2)))) := by
  obtain ⟨w1, hw1⟩ : ∃ w1, w1 = w.alloc (.cells #[.int .u64 0, .int .u64 f, .int .i32 r] 92) := ⟨_, rfl⟩
  have hbox : w1.heap[w.heap.size]? = some (.cells #[.int .u64 0, .int .u64 f, .int .i32 r] 92 (0, 0)) := by rw [hw1]; exact heap_alloc_new _ _
  have hB1 : Below w.heap.size w w1 := by rw [hw1]; exact (Below.refl _ _).alloc (Nat.le_refl _) _
  have c2' : CellsAt w1 b2 f2 (.set ks2) := c2.ext ⟨w1, hB1⟩
  have t2 : TokAt w1 (.iface (.set ks2 : TK).ty (.pointer (some ⟨b2, 0, none⟩))) ⟨.set ks2, f2⟩ := ⟨b2, rfl, c2'⟩
  have p0 : ∀ d : Ext w1, d.u.cell? ⟨w.heap.size, 0, none⟩ = some (.int .u64 0) := fun d => d.cell (by rw [cell_of_block hbox]; rfl)
  have p1 : ∀ d : Ext w1, d.u.cell? ⟨w.heap.size, 1, none⟩ = some (.int .u64 f) := fun d => d.cell (by rw [cell_of_block hbox]; rfl)
  have p2 : ∀ d : Ext w1, d.u.cell? ⟨w.heap.size, 2, none⟩ = some (.int .i32 r) := fun d => d.cell (by rw [cell_of_block hbox]; rfl)
  have HW : Hid _ := hid hw1
  clear hw1 c2 c2' hbox
  simp only [TK.ty] at *
  go_enter Try.func76, Try.ntmps76
  go_upto_region 1 with fail
  rw [← HW.out]
  obtain ⟨d1, hd1⟩ : ∃ d1 : Ext w1, d1.u = w1 := ⟨Ext.self w1, rfl⟩
  rw [← hd1]
  clear HW hd1
  go_wp2_with (first
    | (refine wpList_call (calls_ret (ttype_any _ _ _)) rfl rfl rfl Try.call80 ?_; intro d2)
    | (refine wpList_type (n := 2) _ _ rfl rfl rfl t2 rfl ?_; intro d2)
    | (refine wp_region_ext _ rfl (by kernel_rfl) ?_; (repeat (first | (refine wpQuiet_call (fun d => calls_ret (crune_any _ _ _ _)) rfl rfl rfl Try.call50 ?_; simp only [Act.put, List.setIfInBounds_toArray, List.set_cons_zero, List.set_cons_succ]) | go_big_quiet_step (fail))); refine wpQuiet_nil ?_; intro d2))
  go_ret
  exact ⟨rfl, ⟨_, hB1.trans (d2.ok.mono hB1.size)⟩, rfl⟩

theorem eq_dc {w : World} (f : Int)  (b2 : Nat) (f2 : Int) (r2 : Int) (c2 : CellsAt w b2 f2 (.chr r2)) :
    Calls Try.prog 81 #[.agg #[.int .u64 1, .int .u64 f], .iface (.chr r2 : TK).ty (.pointer (some ⟨b2, 0, none⟩))] w (Ret w (.bool (eqv .dot (.chr r2)))) := by
  obtain ⟨w1, hw1⟩ : ∃ w1, w1 = w.alloc (.cells #[.int .u64 1, .int .u64 f] 87) := ⟨_, rfl⟩
  have hbox : w1.heap[w.heap.size]? = some (.cells #[.int .u64 1, .int .u64 f] 87 (0, 0)) := by rw [hw1]; exact heap_alloc_new _ _
  have hB1 : Below w.heap.size w w1 := by rw [hw1]; exact (Below.refl _ _).alloc (Nat.le_refl _) _
  have c2' : CellsAt w1 b2 f2 (.chr r2) := c2.ext ⟨w1, hB1⟩
  have t2 : TokAt w1 (.iface (.chr r2 : TK).ty (.pointer (some ⟨b2, 0, none⟩))) ⟨.chr r2, f2⟩ := ⟨b2, rfl, c2'⟩
  have p0 : ∀ d : Ext w1, d.u.cell? ⟨w.heap.size, 0, none⟩ = some (.int .u64 1) := fun d => d.cell (by rw [cell_of_block hbox]; rfl)
  have p1 : ∀ d : Ext w1, d.u.cell? ⟨w.heap.size, 1, none⟩ = some (.int .u64 f) := fun d => d.cell (by rw [cell_of_block hbox]; rfl)
  have HW : Hid _ := hid hw1
  clear hw1 c2 c2' hbox
  simp only [TK.ty] at *
  go_enter Try.func81, Try.ntmps81
  go_upto_region 1 with fail
  rw [← HW.out]
  obtain ⟨d1, hd1⟩ : ∃ d1 : Ext w1, d1.u = w1 := ⟨Ext.self w1, rfl⟩
  rw [← hd1]
  clear HW hd1
  go_wp2_with (first
    | (refine wpList_call (calls_ret (ttype_any _ _ _)) rfl rfl rfl Try.call80 ?_; intro d2)
    | (refine wpList_type (n := 0) _ _ rfl rfl rfl t2 rfl ?_; intro d2)
    | (refine wp_region_ext _ rfl (by kernel_rfl) ?_; (repeat (first | (refine wpQuiet_call (fun d => calls_ret (crune_any _ _ _ _)) rfl rfl rfl Try.call50 ?_; simp only [Act.put, List.setIfInBounds_toArray, List.set_cons_zero, List.set_cons_succ]) | go_big_quiet_step (fail))); refine wpQuiet_nil ?_; intro d2))
  go_ret
  exact ⟨rfl, ⟨_, hB1.trans (d2.ok.mono hB1.size)⟩, rfl⟩

theorem eq_dd {w : World} (f : Int)  (b2 : Nat) (f2 : Int)  (c2 : CellsAt w b2 f2 (.dot)) :
    Calls Try.prog 81 #[.agg #[.int .u64 1, .int .u64 f], .iface (.dot : TK).ty (.pointer (some ⟨b2, 0, none⟩))] w (Ret w (.bool (eqv .dot (.dot)))) := by
  obtain ⟨w1, hw1⟩ : ∃ w1, w1 = w.alloc (.cells #[.int .u64 1, .int .u64 f] 87) := ⟨_, rfl⟩
  have hbox : w1.heap[w.heap.size]? = some (.cells #[.int .u64 1, .int .u64 f] 87 (0, 0)) := by rw [hw1]; exact heap_alloc_new _ _
  have hB1 : Below w.heap.size w w1 := by rw [hw1]; exact (Below.refl _ _).alloc (Nat.le_refl _) _
  have c2' : CellsAt w1 b2 f2 (.dot) := c2.ext ⟨w1, hB1⟩
  have t2 : TokAt w1 (.iface (.dot : TK).ty (.pointer (some ⟨b2, 0, none⟩))) ⟨.dot, f2⟩ := ⟨b2, rfl, c2'⟩
  have p0 : ∀ d : Ext w1, d.u.cell? ⟨w.heap.size, 0, none⟩ = some (.int .u64 1) := fun d => d.cell (by rw [cell_of_block hbox]; rfl)
  have p1 : ∀ d : Ext w1, d.u.cell? ⟨w.heap.size, 1, none⟩ = some (.int .u64 f) := fun d => d.cell (by rw [cell_of_block hbox]; rfl)
  have HW : Hid _ := hid hw1
  clear hw1 c2 c2' hbox
  simp only [TK.ty] at *
  go_enter Try.func81, Try.ntmps81
  go_upto_region 1 with fail
  rw [← HW.out]
  obtain ⟨d1, hd1⟩ : ∃ d1 : Ext w1, d1.u = w1 := ⟨Ext.self w1, rfl⟩
  rw [← hd1]
  clear HW hd1
  go_wp2_with (first
    | (refine wpList_call (calls_ret (ttype_any _ _ _)) rfl rfl rfl Try.call80 ?_; intro d2)
    | (refine wpList_type (n := 1) _ _ rfl rfl rfl t2 rfl ?_; intro d2)
    | (refine wp_region_ext _ rfl (by kernel_rfl) ?_; (repeat (first | (refine wpQuiet_call (fun d => calls_ret (crune_any _ _ _ _)) rfl rfl rfl Try.call50 ?_; simp only [Act.put, List.setIfInBounds_toArray, List.set_cons_zero, List.set_cons_succ]) | go_big_quiet_step (fail))); refine wpQuiet_nil ?_; intro d2))
  go_ret
  exact ⟨rfl, ⟨_, hB1.trans (d2.ok.mono hB1.size)⟩, rfl⟩

theorem eq_ds {w : World} (f : Int)  (b2 : Nat) (f2 : Int) (ks2 : List Int) (c2 : CellsAt w b2 f2 (.set ks2)) :
    Calls Try.prog 81 #[.agg #[.int .u64 1, .int .u64 f], .iface (.set ks2 : TK).ty (.pointer (some ⟨b2, 0, none⟩))] w (Ret w (.bool (eqv .dot (.set ks2)))) := by
  obtain ⟨w1, hw1⟩ : ∃ w1, w1 = w.alloc (.cells #[.int .u64 1, .int .u64 f] 87) := ⟨_, rfl⟩
  have hbox : w1.heap[w.heap.size]? = some (.cells #[.int .u64 1, .int .u64 f] 87 (0, 0)) := by rw [hw1]; exact heap_alloc_new _ _
  have hB1 : Below w.heap.size w w1 := by rw [hw1]; exact (Below.refl _ _).alloc (Nat.le_refl _) _
  have c2' : CellsAt w1 b2 f2 (.set ks2) := c2.ext ⟨w1, hB1⟩
  have t2 : TokAt w1 (.iface (.set ks2 : TK).ty (.pointer (some ⟨b2, 0, none⟩))) ⟨.set ks2, f2⟩ := ⟨b2, rfl, c2'⟩
  have p0 : ∀ d : Ext w1, d.u.cell? ⟨w.heap.size, 0, none⟩ = some (.int .u64 1) := fun d => d.cell (by rw [cell_of_block hbox]; rfl)
  have p1 : ∀ d : Ext w1, d.u.cell? ⟨w.heap.size, 1, none⟩ = some (.int .u64 f) := fun d => d.cell (by rw [cell_of_block hbox]; rfl)
  have HW : Hid _ := hid hw1
  clear hw1 c2 c2' hbox
  simp only [TK.ty] at *
  go_enter Try.func81, Try.ntmps81
  go_upto_region 1 with fail
  rw [← HW.out]
  obtain ⟨d1, hd1⟩ : ∃ d1 : Ext w1, d1.u = w1 := ⟨Ext.self w1, rfl⟩
  rw [← hd1]
  clear HW hd1
  go_wp2_with (first
    | (refine wpList_call (calls_ret (ttype_any _ _ _)) rfl rfl rfl Try.call80 ?_; intro d2)
    | (refine wpList_type (n := 2) _ _ rfl rfl rfl t2 rfl ?_; intro d2)
    | (refine wp_region_ext _ rfl (by kernel_rfl) ?_; (repeat (first | (refine wpQuiet_call (fun d => calls_ret (crune_any _ _ _ _)) rfl rfl rfl Try.call50 ?_; simp only [Act.put, List.setIfInBounds_toArray, List.set_cons_zero, List.set_cons_succ]) | go_big_quiet_step (fail))); refine wpQuiet_nil ?_; intro d2))
  go_ret
  exact ⟨rfl, ⟨_, hB1.trans (d2.ok.mono hB1.size)⟩, rfl⟩

theorem eq_sc {w : World} (f : Int) (ks1 : List Int) (m1 : Nat) (_hs1 : SetAt w m1 ks1) (b2 : Nat) (f2 : Int) (r2 : Int) (c2 : CellsAt w b2 f2 (.chr r2)) :
    Calls Try.prog 83 #[.agg #[.int .u64 2, .int .u64 f, .map (some m1)], .iface (.chr r2 : TK).ty (.pointer (some ⟨b2, 0, none⟩))] w (Ret w (.bool (eqv (.set ks1) (.chr r2)))) := by
  obtain ⟨w1, hw1⟩ : ∃ w1, w1 = w.alloc (.cells #[.int .u64 2, .int .u64 f, .map (some m1)] 90) := ⟨_, rfl⟩
  have hbox : w1.heap[w.heap.size]? = some (.cells #[.int .u64 2, .int .u64 f, .map (some m1)] 90 (0, 0)) := by rw [hw1]; exact heap_alloc_new _ _
  have hB1 : Below w.heap.size w w1 := by rw [hw1]; exact (Below.refl _ _).alloc (Nat.le_refl _) _
  have c2' : CellsAt w1 b2 f2 (.chr r2) := c2.ext ⟨w1, hB1⟩
  have t2 : TokAt w1 (.iface (.chr r2 : TK).ty (.pointer (some ⟨b2, 0, none⟩))) ⟨.chr r2, f2⟩ := ⟨b2, rfl, c2'⟩
  have p0 : ∀ d : Ext w1, d.u.cell? ⟨w.heap.size, 0, none⟩ = some (.int .u64 2) := fun d => d.cell (by rw [cell_of_block hbox]; rfl)
  have p1 : ∀ d : Ext w1, d.u.cell? ⟨w.heap.size, 1, none⟩ = some (.int .u64 f) := fun d => d.cell (by rw [cell_of_block hbox]; rfl)
  have p2 : ∀ d : Ext w1, d.u.cell? ⟨w.heap.size, 2, none⟩ = some (.map (some m1)) := fun d => d.cell (by rw [cell_of_block hbox]; rfl)
  have HW : Hid _ := hid hw1
  clear hw1 c2 c2' hbox
  simp only [TK.ty] at *
  go_enter Try.func83, Try.ntmps83
  go_upto_region 1 with fail
  rw [← HW.out]
  obtain ⟨d1, hd1⟩ : ∃ d1 : Ext w1, d1.u = w1 := ⟨Ext.self w1, rfl⟩
  rw [← hd1]
  clear HW hd1
  go_wp2_with (first
    | (refine wpList_call (calls_ret (ttype_any _ _ _)) rfl rfl rfl Try.call80 ?_; intro d2)
    | (refine wpList_type (n := 0) _ _ rfl rfl rfl t2 rfl ?_; intro d2)
    | (refine wp_region_ext _ rfl (by kernel_rfl) ?_; (repeat (first | (refine wpQuiet_call (fun d => calls_ret (crune_any _ _ _ _)) rfl rfl rfl Try.call50 ?_; simp only [Act.put, List.setIfInBounds_toArray, List.set_cons_zero, List.set_cons_succ]) | go_big_quiet_step (fail))); refine wpQuiet_nil ?_; intro d2))
  go_ret
  exact ⟨rfl, ⟨_, hB1.trans (d2.ok.mono hB1.size)⟩, rfl⟩

theorem eq_sd {w : World} (f : Int) (ks1 : List Int) (m1 : Nat) (_hs1 : SetAt w m1 ks1) (b2 : Nat) (f2 : Int)  (c2 : CellsAt w b2 f2 (.dot)) :
    Calls Try.prog 83 #[.agg #[.int .u64 2, .int .u64 f, .map (some m1)], .iface (.dot : TK).ty (.pointer (some ⟨b2, 0, none⟩))] w (Ret w (.bool (eqv (.set ks1) (.dot)))) := by
  obtain ⟨w1, hw1⟩ : ∃ w1, w1 = w.alloc (.cells #[.int .u64 2, .int .u64 f, .map (some m1)] 90) := ⟨_, rfl⟩
  have hbox : w1.heap[w.heap.size]? = some (.cells #[.int .u64 2, .int .u64 f, .map (some m1)] 90 (0, 0)) := by rw [hw1]; exact heap_alloc_new _ _
  have hB1 : Below w.heap.size w w1 := by rw [hw1]; exact (Below.refl _ _).alloc (Nat.le_refl _) _
  have c2' : CellsAt w1 b2 f2 (.dot) := c2.ext ⟨w1, hB1⟩
  have t2 : TokAt w1 (.iface (.dot : TK).ty (.pointer (some ⟨b2, 0, none⟩))) ⟨.dot, f2⟩ := ⟨b2, rfl, c2'⟩
  have p0 : ∀ d : Ext w1, d.u.cell? ⟨w.heap.size, 0, none⟩ = some (.int .u64 2) := fun d => d.cell (by rw [cell_of_block hbox]; rfl)
  have p1 : ∀ d : Ext w1, d.u.cell? ⟨w.heap.size, 1, none⟩ = some (.int .u64 f) := fun d => d.cell (by rw [cell_of_block hbox]; rfl)
  have p2 : ∀ d : Ext w1, d.u.cell? ⟨w.heap.size, 2, none⟩ = some (.map (some m1)) := fun d => d.cell (by rw [cell_of_block hbox]; rfl)
  have HW : Hid _ := hid hw1
  clear hw1 c2 c2' hbox
  simp only [TK.ty] at *
  go_enter Try.func83, Try.ntmps83
  go_upto_region 1 with fail
  rw [← HW.out]
  obtain ⟨d1, hd1⟩ : ∃ d1 : Ext w1, d1.u = w1 := ⟨Ext.self w1, rfl⟩
  rw [← hd1]
  clear HW hd1
  go_wp2_with (first
    | (refine wpList_call (calls_ret (ttype_any _ _ _)) rfl rfl rfl Try.call80 ?_; intro d2)
    | (refine wpList_type (n := 1) _ _ rfl rfl rfl t2 rfl ?_; intro d2)
    | (refine wp_region_ext _ rfl (by kernel_rfl) ?_; (repeat (first | (refine wpQuiet_call (fun d => calls_ret (crune_any _ _ _ _)) rfl rfl rfl Try.call50 ?_; simp only [Act.put, List.setIfInBounds_toArray, List.set_cons_zero, List.set_cons_succ]) | go_big_quiet_step (fail))); refine wpQuiet_nil ?_; intro d2))
  go_ret
  exact ⟨rfl, ⟨_, hB1.trans (d2.ok.mono hB1.size)⟩, rfl⟩


theorem und88 : Try.prog.underlying 88 = some (.map (Try.prog.mapKeyOf 88) (Try.prog.mapElemOf 88)) := by simp [Try.underlying88, go_sem]

set_option maxRecDepth 100000 in
theorem eq_ss {w : World} (f : Int) (ks1 : List Int) (m1 : Nat) (hs1 : SetAt w m1 ks1) (b2 : Nat) (f2 : Int) (ks2 : List Int) (c2 : CellsAt w b2 f2 (.set ks2)) :
    Calls Try.prog 83 #[.agg #[.int .u64 2, .int .u64 f, .map (some m1)], .iface (.set ks2 : TK).ty (.pointer (some ⟨b2, 0, none⟩))] w (Ret w (.bool (eqv (.set ks1) (.set ks2)))) := by
  obtain ⟨w1, hw1⟩ : ∃ w1, w1 = w.alloc (.cells #[.int .u64 2, .int .u64 f, .map (some m1)] 90) := ⟨_, rfl⟩
  have hbox : w1.heap[w.heap.size]? = some (.cells #[.int .u64 2, .int .u64 f, .map (some m1)] 90 (0, 0)) := by rw [hw1]; exact heap_alloc_new _ _
  have hB1 : Below w.heap.size w w1 := by rw [hw1]; exact (Below.refl _ _).alloc (Nat.le_refl _) _
  have c2' : CellsAt w1 b2 f2 (.set ks2) := c2.ext ⟨w1, hB1⟩
  have hs1' : SetAt w1 m1 ks1 := hs1.ext ⟨w1, hB1⟩
  have t2 : TokAt w1 (.iface (.set ks2 : TK).ty (.pointer (some ⟨b2, 0, none⟩))) ⟨.set ks2, f2⟩ := ⟨b2, rfl, c2'⟩
  have p0 : ∀ d : Ext w1, d.u.cell? ⟨w.heap.size, 0, none⟩ = some (.int .u64 2) := fun d => d.cell (by rw [cell_of_block hbox]; rfl)
  have p1 : ∀ d : Ext w1, d.u.cell? ⟨w.heap.size, 1, none⟩ = some (.int .u64 f) := fun d => d.cell (by rw [cell_of_block hbox]; rfl)
  have p2 : ∀ d : Ext w1, d.u.cell? ⟨w.heap.size, 2, none⟩ = some (.map (some m1)) := fun d => d.cell (by rw [cell_of_block hbox]; rfl)
  have q0 : ∀ d : Ext w1, d.u.cell? ⟨b2, 0, none⟩ = some (.int .u64 2) := fun d => d.cell c2'.c0
  have q1 : ∀ d : Ext w1, d.u.cell? ⟨b2, 1, none⟩ = some (.int .u64 f2) := fun d => d.cell c2'.c1
  obtain ⟨m, c2'', hm⟩ := c2'
  have q2 : ∀ d : Ext w1, d.u.cell? ⟨b2, 2, none⟩ = some (.map (some m)) := fun d => d.cell (by rw [cell_of_block c2'']; rfl)
  have hm0 := hm
  obtain ⟨es, clock, hb, hk, hv, hst⟩ := hs1'
  obtain ⟨es2, clock2, hb2, hk2, hv2, hst2⟩ := hm0
  have hsz1 : es.size = ks1.length := by have := congrArg List.length hk; simpa using this
  have hsz2 : es2.size = ks2.length := by have := congrArg List.length hk2; simpa using this
  have hlen1 := fun d : Ext w1 => run_len_map (P := Try.prog) d.u 88 3 m1 es clock und88 (d.block hb)
  have hlen2 := fun d : Ext w1 => run_len_map (P := Try.prog) d.u 88 3 m es2 clock2 und88 (d.block hb2)
  rw [hsz1] at hlen1
  rw [hsz2] at hlen2
  have hrg := fun d : Ext w1 => run_range_map (P := Try.prog) d.u 88 21 4 m1 es clock Try.underlying88 (d.block hb)
  have HW : Hid _ := hid hw1
  have HS : Hid _ := hid hsz1
  have HS2 : Hid _ := hid hsz2
  clear hw1 c2 hbox hsz1 hsz2
  simp only [TK.ty] at *
  go_enter Try.func83, Try.ntmps83
  go_upto_region 1 with fail
  rw [← HW.out]
  obtain ⟨d1, hd1⟩ : ∃ d1 : Ext w1, d1.u = w1 := ⟨Ext.self w1, rfl⟩
  rw [← hd1]
  clear HW hd1
  go_upto_region 4 with (first
    | (refine wpList_call (calls_ret (ttype_any _ _ _)) rfl rfl rfl Try.call80 ?_; intro d2)
    | (refine wpList_type (n := 2) _ _ rfl rfl rfl t2 rfl ?_; intro d2))
  refine wp_region_ext _ rfl (by kernel_rfl) ?_
  repeat (first | (refine wpQuiet_call (fun d => calls_ret (srunes_any _ _ _ _)) rfl rfl rfl Try.call51 ?_; simp only [Act.put, List.setIfInBounds_toArray, List.set_cons_zero, List.set_cons_succ]) | go_big_quiet_step (fail))
  refine wpQuiet_nil ?_
  intro d3
  by_cases hne : (ks1.length : Int) ≠ ks2.length
  · go_wp2_with fail
    go_ret
    have he : eqv (.set ks1) (.set ks2) = false := by
      simp only [eqv, Bool.and_eq_false_iff, beq_eq_false_iff_ne]
      exact .inl (fun h => hne (by rw [h]))
    rw [he]
    exact ⟨rfl, ⟨_, hB1.trans (d3.ok.mono hB1.size)⟩, rfl⟩
  · have hee : (ks1.length : Int) = ks2.length := Decidable.not_not.1 hne
    have hlee : ks1.length = ks2.length := by exact_mod_cast hee
    clear hne
    go_wp2_with fail
    generalize hR : d3.u.heap.size = R
    have hR0 : w1.heap.size ≤ R := hR ▸ d3.size
    go_loopw [] (fun wr => ∃ (d' : Ext w1) (seen : Array Nat) (c0 : Nat), wr = d'.u ∧ d'.u.heap[R]? = some (.mapIter (some m1) clock seen c0) ∧ clock ≤ c0 ∧ ∀ x ∈ es.toList, seen.contains x.born = true → ∀ r, x.key = .int .i32 r → r ∈ ks2) (fun wr => (leftOf es (wr.iterSeen R)).size)
    case atStart =>
      refine ⟨d3.on ((Below.refl _ _).alloc (Nat.le_refl _) _), #[], clock, rfl, ?_, Nat.le_refl _, fun x _ h => by simp at h⟩
      show (d3.u.alloc _).heap[R]? = _
      rw [← hR]
      exact heap_alloc_new _ _
    case round =>
      obtain ⟨d2, seen, c0, rfl, hit, hc0, hno⟩ := hrel
      have hs2 : d2.u.iterSeen R = seen := by simp [World.iterSeen, hit]
      rcases run_next_iter hit (d2.block hb) hst.1 hc0 with ⟨h0, hnx⟩ | ⟨e, he, u', hnx, hit', hB⟩
      · go_wp2
        go_ret
        have hf : eqv (.set ks1) (.set ks2) = true := by
          simp only [eqv, Bool.and_eq_true, beq_iff_eq, List.all_eq_true, decide_eq_true_eq]
          refine ⟨hlee, fun r hr => ?_⟩
          obtain ⟨x, hx, e⟩ := set_mem hk hr
          exact hno x hx (all_seen es seen h0 x hx) r e
        rw [hf]
        exact ⟨rfl, ⟨_, hB1.trans (d2.ok.mono hB1.size)⟩, rfl⟩
      · obtain ⟨d3, rfl⟩ : ∃ d3 : Ext w1, d3.u = u' := ⟨d2.onto (hB _ hR0), rfl⟩
        have hem := (mem_left he).1
        obtain ⟨r, hr, hkey⟩ := set_keys hk e hem
        have hen := run_entry_iter hit' (d3.block hb) hem hst.2.1
        rw [hkey] at hnx hen
        have hl := fun d : Ext w1 => run_lookup_set (hm.ext d) r
        by_cases hrk : r ∈ ks2
        · go_wp2_with fail
          go_roundw
          case rel =>
            refine ⟨d3, _, _, rfl, hit', Nat.le_refl _, fun x hx hc r' hr' => ?_⟩
            rw [contains_push] at hc
            rcases Bool.or_eq_true _ _ ▸ hc with h1 | h1
            · exact hno x hx h1 r' hr'
            · have : x = e := born_inj hst.2.1 hx hem (beq_iff_eq.1 h1)
              subst this
              rw [hkey] at hr'
              cases hr'
              exact hrk
          case measure =>
            have hs4 : d3.u.iterSeen R = seen.push e.born := by simp [World.iterSeen, hit']
            rw [hs4, hs2]
            exact left_shrinks es seen e he
        · go_wp2_with fail
          go_ret
          have ht : eqv (.set ks1) (.set ks2) = false := by
            simp only [eqv, Bool.and_eq_false_iff, List.all_eq_false]
            exact .inr ⟨r, hr, by simpa using hrk⟩
          rw [ht]
          exact ⟨rfl, ⟨_, hB1.trans (d3.ok.mono hB1.size)⟩, rfl⟩

/-- A call of the method Equal: on in a later world. -/
theorem run_equal {w : World} {b1 : Nat} {f1 : Int} {k1 : TK} (h1 : CellsAt w b1 f1 k1) {v2 : Value} {t2 : Tok} (h2 : TokAt w v2 t2) :
    ∃ vs, (method 235 k1.ty (.pointer (some ⟨b1, 0, none⟩)) "Equal").run Try.prog w = .ok (k1.eqf, .agg (.int .u64 k1.tt :: .int .u64 f1 :: vs).toArray) w ∧
      Calls Try.prog k1.eqf #[.agg (.int .u64 k1.tt :: .int .u64 f1 :: vs).toArray, v2] w (Ret w (.bool (eqv k1 t2.k))) := by
  obtain ⟨vs, hr, hm⟩ := method_equal h1
  refine ⟨vs, hm, ?_⟩
  obtain ⟨k2, f2⟩ := t2
  obtain ⟨b2, rfl, c2⟩ := h2
  cases k1 with
  | chr r =>
    simp only [TK.rest] at hr
    subst hr
    cases k2 with
    | chr r2 => exact eq_cc f1 r b2 f2 r2 c2
    | dot => exact eq_cd f1 r b2 f2 c2
    | set ks => exact eq_cs f1 r b2 f2 ks c2
  | dot =>
    simp only [TK.rest] at hr
    subst hr
    cases k2 with
    | chr r2 => exact eq_dc f1 b2 f2 r2 c2
    | dot => exact eq_dd f1 b2 f2 c2
    | set ks => exact eq_ds f1 b2 f2 ks c2
  | set ks1 =>
    obtain ⟨m, rfl, _, hs⟩ := hr
    cases k2 with
    | chr r2 => exact eq_sc f1 ks1 m hs b2 f2 r2 c2
    | dot => exact eq_sd f1 ks1 m hs b2 f2 c2
    | set ks => exact eq_ss f1 ks1 m hs b2 f2 ks c2

theorem call_eqf (k : TK) (args : Array Value) (w : World) : Sem.run Try.prog (callFunc k.eqf args) w = Result.ok (Next.enter k.eqf args) w := by
  cases k with
  | chr r => exact Try.call76 args w
  | dot => exact Try.call81 args w
  | set ks => exact Try.call83 args w

theorem run_equal_op {k : TK} {b : Nat} {f : Int} {vs : List Value} {w : World} (hm : (method 235 k.ty (.pointer (some ⟨b, 0, none⟩)) "Equal").run Try.prog w = .ok (k.eqf, .agg (.int .u64 k.tt :: .int .u64 f :: vs).toArray) w)
    (ρ : Operand → Value) (x y : Operand) {o : Oper} {ts : Array TypeId} (hop : o.op = .call { callee := .invoke x "Equal", args := #[y], argTypes := ts }) {v2 : Value}
    (hx : ρ x = .iface k.ty (.pointer (some ⟨b, 0, none⟩))) (hy : ρ y = v2) : (execOp ρ o).run Try.prog w = .ok (.enter k.eqf #[.agg (.int .u64 k.tt :: .int .u64 f :: vs).toArray, v2]) w := by
  simp [execOp, hop, resolve, hx, hy, invoke, callMethod, Sem.run, hm, call_eqf, go_sem, program]

theorem wpList_equal {ops : Array Oper} {Q : Exit → Act → World → Prop} {a : Act} {o : Oper} {rest : List Oper} {w : World} (d : Ext w) (x y : Operand) (hw : Region.wanted o (yielded ops a.tmps) = true) {ts : Array TypeId}
    (hop : o.op = .call { callee := .invoke x "Equal", args := #[y], argTypes := ts }) {v1 v2 : Value} {t1 t2 : Tok} (hx : a.eval x = v1) (hy : a.eval y = v2) (h1 : TokAt w v1 t1) (h2 : TokAt w v2 t2) {e : Bool} (he : eqv t1.k t2.k = e)
    (hK : ∀ d : Ext w, wpList Try.prog ops Q rest (a.put o.dst (.bool e)) d.u) : wpList Try.prog ops Q (o :: rest) a d.u := by
  subst he
  obtain ⟨k1, f1⟩ := t1
  obtain ⟨b1, rfl, c1⟩ := h1
  obtain ⟨vs, hm, hc⟩ := run_equal (c1.ext d) (h2.ext d)
  exact wpList_enter d hw (v := .bool (eqv k1 t2.k)) (run_equal_op hm a.eval x y hop hx hy) (hc.mono fun e w' ⟨he, d', hd⟩ => ⟨he, d.on d'.ok, hd⟩) hK

end Go.Proofs.Ythlhfdidlfdaiaa
