/- How a token of the package lies in memory, and what a call of its methods Type and Flag does: in every world that holds what the base world held. -/
import Derived.Test.YthlhfdidlfdaiaaRows
import Derived.Test.YthlhfdidlfdaiaaPure
import Derived.WalkKit
import Derived.WalkSpells
import Derived.WalkLawsBesides
import Derived.Laws.IdiomRangeMap
import Derived.Deep.Quiet
import Derived.BigQuiet
namespace Go.Proofs.Ythlhfdidlfdaiaa
open Go.RowKit

theorem hid {p : Prop} (h : p) : Hid p := h

/-- A world that holds all that w0 held, as it held it (and perhaps more blocks). -/
structure Ext (w0 : World) where
  u : World
  ok : Below w0.heap.size w0 u

def Ext.self (w0 : World) : Ext w0 := ⟨w0, Below.refl _ _⟩
theorem Ext.size {w0 : World} (d : Ext w0) : w0.heap.size ≤ d.u.heap.size := d.ok.size
/-- On from there. -/
def Ext.on {w0 : World} (d : Ext w0) {w : World} (h : Below d.u.heap.size d.u w) : Ext w0 := ⟨w, d.ok.trans (h.mono d.size)⟩
def Ext.onto {w0 : World} (d : Ext w0) {w : World} (h : Below w0.heap.size d.u w) : Ext w0 := ⟨w, d.ok.trans h⟩
theorem Ext.block {w0 : World} (d : Ext w0) {b : Nat} {o : Obj} (h : w0.heap[b]? = some o) : d.u.heap[b]? = some o := by
  rw [d.ok.block b (Array.getElem?_eq_some_iff.1 h).1, h]
theorem Ext.cell {w0 : World} (d : Ext w0) {a : Addr} {v : Value} (h : w0.cell? a = some v) : d.u.cell? a = some v := by
  rw [d.ok.cell (World.block_lt_of_cell? w0 a h), h]

/-- What a call leaves: its value, in some world that holds what the base held. -/
def Ret (w0 : World) (v : Value) (e : Ending) (w' : World) : Prop := e = .returned v ∧ ∃ d : Ext w0, w' = d.u
theorem Ret.mk {w0 : World} {v : Value} (d : Ext w0) : Ret w0 v (.returned v) d.u := ⟨rfl, d, rfl⟩
theorem calls_ret {P : Program} {f : FuncId} {args : Array Value} {w0 : World} {d : Ext w0} {v : Value}
    (h : Calls P f args d.u fun e w' => e = .returned v ∧ Below d.u.heap.size d.u w') : Calls P f args d.u (Ret w0 v) :=
  h.mono fun _ _ ⟨he, hb⟩ => ⟨he, d.on hb, rfl⟩

/-- The class of worlds for a region that draws its order. -/
def InExt (w0 : World) (w' : World) : Prop := ∃ d : Ext w0, w' = d.u
@[go_sem] theorem inExt_iff (w0 w' : World) : InExt w0 w' ↔ ∃ d : Ext w0, w' = d.u := Iff.rfl
instance (w0 : World) : Nonempty (Ext w0) := ⟨Ext.self w0⟩

/-! ### Tokens -/
def TK.tt : TK → Int | .chr _ => 0 | .dot => 1 | .set _ => 2
def TK.ty : TK → TypeId | .chr _ => 73 | .dot => 76 | .set _ => 78

/-- Block m is a map whose keys are ks. -/
def SetAt (w : World) (m : Nat) (ks : List Int) : Prop :=
  ∃ es clock, w.heap[m]? = some (.map es clock) ∧ es.toList.map (·.key) = ks.map (Value.int .i32) ∧ (∀ e ∈ es.toList, e.val = .bool true) ∧ MapKept.Stamped es clock

/-- The cells of a token's block. -/
def CellsAt (w : World) (b : Nat) (f : Int) : TK → Prop
  | .chr r => w.heap[b]? = some (.cells #[.int .u64 0, .int .u64 f, .int .i32 r] 92 (0, 0))
  | .dot => w.heap[b]? = some (.cells #[.int .u64 1, .int .u64 f] 87 (0, 0))
  | .set ks => ∃ m, w.heap[b]? = some (.cells #[.int .u64 2, .int .u64 f, .map (some m)] 90 (0, 0)) ∧ SetAt w m ks

/-- The value v is the token t. -/
def TokAt (w : World) (v : Value) (t : Tok) : Prop := ∃ b, v = .iface t.k.ty (.pointer (some ⟨b, 0, none⟩)) ∧ CellsAt w b t.f t.k

theorem SetAt.ext {w0 : World} (d : Ext w0) {m : Nat} {ks : List Int} (h : SetAt w0 m ks) : SetAt d.u m ks := by
  obtain ⟨es, clock, hb, r⟩ := h
  exact ⟨es, clock, d.block hb, r⟩
theorem CellsAt.ext {w0 : World} (d : Ext w0) {b : Nat} {f : Int} {k : TK} (h : CellsAt w0 b f k) : CellsAt d.u b f k := by
  cases k with
  | chr r => exact d.block h
  | dot => exact d.block h
  | set ks => obtain ⟨m, h1, h2⟩ := h; exact ⟨m, d.block h1, h2.ext d⟩
theorem TokAt.ext {w0 : World} (d : Ext w0) {v : Value} {t : Tok} (h : TokAt w0 v t) : TokAt d.u v t := by
  obtain ⟨b, hv, hc⟩ := h
  exact ⟨b, hv, hc.ext d⟩

theorem cell_of_block {w : World} {b : Nat} {c : Array Value} {e : TypeId} {fr : Nat × Nat} (h : w.heap[b]? = some (.cells c e fr)) (o : Nat) : w.cell? ⟨b, o, none⟩ = c[o]? := by
  simp [World.cell?, h]

theorem CellsAt.c0 {w : World} {b : Nat} {f : Int} {k : TK} (h : CellsAt w b f k) : w.cell? ⟨b, 0, none⟩ = some (.int .u64 k.tt) := by
  cases k with
  | chr r => rw [cell_of_block h]; rfl
  | dot => rw [cell_of_block h]; rfl
  | set ks => obtain ⟨m, h1, h2⟩ := h; rw [cell_of_block h1]; rfl
theorem CellsAt.c1 {w : World} {b : Nat} {f : Int} {k : TK} (h : CellsAt w b f k) : w.cell? ⟨b, 1, none⟩ = some (.int .u64 f) := by
  cases k with
  | chr r => rw [cell_of_block h]; rfl
  | dot => rw [cell_of_block h]; rfl
  | set ks => obtain ⟨m, h1, h2⟩ := h; rw [cell_of_block h1]; rfl

/-! ### The methods Type and Flag -/
theorem tflag_any (x y : Int) (w : World) :
    Calls Try.prog 77 #[.agg #[.int .u64 x, .int .u64 y]] w fun e w' => e = .returned (.int .u64 y) ∧ Below w.heap.size w w' := by
  go_enter Try.func77, Try.ntmps77
  go_wp2
  go_ret
  exact ⟨rfl, (Below.refl _ _).alloc (Nat.le_refl _) _⟩

theorem ttype_any (x y : Int) (w : World) :
    Calls Try.prog 80 #[.agg #[.int .u64 x, .int .u64 y]] w fun e w' => e = .returned (.int .u64 x) ∧ Below w.heap.size w w' := by
  go_enter Try.func80, Try.ntmps80
  go_wp2
  go_ret
  exact ⟨rfl, (Below.refl _ _).alloc (Nat.le_refl _) _⟩

theorem crune_any (x y r : Int) (w : World) :
    Calls Try.prog 50 #[.agg #[.int .u64 x, .int .u64 y, .int .i32 r]] w fun e w' => e = .returned (.int .i32 r) ∧ Below w.heap.size w w' := by
  go_enter Try.func50, Try.ntmps50
  go_wp2
  go_ret
  exact ⟨rfl, (Below.refl _ _).alloc (Nat.le_refl _) _⟩

theorem srunes_any (x y : Int) (m : Nat) (w : World) :
    Calls Try.prog 51 #[.agg #[.int .u64 x, .int .u64 y, .map (some m)]] w fun e w' => e = .returned (.map (some m)) ∧ Below w.heap.size w w' := by
  go_enter Try.func51, Try.ntmps51
  go_wp2
  go_ret
  exact ⟨rfl, (Below.refl _ _).alloc (Nat.le_refl _) _⟩

theorem run_method {P : Program} {t : TypeId} {name : String} {v : Value} {n : Nat} {w : World} {path : List FieldStep} {f : FuncId} {pr : Bool}
    (hm : (P.info? t).map (fun i => (i.methods.find? (fun m => m.name == name)).map fun m => (m.path.toList, m.func)) = some (some (path, some (f, pr)))) (hne : path ≠ []) :
    (method (n+1) t v name).run P w = Sem.run P (do let (xt, x) ← follow path t (.val v); pure (f, ← receiverAt xt x pr none)) w := by
  cases hi : P.info? t with
  | none => rw [hi] at hm; simp at hm
  | some i =>
    rw [hi] at hm
    simp only [Option.map_some, Option.some.injEq] at hm
    cases hf : i.methods.find? (fun m => m.name == name) with
    | none => rw [hf] at hm; simp at hm
    | some m =>
      rw [hf] at hm
      simp only [Option.map_some, Option.some.injEq, Prod.mk.injEq] at hm
      obtain ⟨h1, h2⟩ := hm
      unfold method
      simp [typeInfo, hi, hf, h1, h2, go_sem]
      have : m.path ≠ #[] := by intro h; rw [h] at h1; exact hne h1.symm
      simp [this]

theorem mth73f : (Try.prog.info? 73).map (fun i => (i.methods.find? (fun m => m.name == "Flag")).map fun m => (m.path.toList, m.func)) = some (some ([{ struct := 92, index := 0, deref := true }], some (77, false))) := by kernel_rfl
theorem mth76f : (Try.prog.info? 76).map (fun i => (i.methods.find? (fun m => m.name == "Flag")).map fun m => (m.path.toList, m.func)) = some (some ([{ struct := 87, index := 0, deref := true }], some (77, false))) := by kernel_rfl
theorem mth78f : (Try.prog.info? 78).map (fun i => (i.methods.find? (fun m => m.name == "Flag")).map fun m => (m.path.toList, m.func)) = some (some ([{ struct := 90, index := 0, deref := true }], some (77, false))) := by kernel_rfl
theorem mth73t : (Try.prog.info? 73).map (fun i => (i.methods.find? (fun m => m.name == "Type")).map fun m => (m.path.toList, m.func)) = some (some ([{ struct := 92, index := 0, deref := true }], some (80, false))) := by kernel_rfl
theorem mth76t : (Try.prog.info? 76).map (fun i => (i.methods.find? (fun m => m.name == "Type")).map fun m => (m.path.toList, m.func)) = some (some ([{ struct := 87, index := 0, deref := true }], some (80, false))) := by kernel_rfl
theorem mth78t : (Try.prog.info? 78).map (fun i => (i.methods.find? (fun m => m.name == "Type")).map fun m => (m.path.toList, m.func)) = some (some ([{ struct := 90, index := 0, deref := true }], some (80, false))) := by kernel_rfl

theorem method_flag {k : TK} {b : Nat} {f : Int} {w : World} (h : CellsAt w b f k) :
    (method 235 k.ty (.pointer (some ⟨b, 0, none⟩)) "Flag").run Try.prog w = .ok (77, .agg #[.int .u64 k.tt, .int .u64 f]) w := by
  have h0 := h.c0
  have h1 := h.c1
  cases k with
  | chr r =>
    simp only [TK.ty] at *
    rw [run_method mth73f (by simp)]
    simp [follow, receiverAt, Place.get, go_sem, fieldPlace, h0, h1]
  | dot =>
    simp only [TK.ty] at *
    rw [run_method mth76f (by simp)]
    simp [follow, receiverAt, Place.get, go_sem, fieldPlace, h0, h1]
  | set ks =>
    simp only [TK.ty] at *
    rw [run_method mth78f (by simp)]
    simp [follow, receiverAt, Place.get, go_sem, fieldPlace, h0, h1]

theorem method_type {k : TK} {b : Nat} {f : Int} {w : World} (h : CellsAt w b f k) :
    (method 235 k.ty (.pointer (some ⟨b, 0, none⟩)) "Type").run Try.prog w = .ok (80, .agg #[.int .u64 k.tt, .int .u64 f]) w := by
  have h0 := h.c0
  have h1 := h.c1
  cases k with
  | chr r =>
    simp only [TK.ty] at *
    rw [run_method mth73t (by simp)]
    simp [follow, receiverAt, Place.get, go_sem, fieldPlace, h0, h1]
  | dot =>
    simp only [TK.ty] at *
    rw [run_method mth76t (by simp)]
    simp [follow, receiverAt, Place.get, go_sem, fieldPlace, h0, h1]
  | set ks =>
    simp only [TK.ty] at *
    rw [run_method mth78t (by simp)]
    simp [follow, receiverAt, Place.get, go_sem, fieldPlace, h0, h1]

section
variable {ops : Array Oper} {Q : Exit → Act → World → Prop} {a : Act} {o : Oper} {rest : List Oper} {w0 : World}

theorem types_size : Try.prog.types.size = 135 := by kernel_rfl

theorem run_flag {k : TK} {b : Nat} {f : Int} {w : World} (h : CellsAt w b f k) (ρ : Operand → Value) (x : Operand) {o : Oper} (hop : o.op = .call { callee := .invoke x "Flag", args := #[], argTypes := #[] })
   (hx : ρ x = .iface k.ty (.pointer (some ⟨b, 0, none⟩))) : (execOp ρ o).run Try.prog w = .ok (.enter 77 #[.agg #[.int .u64 k.tt, .int .u64 f]]) w := by
  simp [execOp, hop, resolve, hx, invoke, callMethod, Sem.run, method_flag h, Try.call77, go_sem, program]
theorem run_type {k : TK} {b : Nat} {f : Int} {w : World} (h : CellsAt w b f k) (ρ : Operand → Value) (x : Operand) {o : Oper} (hop : o.op = .call { callee := .invoke x "Type", args := #[], argTypes := #[] })
   (hx : ρ x = .iface k.ty (.pointer (some ⟨b, 0, none⟩))) : (execOp ρ o).run Try.prog w = .ok (.enter 80 #[.agg #[.int .u64 k.tt, .int .u64 f]]) w := by
  simp [execOp, hop, resolve, hx, invoke, callMethod, Sem.run, method_type h, Try.call80, go_sem, program]

/-- A method's call in the walk: on in a later world. -/
theorem wpList_enter (d : Ext w0) (hw : Region.wanted o (yielded ops a.tmps) = true) {f : FuncId} {args : Array Value} {v : Value} (hrun : (execOp a.eval o).run Try.prog d.u = .ok (.enter f args) d.u)
    (hc : Calls Try.prog f args d.u (Ret w0 v)) (hK : ∀ d' : Ext w0, wpList Try.prog ops Q rest (a.put o.dst v) d'.u) : wpList Try.prog ops Q (o :: rest) a d.u := by
  refine wpList_step fun K hKK => ?_
  rw [if_pos hw]
  unfold Oper.wp
  rw [hrun]
  simp only [Oper.upon]
  refine hc.mono ?_
  rintro e w' ⟨rfl, d', rfl⟩
  exact hKK _ _ (hK d')

theorem wpQuiet_enter (hw : Region.wanted o (yielded ops a.tmps) = true) {f : FuncId} {args : Array Value} {v : Value} {QQ : Act → Prop} (hrun : ∀ d : Ext w0, (execOp a.eval o).run Try.prog d.u = .ok (.enter f args) d.u)
    (hc : ∀ d : Ext w0, Calls Try.prog f args d.u (Ret w0 v)) (hK : wpQuiet Try.prog ops (InExt w0) QQ rest (a.put o.dst v)) : wpQuiet Try.prog ops (InExt w0) QQ (o :: rest) a := by
  refine wpQuiet_step fun K hKK => ?_
  rw [if_pos hw]
  refine ⟨v, ?_, hKK _ hK⟩
  rintro w' ⟨d, rfl⟩
  unfold Oper.quietAt
  rw [hrun d]
  exact ⟨rfl, (hc d).mono fun e w' ⟨h1, h2⟩ => ⟨h1, h2⟩⟩

theorem run_call {f : FuncId} {l : List Operand} {ts : Array TypeId} (hf : ∀ (args : Array Value) (w : World), Sem.run Try.prog (callFunc f args) w = Result.ok (Next.enter f args) w) (ρ : Operand → Value) (hfun : ρ (.func f) = .func (.func f) #[] #[]) {o : Oper}
    (hop : o.op = .call { callee := .value (.func f), args := l.toArray, argTypes := ts }) (w : World) : (execOp ρ o).run Try.prog w = .ok (.enter f (l.map ρ).toArray) w := by
  simp [execOp, hop, resolve, hfun, Deferred.ofValue, invoke, hf, go_sem]

/-- A call of a function by its contract. -/
theorem wpList_call {f : FuncId} {l : List Operand} {ts : Array TypeId} {al : List Value} {v : Value} {d : Ext w0} (hc : Calls Try.prog f al.toArray d.u (Ret w0 v))
    (hop : o.op = .call { callee := .value (.func f), args := l.toArray, argTypes := ts }) (hargs : l.map a.eval = al) (hw : Region.wanted o (yielded ops a.tmps) = true)
    (hf : ∀ (args : Array Value) (w : World), Sem.run Try.prog (callFunc f args) w = Result.ok (Next.enter f args) w)
    (hK : ∀ d' : Ext w0, wpList Try.prog ops Q rest (a.put o.dst v) d'.u) : wpList Try.prog ops Q (o :: rest) a d.u := by
  subst hargs
  exact wpList_enter d hw (run_call hf a.eval rfl hop d.u) hc hK
theorem wpQuiet_call {f : FuncId} {l : List Operand} {ts : Array TypeId} {al : List Value} {v : Value} {QQ : Act → Prop} (hc : ∀ d : Ext w0, Calls Try.prog f al.toArray d.u (Ret w0 v))
    (hop : o.op = .call { callee := .value (.func f), args := l.toArray, argTypes := ts }) (hargs : l.map a.eval = al) (hw : Region.wanted o (yielded ops a.tmps) = true)
    (hf : ∀ (args : Array Value) (w : World), Sem.run Try.prog (callFunc f args) w = Result.ok (Next.enter f args) w)
    (hK : wpQuiet Try.prog ops (InExt w0) QQ rest (a.put o.dst v)) : wpQuiet Try.prog ops (InExt w0) QQ (o :: rest) a := by
  subst hargs
  exact wpQuiet_enter hw (fun d => run_call hf a.eval rfl hop d.u) hc hK

theorem wpList_flag (d : Ext w0) (x : Operand) (hw : Region.wanted o (yielded ops a.tmps) = true) (hop : o.op = .call { callee := .invoke x "Flag", args := #[], argTypes := #[] })
    {v : Value} {t : Tok} (hx : a.eval x = v) (ht : TokAt w0 v t) (hK : ∀ d' : Ext w0, wpList Try.prog ops Q rest (a.put o.dst (.int .u64 t.f)) d'.u) : wpList Try.prog ops Q (o :: rest) a d.u := by
  obtain ⟨b, rfl, hc⟩ := ht
  exact wpList_enter d hw (run_flag (hc.ext d) _ x hop hx) (calls_ret (tflag_any _ _ _)) hK
theorem wpList_type (d : Ext w0) (x : Operand) (hw : Region.wanted o (yielded ops a.tmps) = true) (hop : o.op = .call { callee := .invoke x "Type", args := #[], argTypes := #[] })
    {v : Value} {t : Tok} {n : Int} (hx : a.eval x = v) (ht : TokAt w0 v t) (hn : t.k.tt = n) (hK : ∀ d' : Ext w0, wpList Try.prog ops Q rest (a.put o.dst (.int .u64 n)) d'.u) : wpList Try.prog ops Q (o :: rest) a d.u := by
  obtain ⟨b, rfl, hc⟩ := ht
  subst hn
  exact wpList_enter d hw (run_type (hc.ext d) _ x hop hx) (calls_ret (ttype_any _ _ _)) hK
theorem wpQuiet_flag (x : Operand) (hw : Region.wanted o (yielded ops a.tmps) = true) (hop : o.op = .call { callee := .invoke x "Flag", args := #[], argTypes := #[] })
    {v : Value} {t : Tok} {QQ : Act → Prop} (hx : a.eval x = v) (ht : TokAt w0 v t) (hK : wpQuiet Try.prog ops (InExt w0) QQ rest (a.put o.dst (.int .u64 t.f))) : wpQuiet Try.prog ops (InExt w0) QQ (o :: rest) a := by
  obtain ⟨b, rfl, hc⟩ := ht
  exact wpQuiet_enter hw (fun d => run_flag (hc.ext d) _ x hop hx) (fun d => calls_ret (tflag_any _ _ _)) hK

/-- A region that draws its order, in the class of the worlds that hold what the base held. -/
theorem wp_region_ext (d : Ext w0) {id : Nat} {l : List Oper} {w : World} (hw : w = d.u) (hB : Region.lexB .any l.toArray = true)
    (h : wpQuiet Try.prog l.toArray (InExt w0) (fun a' => ∀ d' : Ext w0, Q .normal a' d'.u) l a) : (Code.region id l.toArray true).wp Try.prog Q a w := by
  subst hw
  refine wp_region_quiet (C := InExt w0) (by kernel_rfl) hB ⟨d.on (Below.refl _ _).drew, rfl⟩ ?_
  simp only
  have : (fun a' => ∀ w', InExt w0 w' → Q .normal a' w') = (fun a' => ∀ d' : Ext w0, Q .normal a' d'.u) := by
    funext a'
    refine propext ⟨fun h d' => h _ ⟨d', rfl⟩, ?_⟩
    rintro h w' ⟨d', rfl⟩
    exact h d'
  rw [this]
  exact h
end


theorem isKey32 (r : Int) : MapKept.IsKey (.int .i32) (.int .i32 r) := rfl

theorem set_keys {es : Array MapEntry} {ks : List Int} (hk : es.toList.map (·.key) = ks.map (Value.int .i32)) : ∀ x ∈ es.toList, ∃ r, r ∈ ks ∧ x.key = .int .i32 r := by
  intro x hx
  have : x.key ∈ ks.map (Value.int .i32) := hk ▸ List.mem_map.2 ⟨x, hx, rfl⟩
  obtain ⟨r, h1, h2⟩ := List.mem_map.1 this
  exact ⟨r, h1, h2.symm⟩
theorem set_mem {es : Array MapEntry} {ks : List Int} (hk : es.toList.map (·.key) = ks.map (Value.int .i32)) {r : Int} (hr : r ∈ ks) : ∃ x ∈ es.toList, x.key = .int .i32 r := by
  have : Value.int .i32 r ∈ es.toList.map (·.key) := hk ▸ List.mem_map.2 ⟨r, hr, rfl⟩
  obtain ⟨x, h1, h2⟩ := List.mem_map.1 this
  exact ⟨x, h1, h2⟩

/-- A look-up in a set. -/
theorem run_lookup_set {w : World} {m : Nat} {ks : List Int} (h : SetAt w m ks) (r : Int) :
    (Instr.lookup 88 (.map (some m)) (.int .i32 r) true).run Try.prog w = .ok (.tuple #[.bool (decide (r ∈ ks)), .bool (decide (r ∈ ks))]) w := by
  obtain ⟨es, clock, hb, hk, hv, _⟩ := h
  have hck : ∀ x, (Instr.checkKey x 10000 21 (.int .i32 r)).run Try.prog w = .ok () w := fun x => MapKept.run_checkKey Try.underlying21 (isKey32 r) x 9999
  have hz : (zeroValue 4).run Try.prog w = .ok (.bool false) w := by kernel_rfl
  have hall : ∀ x ∈ es.toList, MapKept.IsKey (.int .i32) x.key := fun x hx => by
    obtain ⟨r, _, e⟩ := set_keys hk x hx
    rw [e]; exact isKey32 r
  rcases MapKept.findNow_spec (isKey32 r) es.toList 0 hall with ⟨h1, h2⟩ | ⟨j, e, h1, h2, h3⟩
  · have hn : r ∉ ks := fun hr => by
      obtain ⟨x, hx, e⟩ := set_mem hk hr
      exact h2 x hx e
    have hf := MapKept.run_findKey (P := Try.prog) (w := w) Try.underlying21 h1
    simp [Instr.lookup, go_sem, MapKept.run_getObj_map hb, hck, hf, hz, hn]
  · have he : e ∈ es.toList := List.mem_of_getElem? h2
    have hn : r ∈ ks := by
      obtain ⟨r', h4, h5⟩ := set_keys hk e he
      rw [h3] at h5
      cases h5
      exact h4
    have hf := MapKept.run_findKey (P := Try.prog) (w := w) Try.underlying21 h1
    simp [Instr.lookup, go_sem, MapKept.run_getObj_map hb, hck, hf, hv e he, hn]

/-- What 'next' of an iterator over a map that stands as it stood when the loop began leaves: nothing is left, or one that is left comes out. -/
theorem run_next_iter {u : World} {r m since c0 clock : Nat} {seen : Array Nat} {es : Array MapEntry} (hr : u.heap[r]? = some (.mapIter (some m) since seen c0)) (hb : u.heap[m]? = some (.map es clock))
    (hold : ∀ x ∈ es.toList, x.born < since) (hsc : since ≤ c0) :
    ((leftOf es seen).size = 0 ∧ ∀ ty, (Instr.next (.pointer (some ⟨r, 0, none⟩)) false ty).run Try.prog u = .ok (.tuple #[.bool false]) u) ∨
    ∃ e ∈ (leftOf es seen).toList, ∃ u' : World, (∀ ty, (Instr.next (.pointer (some ⟨r, 0, none⟩)) false ty).run Try.prog u = .ok (.tuple #[.bool true, e.key, e.val]) u') ∧
      u'.heap[r]? = some (.mapIter (some m) since (seen.push e.born) clock) ∧ ∀ B, B ≤ r → Below B u u' := by
  have hlt : r < u.heap.size := (Array.getElem?_eq_some_iff.1 hr).1
  simp only [Instr.next, getObj, Sem.run_bind, Sem.run, hr, hb, Result.andThen, next_test_false seen es since c0 hold hsc, Bool.false_eq_true, if_false]
  unfold leftOf
  have hmem : ∀ x ∈ (Array.filter (fun e => !seen.contains e.born) es).toList, x.born < since := fun x hx => hold x (by simp at hx ⊢; exact hx.1)
  generalize Array.filter (fun e => !seen.contains e.born) es = L at hmem ⊢
  have e1 : L.filter (fun x => decide (x.born < since)) = L := Array.filter_eq_self.2 (fun x hx => by simpa using hmem x (by simpa using hx))
  have e2 : L.filter (fun x => decide (x.born ≥ since)) = #[] := by
    rw [Array.filter_eq_empty_iff]
    intro x hx
    have := hmem x (by simpa using hx)
    simp
    omega
  simp only [e1, e2, Array.append_empty]
  by_cases h0 : L.size = 0
  · left
    have : L = #[] := Array.eq_empty_of_size_eq_zero h0
    subst this
    refine ⟨rfl, fun _ => ?_⟩
    simp [choose, Sem.run, Question.forced]
  · right
    have hne : L.isEmpty = false := by simp [Array.isEmpty, h0]
    simp only [hne, Bool.false_eq_true, if_false, Array.empty_append, Array.size_map]
    have hch : ∃ (j : Nat) (w1 : World), j < L.size ∧ w1.heap = u.heap ∧ w1.os = u.os ∧ w1.tape = u.tape ∧ w1.output = u.output ∧ (choose (Question.mapNext L.size)).run Try.prog u = .ok j w1 := by
      by_cases hf : L.size ≤ 1
      · exact ⟨0, u, by omega, rfl, rfl, rfl, rfl, by simp [choose, Sem.run, Question.forced, hf]⟩
      · exact ⟨_, u.drew, Nat.mod_lt _ (by omega), rfl, rfl, rfl, rfl, by
          simp only [choose, Sem.run, Question.forced, decide_eq_true_eq, hf, if_false, Question.cut]
          rfl⟩
    obtain ⟨j, w1, hj, hh, ho, ht, hu, hrun⟩ := hch
    have hset : ∀ (o' : Obj), (setObj r o').run Try.prog w1 = .ok () { w1 with heap := w1.heap.setIfInBounds r o' } := fun o' => by
      simp only [setObj, Sem.run]
      rw [hh, hr]
    refine ⟨L[j], by simp, { w1 with heap := w1.heap.setIfInBounds r (.mapIter (some m) since (seen.push L[j].born) clock) }, fun ty => ?_, ?_, fun B hB => ⟨ho, ht, hu, ?_, fun k hk => ?_⟩⟩
    · simp only [hrun, Array.getElem?_map, Array.getElem?_eq_getElem hj, Option.map_some, Sem.run_bind, hset, Result.andThen]
      rfl
    · simp [hh, hlt]
    · simp [hh]
    · simp [hh, Array.getElem?_setIfInBounds]; omega

/-- The entry that the step handed out. -/
theorem run_entry_iter {u : World} {r m since clock : Nat} {seen : Array Nat} {es : Array MapEntry} {e : MapEntry} (hr : u.heap[r]? = some (.mapIter (some m) since (seen.push e.born) clock)) (hb : u.heap[m]? = some (.map es clock))
    (he : e ∈ es.toList) (hn : (es.toList.map (·.born)).Nodup) : (Instr.entry (.pointer (some ⟨r, 0, none⟩))).run Try.prog u = .ok (.tuple #[e.key, e.val]) u := by
  have hf : es.find? (·.born == e.born) = some e := by rw [← Array.find?_toList]; exact find_born e es.toList hn he
  simp only [Instr.entry, getObj, Sem.run_bind, Sem.run, hr, hb, Result.andThen, Array.back?_push, bne_self_eq_false, Bool.false_eq_true, if_false, hf]
  rfl

end Go.Proofs.Ythlhfdidlfdaiaa
