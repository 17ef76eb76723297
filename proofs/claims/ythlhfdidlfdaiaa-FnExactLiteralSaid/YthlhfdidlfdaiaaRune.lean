/- The contracts of nextRune and nextFlag. -/
import Derived.Test.YthlhfdidlfdaiaaMaps
import Derived.Deep.RegionWith
namespace Go.Proofs.Ythlhfdidlfdaiaa
open Go.RowKit
attribute [local irreducible] wpList wpQuiet

theorem results_tmp4 {fn : Func} {t u v x : Tmp} (h : fn.results = #[.tmp t, .tmp u, .tmp v, .tmp x]) (tmps : Array Value) (P : Program) (w : World) :
    (results fn tmps).run P w = .ok (.tuple #[tmps.getD t undef, tmps.getD u undef, tmps.getD v undef, tmps.getD x undef]) w := by
  simp [results, h]

abbrev errEnd : Value := .iface 79 (.string { data := #[114, 101, 97, 99, 104, 101, 100, 32, 101, 110, 100, 32, 111, 102, 32, 105, 110, 112, 117, 116] })
abbrev errInv : Value := .iface 79 (.string { data := #[116, 104, 101, 32, 105, 110, 112, 117, 116, 32, 112, 114, 111, 118, 105, 100, 101, 100, 32, 105, 115, 32, 105, 110, 118, 97, 108, 105, 100] })

@[go_sem] theorem neq_ee (w : World) : (binOp .neq 46 errEnd errEnd).run Try.prog w = .ok (.bool false) w := by kernel_rfl
@[go_sem] theorem neq_ne (w : World) : (binOp .neq 46 .nilIface errEnd).run Try.prog w = .ok (.bool true) w := by kernel_rfl
@[go_sem] theorem neq_ie (w : World) : (binOp .neq 46 errInv errEnd).run Try.prog w = .ok (.bool true) w := by kernel_rfl
@[go_sem] theorem eql_ee (w : World) : (binOp .eql 46 errEnd errEnd).run Try.prog w = .ok (.bool true) w := by kernel_rfl
@[go_sem] theorem eql_ne (w : World) : (binOp .eql 46 .nilIface errEnd).run Try.prog w = .ok (.bool false) w := by kernel_rfl
@[go_sem] theorem eql_ie (w : World) : (binOp .eql 46 errInv errEnd).run Try.prog w = .ok (.bool false) w := by kernel_rfl

/-- From the cell ⟨b, off⟩ on lie the runes l, in a slice of capacity cap. -/
structure RunesIs (w0 : World) (b off cap : Nat) (l : List Int) : Prop where
  small : l.length ≤ 1000000
  room : l.length ≤ cap
  rune : ∀ i r, l[i]? = some r → w0.cell? ⟨b, off + i, none⟩ = some (.int .i32 r)

theorem Below.undrew {B : Nat} {w w' : World} (h : Below B w.drew w') : Below B w w' := ⟨h.os, h.tape, h.output, h.size, h.block⟩

theorem nextRune_end {w0 : World} {b off cap : Nat} {l : List Int} (h : RunesIs w0 b off cap l) (d : Ext w0) :
    Calls Try.prog 52 #[.int .i64 l.length, .slice (some ⟨b, off, none⟩) l.length cap] d.u (Ret w0 (.tuple #[.int .i64 l.length, .int .i32 0, .bool false, errEnd])) := by
  have h1 := h.small
  go_enter Try.func52, Try.ntmps52
  go_wp2_with fail
  refine bodyPost_ret (results_tmp4 rfl _ _ _) rfl ?_
  exact .mk d

theorem nextRune_plain {w0 : World} {b off cap : Nat} {l : List Int} (h : RunesIs w0 b off cap l) (i : Nat) (r : Int) (hi : l[i]? = some r) (hr : r ≠ 92) (d : Ext w0) :
    Calls Try.prog 52 #[.int .i64 i, .slice (some ⟨b, off, none⟩) l.length cap] d.u (Ret w0 (.tuple #[.int .i64 ((i + 1 : Nat) : Int), .int .i32 r, .bool false, .nilIface])) := by
  have h1 := h.small
  have hil := (List.getElem?_eq_some_iff.1 hi).1
  have hc : ∀ d : Ext w0, d.u.cell? ⟨b, off + i, none⟩ = some (.int .i32 r) := fun d => d.cell (h.rune i r hi)
  have hI : (i : Int) < (l.length : Int) := by omega
  have hm : isMod r = false := by simp [isMod, hr]
  clear hi
  have hca : ∀ d : Ext w0, (d.u.alloc modObj).cell? ⟨b, off + i, none⟩ = some (.int .i32 r) := fun d => by
    rw [← hc d]; exact ((Below.refl d.u.heap.size d.u).alloc (Nat.le_refl _) modObj).cell (p := ⟨b, off + i, none⟩) (World.block_lt_of_cell? _ _ (hc d))
  have hl : ∀ d : Ext w0, (Instr.lookup 110 (.map (some d.u.heap.size)) (.int .i32 r) true).run Try.prog (d.u.alloc modObj).drew = .ok (.tuple #[.int .u64 0, .bool (isMod r)]) (d.u.alloc modObj).drew := fun d => look_mod (w := (d.u.alloc modObj).drew) (heap_alloc_new _ _) r
  go_enter Try.func52, Try.ntmps52
  go_wp2_with fail
  go_region_with (first | (go_at_call 57; refine (mod_any _).mono ?_; rintro e w1 ⟨rfl, rfl⟩))
  all_goals
    obtain ⟨d2, hd2⟩ : ∃ d2 : Ext w0, (d.u.alloc modObj).drew = d2.u := ⟨d.on ((Below.refl _ _).alloc (Nat.le_refl _) modObj).drew, rfl⟩
    rw [hd2]
    have HD : Hid _ := hid hd2
    clear hd2
    go_wp2_with (refine wp_region_ext _ rfl (by kernel_rfl) ?_; (repeat (go_big_quiet_step (fail))); refine wpQuiet_nil ?_; intro d3)
    refine bodyPost_ret (results_tmp4 rfl _ _ _) rfl ?_
    exact .mk _


theorem nextRune_esc {w0 : World} {b off cap : Nat} {l : List Int} (h : RunesIs w0 b off cap l) (i : Nat) (r : Int) (hi : l[i]? = some 92) (hi2 : l[i + 1]? = some r) (d : Ext w0) :
    Calls Try.prog 52 #[.int .i64 i, .slice (some ⟨b, off, none⟩) l.length cap] d.u (Ret w0 (.tuple #[.int .i64 ((i + 2 : Nat) : Int), .int .i32 r, .bool true, .nilIface])) := by
  have h1 := h.small
  have hil := (List.getElem?_eq_some_iff.1 hi2).1
  have hc : ∀ d : Ext w0, d.u.cell? ⟨b, off + i, none⟩ = some (.int .i32 92) := fun d => d.cell (h.rune i 92 hi)
  have hc2 : ∀ d : Ext w0, d.u.cell? ⟨b, off + (i + 1), none⟩ = some (.int .i32 r) := fun d => d.cell (h.rune (i + 1) r hi2)
  have hI : (i : Int) < (l.length : Int) := by omega
  have hI2 : (i : Int) + 1 < (l.length : Int) := by omega
  have hI3 : (i : Int) < (l.length : Int) - 1 := by omega
  have hm : isMod 92 = true := rfl
  clear hi hi2
  have hca : ∀ d : Ext w0, (d.u.alloc modObj).cell? ⟨b, off + i, none⟩ = some (.int .i32 92) := fun d => by
    rw [← hc d]; exact ((Below.refl d.u.heap.size d.u).alloc (Nat.le_refl _) modObj).cell (p := ⟨b, off + i, none⟩) (World.block_lt_of_cell? _ _ (hc d))
  have hl : ∀ d : Ext w0, (Instr.lookup 110 (.map (some d.u.heap.size)) (.int .i32 92) true).run Try.prog (d.u.alloc modObj).drew = .ok (.tuple #[.int .u64 0, .bool true]) (d.u.alloc modObj).drew := fun d => look_mod (w := (d.u.alloc modObj).drew) (heap_alloc_new _ _) 92
  go_enter Try.func52, Try.ntmps52
  go_wp2_with fail
  go_region_with (first | (go_at_call 57; refine (mod_any _).mono ?_; rintro e w1 ⟨rfl, rfl⟩))
  all_goals
    obtain ⟨d2, hd2⟩ : ∃ d2 : Ext w0, (d.u.alloc modObj).drew = d2.u := ⟨d.on ((Below.refl _ _).alloc (Nat.le_refl _) modObj).drew, rfl⟩
    rw [hd2]
    have HD : Hid _ := hid hd2
    clear hd2
    go_wp2_with (refine wp_region_ext _ rfl (by kernel_rfl) ?_; (repeat (go_big_quiet_step (fail))); refine wpQuiet_nil ?_; intro d3)
    refine bodyPost_ret (results_tmp4 rfl _ _ _) rfl ?_
    exact .mk _


theorem nextFlag_end {w0 : World} {b off cap : Nat} {l : List Int} (h : RunesIs w0 b off cap l) (d : Ext w0) :
    Calls Try.prog 58 #[.int .i64 l.length, .slice (some ⟨b, off, none⟩) l.length cap] d.u (Ret w0 (.tuple #[.int .i64 l.length, .int .u64 0, errEnd])) := by
  have hn := nextRune_end h
  go_enter Try.func58, Try.ntmps58
  go_wp2_with (refine wpList_call (hn _) rfl rfl rfl Try.call52 ?_; intro d2)
  go_ret3
  exact .mk _

theorem nextFlag_esc {w0 : World} {b off cap : Nat} {l : List Int} (h : RunesIs w0 b off cap l) (i : Nat) (r : Int) (hi : l[i]? = some 92) (hi2 : l[i + 1]? = some r) (d : Ext w0) :
    Calls Try.prog 58 #[.int .i64 i, .slice (some ⟨b, off, none⟩) l.length cap] d.u (Ret w0 (.tuple #[.int .i64 i, .int .u64 0, .nilIface])) := by
  have hn := nextRune_esc h i r hi hi2
  clear hi hi2
  go_enter Try.func58, Try.ntmps58
  go_wp2_with (refine wpList_call (hn _) rfl rfl rfl Try.call52 ?_; intro d2)
  go_ret3
  exact .mk _

set_option maxRecDepth 100000 in
theorem nextFlag_plain {w0 : World} {b off cap : Nat} {l : List Int} (h : RunesIs w0 b off cap l) (i : Nat) (r : Int) (hi : l[i]? = some r) (hr : r ≠ 92) (d : Ext w0) :
    Calls Try.prog 58 #[.int .i64 i, .slice (some ⟨b, off, none⟩) l.length cap] d.u (Ret w0 (.tuple #[.int .i64 ((if isFlag r then i + 1 else i : Nat) : Int), .int .u64 (flagVal r), .nilIface])) := by
  have hn := nextRune_plain h i r hi hr
  clear hi
  have hl : ∀ d : Ext w0, (Instr.lookup 106 (.map (some d.u.heap.size)) (.int .i32 r) true).run Try.prog (d.u.alloc flagObj) = .ok (.tuple #[.int .u64 (flagVal r), .bool (isFlag r)]) (d.u.alloc flagObj) := fun d => look_flag (w := d.u.alloc flagObj) (heap_alloc_new _ _) r
  cases hf : isFlag r
  · simp only [hf, Bool.false_eq_true, if_false] at hl ⊢
    go_enter Try.func58, Try.ntmps58
    go_wp2_with (first | (refine wpList_call (hn _) rfl rfl rfl Try.call52 ?_; intro d2) | (go_at_call 56; refine (flags_any _).mono ?_; rintro e w1 ⟨rfl, rfl⟩))
    go_ret3
    exact ⟨rfl, d2.on ((Below.refl _ _).alloc (Nat.le_refl _) flagObj), rfl⟩
  · simp only [hf, if_true] at hl ⊢
    go_enter Try.func58, Try.ntmps58
    go_wp2_with (first | (refine wpList_call (hn _) rfl rfl rfl Try.call52 ?_; intro d2) | (go_at_call 56; refine (flags_any _).mono ?_; rintro e w1 ⟨rfl, rfl⟩))
    go_ret3
    exact ⟨rfl, d2.on ((Below.refl _ _).alloc (Nat.le_refl _) flagObj), rfl⟩

end Go.Proofs.Ythlhfdidlfdaiaa
