/- The contracts of NewCharacter, NewDot and NewSet. -/
import Derived.Test.YthlhfdidlfdaiaaRune
namespace Go.Proofs.Ythlhfdidlfdaiaa
open Go.RowKit
attribute [local irreducible] wpList wpQuiet

/-- A new token: its block lies from block B on. -/
def NewAt (B : Nat) (w : World) (v : Value) (t : Tok) : Prop := ∃ b, B ≤ b ∧ v = .iface t.k.ty (.pointer (some ⟨b, 0, none⟩)) ∧ CellsAt w b t.f t.k

/-- What a maker leaves. -/
def Made (w : World) (t : Tok) (e : Ending) (w' : World) : Prop := ∃ v, e = .returned v ∧ Below w.heap.size w w' ∧ NewAt w.heap.size w' v t

theorem newChar_any (r : Int) (w : World) : Calls Try.prog 36 #[.int .i32 r] w (Made w ⟨.chr r, 0⟩) := by
  go_enter Try.func36, Try.ntmps36
  go_wp2_with fail
  go_ret
  exact ⟨_, rfl, (Below.refl _ _).alloc (Nat.le_refl _) _, w.heap.size, Nat.le_refl _, rfl, heap_alloc_new _ _⟩

theorem newDot_any (w : World) : Calls Try.prog 34 #[] w (Made w ⟨.dot, 0⟩) := by
  go_enter Try.func34, Try.ntmps34
  go_wp2_with fail
  go_ret
  exact ⟨_, rfl, (Below.refl _ _).alloc (Nat.le_refl _) _, w.heap.size, Nat.le_refl _, rfl, heap_alloc_new _ _⟩

/-- The keys of a map, one more put in. -/
def ins (ks : List Int) (r : Int) : List Int := if r ∈ ks then ks else ks ++ [r]
/-- The keys of a map that is filled out of a list. -/
def keysOf (l : List Int) : List Int := l.foldl ins []

/-- Block m is a map with just these keys. -/
theorem run_insert_set {w : World} {m : Nat} {ks : List Int} (h : SetAt w m ks) (r : Int) :
    ∃ w', (Instr.mapUpdate 88 (.map (some m)) (.int .i32 r) (.bool true)).run Try.prog w = .ok () w' ∧ SetAt w' m (ins ks r) ∧ (∀ B, B ≤ m → Below B w w') ∧ w'.heap.size = w.heap.size ∧ ∀ b, b ≠ m → w'.heap[b]? = w.heap[b]? := by
  obtain ⟨es, clock, hb, hk, hv, hst⟩ := h
  have hlt : m < w.heap.size := (Array.getElem?_eq_some_iff.1 hb).1
  have hbel : ∀ o : Obj, ∀ B, B ≤ m → Below B w { w with heap := w.heap.setIfInBounds m o } := fun o B hB => ⟨rfl, rfl, rfl, by simp, fun k hk => by simp [Array.getElem?_setIfInBounds]; omega⟩
  have hoth : ∀ o : Obj, ∀ b, b ≠ m → ({ w with heap := w.heap.setIfInBounds m o } : World).heap[b]? = w.heap[b]? := fun o b hne => by
    simp [Ne.symm hne]
  have hall : ∀ x ∈ es.toList, MapKept.IsKey (.int .i32) x.key := fun x hx => by
    obtain ⟨r, _, e⟩ := set_keys hk x hx
    rw [e]; exact isKey32 r
  rcases MapKept.findNow_spec (isKey32 r) es.toList 0 hall with ⟨h1, h2⟩ | ⟨j, e, h1, h2, h3⟩
  · have hn : r ∉ ks := fun hr => by
      obtain ⟨x, hx, e⟩ := set_mem hk hr
      exact h2 x hx e
    refine ⟨{ w with heap := w.heap.setIfInBounds m (.map (es.push { key := .int .i32 r, val := .bool true, born := clock }) (clock + 1)) }, ?_, ?_, hbel _, by simp, hoth _⟩
    · simp [Instr.mapUpdate, run_underlying Try.underlying88, MapKept.run_getObj_map hb, MapKept.run_checkKey Try.underlying21 (isKey32 r), MapKept.run_findKey Try.underlying21 h1, MapKept.run_setObj_map _ hb, Result.andThen]
    · refine ⟨es.push { key := .int .i32 r, val := .bool true, born := clock }, clock + 1, by simp [hlt], by simp [hk, ins, hn], ?_, MapKept.stamped_push hst h2⟩
      intro x hx
      simp only [Array.toList_push, List.mem_append, List.mem_singleton] at hx
      rcases hx with hx | rfl
      · exact hv x hx
      · rfl
  · have hj : es[j]? = some e := by simpa using h2
    have he : e ∈ es.toList := List.mem_of_getElem? h2
    have hr : r ∈ ks := by
      obtain ⟨r', h4, h5⟩ := set_keys hk e he
      rw [h3] at h5
      cases h5
      exact h4
    have hmod : es.modify j (fun e' => { e' with key := .int .i32 r, val := .bool true }) = es := by
      apply Array.ext (by simp)
      intro i h1 h2
      rw [Array.getElem_modify]
      split
      · rename_i hij
        subst hij
        have : es[j] = e := by simpa [Array.getElem?_eq_getElem h2] using hj
        rw [this]
        have hve := hv e he
        cases e
        simp_all
      · rfl
    refine ⟨{ w with heap := w.heap.setIfInBounds m (.map es clock) }, ?_, ?_, hbel _, by simp, hoth _⟩
    · simp [Instr.mapUpdate, run_underlying Try.underlying88, MapKept.run_getObj_map hb, MapKept.run_checkKey Try.underlying21 (isKey32 r), MapKept.run_findKey Try.underlying21 h1, hj, h3, MapKept.run_keyThatStays (isKey32 r), MapKept.run_setObj_map _ hb, Result.andThen, hmod]
    · exact ⟨es, clock, by simp [hlt], by simp [hk, ins, hr], hv, hst⟩


theorem keysOf_snoc (l : List Int) (k : Nat) (r : Int) (h : l[k]? = some r) : keysOf (l.take (k + 1)) = ins (keysOf (l.take k)) r := by
  unfold keysOf
  rw [List.take_add_one, h]
  simp [List.foldl_append]

theorem newSet_any {b off cap : Nat} {l : List Int} (w : World) (h : RunesIs w b off cap l) :
    Calls Try.prog 35 #[.slice (some ⟨b, off, none⟩) l.length cap] w (Made w ⟨.set (keysOf l), 0⟩) := by
  have h1 := h.small
  have hmm := @run_makeMap Try.prog
  go_enter Try.func35, Try.ntmps35
  go_wp2_with fail
  go_loopw [9] (fun i wr => ∃ (k : Nat) (d : Ext w), k ≤ l.length ∧ i = .int .i64 k ∧ wr = d.u ∧ w.heap.size < d.u.heap.size ∧ SetAt d.u w.heap.size (keysOf (l.take k))) (fun i _ => l.length - (intOf i).toNat)
  case atStart =>
    refine ⟨0, (Ext.self w).on ((Below.refl _ _).alloc (Nat.le_refl _) (.map #[] 0)), by omega, rfl, rfl, ?_, #[], 0, heap_alloc_new _ _, rfl, by simp, MapKept.stamped_empty 0⟩
    show w.heap.size < (w.alloc _).heap.size
    simp
  case round =>
    obtain ⟨k, d, hk, rfl, rfl, hsz, hset⟩ := hrel
    by_cases hlt : k < l.length
    · have hr := h.rune k l[k] (List.getElem?_eq_getElem hlt)
      have hc := d.cell hr
      obtain ⟨u', hrun, hset', hbel, hsz', _⟩ := run_insert_set hset l[k]
      rw [← keysOf_snoc l k l[k] (List.getElem?_eq_getElem hlt)] at hset'
      obtain ⟨d2, rfl⟩ : ∃ d2 : Ext w, d2.u = u' := ⟨d.onto (hbel _ (Nat.le_refl _)), rfl⟩
      have HS : Hid _ := hid hsz'
      clear hsz'
      generalize hg : l[k] = g at hc hrun
      clear hg
      go_wp2_with fail
      go_roundw
      case rel => exact ⟨k + 1, d2, by omega, by go_num, rfl, by rw [HS.out]; exact hsz, hset'⟩
      case measure => simp [intOf]; omega
    · go_wp2_with fail
      go_ret
      have e : l.take k = l := List.take_of_length_le (by omega)
      rw [e] at hset
      refine ⟨_, rfl, (d.on ((Below.refl _ _).alloc (Nat.le_refl _) (.cells #[.int .u64 2, .int .u64 0, .map (some w.heap.size)] 90))).ok, d.u.heap.size, by omega, rfl, w.heap.size, heap_alloc_new _ _, ?_⟩
      obtain ⟨es, clock, hb, r⟩ := hset
      exact ⟨es, clock, by rw [heap_alloc_old _ _ hsz]; exact hb, r⟩

end Go.Proofs.Ythlhfdidlfdaiaa
