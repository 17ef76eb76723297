/- The three small maps of runes that the package makes anew at each use, and a look-up in each. -/
import Derived.Test.YthlhfdidlfdaiaaTok
namespace Go.Proofs.Ythlhfdidlfdaiaa
open Go.RowKit

/-- 'm[k] = v' at a key that is not there yet, the map's block the last one. -/
theorem run_insert_new {w : World} {t e : TypeId} (ht : Try.prog.underlying t = some (.map 21 e)) {es : Array MapEntry} {clock : Nat} {k : Int} {v : Value} (hk : ∀ x ∈ es.toList, ∃ r, x.key = .int .i32 r ∧ r ≠ k) :
    (Instr.mapUpdate t (.map (some w.heap.size)) (.int .i32 k) v).run Try.prog (w.alloc (.map es clock)) = .ok () (w.alloc (.map (es.push { key := .int .i32 k, val := v, born := clock }) (clock + 1))) := by
  have hb : (w.alloc (.map es clock)).heap[w.heap.size]? = some (.map es clock) := heap_alloc_new _ _
  have hall : ∀ x ∈ es.toList, MapKept.IsKey (.int .i32) x.key := fun x hx => by
    obtain ⟨r, e, _⟩ := hk x hx
    rw [e]; exact isKey32 r
  rcases MapKept.findNow_spec (isKey32 k) es.toList 0 hall with ⟨h1, h2⟩ | ⟨j, e, h1, h2, h3⟩
  · simp [Instr.mapUpdate, run_underlying ht, MapKept.run_getObj_map hb, MapKept.run_checkKey Try.underlying21 (isKey32 k), MapKept.run_findKey Try.underlying21 h1, MapKept.run_setObj_map _ hb, Result.andThen]
    show ({ w.alloc (.map es clock) with heap := (w.heap.push (.map es clock)).setIfInBounds w.heap.size _ } : World) = _
    have hp : ∀ (h : Array Obj) (x y : Obj), (h.push x).setIfInBounds h.size y = h.push y := by
      intro h x y
      apply Array.toList_inj.1
      simp
    rw [hp]
    rfl
  · have he : e ∈ es.toList := List.mem_of_getElem? h2
    obtain ⟨r, h4, h5⟩ := hk e he
    rw [h3] at h4
    cases h4
    exact absurd rfl h5

def modObj : Obj := .map #[{ key := .int .i32 92, val := .int .u64 0, born := 0 }] 1
def flagObj : Obj := .map #[{ key := .int .i32 43, val := .int .u64 1, born := 0 }, { key := .int .i32 42, val := .int .u64 2, born := 1 }] 2
def ttObj : Obj := .map #[{ key := .int .i32 46, val := .int .u64 1, born := 0 }, { key := .int .i32 91, val := .int .u64 2, born := 1 }, { key := .int .i32 93, val := .int .u64 2, born := 2 }] 3

theorem mod_any (w : World) : Calls Try.prog 57 #[] w fun e w' => e = .returned (.map (some w.heap.size)) ∧ w.alloc modObj = w' := by
  have hmm := @run_makeMap Try.prog
  have i1 := run_insert_new (w := w) (v := .int .u64 0) (clock := 0) Try.underlying110 (es := #[]) (k := 92) (by simp)
  simp only [List.push_toArray, List.nil_append, Nat.zero_add] at i1
  go_enter Try.func57, Try.ntmps57
  go_wp2_with fail
  go_ret
  exact ⟨rfl, rfl⟩
theorem flags_any (w : World) : Calls Try.prog 56 #[] w fun e w' => e = .returned (.map (some w.heap.size)) ∧ w.alloc flagObj = w' := by
  have hmm := @run_makeMap Try.prog
  have i1 := run_insert_new (w := w) (v := .int .u64 1) (clock := 0) Try.underlying106 (es := #[]) (k := 43) (by simp)
  have i2 := run_insert_new (w := w) (v := .int .u64 2) (clock := 1) Try.underlying106 (es := #[{ key := .int .i32 43, val := .int .u64 1, born := 0 }]) (k := 42) (by simp)
  simp only [List.push_toArray, List.nil_append, Nat.zero_add, Nat.reduceAdd, List.cons_append] at i1 i2
  go_enter Try.func56, Try.ntmps56
  go_wp2_with fail
  go_ret
  exact ⟨rfl, rfl⟩
theorem tts_any (w : World) : Calls Try.prog 53 #[] w fun e w' => e = .returned (.map (some w.heap.size)) ∧ w.alloc ttObj = w' := by
  have hmm := @run_makeMap Try.prog
  have i1 := run_insert_new (w := w) (v := .int .u64 1) (clock := 0) Try.underlying102 (es := #[]) (k := 46) (by simp)
  have i2 := run_insert_new (w := w) (v := .int .u64 2) (clock := 1) Try.underlying102 (es := #[{ key := .int .i32 46, val := .int .u64 1, born := 0 }]) (k := 91) (by simp)
  have i3 := run_insert_new (w := w) (v := .int .u64 2) (clock := 2) Try.underlying102 (es := #[{ key := .int .i32 46, val := .int .u64 1, born := 0 }, { key := .int .i32 91, val := .int .u64 2, born := 1 }]) (k := 93) (by simp)
  simp only [List.push_toArray, List.nil_append, Nat.zero_add, Nat.reduceAdd, List.cons_append] at i1 i2 i3
  go_enter Try.func53, Try.ntmps53
  go_wp2_with fail
  go_ret
  exact ⟨rfl, rfl⟩


/-- What a flag's rune stands for. -/
def flagVal (r : Int) : Int := if r = 43 then 1 else if r = 42 then 2 else 0
def isFlag (r : Int) : Bool := decide (r = 43 ∨ r = 42)
/-- What a type's rune stands for. -/
def ttVal (r : Int) : Int := if r = 46 then 1 else if r = 91 ∨ r = 93 then 2 else 0
def isTT (r : Int) : Bool := decide (r = 46 ∨ r = 91 ∨ r = 93)
def isMod (r : Int) : Bool := decide (r = 92)

theorem run_lookup_runes {w : World} {m : Nat} {t e : TypeId} (ht : Try.prog.underlying t = some (.map 21 e)) {z : Value} (hz : (zeroValue e).run Try.prog w = .ok z w) {es : Array MapEntry} {clock : Nat} (hb : w.heap[m]? = some (.map es clock)) (r : Int)
    {a : Option (Nat × Value)} (hf : Instr.findNow (.int .i32) (.int .i32 r) es.toList 0 = some a) :
    (Instr.lookup t (.map (some m)) (.int .i32 r) true).run Try.prog w = .ok (.tuple #[(a.map (·.2)).getD z, .bool a.isSome]) w := by
  have hck : ∀ x, (Instr.checkKey x 10000 21 (.int .i32 r)).run Try.prog w = .ok () w := fun x => MapKept.run_checkKey Try.underlying21 (isKey32 r) x 9999
  have hk := MapKept.run_findKey (P := Try.prog) (w := w) Try.underlying21 hf
  cases a <;> simp [Instr.lookup, run_underlying ht, MapKept.run_getObj_map hb, hck, hk, hz, Result.andThen]

theorem look_mod {w : World} {m : Nat} (hb : w.heap[m]? = some modObj) (r : Int) :
    (Instr.lookup 110 (.map (some m)) (.int .i32 r) true).run Try.prog w = .ok (.tuple #[.int .u64 0, .bool (isMod r)]) w := by
  have hz : (zeroValue 108).run Try.prog w = .ok (.int .u64 0) w := by kernel_rfl
  unfold modObj at hb
  by_cases h : r = 92
  · subst h
    exact run_lookup_runes Try.underlying110 hz hb 92 (a := some (0, .int .u64 0)) rfl
  · have := run_lookup_runes Try.underlying110 hz hb r (a := none) (by simp [Instr.findNow, Instr.sameNow, show (r == 92) = false by simp [h]])
    simpa [isMod, h] using this

theorem look_flag {w : World} {m : Nat} (hb : w.heap[m]? = some flagObj) (r : Int) :
    (Instr.lookup 106 (.map (some m)) (.int .i32 r) true).run Try.prog w = .ok (.tuple #[.int .u64 (flagVal r), .bool (isFlag r)]) w := by
  have hz : (zeroValue 83).run Try.prog w = .ok (.int .u64 0) w := by kernel_rfl
  unfold flagObj at hb
  by_cases h : r = 43
  · subst h
    exact run_lookup_runes Try.underlying106 hz hb 43 (a := some (0, .int .u64 1)) rfl
  · by_cases h2 : r = 42
    · subst h2
      exact run_lookup_runes Try.underlying106 hz hb 42 (a := some (1, .int .u64 2)) rfl
    · have := run_lookup_runes Try.underlying106 hz hb r (a := none) (by simp [Instr.findNow, Instr.sameNow, show (r == 43) = false by simp [h], show (r == 42) = false by simp [h2]])
      simpa [isFlag, flagVal, h, h2] using this

theorem look_tt {w : World} {m : Nat} (hb : w.heap[m]? = some ttObj) (r : Int) :
    (Instr.lookup 102 (.map (some m)) (.int .i32 r) true).run Try.prog w = .ok (.tuple #[.int .u64 (ttVal r), .bool (isTT r)]) w := by
  have hz : (zeroValue 71).run Try.prog w = .ok (.int .u64 0) w := by kernel_rfl
  unfold ttObj at hb
  by_cases h : r = 46
  · subst h
    exact run_lookup_runes Try.underlying102 hz hb 46 (a := some (0, .int .u64 1)) rfl
  · by_cases h2 : r = 91
    · subst h2
      exact run_lookup_runes Try.underlying102 hz hb 91 (a := some (1, .int .u64 2)) rfl
    · by_cases h3 : r = 93
      · subst h3
        exact run_lookup_runes Try.underlying102 hz hb 93 (a := some (2, .int .u64 2)) rfl
      · have := run_lookup_runes Try.underlying102 hz hb r (a := none) (by simp [Instr.findNow, Instr.sameNow, show (r == 46) = false by simp [h], show (r == 91) = false by simp [h2], show (r == 93) = false by simp [h3]])
        simpa [isTT, ttVal, h, h2, h3] using this

end Go.Proofs.Ythlhfdidlfdaiaa
