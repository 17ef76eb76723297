/- A map from places (structs of two numbers and a bool) to true: its look-up and its store. -/
import Derived.Test.YthlhfdidlfdaiaaTok
import Derived.Carry
namespace Go.Proofs.Ythlhfdidlfdaiaa
open Go.RowKit

/-- A place of the search. -/
structure Pl where
  i : Nat
  k : Nat
  s : Bool
  deriving DecidableEq, Inhabited

def Pl.val (p : Pl) : Value := .agg #[.int .i64 (p.i : Int), .int .i64 (p.k : Int), .bool p.s]

theorem run_equal_pl (p q : Pl) (w : World) : (Op.equal 50 p.val q.val).run Try.prog w = .ok (decide (p = q)) w := by
  have hst : Try.prog.stoodInHeld 50 = false := by kernel_rfl
  unfold Op.equal Op.maxDepth Op.equalIn
  simp [Pl.val, run_underlying Try.underlying50, go_sem]
  obtain ⟨i, k, s⟩ := p
  obtain ⟨i', k', s'⟩ := q
  simp only [Pl.mk.injEq]
  by_cases h1 : i = i'
  · by_cases h2 : k = k'
    · by_cases h3 : s = s'
      · simp [h1, h2, h3]
      · simp [h1, h2, h3]
    · have : ¬ (k : Int) = k' := by omega
      simp [h1, h2, this]
  · have : ¬ (i : Int) = i' := by omega
    simp [h1, this]

theorem run_checkKey_pl (x : Bool) (p : Pl) (w : World) : (Instr.checkKey x 10000 50 p.val).run Try.prog w = .ok () w := by
  unfold Instr.checkKey
  have h3 : ∀ (a : Int) (u : World), (Instr.checkKey x 9999 3 (.int .i64 a)).run Try.prog u = .ok () u := fun a u => by
    unfold Instr.checkKey
    simp [run_underlying Try.underlying3]
  have h4 : ∀ (a : Bool) (u : World), (Instr.checkKey x 9999 4 (.bool a)).run Try.prog u = .ok () u := fun a u => by
    unfold Instr.checkKey
    simp [run_underlying Try.underlying4]
  simp [Pl.val, run_underlying Try.underlying50, go_sem, h3, h4]

/-- Block m is a map from these places to true. -/
def SeenAt (w : World) (m : Nat) (ps : List Pl) : Prop :=
  ∃ es clock, w.heap[m]? = some (.map es clock) ∧ es.toList.map (·.key) = ps.map Pl.val ∧ ∀ e ∈ es.toList, e.val = .bool true


theorem pl_inj {p q : Pl} (h : p.val = q.val) : p = q := by
  obtain ⟨i, k, s⟩ := p
  obtain ⟨i', k', s'⟩ := q
  simp [Pl.val] at h
  simp only [Pl.mk.injEq]
  exact ⟨by omega, by omega, h.2.2⟩

theorem run_findAsking (p : Pl) (w : World) : ∀ (es : List MapEntry) (ps : List Pl) (n : Nat), es.map (·.key) = ps.map Pl.val → (∀ e ∈ es, e.val = .bool true) →
    ∃ r, (Instr.findAsking 50 p.val es n).run Try.prog w = .ok r w ∧ (p ∉ ps → r = none) ∧ (p ∈ ps → ∃ j, r = some (j, .bool true)) := by
  intro es
  induction es with
  | nil =>
    intro ps n h _
    obtain rfl : ps = [] := by simpa using h.symm
    exact ⟨none, by simp [Instr.findAsking, Sem.run_pure], fun _ => rfl, fun h => by simp at h⟩
  | cons e es ih =>
    intro ps n h hv
    cases ps with
    | nil => simp at h
    | cons q ps =>
      simp only [List.map_cons, List.cons.injEq] at h
      obtain ⟨r, hr, h1, h2⟩ := ih ps (n + 1) h.2 (fun x hx => hv x (by simp [hx]))
      have hev := hv e (by simp)
      have he := run_equal_pl p q w
      rw [← h.1] at he
      by_cases hpq : p = q
      · refine ⟨some (n, e.val), ?_, fun hn => absurd hpq (by simp at hn; exact hn.1), fun _ => ⟨n, by rw [hev]⟩⟩
        subst hpq
        simp [Instr.findAsking, he, Sem.run_pure]
      · refine ⟨r, ?_, fun hn => h1 (by simp at hn; exact hn.2), fun hm => h2 (by simpa [hpq] using hm)⟩
        simp [Instr.findAsking, he, hpq, hr]

theorem run_findKey_pl (p : Pl) (w : World) {es : List MapEntry} {ps : List Pl} (h : es.map (·.key) = ps.map Pl.val) (hv : ∀ e ∈ es, e.val = .bool true) :
    ∃ r, (Instr.findKey 50 p.val es).run Try.prog w = .ok r w ∧ (p ∉ ps → r = none) ∧ (p ∈ ps → ∃ j, r = some (j, .bool true)) := by
  cases es with
  | nil =>
    obtain rfl : ps = [] := by simpa using h.symm
    exact ⟨none, by simp [Instr.findKey, run_underlying Try.underlying50, Instr.findNow], fun _ => rfl, fun h => by simp at h⟩
  | cons e es =>
    obtain ⟨r, hr, h1, h2⟩ := run_findAsking p w (e :: es) ps 0 h hv
    refine ⟨r, ?_, h1, h2⟩
    simp [Instr.findKey, run_underlying Try.underlying50, Instr.findNow, Instr.sameNow, hr]

/-- A look-up. -/
theorem run_lookup_seen {w : World} {m : Nat} {ps : List Pl} (h : SeenAt w m ps) (p : Pl) :
    (Instr.lookup 52 (.map (some m)) p.val false).run Try.prog w = .ok (.bool (decide (p ∈ ps))) w := by
  obtain ⟨es, clock, hb, hk, hv⟩ := h
  have hz : (zeroValue 4).run Try.prog w = .ok (.bool false) w := by kernel_rfl
  obtain ⟨r, hr, h1, h2⟩ := run_findKey_pl p w hk hv
  by_cases hp : p ∈ ps
  · obtain ⟨j, rfl⟩ := h2 hp
    simp [Instr.lookup, run_underlying Try.underlying52, MapKept.run_getObj_map hb, run_checkKey_pl, hr, hp, Sem.run_pure]
  · obtain rfl := h1 hp
    simp [Instr.lookup, run_underlying Try.underlying52, MapKept.run_getObj_map hb, run_checkKey_pl, hr, hp, hz]

/-- A store of a place that was not there. -/
theorem run_insert_seen {w : World} {m : Nat} {ps : List Pl} (h : SeenAt w m ps) (p : Pl) (hp : p ∉ ps) :
    ∃ w', (Instr.mapUpdate 52 (.map (some m)) p.val (.bool true)).run Try.prog w = .ok () w' ∧ SeenAt w' m (ps ++ [p]) ∧ w.grownBy w' (some m) := by
  obtain ⟨es, clock, hb, hk, hv⟩ := h
  have hlt : m < w.heap.size := (Array.getElem?_eq_some_iff.1 hb).1
  obtain ⟨r, hr, h1, _⟩ := run_findKey_pl p w hk hv
  obtain rfl := h1 hp
  refine ⟨{ w with heap := w.heap.setIfInBounds m (.map (es.push { key := p.val, val := .bool true, born := clock }) (clock + 1)) }, ?_, ⟨es.push { key := p.val, val := .bool true, born := clock }, clock + 1, by simp [hlt], by simp [hk], ?_⟩, ⟨rfl, rfl, rfl, by simp, fun k _ hne => ?_⟩⟩
  · simp [Instr.mapUpdate, run_underlying Try.underlying52, MapKept.run_getObj_map hb, run_checkKey_pl, hr, MapKept.run_setObj_map _ hb, Result.andThen]
  · intro x hx
    simp only [Array.toList_push, List.mem_append, List.mem_singleton] at hx
    rcases hx with hx | rfl
    · exact hv x hx
    · rfl
  · have : m ≠ k := fun e => hne (by rw [e])
    simp [this]

end Go.Proofs.Ythlhfdidlfdaiaa
