/- One element appended to a slice that the call itself made. -/
import Derived.Test.YthlhfdidlfdaiaaMake
import Derived.OwnWalk
namespace Go.Proofs.Ythlhfdidlfdaiaa
open Go.RowKit

/-- What the program's table says of a slice type T over elements E of size cells. -/
structure ElemOf (T E : TypeId) (size bytes : Nat) (z : Value) : Prop where
  und : Try.prog.underlying T = some (.slice E)
  info : (Try.prog.info? E).map (fun i => (i.zero, i.size, i.bytes)) = some (some z, size, bytes)
  zsize : z.cells.size = size
  pos : 0 < size
  small : bytes ≤ 100

theorem elem34 : ElemOf 34 21 1 4 (.int .i32 0) := ⟨Try.underlying34, by kernel_rfl, rfl, by decide, by decide⟩
theorem elem61 : ElemOf 61 57 1 16 .nilIface := ⟨Try.underlying61, by kernel_rfl, rfl, by decide, by decide⟩
theorem elem24 : ElemOf 24 43 3 32 (.agg #[.string ⟨#[]⟩, .int .i64 0, .int .u8 0]) := ⟨Try.underlying24, by kernel_rfl, rfl, by decide, by decide⟩
theorem elem51 : ElemOf 51 50 3 24 (.agg #[.int .i64 0, .int .i64 0, .bool false]) := ⟨Try.underlying51, by kernel_rfl, rfl, by decide, by decide⟩

/-- The append of one element, which lies alone in the last block. -/
theorem wpList_push {T E : TypeId} {size bytes : Nat} {z : Value} (he : ElemOf T E size bytes z) {ops : Array Oper} {rest : List Oper} {o : Oper} {a : Act} {Q : Exit → Act → World → Prop} {w : World}
    {s x : Operand} {base n : Nat} {v : Value} {xs news : List Value} (hown : w.ownsRow base E size v n xs) (hl : news.length = size) (h1 : ∀ u ∈ news, u.oneCell' = true) (hn : n < 1000000000) (hbase : base ≤ w.heap.size)
    (hgd : o.guard = none) (ho : o.op = .call { callee := .builtin .append, args := #[s, x], argTypes := #[T, T] }) (hs : a.eval s = v) (hx : a.eval x = .slice (some ⟨w.heap.size, 0, none⟩) 1 1)
    (h : ∀ g cap w', w'.ownsRow base E size (.slice (some ⟨g, 0, none⟩) (n + 1) cap) (n + 1) (xs ++ news) → w.grownBy w' v.ownBlock → wpList Try.prog ops Q rest (a.put o.dst (.slice (some ⟨g, 0, none⟩) (n + 1) cap)) w') :
    wpList Try.prog ops Q (o :: rest) a (w.alloc (.cells news.toArray E)) := by
  obtain ⟨i, hi, hz0, hz1, hz2⟩ := info_parts he.info
  have hb := he.small
  refine wpList_append_own _ hgd s x T ho base E i z size bytes he.und hi hz0 hz1 hz2 he.zsize he.pos v n xs hs (hown.alloc _) ⟨w.heap.size, 0, none⟩ 1 1 news hx (by omega) ?_ h1 ?_ ?_ ?_ ?_
  · intro j u hj
    have hadd : (⟨w.heap.size, 0, none⟩ : Addr).add j = ⟨w.heap.size, j, none⟩ := by unfold Addr.add; split <;> simp_all
    rw [hadd, cell_of_block (heap_alloc_new _ _)]
    simpa using hj
  · unfold maxLen; omega
  · have : (n + 1) * bytes ≤ (n + 1) * 100 := Nat.mul_le_mul_left _ hb
    omega
  · show base ≤ (w.alloc _).heap.size
    simp; omega
  · intro v' w' hown' hg hnil
    rcases hown'.2 with ⟨rfl, h0⟩ | ⟨g, cap, cur, rfl, r⟩
    · omega
    · refine h g cap w' hown' ⟨hg.os, hg.tape, hg.output, ?_, fun k hk hne => ?_⟩
      · have := hg.size
        simp at this
        omega
      · rw [hg.block k (by simp; omega) hne, heap_alloc_old _ _ hk]

theorem one_oneCell {u : Value} (h : u.oneCell' = true) : ∀ x ∈ [u], x.oneCell' = true := by
  intro x hx
  simp at hx
  subst hx
  exact h

theorem grown_below {w w' : World} {row : Option Nat} (h : w.grownBy w' row) {B : Nat} (hB : B ≤ w.heap.size) (hr : ∀ k, row = some k → B ≤ k) : Below B w w' := (Below.refl B w).grown h hB hr

/-- An owned row of runes, as an argument. -/
theorem runes_of_row {w : World} {base n g cap : Nat} {l : List Int} (h : w.ownsRow base 21 1 (.slice (some ⟨g, 0, none⟩) n cap) n (l.map (Value.int .i32))) (hs : l.length ≤ 1000000) : n = l.length ∧ RunesIs w g 0 cap l := by
  have hn : n = l.length := by have := h.1; simp at this; omega
  refine ⟨hn, ?_⟩
  subst hn
  rcases h.2 with ⟨h0, _⟩ | ⟨g', cap', cur, hv, hb, hg, hle, hm, hc, ht⟩
  · simp at h0
  · simp at hv
    obtain ⟨rfl, rfl⟩ := hv
    refine ⟨hs, hle, fun i r hi => ?_⟩
    rw [Nat.zero_add, cell_of_block hg]
    have hil := (List.getElem?_eq_some_iff.1 hi).1
    have : (cur.toList.take (l.length * 1))[i]? = some (.int .i32 r) := by rw [ht]; simp [hi]
    rw [List.getElem?_take] at this
    split at this
    · simpa using this
    · cases this

theorem below_grown {w w' : World} (h : Below w.heap.size w w') : w.grownBy w' none := ⟨h.os, h.tape, h.output, h.size, fun k hk _ => h.block k hk⟩

/-- What is owned stays owned over a call that leaves what there was. -/
theorem owns_below {w w' : World} (h : Below w.heap.size w w') {base : Nat} {e : TypeId} {size : Nat} {v : Value} {n : Nat} {xs : List Value} (ho : w.ownsRow base e size v n xs) : w'.ownsRow base e size v n xs :=
  ho.kept (below_grown h) (by cases v.ownBlock <;> simp)

theorem RunesIs.ext {w0 : World} {b off cap : Nat} {l : List Int} (h : RunesIs w0 b off cap l) (d : Ext w0) : RunesIs d.u b off cap l := ⟨h.small, h.room, fun i r hi => d.cell (h.rune i r hi)⟩

end Go.Proofs.Ythlhfdidlfdaiaa
