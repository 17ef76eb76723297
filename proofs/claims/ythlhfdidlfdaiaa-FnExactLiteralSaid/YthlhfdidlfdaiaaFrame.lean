/- What the walks of the law functions are told of the bytes that came in. -/
import Derived.Test.YthlhfdidlfdaiaaSane
import Derived.ProofKit
import Derived.OpenShut
import Derived.ShutString
import Derived.ChangeOld
import Derived.Below
namespace Go.Proofs.Ythlhfdidlfdaiaa
open Go.RowKit

theorem own : ownKnob Try.prog.godebug = none := by kernel_rfl
theorem laidOut : laidOutB Try.prog = true := by kernel_rfl

/-- A slice of integers that came in: it is nil; or it leads to a row of cells, the numbers zs (the first ones are its elements). -/
def IsRow (k : IntKind) (w : World) (a : Option Addr) (len cap : Nat) (zs : List Int) : Prop :=
  (a = none ∧ len = 0 ∧ cap = 0 ∧ zs = []) ∨
  ∃ x, a = some x ∧ len ≤ cap ∧ cap ≤ maxLen ∧ zs.length = cap ∧ (∀ i, i < zs.length → w.cell? (x.add i) = some (.int k (zs.getD i 0))) ∧ ∀ n ∈ zs, (Lit.int k n).wf = true

theorem bytes_of_isRow {w : World} {a : Option Addr} {len cap : Nat} {zs : List Int} (h : IsRow .u8 w a len cap zs) : ∃ ds : List Nat, ds.length = len ∧ BytesIs w (.slice a len cap) ds := by
  rcases h with ⟨rfl, rfl, rfl, rfl⟩ | ⟨x, rfl, hl, hm, hz, hc, hw⟩
  · exact ⟨[], rfl, none, 0, rfl, by simp, by simp⟩
  · have hlen : ((zs.take len).map Int.toNat).length = len := by simp; omega
    have hwf : ∀ n ∈ zs, 0 ≤ n ∧ n < 256 := fun n hn => by
      have := hw n hn
      simp [Lit.wf, show IntKind.u8.min = 0 from rfl, show IntKind.u8.max = 255 from rfl] at this
      omega
    refine ⟨(zs.take len).map Int.toNat, hlen, some x, cap, by rw [hlen], fun i d hi => ⟨x, rfl, ?_⟩, fun d hd => ?_⟩
    · have hil := (List.getElem?_eq_some_iff.1 hi).1
      rw [hlen] at hil
      have hiz : i < zs.length := by omega
      rw [hc i hiz]
      rw [List.getElem?_map, List.getElem?_take, if_pos hil, List.getElem?_eq_getElem hiz] at hi
      simp at hi
      rw [List.getD_eq_getElem?_getD, List.getElem?_eq_getElem hiz]
      have := hwf _ (List.getElem_mem hiz)
      simp
      omega
    · obtain ⟨n, hn, rfl⟩ := List.mem_map.1 hd
      have := hwf n (List.mem_of_mem_take hn)
      omega

theorem BytesIs.keep {w w' : World} {v : Value} {ds : List Nat} (h : BytesIs w v ds) (hB : Below w.heap.size w w') : BytesIs w' v ds := by
  obtain ⟨a, cap, rfl, hc, hd⟩ := h
  refine ⟨a, cap, rfl, fun i d hi => ?_, hd⟩
  obtain ⟨x, hx, hcell⟩ := hc i d hi
  exact ⟨x, hx, by rw [hB.cell (World.block_lt_of_cell? _ _ hcell)]; exact hcell⟩

end Go.Proofs.Ythlhfdidlfdaiaa
