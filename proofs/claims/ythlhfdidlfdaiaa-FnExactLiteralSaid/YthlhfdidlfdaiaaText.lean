/- The contract of Text. -/
import Derived.Test.YthlhfdidlfdaiaaKinds
namespace Go.Proofs.Ythlhfdidlfdaiaa
open Go.RowKit

def flagText (g : Int) : List UInt8 := if g = 0 then [] else [g.toNat.toUInt8]
def Sp.text (t : Sp) : List UInt8 := t.s ++ flagText t.g
def textOf (ts : List Sp) : List UInt8 := ts.flatMap Sp.text

theorem sp_cells {w : World} {B n g cap : Nat} {ts : List Sp} (h : w.ownsRow B 43 3 (.slice (some ⟨g, 0, none⟩) n cap) n (ts.flatMap Sp.cs)) {i : Nat} {t : Sp} (hi : ts[i]? = some t) :
    w.cell? ⟨g, i * 3, none⟩ = some (.string ⟨t.s.toArray⟩) ∧ w.cell? ⟨g, i * 3 + 1, none⟩ = some (.int .i64 t.m) ∧ w.cell? ⟨g, i * 3 + 2, none⟩ = some (.int .u8 t.g) := by
  have hl : (ts.flatMap Sp.cs).length = ts.length * 3 := by
    clear h hi
    induction ts with
    | nil => rfl
    | cons x xs ih => simp only [List.flatMap_cons, List.length_append, ih, List.length_cons]; simp [Sp.cs]; omega
  have hg : ∀ j, j < 3 → (ts.flatMap Sp.cs)[i * 3 + j]? = t.cs[j]? := by
    clear h hl
    induction ts generalizing i with
    | nil => simp at hi
    | cons x xs ih =>
      intro j hj
      cases i with
      | zero =>
        simp at hi
        subst hi
        rw [List.flatMap_cons, List.getElem?_append_left (by simp [Sp.cs]; omega)]
        simp
      | succ i =>
        simp at hi
        rw [List.flatMap_cons, List.getElem?_append_right (by simp [Sp.cs]; omega)]
        rw [← ih hi j hj]
        congr 1
        simp [Sp.cs]
        omega
  have hil := (List.getElem?_eq_some_iff.1 hi).1
  rcases h with ⟨hl2, ⟨h0, _⟩ | ⟨g', cap', cur, hv, hb, hgc, hle, hm, hc, ht⟩⟩
  · simp at h0
  · simp at hv
    obtain ⟨rfl, rfl⟩ := hv
    have hcell : ∀ j, j < 3 → w.cell? ⟨g, i * 3 + j, none⟩ = t.cs[j]? := fun j hj => by
      rw [cell_of_block hgc, ← hg j hj, ← ht, List.getElem?_take, if_pos (by omega)]
      simp
    exact ⟨hcell 0 (by omega), hcell 1 (by omega), hcell 2 (by omega)⟩

theorem sp_form {w : World} {B n : Nat} {v : Value} {ts : List Sp} (h : w.ownsRow B 43 3 v n (ts.flatMap Sp.cs)) (hn : n = ts.length) :
    (v = .slice none 0 0 ∧ ts = []) ∨ ∃ g cap, v = .slice (some ⟨g, 0, none⟩) ts.length cap ∧ ts.length ≤ cap ∧ B ≤ g ∧ g < w.heap.size := by
  rcases h.2 with ⟨rfl, h0⟩ | ⟨g, cap, cur, rfl, hb, hgc, hle, r⟩
  · left
    refine ⟨rfl, ?_⟩
    subst hn
    exact List.length_eq_zero_iff.1 h0
  · subst hn
    exact .inr ⟨g, cap, rfl, hle, hb, (Array.getElem?_eq_some_iff.1 hgc).1⟩

theorem txt_add (a b : List UInt8) : (⟨a.toArray⟩ : ByteArray) ++ ⟨b.toArray⟩ = ⟨(a ++ b).toArray⟩ := by
  apply ByteArray.ext
  simp

theorem textOf_snoc (ts : List Sp) (k : Nat) (t : Sp) (h : ts[k]? = some t) : textOf (ts.take (k + 1)) = textOf (ts.take k) ++ t.text := by
  unfold textOf
  rw [List.take_add_one, h]
  simp [List.flatMap_append]

theorem textOf_len (ts : List Sp) (h : ∀ t ∈ ts, t.s.length ≤ 5) : (textOf ts).length ≤ ts.length * 6 := by
  induction ts with
  | nil => simp [textOf]
  | cons t ts ih =>
    have h1 := h t (by simp)
    have h2 := ih fun x hx => h x (by simp [hx])
    have h3 : (flagText t.g).length ≤ 1 := by unfold flagText; split <;> simp
    simp [textOf, Sp.text] at h2 ⊢
    omega

attribute [local irreducible] wpList wpQuiet

set_option maxHeartbeats 1000000 in
theorem text_any {B n : Nat} {v : Value} {ts : List Sp} {w : World} (h : w.ownsRow B 43 3 v n (ts.flatMap Sp.cs)) (hn : n = ts.length) (hf : ∀ t ∈ ts, t.s.length ≤ 5 ∧ (t.g = 0 ∨ t.g = 43 ∨ t.g = 42)) (hs : ts.length ≤ 100) :
    Calls Try.prog 12 #[v] w fun e w' => e = .returned (.string ⟨(textOf ts).toArray⟩) ∧ Below w.heap.size w w' := by
  subst hn
  rcases sp_form h rfl with ⟨rfl, rfl⟩ | ⟨g, cap, rfl, hcap, hBg, hgw⟩
  · go_enter Try.func12, Try.ntmps12
    go_wp2_with fail
    go_loopw [3, 8] (fun s3 s8 wr => s3 = .string ⟨#[]⟩ ∧ s8 = .int .i64 0 ∧ Below w.heap.size w wr) (fun _ s8 _ => 0)
    case atStart => exact ⟨rfl, rfl, Below.refl _ _⟩
    case round =>
      obtain ⟨rfl, rfl, hB⟩ := hrel
      go_wp2_with fail
      go_ret
      exact ⟨rfl, hB⟩
  · go_enter Try.func12, Try.ntmps12
    go_wp2_with fail
    go_loopw [3, 8] (fun s3 s8 wr => ∃ k : Nat, k ≤ ts.length ∧ s3 = .string ⟨(textOf (ts.take k)).toArray⟩ ∧ s8 = .int .i64 (k : Int) ∧ Below w.heap.size w wr) (fun _ s8 _ => ts.length - (intOf s8).toNat)
    case atStart => exact ⟨0, by omega, rfl, rfl, Below.refl _ _⟩
    case round =>
      obtain ⟨k, hk, rfl, rfl, hB⟩ := hrel
      by_cases hlt : k < ts.length
      · have hi := List.getElem?_eq_getElem hlt
        obtain ⟨c0, c1, c2⟩ := sp_cells h hi
        have d0 : wr.cell? ⟨g, k * 3, none⟩ = some (.string ⟨ts[k].s.toArray⟩) := by rw [hB.cell hgw]; exact c0
        have d1 : wr.cell? ⟨g, k * 3 + 1, none⟩ = some (.int .i64 ts[k].m) := by rw [hB.cell hgw]; exact c1
        have d2 : wr.cell? ⟨g, k * 3 + 2, none⟩ = some (.int .u8 ts[k].g) := by rw [hB.cell hgw]; exact c2
        have HT : Hid _ := hid (textOf_snoc ts k _ hi)
        obtain ⟨hs5, hfl⟩ := hf ts[k] (List.getElem_mem hlt)
        have htl := textOf_len (ts.take k) fun t ht => (hf t (List.mem_of_mem_take ht)).1
        rw [List.length_take] at htl
        generalize ts[k] = t at d0 d1 d2 HT hs5 hfl
        obtain ⟨s, m, fl⟩ := t
        generalize textOf (ts.take k) = out at HT htl
        clear c0 c1 c2 hi
        simp only at d0 d1 d2 hs5 hfl
        have ha := txt_add out s
        have hlen : (out ++ s).length ≤ 1000 := by simp; omega
        generalize hos : out ++ s = os at ha hlen
        rcases hfl with rfl | rfl | rfl
        · clear hlen
          go_wp2_with fail
          go_roundw
          case rel =>
            refine ⟨k + 1, by omega, ?_, by go_num, hB.trans ((Below.refl _ _).alloc hB.size _)⟩
            rw [HT.out]
            simp [Sp.text, flagText, ← hos]
          case measure => simp [intOf]; omega
        · have e43 : Utf8.encode 43 = ⟨[43].toArray⟩ := by kernel_rfl
          have hb := txt_add os [43]
          go_wp2_with fail
          go_roundw
          case rel =>
            refine ⟨k + 1, by omega, ?_, by go_num, hB.trans ((Below.refl _ _).alloc hB.size _)⟩
            rw [HT.out]
            simp [Sp.text, flagText, ← hos]
          case measure => simp [intOf]; omega
        · have e42 : Utf8.encode 42 = ⟨[42].toArray⟩ := by kernel_rfl
          have hb := txt_add os [42]
          go_wp2_with fail
          go_roundw
          case rel =>
            refine ⟨k + 1, by omega, ?_, by go_num, hB.trans ((Below.refl _ _).alloc hB.size _)⟩
            rw [HT.out]
            simp [Sp.text, flagText, ← hos]
          case measure => simp [intOf]; omega
      · go_wp2_with fail
        go_ret
        rw [List.take_of_length_le (by omega)]
        exact ⟨rfl, hB⟩

end Go.Proofs.Ythlhfdidlfdaiaa
