/- The contract of Escaped; what an escaped text spells. -/
import Derived.Test.YthlhfdidlfdaiaaSigns
import Derived.Test.YthlhfdidlfdaiaaExact
namespace Go.Proofs.Ythlhfdidlfdaiaa
open Go.RowKit

def isSign (b : UInt8) : Prop := b = 97 ∨ b = 46 ∨ b = 42 ∨ b = 43 ∨ b = 91 ∨ b = 93 ∨ b = 92 ∨ b = 98
theorem sgn_isSign (k : Nat) : isSign (sgn k) := by
  unfold isSign
  match k with
  | 0 => simp [sgn]
  | 1 => simp [sgn]
  | 2 => simp [sgn]
  | 3 => simp [sgn]
  | 4 => simp [sgn]
  | 5 => simp [sgn]
  | 6 => simp [sgn]
  | n + 7 => simp [sgn]
theorem signs_isSign (ds : List Nat) : ∀ b ∈ signsOf ds, isSign b := by
  intro b hb
  obtain ⟨d, _, rfl⟩ := List.mem_map.1 hb
  exact sgn_isSign _

def esc1 (b : UInt8) : List UInt8 := if b = 97 ∨ b = 98 then [b] else [92, b]
def escText (ss : List UInt8) : List UInt8 := ss.flatMap esc1

theorem escText_snoc (ss : List UInt8) (k : Nat) (b : UInt8) (h : ss[k]? = some b) : escText (ss.take (k + 1)) = escText (ss.take k) ++ esc1 b := by
  unfold escText
  rw [List.take_add_one, h]
  simp [List.flatMap_append]
theorem escText_len (ss : List UInt8) : (escText ss).length ≤ ss.length * 2 := by
  induction ss with
  | nil => simp [escText]
  | cons b ss ih =>
    have : (esc1 b).length ≤ 2 := by unfold esc1; split <;> simp
    simp [escText] at ih ⊢
    omega

def escItem (b : UInt8) : Item := ⟨ru (esc1 b), .chr (b.toNat : Int), [], 0⟩
theorem escItem_ok (b : UInt8) (h : isSign b) : (escItem b).Ok := by
  rcases h with rfl | rfl | rfl | rfl | rfl | rfl | rfl | rfl
  · exact ⟨good_chr 97 (by decide) (by decide) (by decide), by decide, .inl ⟨rfl, rfl⟩, by decide, by decide, by decide⟩
  · exact ⟨good_escaped 46, by decide, .inl ⟨rfl, rfl⟩, by decide, by decide, by decide⟩
  · exact ⟨good_escaped 42, by decide, .inl ⟨rfl, rfl⟩, by decide, by decide, by decide⟩
  · exact ⟨good_escaped 43, by decide, .inl ⟨rfl, rfl⟩, by decide, by decide, by decide⟩
  · exact ⟨good_escaped 91, by decide, .inl ⟨rfl, rfl⟩, by decide, by decide, by decide⟩
  · exact ⟨good_escaped 93, by decide, .inl ⟨rfl, rfl⟩, by decide, by decide, by decide⟩
  · exact ⟨good_escaped 92, by decide, .inl ⟨rfl, rfl⟩, by decide, by decide, by decide⟩
  · exact ⟨good_chr 98 (by decide) (by decide) (by decide), by decide, .inl ⟨rfl, rfl⟩, by decide, by decide, by decide⟩

def escTok (b : UInt8) : Tok := ⟨.chr (b.toNat : Int), 0⟩

theorem spells_esc (ss : List UInt8) (h : ∀ b ∈ ss, isSign b) (hs : ss.length ≤ 100) : Spells (escText ss) (some (ss.map escTok)) := by
  have e : ru (escText ss) = (ss.map escItem).flatMap Item.runes := by
    clear h hs
    induction ss with
    | nil => rfl
    | cons b ss ih =>
      simp only [escText, List.flatMap_cons, List.map_cons] at ih ⊢
      rw [← ih]
      simp [ru, Item.runes, escItem]
  have := spells_items (its := ss.map escItem) (by intro y hy; obtain ⟨b, hb, rfl⟩ := List.mem_map.1 hy; exact escItem_ok b (h b hb)) (by
    intro b hb
    obtain ⟨c, hc, hb⟩ := List.mem_flatMap.1 hb
    rcases h c hc with rfl | rfl | rfl | rfl | rfl | rfl | rfl | rfl <;> (simp [esc1] at hb; rcases hb with rfl | rfl <;> decide)) e (by have := escText_len ss; omega)
  rw [List.map_map] at this
  exact this

theorem all2_esc (ss ts : List UInt8) : all2 (ss.map escTok) (ts.map escTok) = decide (ss = ts) := by
  induction ss generalizing ts with
  | nil => cases ts <;> simp [all2]
  | cons a ss ih =>
    cases ts with
    | nil => simp [all2]
    | cons b ts =>
      simp only [List.map_cons, all2, ih]
      have e : mt (escTok a).k (escTok b).k = decide (a = b) := by
        simp only [escTok, mt]
        rw [Bool.eq_iff_iff]
        simp only [beq_iff_eq, decide_eq_true_eq]
        rw [← UInt8.toNat_inj]
        omega
      rw [e, Bool.eq_iff_iff]
      simp
theorem esc_bare (ss : List UInt8) : Bare (ss.map escTok) := by
  intro t ht
  obtain ⟨b, _, rfl⟩ := List.mem_map.1 ht
  rfl
theorem meets_esc (ss ts : List UInt8) : meets (ss.map escTok) (ts.map escTok) = decide (ss = ts) := by
  rw [meets_all2 (esc_bare ss) (esc_bare ts), all2_esc]

attribute [local irreducible] wpList wpQuiet Calls

theorem meet_esc (ss ts : List UInt8) (h1 : ∀ b ∈ ss, isSign b) (h2 : ∀ b ∈ ts, isSign b) (hs : ss.length ≤ 100) (ht : ts.length ≤ 100) (w : World) :
    Calls Try.prog 14 #[.string (txt (escText ss)), .string (txt (escText ts))] w fun e w' => Below w.heap.size w w' ∧ e = .returned (.tuple #[.bool (decide (ss = ts)), .bool true]) := by
  have := meet_any (spells_esc ss h1 hs) (spells_esc ts h2 ht) w
  refine this.mono fun e w' ⟨hB, he⟩ => ⟨hB, ?_⟩
  rw [he, ← meets_esc]
  rfl

set_option maxRecDepth 100000 in
set_option maxHeartbeats 1000000 in
theorem escaped_any {g cap : Nat} {ss : List UInt8} {w : World} (h : RunesIs w g 0 cap (ru ss)) (hg : ∀ b ∈ ss, isSign b) (hs : ss.length ≤ 100) :
    Calls Try.prog 22 #[.slice (some ⟨g, 0, none⟩) ss.length cap] w fun e w' => e = .returned (.string (txt (escText ss))) ∧ w' = w := by
  go_enter Try.func22, Try.ntmps22
  go_wp2_with fail
  go_loopw [3, 8] (fun s3 s8 wr => ∃ k : Nat, s3 = .string ⟨(escText (ss.take k)).toArray⟩ ∧ s8 = .int .i64 (k : Int) ∧ k ≤ ss.length ∧ wr = w) (fun _ s8 _ => ss.length - (intOf s8).toNat)
  case atStart => exact ⟨0, rfl, rfl, by omega, rfl⟩
  case round =>
    obtain ⟨k, rfl, rfl, hk, rfl⟩ := hrel
    by_cases hlt : k < ss.length
    · have hi := List.getElem?_eq_getElem hlt
      have hc := h.rune k (ss[k].toNat : Int) (by simp [ru, hi])
      rw [Nat.zero_add] at hc
      have HT : Hid _ := hid (escText_snoc ss k _ hi)
      have hsg := hg ss[k] (List.getElem_mem hlt)
      have htl := escText_len (ss.take k)
      rw [List.length_take] at htl
      generalize ss[k] = b at hc HT hsg
      generalize escText (ss.take k) = out at HT htl
      have hlen : out.length ≤ 200 := by omega
      clear hi htl
      rcases hsg with rfl | rfl | rfl | rfl | rfl | rfl | rfl | rfl
      · have e1 : Utf8.encode 97 = ⟨[97].toArray⟩ := by kernel_rfl
        have hc' : wr.cell? ⟨g, k, none⟩ = some (.int .i32 97) := hc
        have ha := txt_add out [97]
        clear hc
        go_wp2_with fail
        go_roundw
        case rel =>
          refine ⟨k + 1, ?_, by go_num, by omega, by trivial⟩
          rw [HT.out]
          simp [esc1]
        case measure => simp [intOf]; omega
      · have e1 : Utf8.encode 46 = ⟨[46].toArray⟩ := by kernel_rfl
        have hc' : wr.cell? ⟨g, k, none⟩ = some (.int .i32 46) := hc
        have ha := txt_add out [92]
        have hb := txt_add (out ++ [92]) [46]
        clear hc
        go_wp2_with fail
        go_roundw
        case rel =>
          refine ⟨k + 1, ?_, by go_num, by omega, by trivial⟩
          rw [HT.out]
          simp [esc1]
        case measure => simp [intOf]; omega
      · have e1 : Utf8.encode 42 = ⟨[42].toArray⟩ := by kernel_rfl
        have hc' : wr.cell? ⟨g, k, none⟩ = some (.int .i32 42) := hc
        have ha := txt_add out [92]
        have hb := txt_add (out ++ [92]) [42]
        clear hc
        go_wp2_with fail
        go_roundw
        case rel =>
          refine ⟨k + 1, ?_, by go_num, by omega, by trivial⟩
          rw [HT.out]
          simp [esc1]
        case measure => simp [intOf]; omega
      · have e1 : Utf8.encode 43 = ⟨[43].toArray⟩ := by kernel_rfl
        have hc' : wr.cell? ⟨g, k, none⟩ = some (.int .i32 43) := hc
        have ha := txt_add out [92]
        have hb := txt_add (out ++ [92]) [43]
        clear hc
        go_wp2_with fail
        go_roundw
        case rel =>
          refine ⟨k + 1, ?_, by go_num, by omega, by trivial⟩
          rw [HT.out]
          simp [esc1]
        case measure => simp [intOf]; omega
      · have e1 : Utf8.encode 91 = ⟨[91].toArray⟩ := by kernel_rfl
        have hc' : wr.cell? ⟨g, k, none⟩ = some (.int .i32 91) := hc
        have ha := txt_add out [92]
        have hb := txt_add (out ++ [92]) [91]
        clear hc
        go_wp2_with fail
        go_roundw
        case rel =>
          refine ⟨k + 1, ?_, by go_num, by omega, by trivial⟩
          rw [HT.out]
          simp [esc1]
        case measure => simp [intOf]; omega
      · have e1 : Utf8.encode 93 = ⟨[93].toArray⟩ := by kernel_rfl
        have hc' : wr.cell? ⟨g, k, none⟩ = some (.int .i32 93) := hc
        have ha := txt_add out [92]
        have hb := txt_add (out ++ [92]) [93]
        clear hc
        go_wp2_with fail
        go_roundw
        case rel =>
          refine ⟨k + 1, ?_, by go_num, by omega, by trivial⟩
          rw [HT.out]
          simp [esc1]
        case measure => simp [intOf]; omega
      · have e1 : Utf8.encode 92 = ⟨[92].toArray⟩ := by kernel_rfl
        have hc' : wr.cell? ⟨g, k, none⟩ = some (.int .i32 92) := hc
        have ha := txt_add out [92]
        have hb := txt_add (out ++ [92]) [92]
        clear hc
        go_wp2_with fail
        go_roundw
        case rel =>
          refine ⟨k + 1, ?_, by go_num, by omega, by trivial⟩
          rw [HT.out]
          simp [esc1]
        case measure => simp [intOf]; omega
      · have e1 : Utf8.encode 98 = ⟨[98].toArray⟩ := by kernel_rfl
        have hc' : wr.cell? ⟨g, k, none⟩ = some (.int .i32 98) := hc
        have ha := txt_add out [98]
        clear hc
        go_wp2_with fail
        go_roundw
        case rel =>
          refine ⟨k + 1, ?_, by go_num, by omega, by trivial⟩
          rw [HT.out]
          simp [esc1]
        case measure => simp [intOf]; omega
    · obtain rfl : k = ss.length := by omega
      go_wp2_with fail
      go_ret
      rw [List.take_length]
      exact ⟨rfl, by trivial⟩

end Go.Proofs.Ythlhfdidlfdaiaa
