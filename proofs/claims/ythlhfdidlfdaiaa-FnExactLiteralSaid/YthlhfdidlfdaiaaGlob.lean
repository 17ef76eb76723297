/- The contracts of NewGlob, NonEmpty, Meet and Tokens at texts of plain bytes. -/
import Derived.Test.YthlhfdidlfdaiaaSimplify
import Derived.Test.YthlhfdidlfdaiaaNormal
import Derived.Test.YthlhfdidlfdaiaaTrim
import Derived.Laws.IdiomStrings
import Derived.Laws.RangeString
namespace Go.Proofs.Ythlhfdidlfdaiaa
open Go.RowKit

/-- A text. -/
abbrev txt (bs : List UInt8) : ByteArray := ⟨bs.toArray⟩
/-- Its runes, where all its bytes are plain. -/
def ru (bs : List UInt8) : List Int := bs.map fun b => (b.toNat : Int)

theorem txt_size (bs : List UInt8) : (txt bs).size = bs.length := rfl

theorem runesFrom_plain (bs : List UInt8) (h : ∀ b ∈ bs, b.toNat < 128) : ∀ (fuel i : Nat) (acc : Array Value), bs.length ≤ i + fuel → i ≤ bs.length → Conv.runesFrom (txt bs) fuel i acc = acc ++ ((ru bs).drop i |>.map (Value.int .i32)).toArray := by
  intro fuel
  induction fuel with
  | zero =>
    intro i acc h1 h2
    have : (ru bs).drop i = [] := List.drop_of_length_le (by simp [ru]; omega)
    simp [Conv.runesFrom, this]
  | succ n ih =>
    intro i acc h1 h2
    by_cases hlt : i < bs.length
    · have hs : i < (txt bs).size := by rw [txt_size]; exact hlt
      have hg : (txt bs)[i]'hs = bs[i] := rfl
      have hd := decode_ascii (txt bs) i hs (by rw [hg]; exact h _ (List.getElem_mem hlt))
      rw [hg] at hd
      have hdr : (ru bs).drop i = (bs[i].toNat : Int) :: (ru bs).drop (i + 1) := by
        rw [List.drop_eq_getElem_cons (by simpa [ru] using hlt)]
        simp [ru]
      simp only [Conv.runesFrom, if_pos hs, hd]
      rw [ih (i + 1) _ (by omega) (by omega), hdr]
      simp
    · have hs : ¬ i < (txt bs).size := by rw [txt_size]; exact hlt
      have : (ru bs).drop i = [] := List.drop_of_length_le (by simp [ru]; omega)
      simp [Conv.runesFrom, hs, this]

theorem run_conv (bs : List UInt8) (h : ∀ b ∈ bs, b.toNat < 128) (hs : bs.length ≤ 1000000) (w : World) :
    ∃ cap w', (convert 9 34 (.string (txt bs))).run Try.prog w = .ok (.slice (some ⟨w.heap.size, 0, none⟩) (ru bs).length cap) w' ∧ Below w.heap.size w w' ∧ RunesIs w' w.heap.size 0 cap (ru bs) := by
  have e := runesFrom_plain bs h (txt bs).size 0 #[] (by rw [txt_size]; omega) (by omega)
  simp only [List.drop_zero, Array.empty_append] at e
  have hsz : (Conv.runesFrom (txt bs) (txt bs).size 0 #[]).size = (ru bs).length := by rw [e]; simp
  have hlen : (ru bs).length = bs.length := by simp [ru]
  have hr := run_runes_of_string (P := Try.prog) w 9 34 21 (txt bs) Try.underlying9 Try.underlying34 Try.underlying21 (by rw [hsz, hlen]; omega)
  rw [hsz] at hr
  refine ⟨_, _, hr, ((Below.refl _ _).drew).alloc (Nat.le_refl _) _, by omega, ?_, fun i r hi => ?_⟩
  · exact grownCap_ge w (ru bs).length 0 21
  · have hb := heap_alloc_new w.drew (.cells (Conv.runesFrom (txt bs) (txt bs).size 0 #[] ++ Array.replicate (grownCap w (ru bs).length 0 21 - (ru bs).length) (.int .i32 0)) 21)
    have hi' := (List.getElem?_eq_some_iff.1 hi).1
    rw [show w.heap.size = w.drew.heap.size from rfl, cell_of_block hb, e, Nat.zero_add, Array.getElem?_append_left (by simpa using hi')]
    simp [hi]

/-- What NewGlob leaves. -/
def GlobRet (w : World) (R : Option (List Tok)) (e : Ending) (w' : World) : Prop :=
  Below w.heap.size w w' ∧ match R with
    | none => e = .returned (.tuple #[.slice none 0 0, errInv])
    | some ts => ∃ v, e = .returned (.tuple #[v, .nilIface]) ∧ GlobAt w' v (simplify ts)

@[go_sem] theorem neq_in (w : World) : (binOp .neq 46 errInv .nilIface).run Try.prog w = .ok (.bool true) w := by kernel_rfl
@[go_sem] theorem neq_nn (w : World) : (binOp .neq 46 .nilIface .nilIface).run Try.prog w = .ok (.bool false) w := by kernel_rfl

/-- The text is a glob of the tokens; none: it is none. -/
structure Spells (bs : List UInt8) (R : Option (List Tok)) : Prop where
  plain : ∀ b ∈ bs, b.toNat < 128
  small : bs.length ≤ 1000000
  reads : Reads (ru bs) 0 R
  few : ∀ ts, R = some ts → ts.length ≤ 1000000

attribute [local irreducible] wpList wpQuiet

theorem newGlob_none {bs : List UInt8} (h : Spells bs none) (w : World) : Calls Try.prog 38 #[.string (txt bs)] w (GlobRet w none) := by
  obtain ⟨cap, w1, hconv, hB1, hru⟩ := run_conv bs h.plain h.small w
  have hT := tokenize_any h.reads hru
  have HB : Hid _ := hid hB1
  clear hB1 hru
  go_enter Try.func38, Try.ntmps38
  go_wp2_with (go_at_call 37; refine hT.mono ?_; rintro e w2 ⟨hB2, rfl⟩)
  go_ret2
  exact ⟨HB.out.trans (hB2.mono HB.out.size), rfl⟩

theorem newGlob_some {bs : List UInt8} {ts : List Tok} (h : Spells bs (some ts)) (w : World) : Calls Try.prog 38 #[.string (txt bs)] w (GlobRet w (some ts)) := by
  obtain ⟨cap, w1, hconv, hB1, hru⟩ := run_conv bs h.plain h.small w
  have hT := tokenize_any h.reads hru
  have HB : Hid _ := hid hB1
  have hsm := h.few ts rfl
  clear hB1 hru
  go_enter Try.func38, Try.ntmps38
  go_wp2_with (first
    | (go_at_call 37; refine hT.mono ?_; rintro e w2 ⟨hB2, g, cp, vs, bs, rfl, hown, htk, hnd, hlow⟩)
    | (go_at_call 48; refine (simplify_any hown htk hnd hlow hB2.size hsm).mono ?_; rintro e w3 ⟨v, rfl, hB3, hG⟩))
  go_ret2
  refine ⟨HB.out.trans ((hB2.mono HB.out.size).trans (hB3.mono HB.out.size)), _, rfl, hG⟩

theorem newGlob_any {bs : List UInt8} {R : Option (List Tok)} (h : Spells bs R) (w : World) : Calls Try.prog 38 #[.string (txt bs)] w (GlobRet w R) := by
  cases R with
  | none => exact newGlob_none h w
  | some ts => exact newGlob_some h w

/-- Whether two globs meet, as the package reckons it. -/
def meets (t1 t2 : List Tok) : Bool :=
  match trim (simplify t1) (simplify t2) with
  | none => false
  | some (a, b) => inter (a.length + b.length + 1) a b

/-- What impl.Meet answers. -/
def meetR : Option (List Tok) → Option (List Tok) → Bool × Bool
  | some t1, some t2 => (meets t1 t2, true)
  | _, _ => (false, false)

/-- What NonEmpty leaves. -/
def NeRet (w : World) (R1 R2 : Option (List Tok)) (e : Ending) (w' : World) : Prop :=
  Below w.heap.size w w' ∧ e = .returned (.tuple #[.bool (meetR R1 R2).1, if (meetR R1 R2).2 then .nilIface else errInv])

theorem nonEmpty_n {b1 b2 : List UInt8} {R2 : Option (List Tok)} (h1 : Spells b1 none) (w : World) : Calls Try.prog 29 #[.string (txt b1), .string (txt b2)] w (NeRet w none R2) := by
  go_enter Try.func29, Try.ntmps29
  go_wp2_with (go_at_call 38; refine (newGlob_any h1 _).mono ?_; rintro e w2 ⟨hB2, rfl⟩)
  go_ret2
  exact ⟨hB2, rfl⟩

theorem nonEmpty_sn {b1 b2 : List UInt8} {t1 : List Tok} (h1 : Spells b1 (some t1)) (h2 : Spells b2 none) (w : World) : Calls Try.prog 29 #[.string (txt b1), .string (txt b2)] w (NeRet w (some t1) none) := by
  go_enter Try.func29, Try.ntmps29
  go_upto_region 2 with (go_at_call 38; refine (newGlob_any h1 _).mono ?_; rintro e w2 ⟨hB2, v, rfl, hG⟩)
  go_wp2_with (go_at_call 38; refine (newGlob_any h2 _).mono ?_; rintro e w3 ⟨hB3, rfl⟩)
  go_ret2
  exact ⟨hB2.trans (hB3.mono hB2.size), rfl⟩

theorem nonEmpty_ss {b1 b2 : List UInt8} {t1 t2 : List Tok} (h1 : Spells b1 (some t1)) (h2 : Spells b2 (some t2)) (w : World) : Calls Try.prog 29 #[.string (txt b1), .string (txt b2)] w (NeRet w (some t1) (some t2)) := by
  go_enter Try.func29, Try.ntmps29
  go_upto_region 2 with (go_at_call 38; refine (newGlob_any h1 _).mono ?_; rintro e w2 ⟨hB2, v1, rfl, hG1⟩)
  go_upto_region 5 with (go_at_call 38; refine (newGlob_any h2 _).mono ?_; rintro e w3 ⟨hB3, v2, rfl, hG2⟩)
  have hG1' : GlobAt w3 v1 (simplify t1) := by
    obtain ⟨b, o, c, hv, hs, hr, ht⟩ := hG1
    refine ⟨b, o, c, hv, hs, hr, fun i t hi => ?_⟩
    obtain ⟨v, hv, htk⟩ := ht i t hi
    exact ⟨v, by rw [hB3.cell (World.block_lt_of_cell? _ _ hv)]; exact hv, htk.ext ⟨w3, hB3⟩⟩
  have HB : Hid _ := hid (hB2.trans (hB3.mono hB2.size))
  clear hG1 hB2 hB3
  obtain ⟨g1, o1, c1, rfl, hI1⟩ := hG1'
  obtain ⟨g2, o2, c2, rfl, hI2⟩ := hG2
  generalize hTR : trim (simplify t1) (simplify t2) = TR
  have hT := trim_any _ _ g1 o1 c1 g2 o2 c2 hI1 hI2 (Ext.self w3)
  rw [hTR] at hT
  cases TR with
  | none =>
    have hm : meets t1 t2 = false := by simp [meets, hTR]
    go_wp2_with (go_at_call 39; refine hT.mono ?_; rintro e w4 ⟨⟨d4, rfl⟩, rfl⟩)
    go_ret2
    exact ⟨HB.out.trans (d4.ok.mono HB.out.size), by simp [meetR, hm]⟩
  | some ab =>
    obtain ⟨a, b⟩ := ab
    have hm : meets t1 t2 = inter (a.length + b.length + 1) a b := by simp [meets, hTR]
    go_wp2_with (first
      | (go_at_call 39; refine hT.mono ?_; rintro e w4 ⟨⟨d4, rfl⟩, s1, s2, rfl, G1, G2⟩)
      | (go_at_call 40; refine (normal_any (a.length + b.length + 1) a b s1 s2 G1 G2 (by omega) d4).mono ?_; rintro e w5 ⟨rfl, d5, rfl⟩))
    go_ret2
    exact ⟨HB.out.trans (d5.ok.mono HB.out.size), by simp [meetR, hm]⟩

theorem nonEmpty_any {b1 b2 : List UInt8} {R1 R2 : Option (List Tok)} (h1 : Spells b1 R1) (h2 : Spells b2 R2) (w : World) : Calls Try.prog 29 #[.string (txt b1), .string (txt b2)] w (NeRet w R1 R2) := by
  cases R1 with
  | none => exact nonEmpty_n h1 w
  | some t1 =>
    cases R2 with
    | none => exact nonEmpty_sn h1 h2 w
    | some t2 => exact nonEmpty_ss h1 h2 w

/-- What impl.Meet leaves. -/
def MeetRet (w : World) (R1 R2 : Option (List Tok)) (e : Ending) (w' : World) : Prop :=
  Below w.heap.size w w' ∧ e = .returned (.tuple #[.bool (meetR R1 R2).1, .bool (meetR R1 R2).2])

theorem meet_any {b1 b2 : List UInt8} {R1 R2 : Option (List Tok)} (h1 : Spells b1 R1) (h2 : Spells b2 R2) (w : World) : Calls Try.prog 14 #[.string (txt b1), .string (txt b2)] w (MeetRet w R1 R2) := by
  have hN := nonEmpty_any h1 h2 w
  cases hm : (meetR R1 R2).2 with
  | true =>
    have hN : Calls Try.prog 29 #[.string (txt b1), .string (txt b2)] w fun e w' => Below w.heap.size w w' ∧ e = .returned (.tuple #[.bool (meetR R1 R2).1, .nilIface]) :=
      hN.mono fun e w' h => ⟨h.1, by rw [h.2, hm]; rfl⟩
    go_enter Try.func14, Try.ntmps14
    go_wp2_with (go_at_call 29; refine hN.mono ?_; rintro e w2 ⟨hB2, rfl⟩)
    go_ret2
    exact ⟨hB2, by rw [hm]; rfl⟩
  | false =>
    have h0 : (meetR R1 R2).1 = false := by
      cases R1 <;> cases R2 <;> simp_all [meetR]
    have hN : Calls Try.prog 29 #[.string (txt b1), .string (txt b2)] w fun e w' => Below w.heap.size w w' ∧ e = .returned (.tuple #[.bool false, errInv]) :=
      hN.mono fun e w' h => ⟨h.1, by rw [h.2, hm, h0]; rfl⟩
    go_enter Try.func14, Try.ntmps14
    go_wp2_with (go_at_call 29; refine hN.mono ?_; rintro e w2 ⟨hB2, rfl⟩)
    go_ret2
    exact ⟨hB2, by rw [hm, h0]; rfl⟩

/-- What impl.Tokens leaves at a glob. -/
theorem tokens_any {b1 : List UInt8} {ts : List Tok} (h : Spells b1 (some ts)) (w : World) : Calls Try.prog 27 #[.string (txt b1)] w fun e w' => Below w.heap.size w w' ∧ e = .returned (.tuple #[.int .i64 ts.length, .int .i64 (simplify ts).length, .bool true]) := by
  obtain ⟨cap, w1, hconv, hB1, hru⟩ := run_conv b1 h.plain h.small w
  have hT := tokenize_any h.reads hru
  have HB : Hid _ := hid hB1
  have hsm := h.few ts rfl
  clear hB1 hru
  go_enter Try.func27, Try.ntmps27
  go_wp2_with (first
    | (go_at_call 37; refine hT.mono ?_; rintro e w2 ⟨hB2, g, cp, vs, bs, rfl, hown, htk, hnd, hlow⟩)
    | (go_at_call 38; refine (newGlob_any h _).mono ?_; rintro e w3 ⟨hB3, v, rfl, b3, o3, c3, rfl, hI3⟩))
  go_ret3
  exact ⟨HB.out.trans ((hB2.mono HB.out.size).trans (hB3.mono (Nat.le_trans HB.out.size hB2.size))), rfl⟩

end Go.Proofs.Ythlhfdidlfdaiaa
