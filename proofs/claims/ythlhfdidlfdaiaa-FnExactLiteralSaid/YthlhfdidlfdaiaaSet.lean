/- The contract of nextTokenSet. -/
import Derived.Test.YthlhfdidlfdaiaaPush
import Derived.Test.YthlhfdidlfdaiaaScan
namespace Go.Proofs.Ythlhfdidlfdaiaa
open Go.RowKit
attribute [local irreducible] wpList wpQuiet

def errNum : Value → Nat | .nilIface => 1 | _ => 0

/-- What stands in the slots at the head of the loop, the rune at place p having been read. -/
def HeadAt (l : List Int) (p : Nat) (s4 s6 s7 s9 : Value) : Prop :=
  (∃ c, l[p]? = some c ∧ s4 = .int .i64 ((p + 1 : Nat) : Int) ∧ s7 = .int .i32 c ∧ s9 = .bool false ∧ s6 = .nilIface) ∨
  (p = l.length ∧ s4 = .int .i64 (l.length : Int) ∧ s7 = .int .i32 0 ∧ s9 = .bool false ∧ s6 = errEnd)

/-- What nextTokenSet leaves. -/
def SetRet (w : World) (l : List Int) (R : Option (List Int × List Int)) (e : Ending) (w' : World) : Prop :=
  Below w.heap.size w w' ∧ match R with
    | some (ks, rest) => ∃ v, e = .returned (.tuple #[.int .i64 ((l.length - rest.length : Nat) : Int), v, .nilIface]) ∧ NewAt w.heap.size w' v ⟨.set (keysOf ks), 0⟩
    | none => e = .returned (.tuple #[.int .i64 (l.length : Int), .nilIface, errInv])

/-- nextRune at the head: of a rune that is no backslash, or at the end. -/
theorem nextRune_head {b off cap : Nat} {l : List Int} (p : Nat) (hp : p ≤ l.length) (hb : ∀ c, l[p]? = some c → c ≠ 92) :
    ∃ s4 s6 s7 s9, HeadAt l p s4 s6 s7 s9 ∧ ∀ u : World, RunesIs u b off cap l → Calls Try.prog 52 #[.int .i64 p, .slice (some ⟨b, off, none⟩) l.length cap] u (Ret u (.tuple #[s4, s7, s9, s6])) := by
  rcases Nat.lt_or_ge p l.length with h1 | h1
  · have hi := List.getElem?_eq_getElem h1
    exact ⟨_, _, _, _, .inl ⟨l[p], hi, rfl, rfl, rfl, rfl⟩, fun u h => nextRune_plain h p l[p] hi (hb _ hi) (Ext.self u)⟩
  · obtain rfl : p = l.length := by omega
    exact ⟨_, _, _, _, .inr ⟨rfl, rfl, rfl, rfl, rfl⟩, fun u h => nextRune_end h (Ext.self u)⟩

theorem invalid_any (x y z u : Value) (w : World) : Calls Try.prog 54 #[x, y, z, u] w fun e w' => e = .returned errInv ∧ w = w' := by
  go_enter Try.func54, Try.ntmps54
  go_wp2_with fail
  go_ret
  exact ⟨rfl, rfl⟩

set_option maxRecDepth 100000 in
set_option maxHeartbeats 1000000 in
theorem set_any {w : World} {b off cap : Nat} {l : List Int} (h : RunesIs w b off cap l) (hs : l.length ≤ 5000) (p0 : Nat) (hp0 : p0 < l.length) (R : Option (List Int × List Int)) (hR : scan (l.drop p0) none [] = R) (hg : good (l.drop p0) none = true) :
    Calls Try.prog 55 #[.int .i64 p0, .slice (some ⟨b, off, none⟩) l.length cap] w (SetRet w l R) := by
  have h1 := h.small
  have hi0 := List.getElem?_eq_getElem hp0
  have hn := fun u (hu : RunesIs u b off cap l) => nextRune_plain hu p0 l[p0] hi0 (good_head hg _ hi0) (Ext.self u)
  have HI : Hid _ := hid hi0
  clear hi0
  obtain ⟨i34, hi, hz0, hz1, hz2⟩ := info_parts elem34.info
  have HR : Hid _ := hid hR
  have HG : Hid _ := hid hg
  clear hR hg
  generalize hc0 : l[p0] = c0 at hn
  have HC : Hid _ := hid hc0
  clear hc0
  go_enter Try.func55, Try.ntmps55
  go_wp2_with (first
    | (at_make; refine wpList_make_own _ rfl _ _ 34 rfl w.heap.size 21 i34 (.int .i32 0) 1 Try.underlying34 hi hz0 hz1 _ _ _ 30 rfl rfl rfl (by rw [hz2]; decide) (by decide) (Nat.le_refl _) ?_; intro w1 hown hgrow; have hB1 : Below w.heap.size w w1 := grown_below hgrow (Nat.le_refl _) (by simp); have hin1 := h.ext ⟨w1, hB1⟩)
    | (refine wpList_call (d := Ext.self w1) (hn w1 hin1) rfl rfl rfl Try.call52 ?_; intro d2))
  have hown2 := owns_below d2.ok hown
  have hB2 : Below w.heap.size w d2.u := hB1.trans (d2.ok.mono hB1.size)
  have hin2 := h.ext ⟨d2.u, hB2⟩
  clear hown hgrow hn
  go_loopw [4, 6, 7, 8, 9, 10, 11, 12] (fun s4 s6 s7 s8 s9 s10 s11 s12 wr => ∃ (p : Nat) (pv : Option Int) (acc : List Int) (x : Int) (g cp : Nat), p ≤ l.length ∧ HeadAt l p s4 s6 s7 s9 ∧ s8 = .int .i32 x ∧ s12 = .bool pv.isSome ∧ (∀ c, pv = some c → x = c) ∧ s11 = .bool false ∧ Below w.heap.size w wr ∧
      s10 = .slice (some ⟨g, 0, none⟩) acc.length cp ∧ wr.ownsRow w.heap.size 21 1 s10 acc.length (acc.map (Value.int .i32)) ∧ acc.length ≤ 200 * p ∧ scan (l.drop p) pv acc = R ∧ good (l.drop p) pv = true)
    (fun s4 s6 _ _ _ _ _ _ _ => 2 * (l.length - (intOf s4).toNat) + errNum s6)
  case atStart => exact ⟨p0, none, [], 0, w.heap.size, 30, by omega, .inl ⟨c0, by rw [HI.out, HC.out], rfl, rfl, rfl, rfl⟩, rfl, rfl, by simp, rfl, hB2, rfl, hown2, by simp, HR.out, HG.out⟩
  case round =>
    clear hown2 hin2 hB2 HI HC HR HG hin1
    clear d2 hB1 w1
    obtain ⟨p, pv, acc, x, g, cp, hp, hH, rfl, rfl, hx, rfl, hB, rfl, hown, hlen, hR, hg⟩ := hrel
    have HR : Hid _ := hid hR
    have HG : Hid _ := hid hg
    have HX : Hid _ := hid hx
    clear hR hg hx
    have hin : RunesIs wr b off cap l := h.ext ⟨wr, hB⟩
    rcases hH with ⟨c, hc, rfl, rfl, rfl, rfl⟩ | ⟨rfl, rfl, rfl, rfl, rfl⟩
    · have hpl := (List.getElem?_eq_some_iff.1 hc).1
      by_cases h93 : c = 93
      · subst h93
        have HRR : Hid _ := hid (scan_shut (pv := pv) (acc := acc) hc)
        clear hc
        obtain ⟨_, hrs⟩ := runes_of_row hown (by omega)
        go_wp2_with (first | (go_at_call 35; refine (newSet_any _ hrs).mono ?_; rintro e w3 ⟨v, rfl, hb3, hnew⟩))
        go_ret3
        have e1 := HR.out
        rw [HRR.out] at e1
        subst e1
        refine ⟨hB.trans (hb3.mono hB.size), v, ?_, ?_⟩
        · congr 5
          simp; omega
        · obtain ⟨b', h1', h2', h3'⟩ := hnew
          exact ⟨b', Nat.le_trans hB.size h1', h2', h3'⟩
      · by_cases h45 : c = 45
        · subst h45
          obtain ⟨lo, d, hpv, hd, hp2, d92, d93, d45, hlo, hhi, hlo0, hd6, hg2, hs2⟩ := good_dash acc hc HG.out
          subst hpv
          obtain rfl : x = lo := HX.out _ rfl
          have hn1 := fun u (hu : RunesIs u b off cap l) => nextRune_plain hu (p + 1) d hd d92 (Ext.self u)
          obtain ⟨t4, t6, t7, t9, hH', hn'⟩ := nextRune_head (b := b) (off := off) (cap := cap) (p + 2) (by omega) (good_head hg2)
          have HS : Hid _ := hid hs2
          have HG2 : Hid _ := hid hg2
          have d93' : (d == 93) = false := by simp [d93]
          have d45' : (d == 45) = false := by simp [d45]
          have HL : Hid _ := hid hlen
          have hI1 : (p : Int) + 2 < (l.length : Int) := by omega
          have hI2 : (p : Int) + 1 < (l.length : Int) - 1 := by omega
          obtain ⟨N, hN⟩ : ∃ N : Nat, (N : Int) = d - x + 1 := ⟨(d - x + 1).toNat, by omega⟩
          have HN : Hid _ := hid hN
          have hN100 : N ≤ 101 := by omega
          clear hN hc hd d92 d93 d45 hs2 hg2 hlen HX
          have hlen := HL.out
          obtain ⟨wo, rfl⟩ : ∃ wo : World, wo = wr := ⟨_, rfl⟩
          go_wp2_with (first | (refine wpList_call (d := Ext.self wo) (hn1 wo hin) rfl rfl rfl Try.call52 ?_; intro d3))
          have hB3 : Below w.heap.size w d3.u := hB.trans (d3.ok.mono hB.size)
          have hown3 := owns_below d3.ok hown
          go_loopw [10, 13] (fun s10 s13 wk => ∃ (k g2 cp2 : Nat), k ≤ N ∧ s13 = .int .i32 (x + (k : Int)) ∧ s10 = .slice (some ⟨g2, 0, none⟩) (acc.length + k) cp2 ∧ Below w.heap.size w wk ∧
            wk.ownsRow w.heap.size 21 1 (.slice (some ⟨g2, 0, none⟩) (acc.length + k) cp2) (acc.length + k) ((acc ++ (List.range k).map fun i : Nat => x + (i : Int)).map (Value.int .i32)))
            (fun _ s13 _ => (d + 1 - intOf s13).toNat)
          case atStart => exact ⟨0, g, cp, by omega, by simp, rfl, hB3, by simpa using hown3⟩
          case round =>
            clear hown hown3 hB3
            clear d3
            obtain ⟨k, gk, cpk, hk, rfl, rfl, hBk, hownk⟩ := hrel
            have hN := HN.out
            by_cases hlt : k < N
            · have hI : x + (k : Int) ≤ d := by omega
              have hIb : x + (k : Int) + 1 ≤ 1000001 := by omega
              clear hN
              go_wp2_with (first | (at_builtin; refine wpList_push elem34 hownk rfl (one_oneCell rfl) (by omega) hBk.size rfl rfl rfl rfl ?_; intro g2 cp2 w2 hown2 hg2; have hB2 : Below w.heap.size w w2 := hBk.trans (grown_below hg2 hBk.size (fun k hk => (hownk.lt k hk).1))))
              go_roundw
              case rel =>
                refine ⟨k + 1, g2, cp2, by omega, by congr 1; omega, by congr 1, hB2, ?_⟩
                have := hown2
                rw [List.range_succ]
                simpa [Nat.add_assoc] using this
              case measure => simp [intOf]; omega
            · have hI : d < x + (k : Int) := by omega
              obtain rfl : k = N := by omega
              clear hN
              have hink : RunesIs wr b off cap l := h.ext ⟨wr, hBk⟩
              go_wp2_with (first | (refine wpList_call (d := Ext.self wr) (hn' wr hink) rfl rfl rfl Try.call52 ?_; intro d4))
              go_roundw
              case rel =>
                have hN := HN.out
                have hrng : rng x d = (List.range k).map fun i : Nat => x + (i : Int) := by unfold rng; rw [show (d - x + 1).toNat = k by omega]
                have hlr : (acc ++ rng x d).length = acc.length + k := by rw [hrng]; simp
                refine ⟨p + 2, none, acc ++ rng x d, x, gk, cpk, by omega, hH', rfl, rfl, by simp, rfl, hBk.trans (d4.ok.mono hBk.size), ?_, ?_, ?_, ?_, HG2.out⟩
                · rw [hlr]
                · rw [hlr, hrng]
                  exact owns_below d4.ok hownk
                · rw [hlr]; omega
                · rw [← HS.out]; exact HR.out
              case measure =>
                rcases hH' with ⟨c', hc', rfl, rfl, rfl, rfl⟩ | ⟨hpe, rfl, rfl, rfl, rfl⟩
                · have := (List.getElem?_eq_some_iff.1 hc').1
                  simp [intOf, errNum]; omega
                · omega
        · obtain ⟨t4, t6, t7, t9, hH', hn'⟩ := nextRune_head (b := b) (off := off) (cap := cap) (p + 1) (by omega) (good_head (good_plain hc h93 h45 HG.out))
          have HS : Hid _ := hid (scan_plain (pv := pv) (acc := acc) hc h93 h45)
          have HG2 : Hid _ := hid (good_plain hc h93 h45 HG.out)
          have h93' : (c == 93) = false := by simp [h93]
          have h45' : (c == 45) = false := by simp [h45]
          have HL : Hid _ := hid hlen
          clear hc h93 h45
          go_wp2_with (first
            | (at_builtin; refine wpList_push elem34 hown rfl (one_oneCell rfl) (by omega) hB.size rfl rfl rfl rfl ?_; intro g2 cp2 w2 hown2 hg2; have hB2 : Below w.heap.size w w2 := hB.trans (grown_below hg2 hB.size (fun k hk => (hown.lt k hk).1)); have hin2 : RunesIs w2 b off cap l := h.ext ⟨w2, hB2⟩)
            | (refine wpList_call (d := Ext.self w2) (hn' w2 hin2) rfl rfl rfl Try.call52 ?_; intro d3))
          go_roundw
          case rel =>
            have hlen := HL.out
            refine ⟨p + 1, some c, acc ++ [c], c, g2, cp2, by omega, hH', rfl, rfl, by simp, rfl, hB2.trans (d3.ok.mono hB2.size), by simp, ?_, by simp; omega, ?_, HG2.out⟩
            · have := owns_below d3.ok hown2
              simpa using this
            · rw [← HS.out]; exact HR.out
          case measure =>
            rcases hH' with ⟨c', hc', rfl, rfl, rfl, rfl⟩ | ⟨hpe, rfl, rfl, rfl, rfl⟩
            · have := (List.getElem?_eq_some_iff.1 hc').1
              simp [intOf, errNum]; omega
            · simp [intOf, errNum]
    · have e1 := HR.out
      rw [scan_end] at e1
      subst e1
      go_wp2_with (first | (go_at_call 54; refine (invalid_any _ _ _ _ _).mono ?_; rintro e w3 ⟨rfl, rfl⟩))
      go_ret3
      exact ⟨hB.trans ((Below.refl _ _).alloc hB.size _), rfl⟩

end Go.Proofs.Ythlhfdidlfdaiaa
