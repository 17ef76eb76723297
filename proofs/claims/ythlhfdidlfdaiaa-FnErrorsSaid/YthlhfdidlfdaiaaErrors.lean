/- laws.FnErrors returns true at every input: a flag with nothing ahead of it, a flag behind a flag, and a set without an end are no globs. No condition. -/
import Derived.Test.YthlhfdidlfdaiaaFrame
namespace Go.Proofs.Ythlhfdidlfdaiaa.fnErrors
open Go.ChangeShapes Go.WideShapes Go.ChangeAt Go.RowKit
open Go.ChangeMaps (open_string shut_string)
set_option linter.unusedVariables false

attribute [local irreducible] wpList wpQuiet

theorem walk (a0 : Option Addr) (len0 cap0 : Nat) (z0 : List Int) (w : World) (w0 : IsRow .u8 w a0 len0 cap0 z0) :
    Calls Try.prog 3 #[.slice a0 len0 cap0] w fun e w' => e = .returned (.bool true) ∧ Below w.heap.size w w' := by
  obtain ⟨ds, hdl, hby⟩ := bytes_of_isRow w0
  by_cases hbig : (2147483647 : Int) < (len0 : Int)
  · go_enter Try.func3, Try.ntmps3
    go_wp2_with fail
    go_ret
    exact ⟨rfl, Below.refl _ _⟩
  · have hg := gOf_length ds
    have hp := plain_textOf (gOf ds)
    have hl := len_textOf (gOf ds)
    have hta := txt_add [42] (textOf ((gOf ds).map KSp.sp))
    have htb := txt_add [97, 42, 43] (textOf ((gOf ds).map KSp.sp))
    have hs1 := spells_star _ hp (by omega)
    have hs2 := spells_plus _ hp (by omega)
    have HT : Hid _ := hid (globOf_eq ds)
    clear hdl w0
    go_enter Try.func3, Try.ntmps3
    go_upto_region 4 with (first
      | (go_at_call 13; refine (glob_any hby).mono ?_; rintro e w2 ⟨r, rfl, hB2, hown2⟩)
      | (go_at_call 12; rw [HT.out] at hown2; refine (text_any hown2 rfl (by intro t ht; obtain ⟨x, _, rfl⟩ := List.mem_map.1 ht; exact ⟨x.len, x.fl⟩) (by simp; omega)).mono ?_; rintro e w3 ⟨rfl, hB3⟩))
    generalize textOf ((gOf ds).map KSp.sp) = T at hp hl hta htb hs1 hs2 ⊢
    simp only [List.cons_append, List.nil_append] at hta htb hs1 hs2
    have hl2 : T.length ≤ 36 := by omega
    clear hown2 hby HT hl hg hp
    have hBB : Below w.heap.size w w3 := hB2.trans (hB3.mono hB2.size)
    clear hB2 hB3
    go_upto_region 5 with (go_at_call 14; refine (meet_any hs1 spells_a _).mono ?_; rintro e w4 ⟨hB4, rfl⟩)
    go_upto_region 6 with (go_at_call 14; refine (meet_any spells_a hs2 _).mono ?_; rintro e w5 ⟨hB5, rfl⟩)
    go_upto_region 7 with (go_at_call 14; refine (meet_any spells_open spells_a _).mono ?_; rintro e w6 ⟨hB6, rfl⟩)
    simp only [meetR]
    go_wp2_with (go_at_call 15; refine (sane_any _).mono ?_; rintro e w7 ⟨rfl, hB7⟩)
    go_ret
    have h4 := hBB.trans (hB4.mono hBB.size)
    have h5 := h4.trans (hB5.mono h4.size)
    have h6 := h5.trans (hB6.mono h5.size)
    exact ⟨rfl, h6.trans (hB7.mono h6.size)⟩

/-! ### THE ROW's STEP: WRITTEN OUT: LEAVE IT -/
set_option maxRecDepth 100000 in
theorem lifted (os : Os) (started : os.Started) (H : Type) (enc : TypeId × Value → H) :
    ReturnsInHanded {} Try.checked os 3 .any (Rows.fnErrorsSpec.pre6 enc Try.prog Try.f3 Rows.fnErrorsRow.domain false) (Rows.fnErrorsSpec.post enc Try.prog Try.f3 false true false false) := by
  refine returnsInHanded_of_change (C := Try.checked) own started (by kernel_rfl) Try.func3
    (ChangeSpec.witness6 (enc := enc) (C := Try.checked) false ⟨#[], #[.slice none 0 0], []⟩ 8 (by kernel_rfl) (by kernel_rfl) (by kernel_rfl) (by kernel_rfl)) ?_
  intro W base args ds gs before hval0 hW hcnd _
  have hval : ∀ (j : Nat) t v, Try.f3.params[j]? = some t → args[j]? = some v → Value.okWide Try.prog W .any base t v := hval0
  have hW' := hW
  obtain ⟨p, q, hA0, hV, rfl, hfz, hnd⟩ := hW
  have hA : DataW.TrodAll enc Try.prog W 0 (fun _ => true) true Try.f3.params.toList args.toList ds p := hA0
  rw [Try.params3] at hA hval
  obtain ⟨v0, vs0, d0, ds0, p0, q0, hargs, rfl, rfl, h0, r0⟩ := trodAll_cons hA
  obtain ⟨rfl, rfl, rfl⟩ := trodAll_nil r0
  obtain rfl : args = #[v0] := by cases args; simp_all
  obtain ⟨rfl, rfl⟩ := trodVars_none hV
  obtain ⟨a0, len0, cap0, rfl⟩ := okWide_slice Try.underlying22 (hval 0 22 v0 rfl rfl)
  have k0 := h0
  have lt0 : ∀ x ∈ p0, x.block < W.heap.size := by obtain ⟨m, hm⟩ := k0; exact DataW.trod_lt m _ _ _ hm
  obtain ⟨z0, w0⟩ : ∃ zs, IsRow .u8 W a0 len0 cap0 zs := by
    obtain ⟨fuel, hf⟩ := h0
    rcases open_ints Try.underlying22 Try.underlying5 (by kernel_rfl) hf with ⟨hcs, _⟩ | ⟨x, l, c, zs, hcs, _, hl, hm, hz, _, hcell, hwz⟩
    · simp [Value.cells] at hcs
      obtain ⟨rfl, rfl, rfl⟩ := hcs
      exact ⟨[], .inl ⟨rfl, rfl, rfl, rfl⟩⟩
    · simp [Value.cells] at hcs
      obtain ⟨rfl, rfl, rfl⟩ := hcs
      exact ⟨zs, .inr ⟨_, rfl, hl, hm, by simpa using hz, hcell, hwz⟩⟩
  clear hA0 hval0
  refine (walk a0 len0 cap0 z0 W w0).mono fun e W' ⟨he, bel⟩ => ?_
  subst he
  exact ⟨_, rfl, _, _, _, [], _, [], hW', trodAll_mk1 (shut_bool Try.underlying4 _), (trodAll_cons_mk (Below.trod laidOut (by kernel_rfl) (of_decide_eq_true (by kernel_rfl)) k0 bel lt0) trodAll_mk0), rfl, bel.frame _, fun h => by cases h⟩

theorem over : Rows.fnErrorsRow.holds Try.pinned (OpenSpec.ofChange Rows.fnErrorsSpec) :=
  OpenClaim.holds_of_wide 3 Try.f3 rfl rfl rfl rfl rfl rfl rfl ⟨rfl, rfl, rfl, rfl, rfl⟩ rfl rfl rfl rfl rfl (by kernel_rfl) Try.func3 (by kernel_rfl)
    (of_decide_eq_true (by kernel_rfl)) (by unfold Func.isWrapper; first | (rw [if_pos (by decide +kernel)]; kernel_rfl) | (rw [if_neg (by decide +kernel)]; exact ⟨rfl, rfl⟩))
    (fun os started H enc _ => lifted os started H enc)

/-- ████ THE STATEMENT ████ -/
theorem proved : Rows.FnErrorsSaid := over
#print axioms proved
end Go.Proofs.Ythlhfdidlfdaiaa.fnErrors
