/- The contract of Tokenize. -/
import Derived.Test.YthlhfdidlfdaiaaNext
namespace Go.Proofs.Ythlhfdidlfdaiaa
open Go.RowKit

/-- At place i of l there is the token t, the next one begins at place j. -/
def StepAt (l : List Int) (i j : Nat) (t : Tok) : Prop :=
  i < j ∧ j ≤ l.length ∧ ∀ (b off cap : Nat) (w : World), RunesIs w b off cap l → Calls Try.prog 47 #[.int .i64 i, .slice (some ⟨b, off, none⟩) l.length cap] w (NextRet w j t)
/-- At place i of l there is no token. -/
def BadAt (l : List Int) (i : Nat) : Prop :=
  ∀ (b off cap : Nat) (w : World), RunesIs w b off cap l → Calls Try.prog 47 #[.int .i64 i, .slice (some ⟨b, off, none⟩) l.length cap] w (BadRet w)

/-- From place i on l reads as the tokens; none: it is no glob. -/
inductive Reads (l : List Int) : Nat → Option (List Tok) → Prop
  | done : Reads l l.length (some [])
  | bad {i : Nat} : BadAt l i → Reads l i none
  | step {i j : Nat} {t : Tok} {R : Option (List Tok)} : StepAt l i j t → Reads l j R → Reads l i (R.map (t :: ·))

/-- What stands in the slots at the head of the loop, a token having been read at place i. -/
def HeadT (B : Nat) (w : World) (l : List Int) (i : Nat) (s5 s6 s7 : Value) (R : Option (List Tok)) : Prop :=
  (∃ j t R' b, s5 = .int .i64 ((j : Nat) : Int) ∧ s6 = .iface t.k.ty (.pointer (some ⟨b, 0, none⟩)) ∧ s7 = .nilIface ∧ CellsAt w b t.f t.k ∧ B ≤ b ∧ R = R'.map (t :: ·) ∧ Reads l j R' ∧ i < j ∧ j ≤ l.length) ∨
  (s7 = errEnd ∧ R = some []) ∨
  (s7 = errInv ∧ R = none)

/-- What is left to read, for the loop's measure. -/
def leftT (n : Nat) (s5 s7 : Value) : Nat := match s7 with | .nilIface => 2 * (n - (intOf s5).toNat) + 1 | _ => 0

theorem nextToken_any {l : List Int} {i : Nat} {R : Option (List Tok)} (hR : Reads l i R) {b off cap : Nat} {w : World} (h : RunesIs w b off cap l) :
    Calls Try.prog 47 #[.int .i64 i, .slice (some ⟨b, off, none⟩) l.length cap] w fun e w' => ∃ s5 s6 s7, e = .returned (.tuple #[s5, s6, s7]) ∧ Below w.heap.size w w' ∧ HeadT w.heap.size w' l i s5 s6 s7 R := by
  cases hR with
  | done =>
    refine (next_end h).mono ?_
    rintro e w' ⟨rfl, d, rfl⟩
    exact ⟨_, _, _, rfl, d.ok, .inr (.inl ⟨rfl, rfl⟩)⟩
  | bad hb =>
    refine (hb b off cap w h).mono ?_
    rintro e w' ⟨a, c, rfl, hB⟩
    exact ⟨_, _, _, rfl, hB, .inr (.inr ⟨rfl, rfl⟩)⟩
  | @step _ j t R' hs hr =>
    refine (hs.2.2 b off cap w h).mono ?_
    rintro e w' ⟨v, rfl, hB, bt, hbt, rfl, hct⟩
    exact ⟨_, _, _, rfl, hB, .inl ⟨j, t, R', bt, rfl, rfl, rfl, hct, hbt, rfl, hr, hs.1, hs.2.1⟩⟩

/-- The values vs are the tokens ts, in the blocks bs. -/
inductive Toks (w : World) : List Nat → List Value → List Tok → Prop
  | nil : Toks w [] [] []
  | cons {b : Nat} {t : Tok} {bs : List Nat} {vs : List Value} {ts : List Tok} : CellsAt w b t.f t.k → Toks w bs vs ts → Toks w (b :: bs) (.iface t.k.ty (.pointer (some ⟨b, 0, none⟩)) :: vs) (t :: ts)

theorem Toks.snoc {w : World} {bs : List Nat} {vs : List Value} {ts : List Tok} (h : Toks w bs vs ts) {b : Nat} {t : Tok} (hc : CellsAt w b t.f t.k) : Toks w (bs ++ [b]) (vs ++ [.iface t.k.ty (.pointer (some ⟨b, 0, none⟩))]) (ts ++ [t]) := by
  induction h with
  | nil => exact .cons hc .nil
  | cons h1 _ ih => exact .cons h1 ih
theorem Toks.length {w : World} {bs : List Nat} {vs : List Value} {ts : List Tok} (h : Toks w bs vs ts) : vs.length = ts.length ∧ bs.length = ts.length := by
  induction h with
  | nil => exact ⟨rfl, rfl⟩
  | cons _ _ ih => simp [ih.1, ih.2]
theorem CellsAt.below {w w' : World} (h : Below w.heap.size w w') {b : Nat} {f : Int} {k : TK} (hc : CellsAt w b f k) : CellsAt w' b f k := hc.ext ⟨w', h⟩
theorem Toks.keep {w w' : World} (hB : Below w.heap.size w w') {bs : List Nat} {vs : List Value} {ts : List Tok} (h : Toks w bs vs ts) : Toks w' bs vs ts := by
  induction h with
  | nil => exact .nil
  | cons h1 _ ih => exact .cons (h1.below hB) ih

theorem SetAt.grown {w w' : World} {g : Nat} (hg : w.grownBy w' (some g)) {cur : Array Value} {fr : Nat × Nat} {e : TypeId} (hrow : w.heap[g]? = some (.cells cur e fr)) {m : Nat} {ks : List Int} (h : SetAt w m ks) : SetAt w' m ks := by
  obtain ⟨es, clock, hb, r⟩ := h
  have hne : m ≠ g := fun e => by subst e; rw [hrow] at hb; cases hb
  exact ⟨es, clock, by rw [hg.block m (Array.getElem?_eq_some_iff.1 hb).1 (by simpa using hne)]; exact hb, r⟩
/-- A token stays while a row of other elements is written. -/
theorem CellsAt.grown {w w' : World} {g : Nat} (hg : w.grownBy w' (some g)) {cur : Array Value} {fr : Nat × Nat} {e : TypeId} (hrow : w.heap[g]? = some (.cells cur e fr)) (he : e ≠ 92 ∧ e ≠ 87 ∧ e ≠ 90) {b : Nat} {f : Int} {k : TK} (h : CellsAt w b f k) : CellsAt w' b f k := by
  have hkeep : ∀ {c : Array Value} {e' : TypeId} {fr' : Nat × Nat}, e' ≠ e → w.heap[b]? = some (.cells c e' fr') → w'.heap[b]? = some (.cells c e' fr') := fun hne hb => by
    have hbg : b ≠ g := fun q => by subst q; rw [hrow] at hb; cases hb; exact hne rfl
    rw [hg.block b (Array.getElem?_eq_some_iff.1 hb).1 (by simpa using hbg)]; exact hb
  cases k with
  | chr r => exact hkeep (Ne.symm he.1) h
  | dot => exact hkeep (Ne.symm he.2.1) h
  | set ks => obtain ⟨m, h1, h2⟩ := h; exact ⟨m, hkeep (Ne.symm he.2.2) h1, h2.grown hg hrow⟩
theorem Toks.kept {w w' : World} {g : Nat} (hg : w.grownBy w' (some g)) {cur : Array Value} {fr : Nat × Nat} (hrow : w.heap[g]? = some (.cells cur 57 fr)) {bs : List Nat} {vs : List Value} {ts : List Tok} (h : Toks w bs vs ts) : Toks w' bs vs ts := by
  induction h with
  | nil => exact .nil
  | cons h1 _ ih => exact .cons (h1.grown hg hrow (by decide)) ih

theorem row_block {w : World} {base n g cap : Nat} {e : TypeId} {size : Nat} {xs : List Value} (h : w.ownsRow base e size (.slice (some ⟨g, 0, none⟩) n cap) n xs) : ∃ cur, w.heap[g]? = some (.cells cur e (0, 0)) := by
  rcases h.2 with ⟨h0, _⟩ | ⟨g', cap', cur, hv, hb, hg, r⟩
  · simp at h0
  · simp at hv
    obtain ⟨rfl, rfl⟩ := hv
    exact ⟨cur, hg⟩

/-- What Tokenize leaves. -/
def TokRet (w : World) (R : Option (List Tok)) (e : Ending) (w' : World) : Prop :=
  Below w.heap.size w w' ∧ match R with
    | none => e = .returned (.tuple #[.slice none 0 0, errInv])
    | some ts => ∃ g cap vs bs, e = .returned (.tuple #[.slice (some ⟨g, 0, none⟩) ts.length cap, .nilIface]) ∧ w'.ownsRow w.heap.size 57 1 (.slice (some ⟨g, 0, none⟩) ts.length cap) ts.length vs ∧ Toks w' bs vs ts ∧ bs.Nodup ∧ ∀ b ∈ bs, w.heap.size ≤ b

attribute [local irreducible] wpList

set_option maxRecDepth 100000 in
set_option maxHeartbeats 1000000 in
theorem tokenize_any {l : List Int} {R : Option (List Tok)} (hR : Reads l 0 R) {b off cap : Nat} {w : World} (h : RunesIs w b off cap l) :
    Calls Try.prog 37 #[.slice (some ⟨b, off, none⟩) l.length cap] w (TokRet w R) := by
  have h1 := h.small
  have hA : ∀ o : Obj, Below w.heap.size w (w.alloc o) := fun o => (Below.refl _ _).alloc (Nat.le_refl _) o
  have hown0 : (w.alloc (.cells #[] 57)).ownsRow w.heap.size 57 1 (.slice (some ⟨w.heap.size, 0, none⟩) 0 0) 0 [] := World.ownsRow_made w #[] 0 (Nat.le_refl _) (by decide) rfl
  have HO : Hid _ := hid hown0
  clear hown0
  go_enter Try.func37, Try.ntmps37
  go_wp2_with (first | (go_at_call 47; refine (nextToken_any (i := 0) hR (h.ext ⟨_, hA _⟩)).mono ?_; rintro e w2 ⟨s5, s6, s7, rfl, hb2, hH⟩))
  have hsz : w.heap.size + 1 ≤ w2.heap.size := by have := hb2.size; simp at this; exact this
  have hB2 : Below w.heap.size w w2 := (hA _).trans (hb2.mono (by simp))
  have hown2 := owns_below hb2 HO.out
  clear hA HO
  go_loopw [4, 5, 6, 7] (fun s4 s5 s6 s7 wr => ∃ (dn : List Tok) (vs : List Value) (bs : List Nat) (R' : Option (List Tok)) (g cp B i : Nat), Below w.heap.size w wr ∧ s4 = .slice (some ⟨g, 0, none⟩) dn.length cp ∧ wr.ownsRow w.heap.size 57 1 (.slice (some ⟨g, 0, none⟩) dn.length cp) dn.length vs ∧
      Toks wr bs vs dn ∧ bs.Nodup ∧ (∀ b ∈ bs, w.heap.size ≤ b ∧ b < B) ∧ w.heap.size ≤ B ∧ B ≤ wr.heap.size ∧ HeadT B wr l i s5 s6 s7 R' ∧ R = R'.map (dn ++ ·) ∧ dn.length ≤ i)
    (fun _ s5 _ s7 _ => leftT l.length s5 s7)
  case atStart =>
    refine ⟨[], [], [], R, w.heap.size, 0, w.heap.size + 1, 0, hB2, rfl, hown2, .nil, List.nodup_nil, by simp, by omega, hsz, ?_, by simp, by simp⟩
    simpa using hH
  case round =>
    clear hH hown2 hB2 hsz hb2
    obtain ⟨dn, vs, bs, R', g, cp, B, i, hB, rfl, hown, htk, hnd, hbs, hB0, hB1, hH, hRR, hi⟩ := hrel
    have HR : Hid _ := hid hRR
    have HB : Hid _ := hid hbs
    clear hRR hbs
    have hin : RunesIs wr b off cap l := h.ext ⟨wr, hB⟩
    rcases hH with ⟨j, t, R2, bt, rfl, rfl, rfl, hct, hbt, hR2, hrd, hij, hjl⟩ | ⟨rfl, rfl⟩ | ⟨rfl, rfl⟩
    · have HR2 : Hid _ := hid hR2
      clear hR2
      have hlen := htk.length
      have HL : Hid _ := hid hlen
      clear hlen
      go_wp2_with (first
        | (at_builtin; refine wpList_push elem61 hown rfl (one_oneCell rfl) (by omega) hB.size rfl rfl rfl rfl ?_; intro g2 cp2 w3 hown3 hg3; have hB3 : Below w.heap.size w w3 := hB.trans (grown_below hg3 hB.size (fun k hk => (hown.lt k hk).1)); have hin3 : RunesIs w3 b off cap l := h.ext ⟨w3, hB3⟩)
        | (go_at_call 47; refine (nextToken_any hrd hin3).mono ?_; rintro e w4 ⟨x5, x6, x7, rfl, hb4, hH4⟩))
      obtain ⟨cur, hrow⟩ := row_block hown
      have hbt2 : bt < wr.heap.size := by
        have := World.block_lt_of_cell? wr _ hct.c1
        exact this
      have h13 : wr.heap.size ≤ w3.heap.size := hg3.size
      go_roundw
      case rel =>
        have e1 := HR.out
        have e2 := HR2.out
        have hbs := HB.out
        refine ⟨dn ++ [t], vs ++ [.iface t.k.ty (.pointer (some ⟨bt, 0, none⟩))], bs ++ [bt], R2, g2, cp2, w3.heap.size, j, hB3.trans (hb4.mono hB3.size), by simp, ?_, (((htk.kept hg3 hrow).snoc (hct.grown hg3 hrow (by decide)))).keep hb4, ?_, ?_, by omega, hb4.size, hH4, ?_, by simp; omega⟩
        · have := owns_below hb4 hown3
          simpa using this
        · rw [List.nodup_append]
          refine ⟨hnd, by simp, fun a ha b hb => ?_⟩
          simp at hb
          have := (hbs a ha).2
          omega
        · intro b hb
          simp at hb
          rcases hb with hb | rfl
          · have := hbs b hb; omega
          · omega
        · rw [e1, e2]
          cases R2 <;> simp
      case measure =>
        rcases hH4 with ⟨j', t', R3, bt', rfl, rfl, rfl, _, _, _, _, h5, h6⟩ | ⟨rfl, rfl⟩ | ⟨rfl, rfl⟩
        · simp [leftT, intOf]; omega
        · simp [leftT]
        · simp [leftT]
    · go_wp2_with fail
      go_ret2
      have e1 := HR.out
      simp only [Option.map_some, List.append_nil] at e1
      subst e1
      exact ⟨hB, g, cp, vs, bs, rfl, hown, htk, hnd, fun b hb => (HB.out b hb).1⟩
    · go_wp2_with fail
      go_ret2
      have e1 := HR.out
      simp only [Option.map_none] at e1
      subst e1
      exact ⟨hB, rfl⟩

end Go.Proofs.Ythlhfdidlfdaiaa
