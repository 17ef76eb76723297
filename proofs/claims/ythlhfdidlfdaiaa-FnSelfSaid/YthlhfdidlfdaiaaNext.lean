/- The contract of nextToken. -/
import Derived.Test.YthlhfdidlfdaiaaSet
namespace Go.Proofs.Ythlhfdidlfdaiaa
open Go.RowKit

theorem mth73s : (Try.prog.info? 73).map (fun i => (i.methods.find? (fun m => m.name == "SetFlag")).map fun m => (m.path.toList, m.func)) = some (some ([{ struct := 92, index := 0, deref := true }], some (78, true))) := by kernel_rfl
theorem mth76s : (Try.prog.info? 76).map (fun i => (i.methods.find? (fun m => m.name == "SetFlag")).map fun m => (m.path.toList, m.func)) = some (some ([{ struct := 87, index := 0, deref := true }], some (78, true))) := by kernel_rfl
theorem mth78s : (Try.prog.info? 78).map (fun i => (i.methods.find? (fun m => m.name == "SetFlag")).map fun m => (m.path.toList, m.func)) = some (some ([{ struct := 90, index := 0, deref := true }], some (78, true))) := by kernel_rfl

theorem method_setflag (k : TK) (b : Nat) (w : World) :
    (method 235 k.ty (.pointer (some ⟨b, 0, none⟩)) "SetFlag").run Try.prog w = .ok (78, .pointer (some ⟨b, 0, none⟩)) w := by
  cases k with
  | chr r =>
    simp only [TK.ty] at *
    rw [run_method mth73s (by simp)]
    simp [follow, receiverAt, Place.get, go_sem, fieldPlace]
  | dot =>
    simp only [TK.ty] at *
    rw [run_method mth76s (by simp)]
    simp [follow, receiverAt, Place.get, go_sem, fieldPlace]
  | set ks =>
    simp only [TK.ty] at *
    rw [run_method mth78s (by simp)]
    simp [follow, receiverAt, Place.get, go_sem, fieldPlace]

theorem run_setflag (k : TK) (b : Nat) (f : Int) (w : World) (ρ : Operand → Value) (x y : Operand) {o : Oper} (hop : o.op = .call { callee := .invoke x "SetFlag", args := #[y], argTypes := #[83] })
    (hx : ρ x = .iface k.ty (.pointer (some ⟨b, 0, none⟩))) (hy : ρ y = .int .u64 f) : (execOp ρ o).run Try.prog w = .ok (.enter 78 #[.pointer (some ⟨b, 0, none⟩), .int .u64 f]) w := by
  simp [execOp, hop, resolve, hx, hy, invoke, callMethod, Sem.run, method_setflag k, Try.call78, go_sem, program]

theorem setflag_any (b : Nat) (f f0 : Int) (w : World) (h : w.cell? ⟨b, 1, none⟩ = some (.int .u64 f0)) (hf : w.frozen? ⟨b, 1, none⟩ = false) :
    Calls Try.prog 78 #[.pointer (some ⟨b, 0, none⟩), .int .u64 f] w fun e w' => e = .returned (.tuple #[]) ∧ w.setCell ⟨b, 1, none⟩ (.int .u64 f) = w' := by
  go_enter Try.func78, Try.ntmps78
  go_wp2
  go_end0
  exact ⟨rfl, rfl⟩

theorem CellsAt.set {w : World} {b : Nat} {f0 : Int} {k : TK} (h : CellsAt w b f0 k) (f : Int) : CellsAt (w.setCell ⟨b, 1, none⟩ (.int .u64 f)) b f k := by
  cases k with
  | chr r =>
    show (World.setCell _ _ _).heap[b]? = _
    simp only [CellsAt] at h
    simp [World.setCell, Array.getElem?_modify, h]
  | dot =>
    show (World.setCell _ _ _).heap[b]? = _
    simp only [CellsAt] at h
    simp [World.setCell, Array.getElem?_modify, h]
  | set ks =>
    obtain ⟨m, h1, es, clock, hm, r⟩ := h
    refine ⟨m, ?_, es, clock, ?_, r⟩
    · simp [World.setCell, Array.getElem?_modify, h1]
    · by_cases e : b = m
      · subst e; rw [h1] at hm; cases hm
      · simp [World.setCell, Array.getElem?_modify, e, hm]

theorem CellsAt.loose {w : World} {b : Nat} {f0 : Int} {k : TK} (h : CellsAt w b f0 k) : w.frozen? ⟨b, 1, none⟩ = false := by
  cases k with
  | chr r => simp only [CellsAt] at h; simp [World.frozen?, h]
  | dot => simp only [CellsAt] at h; simp [World.frozen?, h]
  | set ks => obtain ⟨m, h1, _⟩ := h; simp [World.frozen?, h1]

theorem wpList_setflag {ops : Array Oper} {Q : Exit → Act → World → Prop} {a : Act} {o : Oper} {rest : List Oper} {w : World} {k : TK} {b : Nat} {f0 f : Int} (hc : CellsAt w b f0 k) (x y : Operand) (hw : Region.wanted o (yielded ops a.tmps) = true)
    (hop : o.op = .call { callee := .invoke x "SetFlag", args := #[y], argTypes := #[83] }) (hx : a.eval x = .iface k.ty (.pointer (some ⟨b, 0, none⟩))) (hy : a.eval y = .int .u64 f)
    (hK : CellsAt (w.setCell ⟨b, 1, none⟩ (.int .u64 f)) b f k → wpList Try.prog ops Q rest (a.put o.dst (.tuple #[])) (w.setCell ⟨b, 1, none⟩ (.int .u64 f))) : wpList Try.prog ops Q (o :: rest) a w := by
  refine wpList_step fun K hKK => ?_
  rw [if_pos hw]
  unfold Oper.wp
  rw [run_setflag k b f w a.eval x y hop hx hy]
  simp only [Oper.upon]
  refine (setflag_any b f f0 w hc.c1 hc.loose).mono ?_
  rintro e w' ⟨rfl, rfl⟩
  exact hKK _ _ (hK (hc.set f))

theorem wpList_tt {ops : Array Oper} {Q : Exit → Act → World → Prop} {a : Act} {o : Oper} {rest : List Oper} {w0 : World} {d : Ext w0} (hop : o.op = .call { callee := .value (.func 53), args := #[], argTypes := #[] }) (hw : Region.wanted o (yielded ops a.tmps) = true)
    (hK : ∀ (m : Nat) (d' : Ext w0), (∀ r, (Instr.lookup 102 (.map (some m)) (.int .i32 r) true).run Try.prog d'.u = .ok (.tuple #[.int .u64 (ttVal r), .bool (isTT r)]) d'.u) → wpList Try.prog ops Q rest (a.put o.dst (.map (some m))) d'.u) : wpList Try.prog ops Q (o :: rest) a d.u := by
  refine wpList_step fun K hKK => ?_
  rw [if_pos hw]
  unfold Oper.wp
  rw [run_call (l := []) Try.call53 a.eval rfl hop d.u]
  simp only [Oper.upon]
  refine (tts_any d.u).mono ?_
  rintro e w' ⟨rfl, rfl⟩
  exact hKK _ _ (hK d.u.heap.size (d.on ((Below.refl _ _).alloc (Nat.le_refl _) ttObj)) fun r => look_tt (heap_alloc_new _ _) r)

theorem wpList_flags {ops : Array Oper} {Q : Exit → Act → World → Prop} {a : Act} {o : Oper} {rest : List Oper} {w0 : World} {d : Ext w0} (hop : o.op = .call { callee := .value (.func 56), args := #[], argTypes := #[] }) (hw : Region.wanted o (yielded ops a.tmps) = true)
    (hK : ∀ (m : Nat) (d' : Ext w0), (∀ r, (Instr.lookup 106 (.map (some m)) (.int .i32 r) true).run Try.prog d'.u = .ok (.tuple #[.int .u64 (flagVal r), .bool (isFlag r)]) d'.u) → wpList Try.prog ops Q rest (a.put o.dst (.map (some m))) d'.u) : wpList Try.prog ops Q (o :: rest) a d.u := by
  refine wpList_step fun K hKK => ?_
  rw [if_pos hw]
  unfold Oper.wp
  rw [run_call (l := []) Try.call56 a.eval rfl hop d.u]
  simp only [Oper.upon]
  refine (flags_any d.u).mono ?_
  rintro e w' ⟨rfl, rfl⟩
  exact hKK _ _ (hK d.u.heap.size (d.on ((Below.refl _ _).alloc (Nat.le_refl _) flagObj)) fun r => look_flag (heap_alloc_new _ _) r)

theorem wpList_mods {ops : Array Oper} {Q : Exit → Act → World → Prop} {a : Act} {o : Oper} {rest : List Oper} {w0 : World} {d : Ext w0} (hop : o.op = .call { callee := .value (.func 57), args := #[], argTypes := #[] }) (hw : Region.wanted o (yielded ops a.tmps) = true)
    (hK : ∀ (m : Nat) (d' : Ext w0), (∀ r, (Instr.lookup 110 (.map (some m)) (.int .i32 r) true).run Try.prog d'.u = .ok (.tuple #[.int .u64 0, .bool (isMod r)]) d'.u) → wpList Try.prog ops Q rest (a.put o.dst (.map (some m))) d'.u) : wpList Try.prog ops Q (o :: rest) a d.u := by
  refine wpList_step fun K hKK => ?_
  rw [if_pos hw]
  unfold Oper.wp
  rw [run_call (l := []) Try.call57 a.eval rfl hop d.u]
  simp only [Oper.upon]
  refine (mod_any d.u).mono ?_
  rintro e w' ⟨rfl, rfl⟩
  exact hKK _ _ (hK d.u.heap.size (d.on ((Below.refl _ _).alloc (Nat.le_refl _) modObj)) fun r => look_mod (heap_alloc_new _ _) r)

/-- The flag at place j: where the next token begins, and which flag. -/
def flagAt (l : List Int) (j : Nat) : Nat × Int :=
  match l[j]? with
  | none => (j, 0)
  | some c => (if isFlag c then j + 1 else j, flagVal c)

/-- nextFlag at place j. -/
theorem nextFlag_any {b off cap : Nat} {l : List Int} (j : Nat) (hj : j ≤ l.length) (hesc : l[j]? = some 92 → j + 1 < l.length) :
    ∃ ev, (ev = .nilIface ∨ ev = errEnd) ∧ ∀ u : World, RunesIs u b off cap l → Calls Try.prog 58 #[.int .i64 j, .slice (some ⟨b, off, none⟩) l.length cap] u (Ret u (.tuple #[.int .i64 ((flagAt l j).1 : Int), .int .u64 (flagAt l j).2, ev])) := by
  rcases Nat.lt_or_ge j l.length with h1 | h1
  · have hi := List.getElem?_eq_getElem h1
    have hF : flagAt l j = (if isFlag l[j] then j + 1 else j, flagVal l[j]) := by unfold flagAt; rw [hi]
    refine ⟨.nilIface, .inl rfl, fun u h => ?_⟩
    by_cases h92 : l[j] = 92
    · have h2 := hesc (by rw [hi, h92])
      have := nextFlag_esc h j _ (by rw [hi, h92]) (List.getElem?_eq_getElem h2) (Ext.self u)
      rw [hF, h92]
      exact this
    · rw [hF]
      exact nextFlag_plain h j _ hi h92 (Ext.self u)
  · obtain rfl : j = l.length := by omega
    have hF : flagAt l l.length = (l.length, 0) := by unfold flagAt; simp
    refine ⟨errEnd, .inr rfl, fun u h => ?_⟩
    rw [hF]
    exact nextFlag_end h (Ext.self u)

/-- What nextToken leaves where there is a token. -/
def NextRet (w : World) (j : Nat) (t : Tok) (e : Ending) (w' : World) : Prop :=
  ∃ v, e = .returned (.tuple #[.int .i64 (j : Int), v, .nilIface]) ∧ Below w.heap.size w w' ∧ NewAt w.heap.size w' v t

attribute [local irreducible] wpList

set_option maxRecDepth 100000 in
set_option maxHeartbeats 1000000 in
theorem next_plain {w : World} {b off cap : Nat} {l : List Int} (h : RunesIs w b off cap l) (i : Nat) (r : Int) (hi : l[i]? = some r) (hm : r ≠ 92) (ht : isTT r = false) (hfl : isFlag r = false) (hesc : l[i + 1]? = some 92 → i + 2 < l.length) :
    Calls Try.prog 47 #[.int .i64 i, .slice (some ⟨b, off, none⟩) l.length cap] w (NextRet w (flagAt l (i + 1)).1 ⟨.chr r, (flagAt l (i + 1)).2⟩) := by
  have hn := fun u (hu : RunesIs u b off cap l) => nextRune_plain hu i r hi hm (Ext.self u)
  have hil := (List.getElem?_eq_some_iff.1 hi).1
  obtain ⟨ev, hev, hF⟩ := nextFlag_any (b := b) (off := off) (cap := cap) (l := l) (i + 1) (by omega) hesc
  have hmm : isMod r = false := by simp [isMod, hm]
  generalize flagAt l (i + 1) = fl at hF ⊢
  obtain ⟨j, f⟩ := fl
  simp only at hF ⊢
  clear hi
  rcases hev with rfl | rfl
  all_goals
    go_enter Try.func47, Try.ntmps47
    go_wp2_with (first
      | (refine wpList_call (d := Ext.self w) (hn w h) rfl rfl rfl Try.call52 ?_; intro d1)
      | (refine wpList_tt rfl rfl ?_; intro m2 d2 hl2)
      | (refine wpList_flags rfl rfl ?_; intro m3 d3 hl3)
      | (refine wpList_mods rfl rfl ?_; intro m4 d4 hl4)
      | (go_at_call 36; refine (newChar_any _ _).mono ?_; rintro e w2 ⟨v, rfl, hb2, bt, hbt, rfl, hct⟩; have hB2 : Below w.heap.size w w2 := d4.ok.trans (hb2.mono d4.size); have hbw : w.heap.size ≤ bt := Nat.le_trans d4.size hbt; clear hbt hb2)
      | (refine wpList_call (d := Ext.self w2) (hF w2 (h.ext ⟨w2, hB2⟩)) rfl rfl rfl Try.call58 ?_; intro d5)
      | (refine wpList_setflag (hct.ext d5) _ _ rfl rfl rfl rfl ?_; intro hcs))
    go_ret3
    exact ⟨_, rfl, (hB2.trans (d5.ok.mono hB2.size)).setCell hbw _, bt, hbw, rfl, hcs⟩


set_option maxRecDepth 100000 in
set_option maxHeartbeats 1000000 in
theorem next_dot {w : World} {b off cap : Nat} {l : List Int} (h : RunesIs w b off cap l) (i : Nat) (hi : l[i]? = some 46) (hesc : l[i + 1]? = some 92 → i + 2 < l.length) :
    Calls Try.prog 47 #[.int .i64 i, .slice (some ⟨b, off, none⟩) l.length cap] w (NextRet w (flagAt l (i + 1)).1 ⟨.dot, (flagAt l (i + 1)).2⟩) := by
  have hn := fun u (hu : RunesIs u b off cap l) => nextRune_plain hu i 46 hi (by decide) (Ext.self u)
  have hil := (List.getElem?_eq_some_iff.1 hi).1
  obtain ⟨ev, hev, hF⟩ := nextFlag_any (b := b) (off := off) (cap := cap) (l := l) (i + 1) (by omega) hesc
  have ht : isTT 46 = true := rfl
  have hv : ttVal 46 = 1 := rfl
  generalize flagAt l (i + 1) = fl at hF ⊢
  obtain ⟨j, f⟩ := fl
  simp only at hF ⊢
  clear hi
  rcases hev with rfl | rfl
  all_goals
    go_enter Try.func47, Try.ntmps47
    go_wp2_with (first
      | (refine wpList_call (d := Ext.self w) (hn w h) rfl rfl rfl Try.call52 ?_; intro d1)
      | (refine wpList_tt rfl rfl ?_; intro m2 d2 hl2)
      | (go_at_call 34; refine (newDot_any _).mono ?_; rintro e w2 ⟨v, rfl, hb2, bt, hbt, rfl, hct⟩; have hB2 : Below w.heap.size w w2 := d2.ok.trans (hb2.mono d2.size); have hbw : w.heap.size ≤ bt := Nat.le_trans d2.size hbt; clear hbt hb2)
      | (refine wpList_call (d := Ext.self w2) (hF w2 (h.ext ⟨w2, hB2⟩)) rfl rfl rfl Try.call58 ?_; intro d5)
      | (refine wpList_setflag (hct.ext d5) _ _ rfl rfl rfl rfl ?_; intro hcs))
    go_ret3
    exact ⟨_, rfl, (hB2.trans (d5.ok.mono hB2.size)).setCell hbw _, bt, hbw, rfl, hcs⟩

set_option maxRecDepth 100000 in
set_option maxHeartbeats 1000000 in
theorem next_esc {w : World} {b off cap : Nat} {l : List Int} (h : RunesIs w b off cap l) (i : Nat) (r : Int) (hi : l[i]? = some 92) (hi2 : l[i + 1]? = some r) (hesc : l[i + 2]? = some 92 → i + 3 < l.length) :
    Calls Try.prog 47 #[.int .i64 i, .slice (some ⟨b, off, none⟩) l.length cap] w (NextRet w (flagAt l (i + 2)).1 ⟨.chr r, (flagAt l (i + 2)).2⟩) := by
  have hn := fun u (hu : RunesIs u b off cap l) => nextRune_esc hu i r hi hi2 (Ext.self u)
  have hil := (List.getElem?_eq_some_iff.1 hi2).1
  obtain ⟨ev, hev, hF⟩ := nextFlag_any (b := b) (off := off) (cap := cap) (l := l) (i + 2) (by omega) hesc
  generalize flagAt l (i + 2) = fl at hF ⊢
  obtain ⟨j, f⟩ := fl
  simp only at hF ⊢
  clear hi hi2
  rcases hev with rfl | rfl
  all_goals
    go_enter Try.func47, Try.ntmps47
    go_wp2_with (first
      | (refine wpList_call (d := Ext.self w) (hn w h) rfl rfl rfl Try.call52 ?_; intro d1)
      | (go_at_call 36; refine (newChar_any _ _).mono ?_; rintro e w2 ⟨v, rfl, hb2, bt, hbt, rfl, hct⟩; have hB2 : Below w.heap.size w w2 := d1.ok.trans (hb2.mono d1.size); have hbw : w.heap.size ≤ bt := Nat.le_trans d1.size hbt; clear hbt hb2)
      | (refine wpList_call (d := Ext.self w2) (hF w2 (h.ext ⟨w2, hB2⟩)) rfl rfl rfl Try.call58 ?_; intro d5)
      | (refine wpList_setflag (hct.ext d5) _ _ rfl rfl rfl rfl ?_; intro hcs))
    go_ret3
    exact ⟨_, rfl, (hB2.trans (d5.ok.mono hB2.size)).setCell hbw _, bt, hbw, rfl, hcs⟩

set_option maxRecDepth 100000 in
set_option maxHeartbeats 1000000 in
theorem next_set {w : World} {b off cap : Nat} {l : List Int} (h : RunesIs w b off cap l) (hs : l.length ≤ 5000) (i : Nat) (hi : l[i]? = some 91) (hi1 : i + 1 < l.length) (ks rest : List Int) (hR : scan (l.drop (i + 1)) none [] = some (ks, rest)) (hg : good (l.drop (i + 1)) none = true)
    (j0 : Nat) (hj0 : j0 = l.length - rest.length) (hesc : l[j0]? = some 92 → j0 + 1 < l.length) :
    Calls Try.prog 47 #[.int .i64 i, .slice (some ⟨b, off, none⟩) l.length cap] w (NextRet w (flagAt l j0).1 ⟨.set (keysOf ks), (flagAt l j0).2⟩) := by
  have hn := fun u (hu : RunesIs u b off cap l) => nextRune_plain hu i 91 hi (by decide) (Ext.self u)
  have hset : ∀ u : World, RunesIs u b off cap l → Calls Try.prog 55 #[.int .i64 ((i + 1 : Nat) : Int), .slice (some ⟨b, off, none⟩) l.length cap] u fun e w' =>
      Below u.heap.size u w' ∧ ∃ v, e = .returned (.tuple #[.int .i64 (j0 : Int), v, .nilIface]) ∧ NewAt u.heap.size w' v ⟨.set (keysOf ks), 0⟩ := fun u hu =>
    (set_any hu hs (i + 1) hi1 _ hR hg).mono (by rintro e w2 ⟨hb2, v, he, ht⟩; exact ⟨hb2, v, by rw [hj0]; exact he, ht⟩)
  obtain ⟨ev, hev, hF⟩ := nextFlag_any (b := b) (off := off) (cap := cap) (l := l) j0 (by omega) hesc
  have ht : isTT 91 = true := rfl
  have hv : ttVal 91 = 2 := rfl
  clear hj0
  generalize flagAt l j0 = fl at hF ⊢
  obtain ⟨j, f⟩ := fl
  simp only at hF ⊢
  clear hi hR hg
  rcases hev with rfl | rfl
  all_goals
    go_enter Try.func47, Try.ntmps47
    go_wp2_with (first
      | (refine wpList_call (d := Ext.self w) (hn w h) rfl rfl rfl Try.call52 ?_; intro d1)
      | (refine wpList_tt rfl rfl ?_; intro m2 d2 hl2)
      | (go_at_call 55; refine (hset _ (h.ext d2)).mono ?_; rintro e w2 ⟨hb2, v, rfl, bt, hbt, rfl, hct⟩; have hB2 : Below w.heap.size w w2 := d2.ok.trans (hb2.mono d2.size); have hbw : w.heap.size ≤ bt := Nat.le_trans d2.size hbt; clear hbt hb2)
      | (refine wpList_call (d := Ext.self w2) (hF w2 (h.ext ⟨w2, hB2⟩)) rfl rfl rfl Try.call58 ?_; intro d5)
      | (refine wpList_setflag (hct.ext d5) _ _ rfl rfl rfl rfl ?_; intro hcs))
    go_ret3
    exact ⟨_, rfl, (hB2.trans (d5.ok.mono hB2.size)).setCell hbw _, bt, hbw, rfl, hcs⟩

set_option maxRecDepth 100000 in
set_option maxHeartbeats 1000000 in
theorem next_end {w : World} {b off cap : Nat} {l : List Int} (h : RunesIs w b off cap l) :
    Calls Try.prog 47 #[.int .i64 l.length, .slice (some ⟨b, off, none⟩) l.length cap] w (Ret w (.tuple #[.int .i64 l.length, .nilIface, errEnd])) := by
  have hn := fun u (hu : RunesIs u b off cap l) => nextRune_end hu (Ext.self u)
  go_enter Try.func47, Try.ntmps47
  go_wp2_with (first
      | (refine wpList_call (d := Ext.self w) (hn w h) rfl rfl rfl Try.call52 ?_; intro d1))
  go_ret3
  exact .mk _

/-- What nextToken leaves where there is no token. -/
def BadRet (w : World) (e : Ending) (w' : World) : Prop := ∃ a b, e = .returned (.tuple #[a, b, errInv]) ∧ Below w.heap.size w w'

set_option maxRecDepth 100000 in
set_option maxHeartbeats 1000000 in
theorem next_badset {w : World} {b off cap : Nat} {l : List Int} (h : RunesIs w b off cap l) (hs : l.length ≤ 5000) (i : Nat) (hi : l[i]? = some 91) (hi1 : i + 1 < l.length) (hR : scan (l.drop (i + 1)) none [] = none) (hg : good (l.drop (i + 1)) none = true) :
    Calls Try.prog 47 #[.int .i64 i, .slice (some ⟨b, off, none⟩) l.length cap] w (BadRet w) := by
  have hn := fun u (hu : RunesIs u b off cap l) => nextRune_plain hu i 91 hi (by decide) (Ext.self u)
  have hset : ∀ u : World, RunesIs u b off cap l → Calls Try.prog 55 #[.int .i64 ((i + 1 : Nat) : Int), .slice (some ⟨b, off, none⟩) l.length cap] u fun e w' =>
      Below u.heap.size u w' ∧ e = .returned (.tuple #[.int .i64 (l.length : Int), .nilIface, errInv]) := fun u hu =>
    (set_any hu hs (i + 1) hi1 _ hR hg).mono (by rintro e w2 ⟨hb2, he⟩; exact ⟨hb2, he⟩)
  have ht : isTT 91 = true := rfl
  have hv : ttVal 91 = 2 := rfl
  clear hi hR hg
  go_enter Try.func47, Try.ntmps47
  go_wp2_with (first
      | (refine wpList_call (d := Ext.self w) (hn w h) rfl rfl rfl Try.call52 ?_; intro d1)
      | (refine wpList_tt rfl rfl ?_; intro m2 d2 hl2)
      | (go_at_call 55; refine (hset _ (h.ext d2)).mono ?_; rintro e w2 ⟨hb2, rfl⟩; have hB2 : Below w.heap.size w w2 := d2.ok.trans (hb2.mono d2.size)))
  go_ret3
  exact ⟨_, _, rfl, hB2⟩

set_option maxRecDepth 100000 in
set_option maxHeartbeats 1000000 in
theorem next_badflag {w : World} {b off cap : Nat} {l : List Int} (h : RunesIs w b off cap l) (i : Nat) (r : Int) (hi : l[i]? = some r) (hr : r = 43 ∨ r = 42) :
    Calls Try.prog 47 #[.int .i64 i, .slice (some ⟨b, off, none⟩) l.length cap] w (BadRet w) := by
  have hn := fun u (hu : RunesIs u b off cap l) => nextRune_plain hu i r hi (by omega) (Ext.self u)
  have ht : isTT r = false := by rcases hr with rfl | rfl <;> rfl
  have hf : isFlag r = true := by rcases hr with rfl | rfl <;> rfl
  have hil := (List.getElem?_eq_some_iff.1 hi).1
  clear hi hr
  go_enter Try.func47, Try.ntmps47
  go_wp2_with (first
      | (refine wpList_call (d := Ext.self w) (hn w h) rfl rfl rfl Try.call52 ?_; intro d1)
      | (refine wpList_tt rfl rfl ?_; intro m2 d2 hl2)
      | (refine wpList_flags rfl rfl ?_; intro m3 d3 hl3)
      | (go_at_call 54; refine (invalid_any _ _ _ _ _).mono ?_; rintro e w3 ⟨rfl, rfl⟩))
  go_ret3
  exact ⟨_, _, rfl, d3.ok.alloc d3.size _⟩

end Go.Proofs.Ythlhfdidlfdaiaa
