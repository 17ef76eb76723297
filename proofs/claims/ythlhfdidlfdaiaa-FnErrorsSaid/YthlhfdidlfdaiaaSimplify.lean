/- The contract of Simplify. -/
import Derived.Test.YthlhfdidlfdaiaaTokenize
import Derived.Test.YthlhfdidlfdaiaaEqual
import Derived.Test.YthlhfdidlfdaiaaInter
import Derived.Deep.DeepAppendRoom
namespace Go.Proofs.Ythlhfdidlfdaiaa
open Go.RowKit

/-- The package's Simplify, behind the first token. -/
def simp2 : Tok → List Tok → List Tok
  | l, [] => [l]
  | l, t :: ts => if t.f ≠ 0 ∧ l.f ≠ 0 ∧ eqv t.k l.k = true then simp2 ⟨l.k, if t.f = 1 ∨ l.f = 1 then 1 else 2⟩ ts else l :: simp2 t ts
/-- The package's Simplify. -/
def simplify : List Tok → List Tok
  | [] => []
  | t :: ts => simp2 t ts

theorem simp2_length (l : Tok) (ts : List Tok) : (simp2 l ts).length ≤ ts.length + 1 := by
  induction ts generalizing l with
  | nil => simp [simp2]
  | cons t ts ih =>
    simp only [simp2]
    split
    · have := ih ⟨l.k, if t.f = 1 ∨ l.f = 1 then 1 else 2⟩; simp; omega
    · have := ih t; simp; omega
theorem simplify_length (ts : List Tok) : (simplify ts).length ≤ ts.length := by
  cases ts with
  | nil => simp [simplify]
  | cons t ts => simpa [simplify] using simp2_length t ts

theorem row_cell {w : World} {base n g cap : Nat} {e : TypeId} {xs : List Value} (h : w.ownsRow base e 1 (.slice (some ⟨g, 0, none⟩) n cap) n xs) {i : Nat} {v : Value} (hi : xs[i]? = some v) : w.cell? ⟨g, i, none⟩ = some v := by
  rcases h.2 with ⟨h0, _⟩ | ⟨g', cap', cur, hv, hb, hg, hle, hm, hc, ht⟩
  · simp at h0
  · simp at hv
    obtain ⟨rfl, rfl⟩ := hv
    rw [cell_of_block hg]
    have : (cur.toList.take (n * 1))[i]? = some v := by rw [ht]; exact hi
    rw [List.getElem?_take] at this
    split at this
    · simpa using this
    · cases this

theorem row_cap {w : World} {base n g cap : Nat} {e : TypeId} {size : Nat} {xs : List Value} (h : w.ownsRow base e size (.slice (some ⟨g, 0, none⟩) n cap) n xs) : n ≤ cap := by
  rcases h.2 with ⟨h0, _⟩ | ⟨g', cap', cur, hv, hb, hg, hle, r⟩
  · simp at h0
  · simp at hv
    obtain ⟨rfl, rfl⟩ := hv
    exact hle

theorem Toks.at {w : World} {bs : List Nat} {vs : List Value} {ts : List Tok} (h : Toks w bs vs ts) : ∀ (i : Nat) (t : Tok), ts[i]? = some t → ∃ v, vs[i]? = some v ∧ TokAt w v t := by
  induction h with
  | nil => intro i t hi; simp at hi
  | cons hc _ ih =>
    intro i t hi
    cases i with
    | zero => simp at hi; subst hi; exact ⟨_, rfl, _, rfl, hc⟩
    | succ i => simpa using ih i t (by simpa using hi)

/-- A row of tokens, as a glob. -/
theorem glob_of_row {w : World} {base g cap : Nat} {ts : List Tok} {vs : List Value} {bs : List Nat} (h : w.ownsRow base 57 1 (.slice (some ⟨g, 0, none⟩) ts.length cap) ts.length vs) (ht : Toks w bs vs ts) (hs : ts.length ≤ 1000000) : GlobAt w (.slice (some ⟨g, 0, none⟩) ts.length cap) ts :=
  ⟨g, 0, cap, rfl, hs, row_cap h, fun i t hi => by
    obtain ⟨v, hv, htk⟩ := ht.at i t hi
    rw [Nat.zero_add]
    exact ⟨v, row_cell h hv, htk⟩⟩

theorem CellsAt.cells {w : World} {b : Nat} {f : Int} {k : TK} (h : CellsAt w b f k) : ∃ c e, w.heap[b]? = some (.cells c e (0, 0)) ∧ (e = 92 ∨ e = 87 ∨ e = 90) := by
  cases k with
  | chr r => exact ⟨_, _, h, .inl rfl⟩
  | dot => exact ⟨_, _, h, .inr (.inl rfl)⟩
  | set ks => obtain ⟨m, h1, _⟩ := h; exact ⟨_, _, h1, .inr (.inr rfl)⟩

/-- A token stays while another one is written. -/
theorem CellsAt.apart {w w' : World} {b : Nat} (hg : w.grownBy w' (some b)) {f : Int} {k : TK} (hb : CellsAt w b f k) {b' : Nat} (hne : b' ≠ b) {f' : Int} {k' : TK} (h : CellsAt w b' f' k') : CellsAt w' b' f' k' := by
  obtain ⟨c, e, hb, _⟩ := hb.cells
  have hkeep : ∀ {o : Obj}, w.heap[b']? = some o → w'.heap[b']? = some o := fun ho => by
    rw [hg.block b' (Array.getElem?_eq_some_iff.1 ho).1 (by simpa using hne)]; exact ho
  cases k' with
  | chr r => exact hkeep h
  | dot => exact hkeep h
  | set ks =>
    obtain ⟨m, h1, h2⟩ := h
    exact ⟨m, hkeep h1, h2.grown hg hb⟩
theorem Toks.apart {w w' : World} {b : Nat} (hg : w.grownBy w' (some b)) {f : Int} {k : TK} (hb : CellsAt w b f k) {bs : List Nat} {vs : List Value} {ts : List Tok} (hne : b ∉ bs) (h : Toks w bs vs ts) : Toks w' bs vs ts := by
  induction h with
  | nil => exact .nil
  | cons h1 _ ih =>
    simp only [List.mem_cons, not_or] at hne
    exact .cons (CellsAt.apart hg hb (Ne.symm hne.1) h1) (ih hne.2)

theorem grown_setCell {w : World} {b : Nat} {v : Value} (o : Nat) : w.grownBy (w.setCell ⟨b, o, none⟩ v) (some b) :=
  ⟨rfl, rfl, rfl, by simp [World.setCell], fun k hk hne => by
    have : b ≠ k := fun e => hne (by rw [e])
    simp [World.setCell, Array.getElem?_modify, this]⟩

theorem row_set {w : World} {base n g cap : Nat} {e : TypeId} {xs : List Value} (h : w.ownsRow base e 1 (.slice (some ⟨g, 0, none⟩) n cap) n xs) (i : Nat) (v : Value) (_hi : i < n) :
    (w.setCell ⟨g, i, none⟩ v).ownsRow base e 1 (.slice (some ⟨g, 0, none⟩) n cap) n (xs.set i v) := by
  rcases h with ⟨hl, ⟨h0, _⟩ | ⟨g', cap', cur, hv, hb, hg, hle, hm, hc, ht⟩⟩
  · simp at h0
  · simp at hv
    obtain ⟨rfl, rfl⟩ := hv
    refine ⟨by simpa using hl, .inr ⟨g, cap, cur.setIfInBounds i v, rfl, hb, ?_, hle, hm, by simpa using hc, ?_⟩⟩
    · simp [World.setCell, Array.getElem?_modify, hg]
    · rw [← ht]
      simp [List.take_set]

/-- make([]Token, 1, n). -/
theorem wpList_make1 {ops : Array Oper} {rest : List Oper} {o : Oper} {a : Act} {Q : Exit → Act → World → Prop} (w : World) (hg : o.guard = none) (l c : Operand) (hop : o.op = Op.makeSlice 61 l c) (base n : Nat)
    (hl : a.eval l = .int .i64 1) (hc : a.eval c = .int .i64 (n : Int)) (h1 : 1 ≤ n) (hn : n ≤ 1000000) (hb : base ≤ w.heap.size)
    (hK : ∀ w', w'.ownsRow base 57 1 (.slice (some ⟨w.heap.size, 0, none⟩) 1 n) 1 [.nilIface] → Below w.heap.size w w' → w'.frozen? ⟨w.heap.size, 0, none⟩ = false → wpList Try.prog ops Q rest (a.put o.dst (.slice (some ⟨w.heap.size, 0, none⟩) 1 n)) w') :
    wpList Try.prog ops Q (o :: rest) a w := by
  refine wpList_plain hg fun K hK' => ?_
  obtain ⟨i, hi, hz0, hz1, hz2⟩ := info_parts elem61.info
  have hr := run_make (P := Try.prog) w 61 57 i .nilIface elem61.und hi hz0 .i64 .i64 1 n (by omega) (by omega) (by rw [hz2]; omega) (by omega)
  unfold Oper.wp
  simp [execOp, hop, hl, hc, hr, Result.andThen]
  refine hK' _ _ (hK _ ?_ ((Below.refl _ _).alloc (Nat.le_refl _) _) (by rw [World.frozen?, heap_alloc_new]; rfl))
  refine ⟨rfl, .inr ⟨w.heap.size, n, _, rfl, hb, heap_alloc_new _ _, h1, ?_, ?_, ?_⟩⟩
  · unfold maxLen; omega
  · rw [size_madeCells, hz1]
  · rw [show (Value.nilIface).cells = #[Value.nilIface] from rfl, toList_madeCells_one, hz1]
    obtain ⟨m, rfl⟩ : ∃ m, n = m + 1 := ⟨n - 1, by omega⟩
    simp [List.replicate_succ]

/-- The append of one element, which lies alone in the last block, where there is room. -/
theorem wpList_push_spare {T E : TypeId} {size bytes : Nat} {z : Value} (he : ElemOf T E size bytes z) {ops : Array Oper} {rest : List Oper} {o : Oper} {a : Act} {Q : Exit → Act → World → Prop} {w : World}
    {s x : Operand} {base n g cap : Nat} {xs news : List Value} (hown : w.ownsRow base E size (.slice (some ⟨g, 0, none⟩) n cap) n xs) (hl : news.length = size) (h1 : ∀ u ∈ news, u.oneCell' = true) (hn : n + 1 ≤ cap)
    (hgd : o.guard = none) (ho : o.op = .call { callee := .builtin .append, args := #[s, x], argTypes := #[T, T] }) (hs : a.eval s = .slice (some ⟨g, 0, none⟩) n cap) (hx : a.eval x = .slice (some ⟨w.heap.size, 0, none⟩) 1 1)
    (h : ∀ w', w'.ownsRow base E size (.slice (some ⟨g, 0, none⟩) (n + 1) cap) (n + 1) (xs ++ news) → w.grownBy w' (some g) → wpList Try.prog ops Q rest (a.put o.dst (.slice (some ⟨g, 0, none⟩) (n + 1) cap)) w') :
    wpList Try.prog ops Q (o :: rest) a (w.alloc (.cells news.toArray E)) := by
  obtain ⟨i, hi, hz0, hz1, hz2⟩ := info_parts he.info
  refine wpList_append_own_spare _ hgd s x T ho base E i size he.und hi hz1 g n cap xs hs (hown.alloc _) ⟨w.heap.size, 0, none⟩ 1 1 news hx (by omega) ?_ h1 hn ?_
  · intro j u hj
    have hadd : (⟨w.heap.size, 0, none⟩ : Addr).add j = ⟨w.heap.size, j, none⟩ := by unfold Addr.add; split <;> simp_all
    rw [hadd, cell_of_block (heap_alloc_new _ _)]
    simpa using hj
  · intro w' hown' hg
    refine h w' hown' ⟨hg.os, hg.tape, hg.output, ?_, fun k hk hne => ?_⟩
    · have := hg.size
      simp at this
      omega
    · rw [hg.block k (by simp; omega) hne, heap_alloc_old _ _ hk]

/-- What Simplify leaves. -/
def SimpRet (B : Nat) (w : World) (R : List Tok) (e : Ending) (w' : World) : Prop := ∃ v, e = .returned v ∧ Below B w w' ∧ GlobAt w' v R

theorem simplify_nil {w : World} {base g cap : Nat} (h : w.ownsRow base 57 1 (.slice (some ⟨g, 0, none⟩) 0 cap) 0 []) (_hb : base ≤ w.heap.size) :
    Calls Try.prog 48 #[.slice (some ⟨g, 0, none⟩) 0 cap] w (SimpRet base w (simplify [])) := by
  have hg : GlobAt w (.slice (some ⟨g, 0, none⟩) 0 cap) [] := glob_of_row (ts := []) h .nil (by simp)
  go_enter Try.func48, Try.ntmps48
  go_wp2_with fail
  go_ret
  exact ⟨_, rfl, Below.refl _ _, hg⟩

attribute [local irreducible] wpList wpQuiet

/-- The head of the loop: what has been made, what is left. -/
structure SAt (base : Nat) (w0 w : World) (g cap n : Nat) (R : List Tok) (i : Nat) (s3 s4 : Value) (dn : List Tok) (lt : Tok) (rs : List Tok) (dv rv : List Value) (lv : Value) (db rb : List Nat) (lb g2 : Nat) : Prop where
  ok : Below base w0 w
  inp : ∃ vs, w.ownsRow base 57 1 (.slice (some ⟨g, 0, none⟩) n cap) n vs ∧ vs.drop i = rv
  out : w.ownsRow base 57 1 (.slice (some ⟨g2, 0, none⟩) (dn.length + 1) n) (dn.length + 1) (dv ++ [lv])
  e3 : s3 = .slice (some ⟨g2, 0, none⟩) (dn.length + 1) n
  e4 : s4 = lv
  ne : g2 ≠ g
  done : Toks w db dv dn
  last : CellsAt w lb lt.f lt.k
  elast : lv = .iface lt.k.ty (.pointer (some ⟨lb, 0, none⟩))
  rest : Toks w rb rv rs
  nd : (db ++ lb :: rb).Nodup
  low : ∀ b ∈ db ++ lb :: rb, base ≤ b
  num : i + rs.length = n
  pos : 1 ≤ i
  cnt : dn.length + 1 ≤ i
  res : R = dn ++ simp2 lt rs

set_option maxRecDepth 100000 in
set_option maxHeartbeats 2000000 in
theorem simplify_any {w : World} {base g cap : Nat} {ts : List Tok} {vs : List Value} {bs : List Nat} (h : w.ownsRow base 57 1 (.slice (some ⟨g, 0, none⟩) ts.length cap) ts.length vs)
    (ht : Toks w bs vs ts) (hnd : bs.Nodup) (hlow : ∀ b ∈ bs, base ≤ b) (hb : base ≤ w.heap.size) (hs : ts.length ≤ 1000000) :
    Calls Try.prog 48 #[.slice (some ⟨g, 0, none⟩) ts.length cap] w (SimpRet base w (simplify ts)) := by
  cases ht with
  | nil => exact simplify_nil h hb
  | @cons b1 t1 bs1 vs1 ts1 hc1 htk1 =>
  have hcap := row_cap h
  simp only [List.length_cons] at h hcap hs ⊢
  have hlen : (1 : Int) ≤ (ts1.length : Int) + 1 := by omega
  have hl0 : ¬ ((ts1.length : Int) + 1 = 0) := by omega
  have q0 : w.cell? ⟨g, 0, none⟩ = some (.iface t1.k.ty (.pointer (some ⟨b1, 0, none⟩))) := row_cell h rfl
  have H : Hid _ := hid h
  clear h
  go_enter Try.func48, Try.ntmps48
  go_wp2_with (first | (at_make; refine wpList_make1 _ rfl _ _ rfl base (ts1.length + 1) rfl rfl (by omega) hs hb ?_; intro w2 hown2 hB2 hfz2; have hc2 : w2.cell? ⟨w.heap.size, 0, none⟩ = some .nilIface := row_cell hown2 rfl; have hq2 : w2.cell? ⟨g, 0, none⟩ = some (.iface t1.k.ty (.pointer (some ⟨b1, 0, none⟩))) := (by rw [hB2.cell (World.block_lt_of_cell? w _ q0)]; exact q0)))
  go_loopw [3, 4, 5] (fun s3 s4 s5 wr => ∃ (k : Nat) (dn : List Tok) (lt : Tok) (rs : List Tok) (dv rv : List Value) (lv : Value) (db rb : List Nat) (lb : Nat),
      s5 = .int .i64 (k : Int) ∧ SAt base w wr g cap (ts1.length + 1) (simplify (t1 :: ts1)) k s3 s4 dn lt rs dv rv lv db rb lb w.heap.size) (fun _ _ s5 _ => ts1.length + 1 - (intOf s5).toNat)
  case atStart =>
    have hin : g < w.heap.size := (H.out.lt g rfl).2
    have hg2 : w2.grownBy (w2.setCell ⟨w.heap.size, 0, none⟩ (.iface t1.k.ty (.pointer (some ⟨b1, 0, none⟩)))) (some w.heap.size) := grown_setCell 0
    obtain ⟨cur, hrow⟩ := row_block hown2
    refine ⟨1, [], t1, ts1, [], vs1, .iface t1.k.ty (.pointer (some ⟨b1, 0, none⟩)), [], bs1, b1, rfl, ?_⟩
    refine ⟨(hB2.mono hb).trans (grown_below (B := base) hg2 (Nat.le_trans hb hB2.size) (by rintro k ⟨⟩; exact hb)), ⟨.iface t1.k.ty (.pointer (some ⟨b1, 0, none⟩)) :: vs1, ?_, rfl⟩, ?_, rfl, rfl, by omega, .nil, (hc1.below hB2).grown hg2 hrow (by decide), rfl, (htk1.keep hB2).kept hg2 hrow, hnd, hlow, by omega, by omega, by simp, rfl⟩
    · refine (owns_below hB2 H.out).kept hg2 ?_
      simp [Value.ownBlock]
      omega
    · have := row_set hown2 0 (.iface t1.k.ty (.pointer (some ⟨b1, 0, none⟩))) (by omega)
      simpa using this
  case round =>
    clear hown2 hB2 hfz2 hc2 hq2 htk1 hc1 q0
    obtain ⟨k, dn, lt, rs, dv, rv, lv, db, rb, lb, rfl, hS⟩ := hrel
    obtain ⟨hok, ⟨vs, hin, hvs⟩, hout, rfl, rfl, hne, hdone, hlast, rfl, hrest, hnd2, hlow2, hnum, hpos, hcnt, hres⟩ := hS
    have HN : Hid _ := hid hnd2
    have HL : Hid _ := hid hlow2
    have HR : Hid _ := hid hres
    have HI : Hid _ := hid hin
    have HV : Hid _ := hid hvs
    clear hnd2 hlow2 hres
    cases hrest with
    | nil =>
      have hk : ¬ ((k : Int) < (ts1.length : Int) + 1) := by simp at hnum; omega
      clear hin hvs
      go_wp2_with fail
      go_ret
      refine ⟨_, rfl, hok, ?_⟩
      have e := HR.out
      simp only [simp2] at e
      rw [e]
      have h1 := glob_of_row (ts := dn ++ [lt]) (by simpa using hout) (hdone.snoc hlast) (by simp at hnum ⊢; omega)
      simpa using h1
    | @cons nb t rb rv rs hct hrest =>
      have hk : (k : Int) < (ts1.length : Int) + 1 := by simp at hnum; omega
      have hvk : vs[k]? = some (.iface t.k.ty (.pointer (some ⟨nb, 0, none⟩))) := by
        have := congrArg (·[0]?) hvs
        simpa [List.getElem?_drop] using this
      have p : ∀ d : Ext wr, d.u.cell? ⟨g, k, none⟩ = some (.iface t.k.ty (.pointer (some ⟨nb, 0, none⟩))) := fun d => d.cell (row_cell hin hvk)
      have q : ∀ d : Ext wr, d.u.cell? ⟨w.heap.size, dn.length, none⟩ = some (.iface lt.k.ty (.pointer (some ⟨lb, 0, none⟩))) := fun d => d.cell (row_cell hout (by simp [hdone.length.1]))
      have tt : TokAt wr (.iface t.k.ty (.pointer (some ⟨nb, 0, none⟩))) t := ⟨nb, rfl, hct⟩
      have tl : TokAt wr (.iface lt.k.ty (.pointer (some ⟨lb, 0, none⟩))) lt := ⟨lb, rfl, hlast⟩
      obtain ⟨d1, hd1⟩ : ∃ d1 : Ext wr, d1.u = wr := ⟨Ext.self wr, rfl⟩
      by_cases hm : t.f ≠ 0 ∧ lt.f ≠ 0 ∧ eqv t.k lt.k = true
      · obtain ⟨h1, h2, h3⟩ := hm
        have e1 : (t.f != 0) = true := by simpa using h1
        have e2 : (lt.f != 0) = true := by simpa using h2
        have hmerge : ∀ (d2 : Ext wr) (F : Int), (if t.f = 1 ∨ lt.f = 1 then 1 else 2) = F → CellsAt (d2.u.setCell ⟨lb, 1, none⟩ (.int .u64 F)) lb F lt.k →
            SAt base w (d2.u.setCell ⟨lb, 1, none⟩ (.int .u64 F)) g cap (ts1.length + 1) (simplify (t1 :: ts1)) (k + 1) (.slice (some ⟨w.heap.size, 0, none⟩) (dn.length + 1) (ts1.length + 1)) (.iface lt.k.ty (.pointer (some ⟨lb, 0, none⟩))) dn ⟨lt.k, F⟩ rs dv rv (.iface lt.k.ty (.pointer (some ⟨lb, 0, none⟩))) db rb lb w.heap.size := by
          intro d2 F hF hc3
          have hg3 : d2.u.grownBy (d2.u.setCell ⟨lb, 1, none⟩ (.int .u64 F)) (some lb) := grown_setCell 1
          have hlast2 := hlast.below d2.ok
          have hlb : base ≤ lb := HL.out lb (by simp)
          have hnd := HN.out
          rw [List.nodup_append] at hnd
          have hndr := hnd.2.1
          rw [List.nodup_cons] at hndr
          have hdb : lb ∉ db := fun h => hnd.2.2 lb h lb (by simp) rfl
          have hrb : lb ∉ rb := fun h => hndr.1 (by simp [h])
          have hrow : ∀ {g' : Nat} {c : Array Value}, d2.u.heap[g']? = some (.cells c 57 (0, 0)) → g' ≠ lb := by
            rintro g' c hg' rfl
            obtain ⟨c', e, hh, he⟩ := hlast2.cells
            rw [hh] at hg'
            cases hg'
            rcases he with h | h | h <;> cases h
          obtain ⟨cur1, hr1⟩ := row_block (owns_below d2.ok hout)
          obtain ⟨cur2, hr2⟩ := row_block (owns_below d2.ok HI.out)
          refine ⟨hok.trans ((d2.ok.mono (by have := hok.size; omega)).trans (grown_below hg3 (by have := hok.size; have := d2.size; omega) (by rintro k ⟨⟩; exact hlb))), ⟨vs, ?_, ?_⟩, ?_, rfl, rfl, hne, (hdone.keep d2.ok).apart hg3 hlast2 hdb, hc3, rfl, (hrest.keep d2.ok).apart hg3 hlast2 hrb, ?_, ?_, by simp at hnum ⊢; omega, by omega, by omega, ?_⟩
          · refine (owns_below d2.ok HI.out).kept hg3 ?_
            simp [Value.ownBlock]
            exact hrow hr2
          · rw [← List.drop_drop, hvs]
            rfl
          · refine (owns_below d2.ok hout).kept hg3 ?_
            simp [Value.ownBlock]
            exact hrow hr1
          · rw [List.nodup_append]
            refine ⟨hnd.1, ?_, fun a ha b hb => hnd.2.2 a ha b ?_⟩
            · rw [List.nodup_cons]
              refine ⟨hrb, ?_⟩
              have := hndr.2
              rw [List.nodup_cons] at this
              exact this.2
            · simp at hb ⊢
              rcases hb with h | h
              · exact .inl h
              · exact .inr (.inr h)
          · intro b hb
            refine HL.out b ?_
            simp at hb ⊢
            rcases hb with h | h | h
            · exact .inl h
            · exact .inr (.inl h)
            · exact .inr (.inr (.inr h))
          · rw [HR.out, simp2, if_pos ⟨h1, h2, h3⟩, hF]
        have HP : Hid _ := hid hmerge
        have HO : Hid _ := hid hout
        have HC : Hid _ := hid hlast
        have hc : t.f = 1 ∨ (t.f ≠ 1 ∧ lt.f = 1) ∨ (t.f ≠ 1 ∧ lt.f ≠ 1) := by
          by_cases h1 : t.f = 1
          · exact .inl h1
          · by_cases h2 : lt.f = 1
            · exact .inr (.inl ⟨h1, h2⟩)
            · exact .inr (.inr ⟨h1, h2⟩)
        clear hmerge hvs hin hout hrest hdone hvk hct hlast
        rw [← hd1]
        clear hd1 h1 h2
        rcases hc with h1 | ⟨h1, h2⟩ | ⟨h1, h2⟩
        · have e3 : (t.f == 1) = true := by simpa using h1
          go_wp2_with (first
            | (refine wpList_flag _ _ rfl rfl rfl tt ?_; intro d2)
            | (refine wpList_flag _ _ rfl rfl rfl tl ?_; intro d2)
            | (refine wpList_equal d2 _ _ rfl rfl rfl rfl tt tl h3 ?_; intro d2)
            | (refine wpList_setflag (HC.out.ext d2) _ _ rfl rfl rfl rfl ?_; intro hset))
          go_roundw
          case rel => exact ⟨k + 1, _, _, _, _, _, _, _, _, _, by go_num, HP.out d2 1 (by simp [h1]) hset⟩
          case measure => simp [intOf]; omega
        · have e3 : (t.f == 1) = false := by simpa using h1
          have e4 : (lt.f == 1) = true := by simpa using h2
          go_wp2_with (first
            | (refine wpList_flag _ _ rfl rfl rfl tt ?_; intro d2)
            | (refine wpList_flag _ _ rfl rfl rfl tl ?_; intro d2)
            | (refine wpList_equal d2 _ _ rfl rfl rfl rfl tt tl h3 ?_; intro d2)
            | (refine wpList_setflag (HC.out.ext d2) _ _ rfl rfl rfl rfl ?_; intro hset))
          go_roundw
          case rel => exact ⟨k + 1, _, _, _, _, _, _, _, _, _, by go_num, HP.out d2 1 (by simp [h1, h2]) hset⟩
          case measure => simp [intOf]; omega
        · have e3 : (t.f == 1) = false := by simpa using h1
          have e4 : (lt.f == 1) = false := by simpa using h2
          go_wp2_with (first
            | (refine wpList_flag _ _ rfl rfl rfl tt ?_; intro d2)
            | (refine wpList_flag _ _ rfl rfl rfl tl ?_; intro d2)
            | (refine wpList_equal d2 _ _ rfl rfl rfl rfl tt tl h3 ?_; intro d2)
            | (refine wpList_setflag (HC.out.ext d2) _ _ rfl rfl rfl rfl ?_; intro hset))
          go_roundw
          case rel => exact ⟨k + 1, _, _, _, _, _, _, _, _, _, by go_num, HP.out d2 2 (by simp [h1, h2]) hset⟩
          case measure => simp [intOf]; omega
      · have hpush : ∀ (d2 : Ext wr) (w3 : World), w3.ownsRow base 57 1 (.slice (some ⟨w.heap.size, 0, none⟩) (dn.length + 1 + 1) (ts1.length + 1)) (dn.length + 1 + 1) ((dv ++ [.iface lt.k.ty (.pointer (some ⟨lb, 0, none⟩))]) ++ [.iface t.k.ty (.pointer (some ⟨nb, 0, none⟩))]) →
            d2.u.grownBy w3 (some w.heap.size) → SAt base w w3 g cap (ts1.length + 1) (simplify (t1 :: ts1)) (k + 1) (.slice (some ⟨w.heap.size, 0, none⟩) (dn.length + 1 + 1) (ts1.length + 1)) (.iface t.k.ty (.pointer (some ⟨nb, 0, none⟩))) (dn ++ [lt]) t rs (dv ++ [.iface lt.k.ty (.pointer (some ⟨lb, 0, none⟩))]) rv (.iface t.k.ty (.pointer (some ⟨nb, 0, none⟩))) (db ++ [lb]) rb nb w.heap.size := by
          intro d2 w3 hown3 hg3
          obtain ⟨cur, hrow⟩ := row_block (owns_below d2.ok hout)
          refine ⟨hok.trans ((d2.ok.mono (by have := hok.size; omega)).trans (grown_below hg3 (by have := hok.size; have := d2.size; omega) (by rintro k ⟨⟩; exact hb))), ⟨vs, ?_, ?_⟩, by simpa using hown3, by simp, rfl, hne, ((hdone.snoc hlast).keep d2.ok).kept hg3 hrow, (hct.below d2.ok).grown hg3 hrow (by decide), rfl, (hrest.keep d2.ok).kept hg3 hrow, by simpa using HN.out, by simpa using HL.out, by simp at hnum; omega, by omega, by simp; omega, ?_⟩
          · refine (owns_below d2.ok HI.out).kept hg3 ?_
            simp [Value.ownBlock]
            exact Ne.symm hne
          · rw [← List.drop_drop, hvs]
            rfl
          · rw [HR.out, simp2, if_neg hm]
            simp
        have HP : Hid _ := hid hpush
        have hc : t.f = 0 ∨ (t.f ≠ 0 ∧ lt.f = 0) ∨ (t.f ≠ 0 ∧ lt.f ≠ 0 ∧ eqv t.k lt.k = false) := by
          by_cases h1 : t.f = 0
          · exact .inl h1
          · by_cases h2 : lt.f = 0
            · exact .inr (.inl ⟨h1, h2⟩)
            · refine .inr (.inr ⟨h1, h2, ?_⟩)
              simp only [not_and, Bool.not_eq_true] at hm
              exact hm h1 h2
        have HO : Hid _ := hid hout
        clear hpush hm hvs hin hout hrest hdone hvk hct hlast
        rw [← hd1]
        clear hd1
        rcases hc with h1 | ⟨h1, h2⟩ | ⟨h1, h2, h3⟩
        · have e1 : (t.f != 0) = false := by simpa using h1
          go_wp2_with (first
            | (refine wpList_flag _ _ rfl rfl rfl tt ?_; intro d2)
            | (refine wpList_flag _ _ rfl rfl rfl tl ?_; intro d2)
            | (at_builtin; refine wpList_push_spare elem61 (owns_below d2.ok HO.out) rfl (one_oneCell rfl) (by omega) rfl rfl rfl rfl ?_; intro w3 hown3 hg3))
          go_roundw
          case rel => exact ⟨k + 1, _, _, _, _, _, _, _, _, _, by go_num, HP.out d2 w3 hown3 hg3⟩
          case measure => simp [intOf]; omega
        · have e1 : (t.f != 0) = true := by simpa using h1
          have e2 : (lt.f != 0) = false := by simpa using h2
          go_wp2_with (first
            | (refine wpList_flag _ _ rfl rfl rfl tt ?_; intro d2)
            | (refine wpList_flag _ _ rfl rfl rfl tl ?_; intro d2)
            | (at_builtin; refine wpList_push_spare elem61 (owns_below d2.ok HO.out) rfl (one_oneCell rfl) (by omega) rfl rfl rfl rfl ?_; intro w3 hown3 hg3))
          go_roundw
          case rel => exact ⟨k + 1, _, _, _, _, _, _, _, _, _, by go_num, HP.out d2 w3 hown3 hg3⟩
          case measure => simp [intOf]; omega
        · have e1 : (t.f != 0) = true := by simpa using h1
          have e2 : (lt.f != 0) = true := by simpa using h2
          go_wp2_with (first
            | (refine wpList_flag _ _ rfl rfl rfl tt ?_; intro d2)
            | (refine wpList_flag _ _ rfl rfl rfl tl ?_; intro d2)
            | (refine wpList_equal d2 _ _ rfl rfl rfl rfl tt tl h3 ?_; intro d2)
            | (at_builtin; refine wpList_push_spare elem61 (owns_below d2.ok HO.out) rfl (one_oneCell rfl) (by omega) rfl rfl rfl rfl ?_; intro w3 hown3 hg3))
          go_roundw
          case rel => exact ⟨k + 1, _, _, _, _, _, _, _, _, _, by go_num, HP.out d2 w3 hown3 hg3⟩
          case measure => simp [intOf]; omega

end Go.Proofs.Ythlhfdidlfdaiaa
