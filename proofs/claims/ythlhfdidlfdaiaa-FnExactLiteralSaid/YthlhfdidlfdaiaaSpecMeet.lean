/- The contract of the specification's Meet. -/
import Derived.Test.YthlhfdidlfdaiaaPlaces
import Derived.Deep.AppendLies
import Derived.Deep.RegionLaw
namespace Go.Proofs.Ythlhfdidlfdaiaa
open Go.RowKit

attribute [local irreducible] wpList wpQuiet Calls

/-- The world in which the search begins: its row, its map. -/
theorem begin_world (W : World) : ∃ w4, (Instr.mapUpdate 52 (.map (some (W.heap.size + 1))) (.agg #[.int .i64 0, .int .i64 0, .bool false]) (.bool true)).run Try.prog ((W.alloc (.cells #[.int .i64 0, .int .i64 0, .bool false] 50)).alloc (.map #[] 0)) = .ok () w4 ∧
    Below W.heap.size W w4 ∧ SeenAt w4 (W.heap.size + 1) [⟨0, 0, false⟩] ∧ PlRow W.heap.size w4 (.slice (some ⟨W.heap.size, 0, none⟩) 1 1) [⟨0, 0, false⟩] := by
  have hs : SeenAt ((W.alloc (.cells #[.int .i64 0, .int .i64 0, .bool false] 50)).alloc (.map #[] 0)) (W.heap.size + 1) [] := ⟨#[], 0, two_new _ _ _, rfl, by simp⟩
  obtain ⟨w4, hr, hs4, hg⟩ := run_insert_seen hs ⟨0, 0, false⟩ (by simp)
  have hB2 : Below W.heap.size W ((W.alloc (.cells #[.int .i64 0, .int .i64 0, .bool false] 50)).alloc (.map #[] 0)) := two_below _ _ _
  refine ⟨w4, hr, hB2.grown hg (by simp; omega) (by rintro k ⟨⟩; omega), hs4, ?_⟩
  have ho : ((W.alloc (.cells #[.int .i64 0, .int .i64 0, .bool false] 50)).alloc (.map #[] 0)).ownsRow W.heap.size 50 3 (.slice (some ⟨W.heap.size, 0, none⟩) 1 1) 1 (Pl.cs ⟨0, 0, false⟩) :=
    ⟨rfl, .inr ⟨W.heap.size, 1, _, rfl, Nat.le_refl _, two_old _ _ _, Nat.le_refl _, by decide, rfl, rfl⟩⟩
  exact ho.kept hg (.inr (by simp [Value.ownBlock]))

/-- The append of one element at a step of a region that draws its order. -/
theorem step_push {T E : TypeId} {size bytes : Nat} {z : Value} (he : ElemOf T E size bytes z) {ops : Array Oper} {o : Oper} {a : Act} {K : Act → World → Prop} {Q : Exit → Act → World → Prop} {E' : Prop} {w : World}
    {s x : Operand} {base n : Nat} {v : Value} {xs news : List Value} (hown : w.ownsRow base E size v n xs) (hl : news.length = size) (h1 : ∀ u ∈ news, u.oneCell' = true) (hn : n < 1000000000) (hbase : base ≤ w.heap.size)
    (hgd : o.guard = none) (ho : o.op = .call { callee := .builtin .append, args := #[s, x], argTypes := #[T, T] }) (hs : a.eval s = v) (hx : a.eval x = .slice (some ⟨w.heap.size, 0, none⟩) 1 1)
    (h : ∀ g cap w', w'.ownsRow base E size (.slice (some ⟨g, 0, none⟩) (n + 1) cap) (n + 1) (xs ++ news) → w.grownBy w' v.ownBlock → K (a.put o.dst (.slice (some ⟨g, 0, none⟩) (n + 1) cap)) w') :
    if Region.wanted o (yielded ops a.tmps) = true then Oper.wp Try.prog o a (w.alloc (.cells news.toArray E)).drew K Q else E' := by
  obtain ⟨i, hi, hz0, hz1, hz2⟩ := info_parts he.info
  have hb := he.small
  refine step_append_lies _ hgd s x T ho base E i z size bytes he.und hi hz0 hz1 hz2 he.zsize he.pos v n xs hs (World.ownsRow.alloc hown _) ⟨w.heap.size, 0, none⟩ 1 1 news hx (by omega) ?_ h1 (by decide) ?_ ?_ ?_ _ rfl ?_
  · exact World.news_of_block (w := (w.alloc (.cells news.toArray E)).drew) (heap_alloc_new w _)
  · unfold maxLen; omega
  · have : (n + 1) * bytes ≤ (n + 1) * 100 := Nat.mul_le_mul_left _ hb
    omega
  · show base ≤ (w.alloc _).heap.size
    simp; omega
  · intro g cap w' hown' hg hat hlt
    refine h g cap w' hown' ⟨hg.os, hg.tape, hg.output, ?_, fun k hk hne => ?_⟩
    · have := hg.size
      have e : ((w.alloc (.cells news.toArray E)).drew).heap.size = w.heap.size + 1 := by show (w.alloc _).heap.size = _; simp
      omega
    · have e : ((w.alloc (.cells news.toArray E)).drew).heap.size = w.heap.size + 1 := by show (w.alloc _).heap.size = _; simp
      rw [hg.block k (by omega) hne]
      exact heap_alloc_old _ _ hk

theorem plrow_snoc {B : Nat} {w : World} {v : Value} {l : List Pl} {q : Pl} (h : w.ownsRow B 50 3 v (l.length + 1) (l.flatMap Pl.cs ++ q.cs)) : PlRow B w v (l ++ [q]) := by
  unfold PlRow
  rw [List.length_append, List.flatMap_append]
  simpa using h

theorem pl_form2 {B : Nat} {w : World} {v : Value} {ps : List Pl} (h : PlRow B w v ps) : ∃ al cl, v = .slice al ps.length cl := by
  rcases pl_form h with ⟨rfl, rfl⟩ | ⟨g, cap, rfl, _⟩
  · exact ⟨none, 0, rfl⟩
  · exact ⟨_, _, rfl⟩

theorem SeenAt.keep {w w' : World} {m : Nat} {ps : List Pl} (h : SeenAt w m ps) (hB : w'.heap[m]? = w.heap[m]?) : SeenAt w' m ps := by
  obtain ⟨es, clock, hb, r⟩ := h
  exact ⟨es, clock, by rw [hB, hb], r⟩
theorem SeenAt.lt {w : World} {m : Nat} {ps : List Pl} (h : SeenAt w m ps) : m < w.heap.size := by
  obtain ⟨es, clock, hb, r⟩ := h
  exact (Array.getElem?_eq_some_iff.1 hb).1

/-- How the memory lies in the inner loop: W: where the search began; the row, the map; the list of the places to come, in none of their blocks. -/
structure Lies (W wb wc wk : World) (m : Nat) (al : Option Addr) (cl : Nat) (qs r : List Pl) (g cp : Nat) : Prop where
  below : Below W.heap.size W wk
  seen : SeenAt wk m r
  row : PlRow W.heap.size wk (.slice (some ⟨g, 0, none⟩) r.length cp) r
  apart : g ≠ m
  list : PlRow wb.heap.size wk (.slice al qs.length cl) qs
  far : g < wb.heap.size ∨ wc.heap.size ≤ g
  size : wc.heap.size ≤ wk.heap.size
  mlt : m < wb.heap.size
  mge : W.heap.size ≤ m
  llt : ∀ gl, al = some ⟨gl, 0, none⟩ → gl < wc.heap.size

/-- Over a place laid into memory of its own. -/
theorem Lies.alloc {W wb wc wk : World} {m : Nat} {al : Option Addr} {cl : Nat} {qs r : List Pl} {g cp : Nat} (h : Lies W wb wc wk m al cl qs r g cp) (o : Obj) : Lies W wb wc (wk.alloc o) m al cl qs r g cp :=
  ⟨h.below.alloc h.below.size _, h.seen.keep (heap_alloc_old _ _ h.seen.lt), World.ownsRow.alloc h.row _, h.apart, World.ownsRow.alloc h.list _, h.far, base_alloc h.size _, h.mlt, h.mge, h.llt⟩

/-- Over a place put into the map and appended to the row. -/
theorem Lies.add {W wb wc wk w1 w2 : World} {m : Nat} {al : Option Addr} {cl : Nat} {qs r : List Pl} {g cp g2 cp2 : Nat} {q : Pl} (h : Lies W wb wc wk m al cl qs r g cp)
    (hg1 : wk.grownBy w1 (some m)) (hs1 : SeenAt w1 m (r ++ [q])) (hg2 : w1.grownBy w2 (Value.slice (some ⟨g, 0, none⟩) r.length cp).ownBlock) (hat : some g2 = (Value.slice (some ⟨g, 0, none⟩) r.length cp).ownBlock ∨ g2 = w1.heap.size + 1)
    (hown : w2.ownsRow W.heap.size 50 3 (.slice (some ⟨g2, 0, none⟩) (r.length + 1) cp2) (r.length + 1) (r.flatMap Pl.cs ++ q.cs)) : Lies W wb wc w2 m al cl qs (r ++ [q]) g2 cp2 := by
  have hmw := h.seen.lt
  have hz1 := hg1.size
  have hz2 := hg2.size
  have hz := h.size
  have hml := h.mlt
  have hgr := h.row.lt g rfl
  have hB1 : Below W.heap.size W w1 := h.below.grown hg1 h.below.size (by rintro k ⟨⟩; exact h.mge)
  have hB2 : Below W.heap.size W w2 := hB1.grown hg2 hB1.size (by rintro k ⟨⟩; exact hgr.1)
  refine ⟨hB2, hs1.keep (hg2.block m (by omega) ?_), ?_, ?_, ?_, ?_, by omega, h.mlt, h.mge, h.llt⟩
  · intro e
    have : m = g := by simpa [Value.ownBlock] using e
    exact h.apart this.symm
  · have := plrow_snoc hown
    rw [show r.length + 1 = (r ++ [q]).length by simp] at this
    exact this
  · rcases hat with e | e
    · have : g2 = g := by simpa [Value.ownBlock] using e
      rw [this]; exact h.apart
    · omega
  · have h1 : PlRow wb.heap.size w1 (.slice al qs.length cl) qs := World.ownsRow.kept h.list hg1 (.inr fun e => by have := (h.list.lt m e).1; omega)
    refine World.ownsRow.kept h1 hg2 (.inr fun e => ?_)
    rcases pl_form h.list with ⟨hv, _⟩ | ⟨gl, cap, hv, hge, hlt⟩
    · rw [hv] at e
      cases e
    · simp only [Value.slice.injEq] at hv
      obtain ⟨rfl, _⟩ := hv
      have hglt := h.llt gl rfl
      have : gl = g := by simpa [Value.ownBlock] using e
      subst this
      rcases h.far with hf | hf <;> omega
  · rcases hat with e | e
    · have : g2 = g := by simpa [Value.ownBlock] using e
      rw [this]; exact h.far
    · right; omega

/-- What Meet leaves. -/
def MeetPost (a b : List KSp) (w : World) (e : Ending) (w' : World) : Prop := Below w.heap.size w w' ∧ ∃ one sm : Bool, e = .returned (.tuple #[.bool one, .bool sm]) ∧ (sm = true ↔ Reach a b (endAt a b))

set_option maxRecDepth 100000 in
set_option maxHeartbeats 4000000 in
theorem specMeet_any {B1 B2 : Nat} {v1 v2 : Value} {xs ys : List KSp} {w : World} (h1 : KsRow B1 w v1 xs) (h2 : KsRow B2 w v2 ys) (hx : xs.length ≤ 10) (hy : ys.length ≤ 10) :
    Calls Try.prog 18 #[v1, v2] w (MeetPost (stepsK xs) (stepsK ys) w) := by
  have hla := stepsK_length xs
  have hlb := stepsK_length ys
  have hS1 := fun w (h : KsRow B1 w v1 xs) => steps_any h (by omega)
  have hS2 := fun w (h : KsRow B2 w v2 ys) => steps_any h (by omega)
  generalize stepsK xs = a at hla hS1
  generalize stepsK ys = b at hlb hS2
  have hB0 : Below w.heap.size w w := Below.refl _ _
  go_enter Try.func18, Try.ntmps18
  go_upto_region 2 with (go_at_call 30; first
    | (refine (hS1 _ h1).mono ?_; rintro e w2 ⟨r2, rfl, hB2, ha⟩; clear h1; replace h2 := h2.keep hB2; replace hB0 := hB0.trans (hB2.mono hB0.size))
    | (refine (hS2 _ h2).mono ?_; rintro e w3 ⟨r3, rfl, hB3, hb⟩; replace ha := ha.keep hB3; replace hB0 := hB0.trans (hB3.mono hB0.size)))
  replace hla : a.length ≤ 20 := by omega
  replace hlb : b.length ≤ 20 := by omega
  clear hS1 hS2 h2 hB2 hB3
  obtain ⟨w4, hins, hB4, hseen, hrow⟩ := begin_world w3
  obtain ⟨sa, ca, rfl⟩ := ha.form2
  obtain ⟨sb, cb, rfl⟩ := hb.form2
  have hmm := @run_makeMap Try.prog
  have HB0 : Hid _ := hid hB0
  have HB4 : Hid _ := hid hB4
  have HA : Hid _ := hid ha
  have HB : Hid _ := hid hb
  have HSe : Hid _ := hid hseen
  have HR : Hid _ := hid hrow
  clear hB0 hB4 ha hb hseen hrow
  go_upto_region 5 with fail
  clear hins hmm
  go_wp2_with fail
  go_loopw [8, 10, 11, 12] (fun s8 s10 s11 s12 wr => ∃ (row : List Pl) (n g cp : Nat) (one sm : Bool), s8 = .slice (some ⟨g, 0, none⟩) row.length cp ∧ s10 = .bool one ∧ s11 = .bool sm ∧ s12 = .int .i64 (n : Int) ∧ Inv a b row n sm ∧ Below w3.heap.size w3 wr ∧ SeenAt wr (w3.heap.size + 1) row ∧ PlRow w3.heap.size wr s8 row ∧ g ≠ w3.heap.size + 1) (fun _ _ _ s12 _ => 900 - (intOf s12).toNat)
  case atStart => exact ⟨_, 0, w3.heap.size, 1, false, false, rfl, rfl, rfl, rfl, Inv.init a b, HB4.out, HSe.out, HR.out, by omega⟩
  case round =>
    clear HB4 HSe HR w4
    obtain ⟨row, n, g, cp, one, sm, rfl, rfl, rfl, rfl, hinv, hB, hseen, hrow, hgm⟩ := hrel
    have hsmall := hinv.small hla hlb
    have HI : Hid _ := hid hinv
    have HW : Hid _ := hid hB
    have HS : Hid _ := hid hseen
    have HR : Hid _ := hid hrow
    have HG : Hid _ := hid hgm
    clear hB hseen hgm
    by_cases hlt : n < row.length
    · obtain ⟨p, hp⟩ : ∃ p, row[n]? = some p := ⟨_, List.getElem?_eq_getElem hlt⟩
      have HP : Hid _ := hid hp
      have HL : Hid _ := hid (reach_le (hinv.reach p (List.mem_of_getElem? hp)))
      obtain ⟨c0, c1, c2⟩ := pl_cells hrow hp
      have hlt' : (n : Int) < (row.length : Int) := by omega
      clear hinv hp hrow
      obtain ⟨i, k, s⟩ := p
      simp only at c0 c1 c2
      obtain ⟨wb, hwb⟩ : ∃ wb, wb = wr.alloc (.cells #[.int .i64 (i : Int), .int .i64 (k : Int), .bool s] 50) := ⟨_, rfl⟩
      have hBb : Below wr.heap.size wr wb := by rw [hwb]; exact (Below.refl _ _).alloc (Nat.le_refl _) _
      have hbox : wb.heap[wr.heap.size]? = some (.cells #[.int .i64 (i : Int), .int .i64 (k : Int), .bool s] 50 (0, 0)) := by rw [hwb]; exact heap_alloc_new _ _
      have p0 : ∀ d : Ext wb, d.u.cell? ⟨wr.heap.size, 0, none⟩ = some (.int .i64 (i : Int)) := fun d => d.cell (by rw [cell_of_block hbox]; rfl)
      have p1 : ∀ d : Ext wb, d.u.cell? ⟨wr.heap.size, 1, none⟩ = some (.int .i64 (k : Int)) := fun d => d.cell (by rw [cell_of_block hbox]; rfl)
      have p2 : ∀ d : Ext wb, d.u.cell? ⟨wr.heap.size, 2, none⟩ = some (.bool s) := fun d => d.cell (by rw [cell_of_block hbox]; rfl)
      have HBb : Hid _ := hid hBb
      have HWb : Hid _ := hid hwb
      clear hwb hbox hBb
      go_upto_region 9 with fail
      rw [← HWb.out]
      obtain ⟨d1, hd1⟩ : ∃ d1 : Ext wb, d1.u = wb := ⟨Ext.self wb, rfl⟩
      rw [← hd1]
      clear hd1 c0 c1 c2
      go_cut [49] from 28 to 115 (fun s49 wx => s49 = .bool (isEnd a b ⟨i, k, s⟩) ∧ ∃ d : Ext wb, wx = d.u)
      case first =>
        by_cases e1 : i = a.length
        · have f1 : ((i : Int) == (a.length : Int)) = true := by simp [e1]
          have g1 : isEnd a b ⟨i, k, s⟩ = (((k : Int) == (b.length : Int))) := by
            by_cases e2 : k = b.length
            · have f2 : ((k : Int) == (b.length : Int)) = true := by simp [e2]
              simp [isEnd, e1, e2]
            · have f2 : ((k : Int) == (b.length : Int)) = false := by simpa using (fun h : (k : Int) = (b.length : Int) => e2 (by omega))
              rw [f2]
              simp [isEnd, e2]
          have HG1 : Hid _ := hid g1
          clear g1 e1
          go_wp2_with fail
          go_meet
          case rel => exact ⟨by rw [HG1.out], d1, rfl⟩
        · have f1 : ((i : Int) == (a.length : Int)) = false := by simpa using (fun h : (i : Int) = (a.length : Int) => e1 (by omega))
          have g1 : isEnd a b ⟨i, k, s⟩ = false := by simp [isEnd, e1]
          have HG1 : Hid _ := hid g1
          clear g1
          go_wp2_with fail
          go_meet
          case rel => exact ⟨by rw [HG1.out], d1, rfl⟩
      case rest =>
        obtain ⟨rfl, d2, rfl⟩ := hcut
        clear d1
        generalize hE : isEnd a b ⟨i, k, s⟩ = E
        have HE : Hid _ := hid hE
        clear hE
        go_upto_if 49 with fail
        go_cut [10, 11] from 28 to 115 (fun s10 s11 wx => (∃ o : Bool, s10 = .bool o) ∧ s11 = .bool (if E then sm || s else sm) ∧ ∃ d : Ext wb, wx = d.u)
        case first =>
          cases E
          · go_wp2_with fail
            go_meet
            case rel => exact ⟨⟨one, rfl⟩, rfl, d2, rfl⟩
          · cases sm
            · go_wp2_with fail
              go_meet
              case rel => exact ⟨⟨true, rfl⟩, rfl, d2, rfl⟩
            · go_wp2_with fail
              go_meet
              case rel => exact ⟨⟨true, rfl⟩, rfl, d2, rfl⟩
        case rest =>
          obtain ⟨⟨one2, rfl⟩, rfl, d3, rfl⟩ := hcut
          clear d2
          obtain ⟨sm2, hsm2⟩ : ∃ sm2, (if E then sm || s else sm) = sm2 := ⟨_, rfl⟩
          rw [hsm2]
          have HSM : Hid _ := hid hsm2
          clear hsm2
          have hB3 : Below w3.heap.size w3 d3.u := HW.out.trans ((HBb.out.trans (d3.ok.mono HBb.out.size)).mono HW.out.size)
          have ha3 := HA.out.keep hB3
          have hb3 := HB.out.keep hB3
          have hik : i ≤ 1000 ∧ k ≤ 1000 := by have := HL.out; simp only at this; omega
          have hsk := skips_any ha3 hb3 ⟨i, k, s⟩ hik.1 hik.2
          simp only [Pl.val] at hsk
          have HA3 : Hid _ := hid ha3
          have HB3 : Hid _ := hid hb3
          clear ha3 hb3 hik hB3
          go_upto_region 13 with (go_at_call 31; refine hsk.mono ?_; rintro e w5 ⟨r5, rfl, hB5, hlist⟩)
          obtain ⟨d5, rfl⟩ : ∃ d5 : Ext wb, d5.u = w5 := ⟨⟨w5, d3.ok.trans (hB5.mono d3.size)⟩, rfl⟩
          replace hlist : PlRow wb.heap.size d5.u r5 (skipsK a b ⟨i, k, s⟩) := World.ownsRow.mono hlist d3.size
          have ha5 := HA3.out.keep hB5
          have hb5 := HB3.out.keep hB5
          have HLi : Hid _ := hid hlist
          clear hsk HA3 HB3 hB5 hlist
          have p0' : ∀ d : Ext d5.u, d.u.cell? ⟨wr.heap.size, 0, none⟩ = some (.int .i64 (i : Int)) := fun d => p0 (d5.on d.ok)
          have p1' : ∀ d : Ext d5.u, d.u.cell? ⟨wr.heap.size, 1, none⟩ = some (.int .i64 (k : Int)) := fun d => p1 (d5.on d.ok)
          obtain ⟨d6, hd6⟩ : ∃ d6 : Ext d5.u, d6.u = d5.u := ⟨Ext.self d5.u, rfl⟩
          rw [← hd6]
          clear hd6
          go_cut [86] from 28 to 115 (fun s86 wx => s86 = .bool (bothAt a b ⟨i, k, s⟩) ∧ ∃ d : Ext d5.u, wx = d.u)
          case first =>
            clear HLi HSM HE HWb HBb HB0 HA HB HI HW HS HR HG HP HL p0 p1 p2 hsmall hlt hlt'
            by_cases hia : i < a.length
            · by_cases hkb : k < b.length
              · obtain ⟨x, hx⟩ : ∃ x, a[i]? = some x := ⟨_, List.getElem?_eq_getElem hia⟩
                obtain ⟨y, hy⟩ : ∃ y, b[k]? = some y := ⟨_, List.getElem?_eq_getElem hkb⟩
                rcases ha5.form with ⟨_, rfl⟩ | ⟨g1, c1, hv1, _⟩
                · simp at hia
                rcases hb5.form with ⟨_, rfl⟩ | ⟨g2, c2, hv2, _⟩
                · simp at hkb
                simp only [Value.slice.injEq, true_and] at hv1 hv2
                obtain ⟨rfl, rfl⟩ := hv1
                obtain ⟨rfl, rfl⟩ := hv2
                obtain ⟨_, a1, _⟩ := ks_cells ha5 rfl hx
                obtain ⟨_, b1, _⟩ := ks_cells hb5 rfl hy
                have q1 : ∀ d : Ext d5.u, d.u.cell? ⟨g1, i * 3 + 1, none⟩ = some (.int .i64 (kd x.k).2) := fun d => d.cell a1
                have q2 : ∀ d : Ext d5.u, d.u.cell? ⟨g2, k * 3 + 1, none⟩ = some (.int .i64 (kd y.k).2) := fun d => d.cell b1
                have hm := bits_mt x.k y.k
                have hbo : bothAt a b ⟨i, k, s⟩ = mt (kt x.k) (kt y.k) := by simp only [bothAt, hx, hy]
                have HBo : Hid _ := hid hbo
                have hia' : (i : Int) < (a.length : Int) := by omega
                have hkb' : (k : Int) < (b.length : Int) := by omega
                have f1 : decide ((i : Int) < (a.length : Int)) = true := by simpa using hia
                have f2 : decide ((k : Int) < (b.length : Int)) = true := by simpa using hkb
                clear hx hy hbo a1 b1 ha5 hb5
                cases hmm : mt (kt x.k) (kt y.k) with
                | false =>
                  rw [hmm] at hm HBo
                  simp only [Bool.not_false] at hm
                  go_wp2_with (refine wp_region_ext d6 rfl (by kernel_rfl) ?_; (repeat (go_big_quiet_step (fail))); refine wpQuiet_nil ?_; intro d7)
                  go_meet
                  case rel => exact ⟨by rw [HBo.out]; simp [bne, hm], d7, rfl⟩
                | true =>
                  rw [hmm] at hm HBo
                  simp only [Bool.not_true] at hm
                  go_wp2_with (refine wp_region_ext d6 rfl (by kernel_rfl) ?_; (repeat (go_big_quiet_step (fail))); refine wpQuiet_nil ?_; intro d7)
                  go_meet
                  case rel => exact ⟨by rw [HBo.out]; simp [bne, hm], d7, rfl⟩
              · have hkn : b[k]? = none := List.getElem?_eq_none_iff.2 (by omega)
                have hbo : bothAt a b ⟨i, k, s⟩ = false := by
                  unfold bothAt
                  simp only
                  rw [hkn]
                  cases a[i]? <;> rfl
                have HBo : Hid _ := hid hbo
                have f1 : decide ((i : Int) < (a.length : Int)) = true := by simpa using hia
                have f2 : decide ((k : Int) < (b.length : Int)) = false := by simpa using hkb
                clear hbo hkn
                go_wp2_with (refine wp_region_ext d6 rfl (by kernel_rfl) ?_; (repeat (go_big_quiet_step (fail))); refine wpQuiet_nil ?_; intro d7)
                go_meet
                case rel => exact ⟨by rw [HBo.out], d7, rfl⟩
            · have hin : a[i]? = none := List.getElem?_eq_none_iff.2 (by omega)
              have hbo : bothAt a b ⟨i, k, s⟩ = false := by simp only [bothAt, hin]
              have HBo : Hid _ := hid hbo
              have f1 : decide ((i : Int) < (a.length : Int)) = false := by simpa using hia
              clear hbo hin
              go_wp2_with (refine wp_region_ext d6 rfl (by kernel_rfl) ?_; (repeat (go_big_quiet_step (fail))); refine wpQuiet_nil ?_; intro d7)
              go_meet
              case rel => exact ⟨by rw [HBo.out], d7, rfl⟩
          case rest =>
            obtain ⟨rfl, d7, rfl⟩ := hcut
            clear d6
            generalize hBO : bothAt a b ⟨i, k, s⟩ = BO
            have HBO : Hid _ := hid hBO
            clear hBO
            go_upto_if 86 with fail
            go_cut [14] from 28 to 115 (fun s14 wx => PlRow wb.heap.size wx s14 (moves a b ⟨i, k, s⟩) ∧ Below wb.heap.size wb wx)
            case first =>
              cases BO
              · go_wp2_with fail
                go_meet
                case rel =>
                  refine ⟨?_, d5.ok.trans (d7.ok.mono d5.size)⟩
                  have e : moves a b ⟨i, k, s⟩ = skipsK a b ⟨i, k, s⟩ := by unfold moves; rw [HBO.out]; simp
                  rw [e]
                  exact HLi.out.keep d7.ok
              · obtain ⟨x, y, hx, hy, _⟩ := both_some HBO.out
                simp only at hx hy
                rcases ha5.form with ⟨_, rfl⟩ | ⟨g1, c1, hv1, _⟩
                · simp at hx
                rcases hb5.form with ⟨_, rfl⟩ | ⟨g2, c2, hv2, _⟩
                · simp at hy
                simp only [Value.slice.injEq, true_and] at hv1 hv2
                obtain ⟨rfl, rfl⟩ := hv1
                obtain ⟨rfl, rfl⟩ := hv2
                have hN1 := next_any (w := d7.u.drew) (ha5.keep d7.ok.drew) rfl (by omega) hx
                have hN2 := next_any (w := d7.u.drew) (hb5.keep d7.ok.drew) rfl (by omega) hy
                have q0 := p0' d7
                have q1 := p1' d7
                have e : moves a b ⟨i, k, s⟩ = skipsK a b ⟨i, k, s⟩ ++ [⟨nextK x i, nextK y k, true⟩] := by unfold moves; rw [HBO.out]; simp [nextAt, hx, hy]
                have HE2 : Hid _ := hid e
                have hlist := HLi.out.keep d7.ok
                have hln : (skipsK a b ⟨i, k, s⟩).length < 1000000000 := by have := skips_len a b ⟨i, k, s⟩; omega
                have hsz7 : wb.heap.size ≤ d7.u.heap.size := Nat.le_trans d5.size d7.size
                clear e hx hy
                go_upto_region 14 with fail
                go_region_law (first
                  | (refine step_push elem51 hlist rfl (pl_oneCell ⟨nextK x i, nextK y k, true⟩) hln hsz7 rfl rfl rfl rfl ?_; intro g9 cp9 w9 hown9 hg9)
                  | (go_simp; go_at_call 32; first
                      | (refine hN1.mono ?_; rintro e w9 ⟨rfl, rfl⟩)
                      | (refine hN2.mono ?_; rintro e w9 ⟨rfl, rfl⟩)))
                all_goals
                  go_wp2_with fail
                  go_meet
                  case rel =>
                    refine ⟨?_, (d5.ok.trans (d7.ok.mono d5.size)).grown hg9 hsz7 (fun kk h => (hlist.lt kk h).1)⟩
                    rw [HE2.out]
                    exact plrow_snoc hown9
            case rest =>
              obtain ⟨hlist, hBc⟩ := hcut
              clear p0' p1' HLi ha5 hb5 HBO d7 d5 p0 p1 p2 r5 d3
              obtain ⟨al, cl, rfl⟩ := pl_form2 hlist
              have hgw := HR.out.lt g rfl
              have hmw := HS.out.lt
              have hszb := HBb.out.size
              have hBr : Below wr.heap.size wr wc := HBb.out.trans (hBc.mono hszb)
              have hL : Lies w3 wb wc wc (w3.heap.size + 1) al cl (moves a b ⟨i, k, s⟩) row g cp :=
                ⟨HW.out.trans (hBr.mono HW.out.size), HS.out.keep (hBr.block _ hmw), HR.out.keep hBr, HG.out, hlist, .inl (by omega), Nat.le_refl _, by omega, by omega, by
                  rintro gl rfl
                  exact (hlist.lt gl rfl).2⟩
              have hstep := HI.out.step HP.out
              rw [HE.out] at hstep
              simp only at hstep
              rw [HSM.out] at hstep
              have hql := moves_len a b ⟨i, k, s⟩
              generalize moves a b ⟨i, k, s⟩ = qs at hL hstep hql hlist
              have HStep : Hid _ := hid hstep
              have HLi : Hid _ := hid hL
              have hql' : (qs.length : Int) ≤ 3 := by omega
              clear hstep hL hlist hBc hBr HE HSM HP HI HW HS HR HG HL HWb HBb hlt' hgw hmw hszb
              go_wp2_with fail
              go_loopw [8, 101] (fun s8 s101 wk => ∃ (r : List Pl) (j g2 cp2 : Nat), s101 = .int .i64 (j : Int) ∧ j ≤ qs.length ∧ s8 = .slice (some ⟨g2, 0, none⟩) r.length cp2 ∧ r = addAll row (qs.take j) ∧ Lies w3 wb wc wk (w3.heap.size + 1) al cl qs r g2 cp2) (fun _ s101 _ => 10 - (intOf s101).toNat)
              case atStart => exact ⟨row, 0, g, cp, rfl, by omega, rfl, by simp [addAll], HLi.out⟩
              case round =>
                clear HLi
                obtain ⟨r, j, g2, cp2, rfl, hj, rfl, hr, hL⟩ := hrel
                have HRr : Hid _ := hid hr
                have HL2 : Hid _ := hid hL
                clear hr hL
                have hrl : r.length ≤ 900 := by
                  rw [HRr.out]
                  have := addAll_len row (qs.take j)
                  rw [List.length_take] at this
                  omega
                by_cases hjl : j < qs.length
                · obtain ⟨q, hq⟩ : ∃ q, qs[j]? = some q := ⟨_, List.getElem?_eq_getElem hjl⟩
                  have htk := addAll_take row qs j q hq
                  rw [← HRr.out] at htk
                  have HT : Hid _ := hid htk
                  have hl1 := HL2.out.list
                  rcases pl_form hl1 with ⟨_, rfl⟩ | ⟨gl, cap, hv, _, _⟩
                  · simp at hjl
                  simp only [Value.slice.injEq, true_and] at hv
                  obtain ⟨rfl, rfl⟩ := hv
                  obtain ⟨c0, c1, c2⟩ := pl_cells hl1 hq
                  have hjl' : (j : Int) < (qs.length : Int) := by omega
                  have hlook := run_lookup_seen (HL2.out.alloc (.cells #[.int .i64 (q.i : Int), .int .i64 (q.k : Int), .bool q.s] 50)).seen q
                  simp only [Pl.val] at hlook
                  clear hl1 hq htk HRr
                  by_cases hin : q ∈ r
                  · have hd : decide (q ∈ r) = true := by simpa using hin
                    rw [hd] at hlook
                    rw [if_pos hin] at HT
                    clear hd hin
                    go_wp2_with fail
                    go_roundw
                    case rel => exact ⟨r, j + 1, g2, cp2, by go_num, by omega, rfl, HT.out.symm, HL2.out.alloc _⟩
                    case measure => simp [intOf]; omega
                  · have hd : decide (q ∈ r) = false := by simpa using hin
                    rw [hd] at hlook
                    rw [if_neg hin] at HT
                    obtain ⟨w1, hins, hs1, hg1⟩ := run_insert_seen (HL2.out.alloc (.cells #[.int .i64 (q.i : Int), .int .i64 (q.k : Int), .bool q.s] 50)).seen q hin
                    have hbx : w1.heap[wr.heap.size]? = some (.cells #[.int .i64 (q.i : Int), .int .i64 (q.k : Int), .bool q.s] 50 (0, 0)) := by
                      rw [hg1.block _ (by simp) (by have := HL2.out.mlt; have := HL2.out.seen.lt; intro e; have := Option.some.inj e; omega)]
                      exact heap_alloc_new _ _
                    have e0 : w1.cell? ⟨wr.heap.size, 0, none⟩ = some (.int .i64 (q.i : Int)) := by rw [cell_of_block hbx]; rfl
                    have e1 : w1.cell? ⟨wr.heap.size, 1, none⟩ = some (.int .i64 (q.k : Int)) := by rw [cell_of_block hbx]; rfl
                    have e2 : w1.cell? ⟨wr.heap.size, 2, none⟩ = some (.bool q.s) := by rw [cell_of_block hbx]; rfl
                    simp only [Pl.val] at hins
                    have hrow1 : PlRow w3.heap.size w1 (.slice (some ⟨g2, 0, none⟩) r.length cp2) r := World.ownsRow.kept (HL2.out.alloc _).row hg1 (.inr (by simpa [Value.ownBlock] using HL2.out.apart))
                    have hsz1 : w3.heap.size ≤ w1.heap.size := Nat.le_trans (HL2.out.alloc (.cells #[.int .i64 (q.i : Int), .int .i64 (q.k : Int), .bool q.s] 50)).below.size hg1.size
                    have hrl' : r.length < 1000000000 := by omega
                    have HR1 : Hid _ := hid hrow1
                    have HS1 : Hid _ := hid hs1
                    have HG1 : Hid _ := hid hg1
                    clear hd hin hbx hrow1 hs1 hg1
                    go_wp2_with (at_builtin; refine wpList_push_at elem51 HR1.out rfl (pl_oneCell q) hrl' hsz1 rfl rfl rfl rfl ?_; intro g9 cp9 w9 hown9 hg9 hat9)
                    go_roundw
                    case rel => exact ⟨r ++ [q], j + 1, g9, cp9, by go_num, by omega, by simp, HT.out.symm, (HL2.out.alloc _).add HG1.out HS1.out hg9 hat9 hown9⟩
                    case measure => simp [intOf]; omega
                · obtain rfl : j = qs.length := by omega
                  rw [List.take_length] at HRr
                  have hfin : Inv a b r (n + 1) sm2 := by rw [HRr.out]; exact HStep.out
                  have HFin : Hid _ := hid hfin
                  have hlt' : ¬ ((qs.length : Int) < (qs.length : Int)) := by omega
                  clear hfin
                  go_wp2_with fail
                  go_roundw
                  case rel => exact ⟨r, n + 1, g2, cp2, one2, sm2, rfl, rfl, rfl, by go_num, HFin.out, HL2.out.below, HL2.out.seen, HL2.out.row, HL2.out.apart⟩
                  case measure => simp [intOf]; omega
    · have hlt' : ¬ (n : Int) < (row.length : Int) := by omega
      obtain rfl : n = row.length := by have := hinv.le; omega
      clear hinv hrow
      go_wp2_with fail
      go_ret2
      exact ⟨HB0.out.trans (HW.out.mono HB0.out.size), one, sm, rfl, HI.out.done⟩

end Go.Proofs.Ythlhfdidlfdaiaa
