/-
  The clock in memory; rose (39), tick (28).
-/
import Derived.Test.YbulkcrtgFmtDsAp
import Derived.Maps.OwnSet
namespace Go.Proofs.YbulkcrtgFmt
open Go Go.RowKit

def u64Cells (l : List Nat) : List Value := l.map fun (x : Nat) => Value.int .u64 x
def sentD (sx sy : Option Nat) : DataW Unit := .map ((match sx with | some c => [(.string [120], .lit (.int .u64 c))] | none => []) ++ (match sy with | some c => [(.string [121], .lit (.int .u64 c))] | none => []))
/-- What was sent last to x and to y. -/
def SentAt (H : Nat) (w : World) (mv : Value) (sx sy : Option Nat) : Prop :=
  (mv = .map none ∧ sx = none ∧ sy = none) ∨ ∃ b, mv = .map (some b) ∧ H ≤ b ∧ w.ownsMap Ybaf.prog 9 (plainElem Ybaf.prog 34) b 2 (sentD sx sy)

/-- The seven cells of a VectorClock, and the rows behind them. -/
structure Clk (H cb p : Nat) (es : List (Nat × Nat)) (rs : Option (List Nat)) (sx sy : Option Nat) (st : Int) (ev rv mv dv : Value) (nd : Nat) (xd : List Value) (W : World) : Prop where
  box : W.heap[cb]? = some (.cells #[.string (nm p), .int .i32 st, .int .u32 0, ev, rv, mv, dv] 71 (0, 0))
  cge : H ≤ cb
  ent : W.ownsRow H 39 2 ev es.length (entCells es)
  rai : match rs with | none => rv = .slice none 0 0 | some l => W.ownsRow H 34 1 rv l.length (u64Cells l) ∧ rv ≠ .slice none 0 0 ∧ l.length = es.length
  snt : SentAt H W mv sx sy
  dif : W.ownsRow H 39 2 dv nd xd
  one : ∀ u ∈ xd, u.oneCell' = true
  apt : ∀ k, ev.ownBlock = some k → dv.ownBlock ≠ some k
/-- What an operation of the clock may turn. -/
def Ft (cb : Nat) (ev rv mv dv : Value) (k : Nat) : Prop := k = cb ∨ some k = ev.ownBlock ∨ some k = rv.ownBlock ∨ some k = dv.ownBlock ∨ mv = .map (some k)

theorem clk_cells {W : World} {cb : Nat} {a b c ev rv mv dv : Value} (h : W.heap[cb]? = some (.cells #[a, b, c, ev, rv, mv, dv] 71 (0, 0))) :
    W.cell? ⟨cb, 0, none⟩ = some a ∧ W.cell? ⟨cb, 1, none⟩ = some b ∧ W.cell? ⟨cb, 3, none⟩ = some ev ∧ W.cell? ⟨cb, 4, none⟩ = some rv ∧ W.cell? ⟨cb, 5, none⟩ = some mv ∧ W.cell? ⟨cb, 6, none⟩ = some dv ∧ ∀ o, W.frozen? ⟨cb, o, none⟩ = false := by
  refine ⟨?_, ?_, ?_, ?_, ?_, ?_, fun o => frozen_of_row _ _ _ _ _ h⟩ <;> (rw [cell_of_row _ _ _ _ _ _ h]; rfl)

set_option maxRecDepth 100000 in
theorem rose_nil (cb k : Nat) (at' : Int) (w : World) (h : w.cell? ⟨cb, 4, none⟩ = some (.slice none 0 0)) :
    Calls Ybaf.prog 39 #[.pointer (some ⟨cb, 3, none⟩), .int .i64 k, .int .u64 at'] w fun e w' => (∃ v, e = .returned v) ∧ w' = w := by
  go_enter Ybaf.func39, Ybaf.ntmps39
  go_wp2
  exact ⟨rfl, _, results_none rfl _ _ _, ⟨_, rfl⟩, rfl⟩
set_option maxRecDepth 100000 in
theorem rose_some (cb k g n c : Nat) (at' : Int) (w : World) (h : w.cell? ⟨cb, 4, none⟩ = some (.slice (some ⟨g, 0, none⟩) n c)) (hk : k < n) {u : Value} (hc : w.cell? ⟨g, k, none⟩ = some u) (hf : w.frozen? ⟨g, k, none⟩ = false) :
    Calls Ybaf.prog 39 #[.pointer (some ⟨cb, 3, none⟩), .int .i64 k, .int .u64 at'] w fun e w' => (∃ v, e = .returned v) ∧ w' = w.setCell ⟨g, k, none⟩ (.int .u64 at') := by
  have i1 : (0 : Int) ≤ (k : Int) := by omega
  have i2 : (k : Int) < (n : Int) := by omega
  go_enter Ybaf.func39, Ybaf.ntmps39
  go_wp2
  exact ⟨rfl, _, results_none rfl _ _ _, ⟨_, rfl⟩, rfl⟩
/-- p's entry stands at k already, or is laid there. -/
def ins0 (es : List (Nat × Nat)) (p k : Nat) : List (Nat × Nat) := if isAt es p k = true then es else es.take k ++ [(p, 0)] ++ es.drop k
def bump (es : List (Nat × Nat)) (p k : Nat) : List (Nat × Nat) := (ins0 es p k).set k (p, cntAt es p k + 1)
theorem entCells_append (a b : List (Nat × Nat)) : entCells (a ++ b) = entCells a ++ entCells b := by simp [entCells]
theorem entCells_take : ∀ (es : List (Nat × Nat)) (k : Nat), entCells (es.take k) = (entCells es).take (k * 2)
  | [], k => by simp [entCells]
  | e :: es, 0 => by simp [entCells]
  | e :: es, k + 1 => by
    rw [List.take_succ_cons, show (k + 1) * 2 = k * 2 + 1 + 1 by omega]
    have := entCells_take es k
    simp only [entCells, List.flatMap_cons] at this ⊢
    simp [this]
theorem entCells_drop : ∀ (es : List (Nat × Nat)) (k : Nat), entCells (es.drop k) = (entCells es).drop (k * 2)
  | [], k => by simp [entCells]
  | e :: es, 0 => by simp
  | e :: es, k + 1 => by
    rw [List.drop_succ_cons, show (k + 1) * 2 = k * 2 + 1 + 1 by omega]
    have := entCells_drop es k
    simp only [entCells, List.flatMap_cons] at this ⊢
    simp [this]
theorem entCells_set : ∀ (es : List (Nat × Nat)) (k c d : Nat) {p : Nat}, es[k]? = some (p, c) → (entCells es).set (k * 2 + 1) (.int .u64 (d : Nat)) = entCells (es.set k (p, d))
  | [], k, c, d, p, h => by simp at h
  | e :: es, 0, c, d, p, h => by simp at h; subst h; simp [entCells]
  | e :: es, k + 1, c, d, p, h => by
    have := entCells_set es k c d (by simpa using h)
    rw [show (k + 1) * 2 + 1 = k * 2 + 1 + 1 + 1 by omega]
    simp only [entCells, List.flatMap_cons, List.set_cons_succ] at this ⊢
    simp [this]
theorem SentAt.map {H : Nat} {w : World} {mv : Value} {sx sy : Option Nat} (h : SentAt H w mv sx sy) {b : Nat} (e : mv = .map (some b)) : ∃ b', b' = b ∧ H ≤ b ∧ ∃ es cl, w.heap[b]? = some (.map es cl) ∧ w.ownsMap Ybaf.prog 9 (plainElem Ybaf.prog 34) b 2 (sentD sx sy) := by
  rcases h with ⟨h, _⟩ | ⟨b', h, hb, hm⟩
  · rw [h] at e; cases e
  · rw [h] at e
    cases e
    obtain ⟨es, cl, h1, h2⟩ := hm
    exact ⟨b, rfl, hb, es, cl, h1, es, cl, h1, h2⟩
theorem SentAt.block {H : Nat} {w w' : World} {mv : Value} {sx sy : Option Nat} (h : SentAt H w mv sx sy) (hb : ∀ b, mv = .map (some b) → w'.heap[b]? = w.heap[b]?) : SentAt H w' mv sx sy := by
  rcases h with h | ⟨b, h, hge, es, cl, h1, h2⟩
  · exact .inl h
  · exact .inr ⟨b, h, hge, es, cl, (hb b h).trans h1, h2⟩
theorem SentAt.grown {H : Nat} {w w' : World} {mv : Value} {sx sy : Option Nat} {row : Option Nat} (h : SentAt H w mv sx sy) (hg : w.grownBy w' row) (hne : ∀ b, mv = .map (some b) → row ≠ some b) : SentAt H w' mv sx sy :=
  h.block (fun b e => by
    obtain ⟨_, _, _, es, cl, h1, _⟩ := h.map e
    exact hg.block b (lt_of_block h1) (fun e2 => hne b e e2.symm))

theorem u64_set (l : List Nat) (k c : Nat) : (u64Cells l).set k (.int .u64 (c : Nat)) = u64Cells (l.set k c) := by simp [u64Cells, List.map_set]
/-- The own count up by one, and its mark: the memory's side. -/
theorem tick_mem {H cb p g4 c4 k c : Nat} {es1 : List (Nat × Nat)} {rs : Option (List Nat)} {sx sy : Option Nat} {st : Int} {ev rv mv dv : Value} {nd : Nat} {xd : List Value} {W W4 : World}
    (hk : Clk H cb p es1 rs sx sy st (.slice (some ⟨g4, 0, none⟩) es1.length c4) rv mv dv nd xd W4) (hek : es1[k]? = some (p, c)) (hWs : W.heap.size ≤ W4.heap.size)
    (kp : KeptB W.heap.size (Ft cb ev rv mv dv) W W4) (lies : ev.ownBlock = some g4 ∨ W.heap.size ≤ g4) :
    W4.cell? ⟨g4, k * 2 + 1, none⟩ = some (.int .u64 c) ∧ W4.frozen? ⟨g4, k * 2 + 1, none⟩ = false ∧
    (∀ W5, W5 = W4.setCell ⟨g4, k * 2 + 1, none⟩ (.int .u64 ((c + 1 : Nat) : Int)) → W5.cell? ⟨cb, 3, none⟩ = some (.slice (some ⟨g4, 0, none⟩) es1.length c4) ∧ W5.cell? ⟨cb, 4, none⟩ = some rv ∧ W5.cell? ⟨g4, k * 2 + 1, none⟩ = some (.int .u64 ((c + 1 : Nat) : Int)) ∧
      (rs = none → rv = .slice none 0 0 ∧ Clk H cb p (es1.set k (p, c + 1)) none sx sy st (.slice (some ⟨g4, 0, none⟩) es1.length c4) rv mv dv nd xd W5 ∧ KeptB W.heap.size (Ft cb ev rv mv dv) W W5) ∧
      (∀ l, rs = some l → ∃ gr cr u, rv = .slice (some ⟨gr, 0, none⟩) l.length cr ∧ k < l.length ∧ W5.cell? ⟨gr, k, none⟩ = some u ∧ W5.frozen? ⟨gr, k, none⟩ = false ∧ ∀ W6, W6 = W5.setCell ⟨gr, k, none⟩ (.int .u64 ((c + 1 : Nat) : Int)) →
        Clk H cb p (es1.set k (p, c + 1)) (some (l.set k (c + 1))) sx sy st (.slice (some ⟨g4, 0, none⟩) es1.length c4) rv mv dv nd xd W6 ∧ KeptB W.heap.size (Ft cb ev rv mv dv) W W6)) := by
  have hkl := (List.getElem?_eq_some_iff.1 hek).1
  have hc1 : W4.cell? ⟨g4, k * 2 + 1, none⟩ = some (.int .u64 c) := (hk.ent.cellAt (k * 2 + 1) (by omega)).trans (entCells_get es1 k _ hek).2
  have hrow : ∃ cur, W4.heap[g4]? = some (.cells cur 39 (0, 0)) := by
    rcases hk.ent.2 with ⟨h, _⟩ | ⟨g', cap', cur, h, _, hg, _⟩
    · cases h
    · simp only [Value.slice.injEq, Option.some.injEq, Addr.mk.injEq, and_true, true_and] at h
      exact ⟨cur, by rw [h.1]; exact hg⟩
  obtain ⟨cur4, hg4⟩ := hrow
  have ngc : cb ≠ g4 := fun e => by rw [← e, hk.box] at hg4; simp at hg4
  refine ⟨hc1, hk.ent.frozenAt _, fun W5 hW5 => ?_⟩
  obtain ⟨ent2, gr2⟩ := hk.ent.stored (k * 2 + 1) (.int .u64 ((c + 1 : Nat) : Int))
  rw [← hW5] at ent2 gr2
  have box5 : W5.heap[cb]? = some (.cells #[.string (nm p), .int .i32 st, .int .u32 0, .slice (some ⟨g4, 0, none⟩) es1.length c4, rv, mv, dv] 71 (0, 0)) := (gr2.block cb (lt_of_block hk.box) (by simpa using ngc)).trans hk.box
  have ent5 : W5.ownsRow H 39 2 (.slice (some ⟨g4, 0, none⟩) es1.length c4) (es1.set k (p, c + 1)).length (entCells (es1.set k (p, c + 1))) := own_cast ent2 (by rw [List.length_set]) (entCells_set es1 k c (c + 1) hek)
  have kp5 : KeptB W.heap.size (Ft cb ev rv mv dv) W W5 := kp.trans (KeptB.grown gr2 hWs (fun b e hb => by
    simp only [Option.some.injEq] at e
    subst e
    rcases lies with h | h
    · exact .inr (.inl h.symm)
    · omega))
  have dv5 : W5.ownsRow H 39 2 dv nd xd := hk.dif.kept gr2 (.inr (fun e => hk.apt g4 rfl e))
  have sn5 : SentAt H W5 mv sx sy := hk.snt.grown gr2 (fun b e e2 => by
    obtain ⟨_, _, _, es9, cl9, h3, _⟩ := hk.snt.map e
    simp only [Option.some.injEq] at e2
    rw [← e2, hg4] at h3; cases h3)
  obtain ⟨_, _, y3, y4, _, _, _⟩ := clk_cells box5
  have hc5 : W5.cell? ⟨g4, k * 2 + 1, none⟩ = some (.int .u64 ((c + 1 : Nat) : Int)) := (ent2.cellAt (k * 2 + 1) (by omega)).trans (by rw [List.getElem?_set_self (by rw [entCells_length]; omega)])
  refine ⟨y3, y4, hc5, fun hrn => ?_, fun l hl => ?_⟩
  · have hr := hk.rai
    rw [hrn] at hr
    exact ⟨hr, ⟨box5, hk.cge, ent5, hr, sn5, dv5, hk.one, hk.apt⟩, kp5⟩
  · have hr := hk.rai
    rw [hl] at hr
    obtain ⟨r1, r2, r3⟩ := hr
    have hrow : ∃ gr cr cur, rv = .slice (some ⟨gr, 0, none⟩) l.length cr ∧ H ≤ gr ∧ W4.heap[gr]? = some (.cells cur 34 (0, 0)) := by
      rcases r1.2 with ⟨h, _⟩ | ⟨g', cap', cur, h, hb, hg, _⟩
      · exact absurd h r2
      · exact ⟨g', cap', cur, h, hb, hg⟩
    obtain ⟨gr, cr, curr, hrv, _, hgr⟩ := hrow
    have ngr : gr ≠ g4 := fun e => by rw [e, hg4] at hgr; simp at hgr
    have ngcb : cb ≠ gr := fun e => by rw [← e, hk.box] at hgr; simp at hgr
    have r5 : W5.ownsRow H 34 1 rv l.length (u64Cells l) := r1.kept gr2 (.inr (by rw [hrv]; simp only [Value.ownBlock, ne_eq, Option.some.injEq]; exact ngr))
    subst hrv
    have hkl2 : k < l.length := by omega
    have hul : (u64Cells l).length = l.length := by simp [u64Cells]
    refine ⟨gr, cr, _, rfl, hkl2, (r5.cellAt k (by omega)).trans (List.getElem?_eq_getElem (by omega)), r5.frozenAt k, fun W6 hW6 => ?_⟩
    obtain ⟨r6, g6⟩ := r5.stored k (.int .u64 ((c + 1 : Nat) : Int))
    rw [← hW6] at r6 g6
    refine ⟨⟨(g6.block cb (lt_of_block box5) (by simpa using ngcb)).trans box5, hk.cge, ent5.kept g6 (.inr (by simp only [Value.ownBlock, ne_eq, Option.some.injEq]; exact fun e => ngr e.symm)), ⟨own_cast r6 (by rw [List.length_set]) (u64_set l k (c + 1)), by simp, by rw [List.length_set, List.length_set, r3]⟩, sn5.grown g6 (fun b e e2 => ?_), dv5.kept g6 (.inr ?_), hk.one, hk.apt⟩, kp5.trans (KeptB.grown g6 (Nat.le_trans hWs gr2.size) (fun b e _ => .inr (.inr (.inl e.symm))))⟩
    · obtain ⟨_, _, _, es9, cl9, h3, _⟩ := hk.snt.map e
      simp only [Option.some.injEq] at e2
      rw [← e2, hgr] at h3; cases h3
    · intro e
      rcases dv5.2 with ⟨rfl, _⟩ | ⟨g', cap', cur, rfl, _, hg, _⟩
      · simp [Value.ownBlock] at e
      · simp only [Value.ownBlock, Option.some.injEq] at e
        subst e
        have hg0 := (gr2.block g' (lt_of_block hgr) (by simpa using ngr)).symm.trans hg
        rw [hgr] at hg0; simp at hg0

theorem grownBy_setCell_at (w : World) (b o : Nat) (u : Value) : w.grownBy (w.setCell ⟨b, o, none⟩ u) (some b) :=
  ⟨rfl, rfl, rfl, by simp [World.setCell], fun k _ hne => heap_setCell_other w ⟨b, o, none⟩ k u (fun e => hne (by simp [e]))⟩
theorem Clk.still {H cb p : Nat} {es : List (Nat × Nat)} {rs : Option (List Nat)} {sx sy : Option Nat} {st : Int} {ev rv mv dv : Value} {nd : Nat} {xd : List Value} {W W' : World} (h : Clk H cb p es rs sx sy st ev rv mv dv nd xd W) (hb : KeptB W.heap.size (fun _ => False) W W') : Clk H cb p es rs sx sy st ev rv mv dv nd xd W' := by
  refine ⟨(hb.block cb (lt_of_block h.box) (fun h => h)).trans h.box, h.cge, hb.own h.ent (fun b e => ⟨(h.ent.lt b e).2, fun h => h⟩), ?_, h.snt.block (fun b e => ?_), hb.own h.dif (fun b e => ⟨(h.dif.lt b e).2, fun h => h⟩), h.one, h.apt⟩
  · have hr := h.rai
    cases rs with
    | none => exact hr
    | some l => exact ⟨hb.own hr.1 (fun b e => ⟨(hr.1.lt b e).2, fun h => h⟩), hr.2⟩
  · obtain ⟨_, _, _, es9, cl9, h1, _⟩ := h.snt.map e
    exact hb.block b (lt_of_block h1) (fun h => h)
set_option maxHeartbeats 4000000 in
set_option maxRecDepth 100000 in
theorem tick_any {H cb p : Nat} {es : List (Nat × Nat)} {rs : Option (List Nat)} {sx sy : Option Nat} {st : Int} {ev rv mv dv : Value} {nd : Nat} {xd : List Value} {W : World} (hk : Clk H cb p es rs sx sy st ev rv mv dv nd xd W) (hH : H ≤ W.heap.size) (hs : Srt es) (hp : p ≤ 5) (hn : es.length ≤ 50)
    (hr : ∀ l, rs = some l → ∀ k, PosOf es p k → isAt es p k = true) :
    Calls Ybaf.prog 28 #[.pointer (some ⟨cb, 3, none⟩), .string (nm p)] W fun e W' => (∃ v, e = .returned v) ∧ ∃ k ev', PosOf es p k ∧ Clk H cb p (bump es p k) (rs.map fun l => l.set k (cntAt es p k + 1)) sx sy st ev' rv mv dv nd xd W' ∧
      KeptB W.heap.size (Ft cb ev rv mv dv) W W' ∧ ∀ b, ev'.ownBlock = some b → ev.ownBlock = some b ∨ W.heap.size ≤ b := by
  obtain ⟨ea, ec, rfl, hat⟩ := own_ents hk.ent
  obtain ⟨z0, _, z3, z4, _, _, zf⟩ := clk_cells hk.box
  have SR := search_any ea ec p es W (by omega) hs hp hat
  have HS : Hid _ := SR
  have HK : Hid _ := hk
  have HR : Hid _ := hr
  have HA : Hid _ := hs
  clear SR hat hk hr hs zf
  go_enter Ybaf.func28, Ybaf.ntmps28
  go_wp2_with fail
  go_at_call 31
  refine Calls.mono HS.out ?_
  rintro e w1 ⟨k, hpos, rfl, hb1⟩
  have hk1 := HK.out
  have hs1 := hb1.size
  have hcl := lt_of_block hk1.box
  have kb1 : KeptB W.heap.size (fun _ => False) W w1 := KeptB.below hb1
  have hkw := hk1.still kb1
  have HP : Hid _ := hpos
  clear hk1 hpos z0 z3 z4
  cases hf : isAt es p k with
  | true =>
    obtain ⟨c, hek⟩ : ∃ c, es[k]? = some (p, c) := by
      unfold isAt at hf
      split at hf
      · rename_i e he
        have : e.1 = p := by simpa using hf
        exact ⟨e.2, by rw [he, ← this]⟩
      · cases hf
    have hcnt : cntAt es p k = c := by simp [cntAt, hek]
    have hins : ins0 es p k = es := by simp [ins0, hf]
    have hc9 := (HA.out.1 _ (List.mem_of_getElem? hek)).2
    dsimp only at hc9
    obtain ⟨g4, c4, hform, _, _, _⟩ := own_form hkw.ent (by have := (List.getElem?_eq_some_iff.1 hek).1; omega)
    obtain ⟨rfl, rfl⟩ : ea = some ⟨g4, 0, none⟩ ∧ ec = c4 := by simpa using hform
    have hs4 : W.heap.size ≤ w1.heap.size := hs1
    have kp4 : KeptB W.heap.size (Ft cb (.slice (some ⟨g4, 0, none⟩) es.length ec) rv mv dv) W w1 := kb1.mono (Nat.le_refl _) (fun _ _ h => h.elim)
    have lies4 : (Value.slice (some ⟨g4, 0, none⟩) es.length ec).ownBlock = some g4 ∨ W.heap.size ≤ g4 := .inl rfl
    have hk4 := hkw
    clear hkw
    obtain ⟨hc1, hf1, h5⟩ := tick_mem hk4 hek hs4 kp4 lies4
    obtain ⟨y3, y4, hc5, hnone, hsome⟩ := h5 _ rfl
    obtain ⟨_, _, z3, _, _, _, zf⟩ := clk_cells hk4.box
    have hz3f := zf 3
    have hkl := (List.getElem?_eq_some_iff.1 hek).1
    have i1 : (0 : Int) ≤ (k : Int) := by omega
    have i2 : (k : Int) < (es.length : Int) := by omega
    have w8 : (((c + 1 : Nat) : Int)) = (c : Int) + 1 := by omega
    have w9 : IntKind.u64.wrap ((c : Int) + 1) = (c : Int) + 1 := by rw [IntKind.wrap_u64]; omega
    rw [w8] at y3 y4 hc5 hnone hsome
    have HN : Hid _ := hnone
    have HM : Hid _ := hsome
    clear hnone hsome h5 zf hk4 hek kp4
    go_wp2_with fail
    go_at_call 39
    cases hrs : rs with
    | none =>
      obtain ⟨hrv, hck, hkp⟩ := HN.out hrs
      rw [hrv] at y4
      refine (rose_nil cb k _ _ y4).mono ?_
      rintro e w9 ⟨⟨v9, rfl⟩, rfl⟩
      go_wp2
      exact ⟨rfl, _, results_none rfl _ _ _, ⟨_, rfl⟩, k, _, HP.out, by rw [bump, hins, hcnt, hrs]; exact hck, hkp, fun b e => .inl e⟩
    | some l =>
      obtain ⟨gr, cr, u, hrv, hkl2, hcu, hfu, h6⟩ := HM.out l hrs
      rw [hrv] at y4
      refine (rose_some cb k gr l.length cr _ _ y4 hkl2 hcu hfu).mono ?_
      rintro e w9 ⟨⟨v9, rfl⟩, rfl⟩
      obtain ⟨hck, hkp⟩ := h6 _ rfl
      go_wp2
      exact ⟨rfl, _, results_none rfl _ _ _, ⟨_, rfl⟩, k, _, HP.out, by rw [bump, hins, hcnt, hrs]; exact hck, hkp, fun b e => .inl e⟩
  | false =>
    have hrn : rs = none := by
      cases hrs : rs with
      | none => rfl
      | some l => have := HR.out l hrs k HP.out; rw [hf] at this; cases this
    subst hrn
    have hrv := hkw.rai
    dsimp only at hrv
    subst hrv
    have hposk := HP.out.1
    have hcnt : cntAt es p k = 0 := by
      unfold isAt at hf; unfold cntAt
      split at hf
      · rename_i e he
        simp only [he]
        rw [if_neg (by simpa using hf)]
      · rename_i he; simp only [he]
    have hins : ins0 es p k = es.take k ++ [(p, 0)] ++ es.drop k := by simp [ins0, hf]
    obtain ⟨_, _, z3, _, _, _, zf⟩ := clk_cells hkw.box
    have hz3f := zf 3
    obtain ⟨w2, hw2⟩ : ∃ w2, w1.alloc (.cells #[.string (nm p), .int .u64 0] 39) = w2 := ⟨_, rfl⟩
    have hs2 : w2.heap.size = w1.heap.size + 1 := by rw [← hw2]; simp
    have hvb : w2.heap[w1.heap.size]? = some (.cells #[.string (nm p), .int .u64 0] 39 (0, 0)) := by rw [← hw2]; exact heap_alloc_new w1 _
    have kb2 : KeptB W.heap.size (fun _ => False) W w2 := kb1.trans (by rw [← hw2]; exact KeptB.alloc _ hs1)
    have hk2 := hkw.still (W' := w2) (by rw [← hw2]; exact KeptB.alloc _ (Nat.le_refl _))
    have IN := ins_ent_any H es.length k w1.heap.size [.string (nm p), .int .u64 0] (.slice ea es.length ec) (entCells es) #[.string (nm p), .int .u64 0] w2 hk2.ent (by omega) hposk (by omega) rfl hvb rfl (fun e => by have := (hkw.ent.lt _ e).2; omega) (by intro u hu; simp at hu; rcases hu with rfl | rfl <;> rfl) (entCells_one es)
    have HI : Hid _ := IN
    have HK2 : Hid _ := hk2
    have HKB : Hid _ := kb2
    clear IN hk2 kb2 hkw zf
    go_wp2_with fail
    go_at_call 38
    refine Calls.mono HI.out ?_
    rintro e w3 ⟨v3, rfl, o3, gw3⟩
    obtain ⟨g4, c4, rfl, hgH, _, hg3l⟩ := own_form o3 (by omega)
    have hk2 := HK2.out
    have hs3 := gw3.kept.size
    have ncb : ¬ some cb = (Value.slice ea es.length ec).ownBlock := fun e => by
      rcases hk2.ent.2 with ⟨h, _⟩ | ⟨g', cap', cur, h, _, hg, _⟩
      · rw [h] at e; simp [Value.ownBlock] at e
      · rw [h] at e
        simp only [Value.ownBlock, Option.some.injEq] at e
        rw [← e, hk2.box] at hg; simp at hg
    have box3 : w3.heap[cb]? = _ := (gw3.kept.block cb (lt_of_block hk2.box) ncb).trans hk2.box
    obtain ⟨_, _, x3, _, _, _, xf⟩ := clk_cells box3
    have hx3f := xf 3
    obtain ⟨W4, hW4⟩ : ∃ W4, w3.setCell ⟨cb, 3, none⟩ (.slice (some ⟨g4, 0, none⟩) (es.length + 1) c4) = W4 := ⟨_, rfl⟩
    obtain ⟨es1, hes1⟩ : ∃ es1, es.take k ++ [(p, 0)] ++ es.drop k = es1 := ⟨_, rfl⟩
    have hl1 : es1.length = es.length + 1 := by rw [← hes1]; simp; omega
    have hec : entCells es1 = (entCells es).take (k * 2) ++ [.string (nm p), .int .u64 0] ++ (entCells es).drop (k * 2) := by rw [← hes1, entCells_append, entCells_append, entCells_take, entCells_drop]; rfl
    have hek : es1[k]? = some (p, 0) := by
      rw [← hes1, List.append_assoc, List.getElem?_append_right (by rw [List.length_take]; omega), List.length_take, Nat.min_eq_left hposk, Nat.sub_self]; rfl
    have gW4 := grownBy_setCell_at w3 cb 3 (.slice (some ⟨g4, 0, none⟩) (es.length + 1) c4)
    rw [hW4] at gW4
    have ncg : cb ≠ g4 := fun e => by
      rcases o3.2 with ⟨h, _⟩ | ⟨g', cap', cur, h, _, hg, _⟩
      · cases h
      · simp only [Value.slice.injEq, Option.some.injEq, Addr.mk.injEq, and_true, true_and] at h
        rw [← h.1, ← e, box3] at hg; simp at hg
    have lies4 : (Value.slice ea es.length ec).ownBlock = some g4 ∨ W.heap.size ≤ g4 := by
      rcases gw3.lies g4 rfl with h | h
      · exact .inl h
      · exact .inr (by omega)
    have ndv : dv.ownBlock ≠ some g4 := fun e => by
      rcases gw3.lies g4 rfl with h | h
      · exact hk2.apt g4 h e
      · have := (hk2.dif.lt g4 e).2; omega
    have hk4 : Clk H cb p es1 none sx sy st (.slice (some ⟨g4, 0, none⟩) es1.length c4) (.slice none 0 0) mv dv nd xd W4 := by
      refine ⟨?_, hk2.cge, ?_, rfl, ?_, ?_, hk2.one, fun b e => ?_⟩
      · rw [← hW4, hl1]; exact heap_setCell_same w3 cb 3 _ 71 _ box3
      · rw [hl1, hec]; exact o3.kept gW4 (.inr (by simp only [Value.ownBlock, ne_eq, Option.some.injEq]; exact fun e => ncg e.symm))
      · refine (hk2.snt.block (w' := w3) (fun b e => ?_)).grown gW4 (fun b e e2 => ?_)
        · obtain ⟨_, _, _, es9, cl9, h1, _⟩ := hk2.snt.map e
          refine gw3.kept.block b (lt_of_block h1) (fun e2 => ?_)
          rcases hk2.ent.2 with ⟨h, _⟩ | ⟨g', cap', cur, h, _, hg, _⟩
          · rw [h] at e2; simp [Value.ownBlock] at e2
          · rw [h] at e2
            simp only [Value.ownBlock, Option.some.injEq] at e2
            rw [← e2, h1] at hg; cases hg
        · obtain ⟨_, _, _, es9, cl9, h1, _⟩ := hk2.snt.map e
          simp only [Option.some.injEq] at e2
          rw [← e2, hk2.box] at h1; cases h1
      · refine (gw3.kept.own hk2.dif (fun b e => ⟨(hk2.dif.lt b e).2, fun e2 => hk2.apt b e2.symm e⟩)).kept gW4 (.inr (fun e => ?_))
        rcases hk2.dif.2 with ⟨h, _⟩ | ⟨g', cap', cur, h, _, hg, _⟩
        · rw [h] at e; simp [Value.ownBlock] at e
        · rw [h] at e
          simp only [Value.ownBlock, Option.some.injEq] at e
          rw [e, hk2.box] at hg; simp at hg
      · simp only [Value.ownBlock, Option.some.injEq] at e
        rw [← e]; exact ndv
    have hs4 : W.heap.size ≤ W4.heap.size := by have := gW4.size; omega
    have kp4 : KeptB W.heap.size (Ft cb (.slice ea es.length ec) (.slice none 0 0) mv dv) W W4 :=
      ((HKB.out.mono (Nat.le_refl _) (fun _ _ h => h.elim)).trans (gw3.kept.mono (by omega) (fun b _ e => .inr (.inl e)))).trans (KeptB.grown gW4 (by omega) (fun b e _ => by simp only [Option.some.injEq] at e; exact .inl e.symm))
    have hW4' : w3.setCell ⟨cb, 3, none⟩ (.slice (some ⟨g4, 0, none⟩) (es.length + 1) c4) = W4 := hW4
    obtain ⟨c, hc0⟩ : ∃ c, c = 0 := ⟨_, rfl⟩
    rw [← hc0] at hek
    have HH : Hid (es.take k ++ [(p, 0)] ++ es.drop k = es1 ∧ es1.length = es.length + 1 ∧ c = 0) := ⟨hes1, hl1, hc0⟩
    have hc9 : c ≤ 8589934592 := by omega
    clear hk2 box3 xf hW4 gW4 ncg ndv o3 gw3 hes1 hec hc0 HI HK2 hvb hw2 z3 hz3f ncb hgH
    obtain ⟨hc1, hf1, h5⟩ := tick_mem hk4 hek hs4 kp4 lies4
    obtain ⟨y3, y4, hc5, hnone, _⟩ := h5 _ rfl
    obtain ⟨_, _, z3, _, _, _, zf⟩ := clk_cells hk4.box
    have hz3f := zf 3
    have i1 : (0 : Int) ≤ (k : Int) := by omega
    have i2 : (k : Int) < (es1.length : Int) := by omega
    have w8 : (((c + 1 : Nat) : Int)) = (c : Int) + 1 := by omega
    have w9 : IntKind.u64.wrap ((c : Int) + 1) = (c : Int) + 1 := by rw [IntKind.wrap_u64]; omega
    rw [w8] at y3 y4 hc5 hnone
    have HN : Hid _ := hnone rfl
    have HL4 : Hid _ := lies4
    clear hnone h5 zf hk4 hek kp4 hl1 lies4
    go_wp2_with fail
    go_at_call 39
    refine (rose_nil cb k _ _ y4).mono ?_
    rintro e w9 ⟨⟨v9, rfl⟩, rfl⟩
    go_wp2
    obtain ⟨_, hck, hkp⟩ := HN.out
    refine ⟨rfl, _, results_none rfl _ _ _, ⟨_, rfl⟩, k, .slice (some ⟨g4, 0, none⟩) es1.length c4, HP.out, ?_, hkp, fun b e => ?_⟩
    · rw [bump, hins, hcnt, HH.out.1]
      have h0 := HH.out.2.2
      rw [h0] at hck ⊢
      exact hck
    · simp only [Value.ownBlock, Option.some.injEq] at e
      rw [← e]; exact HL4.out
end Go.Proofs.YbulkcrtgFmt
