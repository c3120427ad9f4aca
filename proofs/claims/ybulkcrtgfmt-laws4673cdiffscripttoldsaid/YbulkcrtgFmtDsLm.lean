/-
  The law's state in memory: the clock, the mirror rows, the two sent marks.
-/
import Derived.Test.YbulkcrtgFmtDsPl
namespace Go.Proofs.YbulkcrtgFmt
open Go Go.RowKit

def nmCells (es : List (Nat × Nat)) : List Value := es.map fun e => .string (nm e.1)
def cnCells (es : List (Nat × Nat)) : List Value := es.map fun e => .int .u64 (e.2 : Nat)
theorem nmCells_one (es : List (Nat × Nat)) : ∀ u ∈ nmCells es, u.oneCell' = true := by
  intro u hu
  simp only [nmCells, List.mem_map] at hu
  obtain ⟨_, _, rfl⟩ := hu
  rfl
theorem cnCells_one (es : List (Nat × Nat)) : ∀ u ∈ cnCells es, u.oneCell' = true := by
  intro u hu
  simp only [cnCells, List.mem_map] at hu
  obtain ⟨_, _, rfl⟩ := hu
  rfl
theorem own_row1 {W : World} {B e n : Nat} {v : Value} {xs : List Value} (h : W.ownsRow B e 1 v n xs) : ∃ a cap, v = .slice a n cap ∧ n ≤ cap ∧ ∀ (i : Nat) u, xs[i]? = some u → ∃ g, a = some ⟨g, 0, none⟩ ∧ W.cell? ⟨g, i, none⟩ = some u ∧ W.frozen? ⟨g, i, none⟩ = false ∧ v.ownBlock = some g := by
  rcases h.2 with ⟨rfl, h0⟩ | ⟨g, cap, cur, rfl, _, hg, hnc, _⟩
  · rw [h0]
    refine ⟨none, 0, rfl, Nat.le_refl _, fun i u hu => ?_⟩
    have := h.1
    rw [h0] at this
    rw [List.length_eq_zero_iff.1 (by omega : xs.length = 0)] at hu
    simp at hu
  · refine ⟨_, cap, rfl, hnc, fun i u hu => ⟨g, rfl, ?_, frozen_of_row _ _ _ _ _ hg, rfl⟩⟩
    have hl := (List.getElem?_eq_some_iff.1 hu).1
    have := h.1
    rw [h.cellAt i (by omega)]
    exact hu
theorem nm_at {W : World} {B : Nat} {v : Value} {es : List (Nat × Nat)} (h : W.ownsRow B 9 1 v es.length (nmCells es)) : ∃ a cap, v = .slice a es.length cap ∧ es.length ≤ cap ∧ ∀ (i : Nat) e, es[i]? = some e → ∃ g, a = some ⟨g, 0, none⟩ ∧ W.cell? ⟨g, i, none⟩ = some (.string (nm e.1)) := by
  obtain ⟨a, cap, rfl, hc, hx⟩ := own_row1 h
  refine ⟨a, cap, rfl, hc, fun i e he => ?_⟩
  obtain ⟨g, h1, h2, _⟩ := hx i (.string (nm e.1)) (by simp [nmCells, he])
  exact ⟨g, h1, h2⟩
theorem cn_at {W : World} {B : Nat} {v : Value} {es : List (Nat × Nat)} (h : W.ownsRow B 34 1 v es.length (cnCells es)) : ∃ a cap, v = .slice a es.length cap ∧ es.length ≤ cap ∧ ∀ (i : Nat) e, es[i]? = some e → ∃ g, a = some ⟨g, 0, none⟩ ∧ W.cell? ⟨g, i, none⟩ = some (.int .u64 e.2) ∧ W.frozen? ⟨g, i, none⟩ = false := by
  obtain ⟨a, cap, rfl, hc, hx⟩ := own_row1 h
  refine ⟨a, cap, rfl, hc, fun i e he => ?_⟩
  obtain ⟨g, h1, h2, h3, _⟩ := hx i (.int .u64 e.2) (by simp [cnCells, he])
  exact ⟨g, h1, h2, h3⟩
theorem own_ne {W : World} {B B' e e' size size' n n' k : Nat} {v v' : Value} {xs xs' : List Value} (h : W.ownsRow B e size v n xs) (h' : W.ownsRow B' e' size' v' n' xs') (ne : e ≠ e') (hk : v.ownBlock = some k) : ¬ some k = v'.ownBlock := fun hk' => by
  obtain ⟨_, cs, h1⟩ := own_obj h hk
  obtain ⟨_, cs', h2⟩ := own_obj h' hk'.symm
  rw [h1] at h2
  simp only [Option.some.injEq, Obj.cells.injEq] at h2
  exact ne h2.2.1
theorem own_nbox {W : World} {B e e' size n k : Nat} {cs : Array Value} {v : Value} {xs : List Value} (h : W.ownsRow B e size v n xs) (hb : W.heap[k]? = some (.cells cs e' (0, 0))) (ne : e ≠ e') : ¬ some k = v.ownBlock := fun hk' => by
  obtain ⟨_, cs', h2⟩ := own_obj h hk'.symm
  rw [hb] at h2
  simp only [Option.some.injEq, Obj.cells.injEq] at h2
  exact ne h2.2.1.symm

structure LawSt (H cb sb p t : Nat) (es : List (Nat × Nat)) (rs : Option (List Nat)) (sx sy : Option Nat) (fn fc : List (Nat × Nat)) (nv cv : Value) (bx by' : Bool) (W0 W : World) : Prop where
  clk : ∃ ev rv mv dv nd xd, Clk H cb p es rs sx sy 0 ev rv mv dv nd xd W ∧ ∀ k, cv.ownBlock = some k → rv.ownBlock ≠ some k
  inv : CInv p es rs sx sy
  srt : Srt es
  bd : Bd es (4294967296 + t)
  nrow : W.ownsRow H 9 1 nv fn.length (nmCells fn)
  crow : W.ownsRow H 34 1 cv fc.length (cnCells fc)
  box : W.heap[sb]? = some (.cells #[.bool bx, .bool by'] 45 (0, 0))
  sbH : H ≤ sb
  kept : KeptB H (fun _ => False) W0 W
  size : H ≤ W.heap.size
section
variable {H cb sb p t : Nat} {es : List (Nat × Nat)} {rs : Option (List Nat)} {sx sy : Option Nat} {fn fc : List (Nat × Nat)} {nv cv : Value} {bx by' : Bool} {W0 W W' : World}
theorem LawSt.still (h : LawSt H cb sb p t es rs sx sy fn fc nv cv bx by' W0 W) (hb : KeptB W.heap.size (fun _ => False) W W') : LawSt H cb sb p t es rs sx sy fn fc nv cv bx by' W0 W' := by
  obtain ⟨ev, rv, mv, dv, nd, xd, hk, ha⟩ := h.clk
  exact ⟨⟨ev, rv, mv, dv, nd, xd, hk.still hb, ha⟩, h.inv, h.srt, h.bd, hb.own h.nrow (fun k e => ⟨(h.nrow.lt k e).2, fun h => h⟩), hb.own h.crow (fun k e => ⟨(h.crow.lt k e).2, fun h => h⟩), (hb.block sb (lt_of_block h.box) (fun h => h)).trans h.box, h.sbH, h.kept.trans (hb.mono h.size (fun _ _ h => h)), Nat.le_trans h.size hb.size⟩
theorem LawSt.names (h : LawSt H cb sb p t es rs sx sy fn fc nv cv bx by' W0 W) {nv' : Value} {fn' : List (Nat × Nat)} (g : Grew W nv W' nv') (hn : W'.ownsRow H 9 1 nv' fn'.length (nmCells fn')) : LawSt H cb sb p t es rs sx sy fn' fc nv' cv bx by' W0 W' := by
  obtain ⟨ev, rv, mv, dv, nd, xd, hk, ha⟩ := h.clk
  have n1 := own_not_ft hk h.nrow (by decide) (by decide) (fun h => by cases h)
  exact ⟨⟨ev, rv, mv, dv, nd, xd, hk.stay g.kept (fun k hf e => (n1 k e.symm).2 hf), ha⟩, h.inv, h.srt, h.bd, hn, g.kept.own h.crow (fun k e => ⟨(h.crow.lt k e).2, own_ne h.crow h.nrow (by decide) e⟩), (g.kept.block sb (lt_of_block h.box) (own_nbox h.nrow h.box (by decide))).trans h.box, h.sbH,
    h.kept.trans (g.kept.mono h.size (fun k hk e => by have := (own_obj h.nrow e.symm).1; omega)), Nat.le_trans h.size g.kept.size⟩
theorem LawSt.counts (h : LawSt H cb sb p t es rs sx sy fn fc nv cv bx by' W0 W) {cv' : Value} {fc' : List (Nat × Nat)} (g : Grew W cv W' cv') (hc : W'.ownsRow H 34 1 cv' fc'.length (cnCells fc')) : LawSt H cb sb p t es rs sx sy fn fc' nv cv' bx by' W0 W' := by
  obtain ⟨ev, rv, mv, dv, nd, xd, hk, ha⟩ := h.clk
  have n1 := own_not_ft hk h.crow (by decide) (by decide) (fun _ => ha)
  refine ⟨⟨ev, rv, mv, dv, nd, xd, hk.stay g.kept (fun k hf e => (n1 k e.symm).2 hf), fun k e e2 => ?_⟩, h.inv, h.srt, h.bd, g.kept.own h.nrow (fun k e => ⟨(h.nrow.lt k e).2, own_ne h.nrow h.crow (by decide) e⟩), hc, (g.kept.block sb (lt_of_block h.box) (own_nbox h.crow h.box (by decide))).trans h.box, h.sbH,
    h.kept.trans (g.kept.mono h.size (fun k hk e => by have := (own_obj h.crow e.symm).1; omega)), Nat.le_trans h.size g.kept.size⟩
  rcases g.lies k e with h1 | h1
  · exact ha k h1 e2
  · obtain ⟨_, o, ho, _⟩ := ft_obj hk (k := k) (.inr (.inr (.inl e2.symm)))
    have := lt_of_block ho
    omega
/-- cnts[k] = c + 1. -/
theorem LawSt.count (h : LawSt H cb sb p t es rs sx sy fn fc nv cv bx by' W0 W) {gc n cap k c a : Nat} (hcv : cv = .slice (some ⟨gc, 0, none⟩) n cap) (W' : World) (hW : W' = W.setCell ⟨gc, k, none⟩ (.int .u64 ((c + 1 : Nat) : Int))) : LawSt H cb sb p t es rs sx sy fn (fc.set k (a, c + 1)) nv cv bx by' W0 W' := by
  subst hcv
  have g1 : W.grownBy W' (some gc) := by rw [hW]; exact grownBy_setCell_at W gc k _
  have hlen : n = fc.length := by
    rcases h.crow.2 with ⟨h1, _⟩ | ⟨g', cap', cur, h1, _⟩
    · cases h1
    · simp only [Value.slice.injEq] at h1; exact h1.2.1
  refine h.counts (cv' := .slice (some ⟨gc, 0, none⟩) n cap) ⟨KeptB.grown g1 (Nat.le_refl _) (fun k e _ => e.symm), fun k e => .inl e⟩ ?_
  have h2 := h.crow
  rw [hlen] at h2 ⊢
  have h3 := (h2.stored k (.int .u64 ((c + 1 : Nat) : Int))).1
  rw [← hW] at h3
  refine own_cast h3 (by rw [List.length_set]) ?_
  simp [cnCells, List.map_set]
theorem LawSt.sent (h : LawSt H cb sb p t es rs sx sy fn fc nv cv bx by' W0 W) (j : Bool) (W' : World) (hW : W' = W.setCell ⟨sb, if j then 1 else 0, none⟩ (.bool true)) : LawSt H cb sb p t es rs sx sy fn fc nv cv (if j then bx else true) (if j then true else by') W0 W' := by
  have g1 : W.grownBy W' (some sb) := by rw [hW]; exact grownBy_setCell_at W sb _ _
  have kp : KeptB W.heap.size (fun k => k = sb) W W' := KeptB.grown g1 (Nat.le_refl _) (fun b e _ => by simp only [Option.some.injEq] at e; exact e.symm)
  obtain ⟨ev, rv, mv, dv, nd, xd, hk, ha⟩ := h.clk
  refine ⟨⟨ev, rv, mv, dv, nd, xd, hk.stay kp (fun k hf e => ?_), ha⟩, h.inv, h.srt, h.bd, kp.own h.nrow (fun k e => ⟨(h.nrow.lt k e).2, fun e2 => own_nbox h.nrow h.box (by decide) (by rw [← e2, e])⟩), kp.own h.crow (fun k e => ⟨(h.crow.lt k e).2, fun e2 => own_nbox h.crow h.box (by decide) (by rw [← e2, e])⟩), ?_, h.sbH,
    h.kept.trans (kp.mono h.size (fun k hk e => by have := h.sbH; omega)), Nat.le_trans h.size kp.size⟩
  · subst e
    obtain ⟨_, o, ho, ht⟩ := ft_obj hk hf
    rw [h.box] at ho
    simp only [Option.some.injEq] at ho
    rcases ht _ _ ho.symm with e | e | ⟨e, _⟩ <;> simp at e
  · rw [hW]
    cases j
    · exact heap_setCell_same W sb 0 _ 45 _ h.box
    · exact heap_setCell_same W sb 1 _ 45 _ h.box
theorem bump_len {es : List (Nat × Nat)} {p k : Nat} : (bump es p k).length = (ins0 es p k).length := by simp [bump]
/-- Behind an operation of the clock. -/
theorem LawSt.op (h : LawSt H cb sb p t es rs sx sy fn fc nv cv bx by' W0 W) {ev rv mv dv : Value} {nd : Nat} {xd : List Value} (hk : Clk H cb p es rs sx sy 0 ev rv mv dv nd xd W) (ha : ∀ k, cv.ownBlock = some k → rv.ownBlock ≠ some k) {N : Nat} {S : Nat → Prop} (hN : N ≤ W.heap.size) (kp : KeptB W.heap.size (fun k => Ft cb ev rv mv dv k ∨ S k) W W') (hS : ∀ k, S k → N ≤ k)
    (hnN : ∀ k, nv.ownBlock = some k → k < N) (hcN : ∀ k, cv.ownBlock = some k → k < N) (hsN : sb < N) (hHN : H ≤ N)
    {es' : List (Nat × Nat)} {rs' : Option (List Nat)} {sx' sy' : Option Nat} {ev' rv' mv' dv' : Value} {nd' : Nat} {xd' : List Value} (hk' : Clk H cb p es' rs' sx' sy' 0 ev' rv' mv' dv' nd' xd' W') (hlr : ∀ b, rv'.ownBlock = some b → rv.ownBlock = some b ∨ W.heap.size ≤ b)
    (hi : CInv p es' rs' sx' sy') (hs : Srt es') (hb : Bd es' (4294967296 + (t + 1))) : LawSt H cb sb p (t + 1) es' rs' sx' sy' fn fc nv cv bx by' W0 W' := by
  have n1 := own_not_ft hk h.nrow (by decide) (by decide) (fun h => by cases h)
  have n2 := own_not_ft hk h.crow (by decide) (by decide) (fun _ => ha)
  refine ⟨⟨ev', rv', mv', dv', nd', xd', hk', fun k e e2 => ?_⟩, hi, hs, hb, kp.own h.nrow (fun k e => ⟨(n1 k e).1, fun hf => hf.elim (n1 k e).2 (fun hs => by have := hS k hs; have := hnN k e; omega)⟩), kp.own h.crow (fun k e => ⟨(n2 k e).1, fun hf => hf.elim (n2 k e).2 (fun hs => by have := hS k hs; have := hcN k e; omega)⟩), (kp.block sb (lt_of_block h.box) (fun hf => hf.elim (fun hf => ?_) (fun hs => by have := hS sb hs; omega))).trans h.box, h.sbH,
    h.kept.trans (kp.mono h.size (fun k hlt hf => hf.elim (fun hf => by have := (ft_obj hk hf).1; omega) (fun hs => by have := hS k hs; omega))), Nat.le_trans h.size kp.size⟩
  · rcases hlr k e2 with h1 | h1
    · exact ha k e h1
    · have := hcN k e; omega
  · obtain ⟨_, o, ho, ht⟩ := ft_obj hk hf
    rw [h.box] at ho
    simp only [Option.some.injEq] at ho
    rcases ht _ _ ho.symm with e | e | ⟨e, _⟩ <;> simp at e
end
end Go.Proofs.YbulkcrtgFmt
