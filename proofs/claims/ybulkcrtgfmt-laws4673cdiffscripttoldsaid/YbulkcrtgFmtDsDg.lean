/-
  diffTo (40), the memory's side.
-/
import Derived.Test.YbulkcrtgFmtDsDf
namespace Go.Proofs.YbulkcrtgFmt
open Go Go.RowKit

theorem made_u64 (n : Nat) : (madeCells (Value.cells (.int .u64 0)) (n * 1)).toList = u64Cells (List.replicate n 0) := by
  have hc : (Value.cells (.int .u64 0)) = #[.int .u64 0] := by rfl
  unfold u64Cells madeCells
  rw [hc, Nat.mul_one, List.map_replicate, List.eq_replicate_iff]
  refine ⟨by simp, fun b hb => ?_⟩
  simp only [Array.toList_map, List.mem_map] at hb
  obtain ⟨j, _, rfl⟩ := hb
  simp [Nat.mod_one]

/-- raised is made: a mark of 0 an entry. -/
theorem mk_raised {H cb p : Nat} {es : List (Nat × Nat)} {sx sy : Option Nat} {st : Int} {ev rv mv dv : Value} {W : World} (h : Clk0 H cb p es none sx sy st ev rv mv dv W) (hH : H ≤ W.heap.size) (hn : es.length ≤ 1000) (n : Nat) (hln : es.length = n) :
    ∃ W0, (Instr.makeSlice 32 (.int .i64 n) (.int .i64 n)).run Ybaf.prog W = .ok (.slice (some ⟨W.heap.size, 0, none⟩) n n) W0 ∧ W0.cell? ⟨cb, 4, none⟩ = some rv ∧ W0.frozen? ⟨cb, 4, none⟩ = false ∧
      ∀ W1, W1 = W0.setCell ⟨cb, 4, none⟩ (.slice (some ⟨W.heap.size, 0, none⟩) n n) → Clk0 H cb p es (some (List.replicate n 0)) sx sy st ev (.slice (some ⟨W.heap.size, 0, none⟩) n n) mv dv W1 ∧ KeptB W.heap.size (fun k => k = cb) W W1 := by
  obtain ⟨i0, hi0, hz0, hz1, hz2⟩ := info_parts Ybaf.info34
  obtain ⟨W0, hr, o0, g0⟩ := run_makeSlice_full (P := Ybaf.prog) W W.heap.size 32 34 i0 _ 1 Ybaf.underlying32 hi0 hz0 hz1 .i64 .i64 n (by omega) (by rw [hz2]; omega) (by unfold maxLen; omega) (Nat.le_refl _)
  have k0 : KeptB W.heap.size (fun _ => False) W W0 := KeptB.grown g0 (Nat.le_refl _) (fun k e _ => by cases e)
  have hcb := lt_of_block h.box
  have box0 := (k0.block cb hcb (fun h => h)).trans h.box
  obtain ⟨_, _, _, x4, _, _, xf⟩ := clk_cells box0
  refine ⟨W0, hr, x4, xf 4, fun W1 hW1 => ?_⟩
  have g1 := grownBy_setCell_at W0 cb 4 (.slice (some ⟨W.heap.size, 0, none⟩) n n)
  rw [← hW1] at g1
  have ent0 := k0.own h.ent (fun b e => ⟨(h.ent.lt b e).2, fun h => h⟩)
  have necb : ev.ownBlock ≠ some cb := fun e => by
    rcases ent0.2 with ⟨h1, _⟩ | ⟨g', cap', cur, h1, _, hg, _⟩
    · rw [h1] at e; simp [Value.ownBlock] at e
    · rw [h1] at e
      simp only [Value.ownBlock, Option.some.injEq] at e
      rw [e, box0] at hg; simp at hg
  refine ⟨⟨?_, h.cge, ent0.kept g1 (.inr necb), ⟨?_, by simp, by rw [List.length_replicate, hln]⟩, ?_⟩, (k0.mono (Nat.le_refl _) (fun _ _ h => h.elim)).trans (KeptB.grown g1 g0.size (fun b e _ => by simp only [Option.some.injEq] at e; exact e.symm))⟩
  · rw [hW1]; exact heap_setCell_same W0 cb 4 _ 71 _ box0
  · refine own_le (own_cast (o0.kept g1 (.inr ?_)) (by rw [List.length_replicate]) (made_u64 n)) hH
    simp only [Value.ownBlock, ne_eq, Option.some.injEq]; omega
  · refine (h.snt.block (w' := W0) (fun b e => ?_)).grown g1 (fun b e e2 => ?_)
    · obtain ⟨_, _, _, es9, cl9, h1, _⟩ := h.snt.map e
      exact k0.block b (lt_of_block h1) (fun h => h)
    · obtain ⟨_, _, _, es9, cl9, h1, _⟩ := h.snt.map e
      simp only [Option.some.injEq] at e2
      rw [← e2, h.box] at h1; cases h1

/-- What a differential send picks of the entries. -/
def outOf (es : List (Nat × Nat)) (l : List Nat) (ls : Option Nat) : List (Nat × Nat) :=
  ((es.zip l).filter fun x => match ls with | none => true | some c => decide (c < x.2)).map (·.1)
def pickAt (l : List Nat) (ls : Option Nat) (i : Nat) : Bool := match ls, l[i]? with | none, _ => true | some c, some m => decide (c < m) | some _, none => false
theorem out_next (es : List (Nat × Nat)) (l : List Nat) (ls : Option Nat) (i : Nat) (e : Nat × Nat) (m : Nat) (he : es[i]? = some e) (hm : l[i]? = some m) : outOf (es.take (i + 1)) (l.take (i + 1)) ls = outOf (es.take i) (l.take i) ls ++ (if pickAt l ls i then [e] else []) := by
  unfold outOf pickAt
  have h1 := (List.getElem?_eq_some_iff.1 he).1
  have h2 := (List.getElem?_eq_some_iff.1 hm).1
  rw [List.take_add_one, he, List.take_add_one, hm, List.zip_append (by rw [List.length_take, List.length_take]; omega), List.filter_append, List.map_append]
  congr 1
  cases ls with
  | none => simp
  | some c => by_cases h : c < m <;> simp [h]

/-- Where the map is nil it is made. -/
theorem mk_sent {H cb p : Nat} {es : List (Nat × Nat)} {rs : Option (List Nat)} {st : Int} {ev rv dv : Value} {W : World} (h : Clk0 H cb p es rs none none st ev rv (.map none) dv W) (hH : H ≤ W.heap.size) :
    (W.alloc (.map #[] 0)).cell? ⟨cb, 5, none⟩ = some (.map none) ∧ (W.alloc (.map #[] 0)).frozen? ⟨cb, 5, none⟩ = false ∧
    ∀ W1, W1 = (W.alloc (.map #[] 0)).setCell ⟨cb, 5, none⟩ (.map (some W.heap.size)) → Clk0 H cb p es rs none none st ev rv (.map (some W.heap.size)) dv W1 ∧ KeptB W.heap.size (fun k => k = cb) W W1 := by
  have k0 : KeptB W.heap.size (fun _ => False) W (W.alloc (.map #[] 0)) := KeptB.alloc _ (Nat.le_refl _)
  have hcb := lt_of_block h.box
  have box0 := (k0.block cb hcb (fun h => h)).trans h.box
  obtain ⟨_, _, _, _, x5, _, xf⟩ := clk_cells box0
  refine ⟨x5, xf 5, fun W1 hW1 => ?_⟩
  have g1 := grownBy_setCell_at (W.alloc (.map #[] 0)) cb 5 (.map (some W.heap.size))
  rw [← hW1] at g1
  have nrow : ∀ {e size n : Nat} {v : Value} {xs : List Value}, e ≠ 71 → (W.alloc (.map #[] 0)).ownsRow H e size v n xs → v.ownBlock ≠ some cb := fun {e size n v xs} ne ho e2 => by
    rcases ho.2 with ⟨h1, _⟩ | ⟨g', cap', cur, h1, _, hg, _⟩
    · rw [h1] at e2; simp [Value.ownBlock] at e2
    · rw [h1] at e2
      simp only [Value.ownBlock, Option.some.injEq] at e2
      rw [e2, box0] at hg
      simp only [Option.some.injEq, Obj.cells.injEq] at hg
      exact ne hg.2.1.symm
  have ent0 := k0.own h.ent (fun b e => ⟨(h.ent.lt b e).2, fun h => h⟩)
  refine ⟨⟨?_, h.cge, ent0.kept g1 (.inr (nrow (by decide) ent0)), ?_, .inr ⟨_, rfl, hH, ?_⟩⟩, (k0.mono (Nat.le_refl _) (fun _ _ h => h.elim)).trans (KeptB.grown g1 (by simp) (fun b e _ => by simp only [Option.some.injEq] at e; exact e.symm))⟩
  · rw [hW1]; exact heap_setCell_same _ cb 5 _ 71 _ box0
  · have hr := h.rai
    cases rs with
    | none => exact hr
    | some l =>
      have r0 := k0.own hr.1 (fun b e => ⟨(hr.1.lt b e).2, fun h => h⟩)
      exact ⟨r0.kept g1 (.inr (nrow (by decide) r0)), hr.2⟩
  · obtain ⟨es9, cl9, h1, h2⟩ := made_sent W
    exact ⟨es9, cl9, (g1.block _ (by simp) (by simp; omega)).trans h1, h2⟩
end Go.Proofs.YbulkcrtgFmt
