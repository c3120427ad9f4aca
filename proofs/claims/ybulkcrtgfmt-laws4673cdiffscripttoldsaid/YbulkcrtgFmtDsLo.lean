/-
  The law's front: the row of entries that is filled.
-/
import Derived.Test.YbulkcrtgFmtDsLn
namespace Go.Proofs.YbulkcrtgFmt
open Go Go.RowKit

def zer : Nat → List Value
  | 0 => []
  | m + 1 => .string ⟨#[]⟩ :: .int .u64 0 :: zer m
theorem zer_length : ∀ m, (zer m).length = m * 2
  | 0 => rfl
  | m + 1 => by simp only [zer, List.length_cons, zer_length m]; omega
theorem zer_get : ∀ (m j : Nat), j < m * 2 → (zer m)[j]? = some (if j % 2 = 0 then .string ⟨#[]⟩ else .int .u64 0)
  | m + 1, 0, _ => rfl
  | m + 1, 1, _ => rfl
  | m + 1, j + 2, h => by
    have := zer_get m j (by omega)
    simp only [zer, List.getElem?_cons_succ, this, Nat.add_mod_right]
theorem made_zer (n : Nat) : (madeCells (Value.agg #[.string ⟨#[]⟩, .int .u64 0]).cells (n * 2)).toList = zer n := by
  have hc : (Value.agg #[.string ⟨#[]⟩, .int .u64 0]).cells = #[.string ⟨#[]⟩, .int .u64 0] := by rfl
  refine List.ext_getElem? (fun j => ?_)
  rw [Array.getElem?_toList]
  unfold madeCells
  rw [hc]
  by_cases h : j < n * 2
  · rw [zer_get n j h]
    have : j % 2 = 0 ∨ j % 2 = 1 := by omega
    rcases this with h2 | h2 <;> simp [h, h2]
  · rw [List.getElem?_eq_none (by rw [zer_length]; omega)]
    simp; omega
def rowE (E : List (Nat × Nat)) (i : Nat) : List Value := entCells (E.take i) ++ zer (E.length - i)
theorem rowE_full (E : List (Nat × Nat)) : rowE E E.length = entCells E := by simp [rowE, zer]
theorem rowE_next (E : List (Nat × Nat)) (k a c : Nat) (h : E[k]? = some (a, c)) : ((rowE E k).set (k * 2) (.string (nm a))).set (k * 2 + 1) (.int .u64 c) = rowE E (k + 1) := by
  have hk : k < E.length := (List.getElem?_eq_some_iff.1 h).1
  have hl : (entCells (E.take k)).length = k * 2 := by rw [entCells_length, List.length_take]; omega
  have e1 : E.length - k = E.length - (k + 1) + 1 := by omega
  unfold rowE
  rw [List.take_add_one, h, e1, zer]
  rw [List.set_append_right _ _ (by omega), hl, Nat.sub_self, List.set_cons_zero, List.set_append_right _ _ (by omega), hl, show k * 2 + 1 - k * 2 = 1 by omega, List.set_cons_succ, List.set_cons_zero]
  rw [show (some (a, c)).toList = [(a, c)] from rfl, entCells_append, List.append_assoc]
  rfl
theorem mk_ents (n : Nat) (hn : n ≤ 1000) (E : List (Nat × Nat)) (hE : E.length = n) (W : World) : ∃ W0, (Instr.makeSlice 37 (.int .i64 n) (.int .i64 n)).run Ybaf.prog W = .ok (.slice (some ⟨W.heap.size, 0, none⟩) n n) W0 ∧ W0.ownsRow W.heap.size 39 2 (.slice (some ⟨W.heap.size, 0, none⟩) n n) n (rowE E 0) ∧ KeptB W.heap.size (fun _ => False) W W0 := by
  obtain ⟨i0, hi0, hz0, hz1, hz2⟩ := info_parts Ybaf.info39
  obtain ⟨W0, hr, o0, g0⟩ := run_makeSlice_full (P := Ybaf.prog) W W.heap.size 37 39 i0 _ 2 Ybaf.underlying37 hi0 hz0 hz1 .i64 .i64 n (by omega) (by rw [hz2]; omega) (by unfold maxLen; omega) (Nat.le_refl _)
  refine ⟨W0, hr, own_cast o0 rfl ?_, KeptB.grown g0 (Nat.le_refl _) (fun k e _ => by cases e)⟩
  rw [made_zer]
  simp [rowE, entCells, hE]
/-- One entry is stored. -/
theorem put_ent {H ge n : Nat} {E : List (Nat × Nat)} {k a c : Nat} {W : World} (ho : W.ownsRow H 39 2 (.slice (some ⟨ge, 0, none⟩) n n) n (rowE E k)) (he : E[k]? = some (a, c)) (W' : World) (hW : W' = (W.setCell ⟨ge, k * 2, none⟩ (.string (nm a))).setCell ⟨ge, k * 2 + 1, none⟩ (.int .u64 c)) :
    W'.ownsRow H 39 2 (.slice (some ⟨ge, 0, none⟩) n n) n (rowE E (k + 1)) ∧ KeptB W.heap.size (fun b => b = ge) W W' := by
  have h1 := (ho.stored (k * 2) (.string (nm a))).1
  have h2 := (h1.stored (k * 2 + 1) (.int .u64 c)).1
  rw [← hW] at h2
  refine ⟨own_cast h2 rfl (rowE_next E k a c he), ?_⟩
  have g1 := grownBy_setCell_at W ge (k * 2) (.string (nm a))
  have g2 := grownBy_setCell_at (W.setCell ⟨ge, k * 2, none⟩ (.string (nm a))) ge (k * 2 + 1) (.int .u64 c)
  rw [← hW] at g2
  exact KeptB.grown (grown_trans g1 g2) (Nat.le_refl _) (fun b e _ => by simp only [Option.some.injEq] at e; exact e.symm)
end Go.Proofs.YbulkcrtgFmt
