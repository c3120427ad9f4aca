/-
  What the law's walk leans on: rows of chains, equal bytes.
-/
import Derived.Test.YbulkcryqInv
import Derived.Test.YbulkcryqEq
import Derived.Laws.MakeOwn
namespace Go.Proofs.Ybulkcryq
open Go Go.RowKit Go.Shelf

/-- A row of chains in the making: k of them are laid. -/
def rowOf (cs : List (Int × Int)) (k : Nat) : List Value := chainCells (cs.take k) ++ List.replicate (2 * (cs.length - k)) (.int .i32 0)
theorem chainCells_length : ∀ cs : List (Int × Int), (chainCells cs).length = cs.length * 2
  | [] => rfl
  | c :: cs => by
    have := chainCells_length cs
    simp only [chainCells, List.flatMap_cons, List.length_append, List.length_cons, List.length_nil] at *
    omega
theorem rowOf_zero (cs : List (Int × Int)) (n : Nat) (h : cs.length = n) : (madeCells (Value.agg #[.int .i32 0, .int .i32 0]).cells (n * 2)).toList = rowOf cs 0 := by
  have hc : (Value.agg #[.int .i32 0, .int .i32 0]).cells = #[.int .i32 0, .int .i32 0] := by rfl
  unfold rowOf madeCells
  rw [hc, h]
  simp only [List.take_zero, chainCells, List.flatMap_nil, List.nil_append, Nat.sub_zero]
  rw [List.eq_replicate_iff]
  refine ⟨by simp; omega, fun b hb => ?_⟩
  simp only [Array.toList_map, List.mem_map] at hb
  obtain ⟨j, _, rfl⟩ := hb
  have : j % 2 = 0 ∨ j % 2 = 1 := by omega
  rcases this with h | h <;> simp [h]
theorem rowOf_next (cs : List (Int × Int)) (k : Nat) (a b : Int) (h : cs[k]? = some (a, b)) : ((rowOf cs k).set (k * 2) (.int .i32 a)).set (k * 2 + 1) (.int .i32 b) = rowOf cs (k + 1) := by
  have hk : k < cs.length := (List.getElem?_eq_some_iff.1 h).1
  have hl : (chainCells (cs.take k)).length = k * 2 := by rw [chainCells_length, List.length_take]; omega
  have e1 : 2 * (cs.length - k) = 2 * (cs.length - (k + 1)) + 1 + 1 := by omega
  unfold rowOf
  rw [List.take_add_one, h, e1, List.replicate_succ, List.replicate_succ]
  rw [List.set_append_right _ _ (by omega), hl, Nat.sub_self, List.set_cons_zero, List.set_append_right _ _ (by omega), hl, show k * 2 + 1 - k * 2 = 1 by omega, List.set_cons_succ, List.set_cons_zero]
  rw [show (some (a, b)).toList = [(a, b)] from rfl, chainCells_snoc, List.append_assoc]
  rfl
theorem rowOf_full (cs : List (Int × Int)) : rowOf cs cs.length = chainCells cs := by simp [rowOf]
theorem rowOf_length (cs : List (Int × Int)) (k : Nat) (h : k ≤ cs.length) : (rowOf cs k).length = cs.length * 2 := by
  simp only [rowOf, List.length_append, chainCells_length, List.length_take, List.length_replicate]; omega
theorem chainCells_get : ∀ (cs : List (Int × Int)) (i : Nat) (c : Int × Int), cs[i]? = some c → (chainCells cs)[i * 2]? = some (.int .i32 c.1) ∧ (chainCells cs)[i * 2 + 1]? = some (.int .i32 c.2)
  | [], i, c, h => by simp at h
  | d :: cs, 0, c, h => by simp at h; subst h; exact ⟨rfl, rfl⟩
  | d :: cs, i + 1, c, h => by
    have := chainCells_get cs i c (by simpa using h)
    rw [show (i + 1) * 2 = i * 2 + 1 + 1 by omega]
    exact this
/-- The chains of a row that is owned. -/
theorem own_chains {w : World} {base : Nat} {v : Value} {cs : List (Int × Int)} (h : w.ownsRow base 28 2 v cs.length (chainCells cs)) : ∃ sa cap, v = .slice sa cs.length cap ∧ ChainsAt w sa cs := by
  rcases h.2 with ⟨rfl, h0⟩ | ⟨g, cap, cur, rfl, _⟩
  · rw [h0]
    exact ⟨none, 0, rfl, fun i c hi => by rw [List.length_eq_zero_iff.1 h0] at hi; simp at hi⟩
  · refine ⟨_, cap, rfl, fun i c hi => ⟨g, 0, rfl, ?_⟩⟩
    have hl : i < cs.length := (List.getElem?_eq_some_iff.1 hi).1
    have hc := chainCells_get cs i c hi
    rw [Nat.zero_add, h.cellAt (i * 2) (by omega), h.cellAt (i * 2 + 1) (by omega)]
    exact hc
theorem ChainsAt.take {w : World} {sa : Option Addr} {cs : List (Int × Int)} (h : ChainsAt w sa cs) (j : Nat) : ChainsAt w sa (cs.take j) := fun i c hi => by
  rw [List.getElem?_take] at hi
  split at hi
  · exact h i c hi
  · cases hi
theorem ChainsAt.nil (w : World) (sa : Option Addr) : ChainsAt w sa [] := fun i c hi => by simp at hi

/-- bytes.Equal where both hold the bytes l. -/
theorem equal_bytes (p1 p2 : Option Addr) (c d : Nat) (l : List UInt8) (w : World) (h1 : l ≠ [] → ∃ g o, p1 = some ⟨g, o, none⟩ ∧ BytesFrom w g o l) (h2 : l ≠ [] → ∃ g o, p2 = some ⟨g, o, none⟩ ∧ BytesFrom w g o l) :
    Calls Yba.prog 9 #[.slice p1 l.length c, .slice p2 l.length d] w fun e w' => e = .returned (.bool true) ∧ w' = w := by
  have hin : ∀ p, (l ≠ [] → ∃ g o, p = some ⟨g, o, none⟩ ∧ BytesFrom w g o l) → Lib.BytesIn w p l.length (l.map fun b => (b.toNat : Int)) := fun p h hn => by
    obtain ⟨g, o, rfl, hb⟩ := h (by intro e; rw [e] at hn; simp at hn)
    refine ⟨g, o, rfl, fun i hi => ?_⟩
    rw [hb i hi]
    simp [List.getD_eq_getElem?_getD, hi]
  refine (Yba.bytes_Equal_all p1 p2 l.length c l.length d (l.map fun b => (b.toNat : Int)) (l.map fun b => (b.toNat : Int)) w (by simp) (by simp) (hin p1 h1) (hin p2 h2)).mono ?_
  rintro e w' ⟨rfl, rfl⟩
  exact ⟨by simp, rfl⟩
/-- What an owned row of bytes is, as an argument. -/
theorem own_bytes {w : World} {base : Nat} {v : Value} {l : List UInt8} (h : w.ownsRow base 5 1 v l.length (Lib.byteCells l)) : ∃ p cap, v = .slice p l.length cap ∧ (l ≠ [] → ∃ g o, p = some ⟨g, o, none⟩ ∧ BytesFrom w g o l) := by
  rcases h.2 with ⟨rfl, h0⟩ | ⟨g, cap, cur, rfl, _, hg, hnc, _, _, htk⟩
  · rw [h0]
    exact ⟨none, 0, rfl, fun hne => absurd (List.length_eq_zero_iff.1 h0) hne⟩
  · refine ⟨_, cap, rfl, fun _ => ⟨g, 0, rfl, fun j hj => ?_⟩⟩
    rw [Nat.zero_add, h.cellAt j (by omega)]
    simp [Lib.byteCells, hj]
end Go.Proofs.Ybulkcryq
