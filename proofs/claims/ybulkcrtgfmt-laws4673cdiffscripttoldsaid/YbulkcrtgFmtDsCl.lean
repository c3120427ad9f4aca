/-
  slices.Clone at bytes (13) and at entries (33), Stamp.clone (21), slices.Equal at bytes (16).
-/
import Derived.Test.YbulkcrtgFmtDsGet
import Derived.Laws.Cover3
import Derived.Maps.AppendAt
import Derived.Lib.AppendZeros
namespace Go.Proofs.YbulkcrtgFmt
open Go Go.RowKit

/-- The bytes l lie at pa. -/
def BytAt (w : World) (pa : Option Addr) (l : List UInt8) : Prop := l ≠ [] → ∃ g o, pa = some ⟨g, o, none⟩ ∧ BytesFrom w g o l
theorem BytAt.kept {w w' : World} {pa : Option Addr} {l : List UInt8} {S : Nat → Prop} (h : BytAt w pa l) (hk : KeptB w.heap.size S w w') (hS : ∀ g o, pa = some ⟨g, o, none⟩ → ¬ S g) : BytAt w' pa l := fun hne => by
  obtain ⟨g, o, rfl, hb⟩ := h hne
  have h0 : 0 < l.length := by cases l with | nil => exact absurd rfl hne | cons _ _ => simp
  exact ⟨g, o, rfl, hb.block (hk.block g (World.block_lt_of_cell? _ _ (hb 0 h0)) (hS g o rfl))⟩
theorem own_byt {w : World} {base : Nat} {v : Value} {l : List UInt8} (h : w.ownsRow base 5 1 v l.length (Lib.byteCells l)) : ∃ p cap, v = .slice p l.length cap ∧ BytAt w p l := own_bytes h

theorem eq_nil {t e : TypeId} (ht : Ybaf.prog.underlying t = some (.slice e)) (pa : Option Addr) (n c : Nat) (w : World) : (binOp .eql t (.slice pa n c) (.slice none 0 0)).run Ybaf.prog w = .ok (.bool pa.isNone) w := by
  simp only [binOp]
  simp [run_equal_slice_nil w t e pa n c ht]
/-- Cells of k each behind an address: what a clone reads. -/
theorem run_clone {t e K : Nat} (by0 : Nat) (i0 : TypeInfo) (z : Value) (ht : Ybaf.prog.underlying t = some (.slice e)) (hi : Ybaf.prog.info? e = some i0) (hz : i0.zero = some z) (hs : i0.size = K) (hb : i0.bytes = by0) (hzs : z.cells.size = K) (hK : 0 < K)
    (a : Addr) (n c : Nat) (cs : List Value) (hl : cs.length = n * K) (w : World) (hc : ∀ j u, cs[j]? = some u → w.cell? (a.add j) = some u) (h1 : ∀ u ∈ cs, u.oneCell' = true) (hn : n * by0 ≤ 140737488355328) (hm : n ≤ maxLen) (ty : TypeId) :
    ∃ v' w', (Builtin.append_ #[t, t] ty #[.slice (some ⟨w.heap.size, 0, none⟩) 0 0, .slice (some a) n c]).run Ybaf.prog (w.alloc (.cells #[] e)) = .ok v' w' ∧ w'.ownsRow w.heap.size e K v' n cs ∧ Below w.heap.size w w' := by
  have own0 : (w.alloc (.cells #[] e)).ownsRow w.heap.size e K (.slice (some ⟨w.heap.size, 0, none⟩) 0 0) 0 [] := World.ownsRow_made w #[] 0 (Nat.le_refl _) (by decide) (by simp)
  obtain ⟨v', w', hr, o', gr, _, _⟩ := run_append_own_at (P := Ybaf.prog) (w.alloc (.cells #[] e)) w.heap.size t ty e i0 z K by0 ht hi hz hs hb hzs hK _ 0 [] own0 a n c cs hl (fun j u hu => by
    have := hc j u hu
    rw [World.cell?_of_block (Below.heap_alloc w _ _ (World.block_lt_of_cell? _ _ this))]; exact this) h1 (by omega) (by rw [Nat.zero_add]; exact hn) (by simp)
  refine ⟨v', w', hr, own_cast o' (by omega) rfl, ((Below.refl _ w).alloc (Nat.le_refl _) _).grown gr (by simp) (fun k e => ?_)⟩
  simp only [Value.ownBlock, Option.some.injEq] at e
  omega

set_option maxHeartbeats 2000000 in
set_option maxRecDepth 100000 in
theorem clone_bytes (pa : Option Addr) (c : Nat) (l : List UInt8) (w : World) (hl : l.length ≤ 100000) (hat : BytAt w pa l) :
    Calls Ybaf.prog 13 #[.slice pa l.length c] w fun e w' => ∃ v', e = .returned v' ∧ w'.ownsRow w.heap.size 5 1 v' l.length (Lib.byteCells l) ∧ Below w.heap.size w w' := by
  obtain ⟨i0, hi0, hz0, hz1, hz2⟩ := info_parts Ybaf.info5
  cases pa with
  | none =>
    have : l = [] := by
      cases l with
      | nil => rfl
      | cons x xs => obtain ⟨g, o, h, _⟩ := hat (by simp); cases h
    subst this
    have hq := eq_nil Ybaf.underlying22 none 0 c
    simp only [Option.isNone] at hq
    go_enter Ybaf.func13, Ybaf.ntmps13
    go_wp2
    go_ret
    exact ⟨_, rfl, World.ownsRow_nil _ _ _ _, Below.refl _ _⟩
  | some a =>
    obtain ⟨v', w', hr, o', hb⟩ := run_clone 1 i0 _ Ybaf.underlying22 hi0 hz0 hz1 hz2 rfl (by decide) a l.length c (Lib.byteCells l) (by rw [byteCells_length]; omega) w (fun j u hu => by
      obtain ⟨hj, rfl⟩ := byteCells_get hu
      obtain ⟨g, o, e, hbf⟩ := hat (by intro e; rw [e] at hj; simp at hj)
      simp only [Option.some.injEq] at e
      subst e
      rw [Addr.add_lit]
      exact hbf j hj) (byteCells_one l) (by omega) (by unfold maxLen; omega) 22
    have hq := eq_nil Ybaf.underlying22 (some a) l.length c
    simp only [Option.isNone] at hq
    go_enter Ybaf.func13, Ybaf.ntmps13
    go_wp2_with (at_builtin; refine Lib.wpList_append_run _ rfl _ _ _ _ rfl _ _ rfl rfl _ _ hr ?_)
    go_ret
    exact ⟨_, rfl, o', hb⟩

def entCells (es : List (Nat × Nat)) : List Value := es.flatMap fun e => [.string (nm e.1), .int .u64 e.2]
theorem entCells_length : ∀ es : List (Nat × Nat), (entCells es).length = es.length * 2
  | [] => rfl
  | c :: cs => by
    have := entCells_length cs
    simp only [entCells, List.flatMap_cons, List.length_append, List.length_cons, List.length_nil] at *
    omega
theorem entCells_one (es : List (Nat × Nat)) : ∀ u ∈ entCells es, u.oneCell' = true := by
  intro u hu
  simp only [entCells, List.mem_flatMap] at hu
  obtain ⟨c, _, hc⟩ := hu
  simp at hc
  rcases hc with rfl | rfl <;> rfl
theorem entCells_get : ∀ (es : List (Nat × Nat)) (i : Nat) (e : Nat × Nat), es[i]? = some e → (entCells es)[i * 2]? = some (.string (nm e.1)) ∧ (entCells es)[i * 2 + 1]? = some (.int .u64 e.2)
  | [], i, c, h => by simp at h
  | d :: cs, 0, c, h => by simp at h; subst h; exact ⟨rfl, rfl⟩
  | d :: cs, i + 1, c, h => by
    have := entCells_get cs i c (by simpa using h)
    rw [show (i + 1) * 2 = i * 2 + 1 + 1 by omega]
    exact this
/-- The entries of a row that is owned. -/
theorem own_ents {w : World} {base : Nat} {v : Value} {es : List (Nat × Nat)} (h : w.ownsRow base 39 2 v es.length (entCells es)) : ∃ ea cap, v = .slice ea es.length cap ∧ EntAt w ea es := by
  rcases h.2 with ⟨rfl, h0⟩ | ⟨g, cap, cur, rfl, _⟩
  · rw [h0]
    exact ⟨none, 0, rfl, fun i c hi => by rw [List.length_eq_zero_iff.1 h0] at hi; simp at hi⟩
  · refine ⟨_, cap, rfl, fun i c hi => ⟨g, 0, rfl, ?_⟩⟩
    have hl : i < es.length := (List.getElem?_eq_some_iff.1 hi).1
    have hc := entCells_get es i c hi
    rw [Nat.zero_add, h.cellAt (i * 2) (by omega), h.cellAt (i * 2 + 1) (by omega)]
    exact hc
/-- What lies as entries, cell by cell. -/
theorem ent_cell {w : World} {a : Addr} {es : List (Nat × Nat)} (h : EntAt w (some a) es) : ∀ j u, (entCells es)[j]? = some u → w.cell? (a.add j) = some u := fun j u hu => by
  have hj : j < es.length * 2 := by have := (List.getElem?_eq_some_iff.1 hu).1; rwa [entCells_length] at this
  obtain ⟨e, he⟩ : ∃ e, es[j / 2]? = some e := ⟨es[j / 2]'(by omega), List.getElem?_eq_getElem _⟩
  obtain ⟨g, o, e1, h0, h1⟩ := h (j / 2) e he
  simp only [Option.some.injEq] at e1
  subst e1
  obtain ⟨c0, c1⟩ := entCells_get es (j / 2) e he
  rw [Addr.add_lit]
  rcases Nat.mod_two_eq_zero_or_one j with hm | hm
  · have ej : j = j / 2 * 2 := by omega
    rw [ej] at hu ⊢
    rw [c0] at hu; rw [← hu]; exact h0
  · have ej : j = j / 2 * 2 + 1 := by omega
    rw [ej] at hu ⊢
    rw [c1] at hu; rw [← hu, ← Nat.add_assoc]; exact h1

set_option maxHeartbeats 2000000 in
set_option maxRecDepth 100000 in
theorem clone_ents (ea : Option Addr) (c : Nat) (es : List (Nat × Nat)) (w : World) (hl : es.length ≤ 1000) (hat : EntAt w ea es) :
    Calls Ybaf.prog 33 #[.slice ea es.length c] w fun e w' => ∃ v', e = .returned v' ∧ w'.ownsRow w.heap.size 39 2 v' es.length (entCells es) ∧ Below w.heap.size w w' := by
  obtain ⟨i0, hi0, hz0, hz1, hz2⟩ := info_parts Ybaf.info39
  cases ea with
  | none =>
    have : es = [] := by
      cases es with
      | nil => rfl
      | cons x xs => obtain ⟨g, o, h, _⟩ := hat 0 x (by simp); cases h
    subst this
    have hq := eq_nil Ybaf.underlying37 none 0 c
    simp only [Option.isNone] at hq
    go_enter Ybaf.func33, Ybaf.ntmps33
    go_wp2
    go_ret
    exact ⟨_, rfl, World.ownsRow_nil _ _ _ _, Below.refl _ _⟩
  | some a =>
    obtain ⟨v', w', hr, o', hb⟩ := run_clone 24 i0 _ Ybaf.underlying37 hi0 hz0 hz1 hz2 rfl (by decide) a es.length c (entCells es) (entCells_length es) w (ent_cell hat) (entCells_one es) (by omega) (by unfold maxLen; omega) 37
    have hq := eq_nil Ybaf.underlying37 (some a) es.length c
    simp only [Option.isNone] at hq
    go_enter Ybaf.func33, Ybaf.ntmps33
    go_wp2_with (at_builtin; refine Lib.wpList_append_run _ rfl _ _ _ _ rfl _ _ rfl rfl _ _ hr ?_)
    go_ret
    exact ⟨_, rfl, o', hb⟩

set_option maxHeartbeats 2000000 in
set_option maxRecDepth 100000 in
/-- Stamp.clone. -/
theorem clone_any (ea : Option Addr) (c : Nat) (es : List (Nat × Nat)) (w : World) (hl : es.length ≤ 1000) (hat : EntAt w ea es) :
    Calls Ybaf.prog 21 #[.agg #[.slice ea es.length c]] w fun e w' => ∃ v', e = .returned (.agg #[v']) ∧ w'.ownsRow w.heap.size 39 2 v' es.length (entCells es) ∧ Below w.heap.size w w' := by
  have hb0 : Below w.heap.size w ((w.alloc (.cells #[.slice ea es.length c] 44)).alloc (.cells #[.slice none 0 0] 44)) := ((Below.refl _ w).alloc (Nat.le_refl _) _).alloc (by simp) _
  have CE := clone_ents ea c es ((w.alloc (.cells #[.slice ea es.length c] 44)).alloc (.cells #[.slice none 0 0] 44)) hl (hat.below hb0)
  have HC : Hid _ := CE
  clear CE hat
  go_enter Ybaf.func21, Ybaf.ntmps21
  go_wp2_with fail
  go_at_call 33
  refine Calls.mono HC.out ?_
  rintro e w1 ⟨v', rfl, o', hb⟩
  have bx0 : Boxed ((w.alloc (.cells #[.slice ea es.length c] 44)).alloc (.cells #[.slice none 0 0] 44)) (w.heap.size + 1) 44 (.slice none 0 0) := by
    have := Boxed.new (w.alloc (.cells #[.slice ea es.length c] 44)) 44 (.slice none 0 0)
    rwa [World.size_alloc] at this
  have bx : Boxed w1 (w.heap.size + 1) 44 (.slice none 0 0) := (hb.block (w.heap.size + 1) (by simp)).trans bx0
  have bc := bx.cell
  have bf := bx.frozen
  have HO : Hid (w1.ownsRow w.heap.size 39 2 v' es.length (entCells es) ∧ Below w.heap.size w w1 ∧ Boxed w1 (w.heap.size + 1) 44 (.slice none 0 0)) := ⟨own_le o' (by simp; omega), hb0.trans (hb.mono (by simp; omega)), bx⟩
  obtain ⟨pa, cp, rfl, _⟩ := own_ents o'
  clear o' hb bx bx0 hb0
  go_wp2
  have hset := Boxed.set (.slice pa es.length cp) HO.out.2.2
  have hsc := hset.cell
  refine bodyPost_ret (v := .agg #[.slice pa es.length cp]) (by simp [results, Ybaf.f21, go_sem, hsc]) rfl ⟨_, rfl, ?_, ?_⟩
  · exact HO.out.1.kept (grownBy_setCell' w1 (w.heap.size + 1) _) (.inr (HO.out.2.2.not_row (by decide) HO.out.1).symm)
  · exact HO.out.2.1.setCell (by simp) _
end Go.Proofs.YbulkcrtgFmt
