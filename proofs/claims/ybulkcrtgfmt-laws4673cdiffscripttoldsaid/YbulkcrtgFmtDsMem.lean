/-
  What lies where: laws of no program, for the texts on LawS4673CDiffScript.
-/
import Derived.Test.YbulkcrtgFmtRows
import Derived.WalkKit
import Derived.Below
import Derived.Laws.AppendOwn
import Derived.Laws.OwnMore
import Derived.Laws.IdiomCopy
import Derived.Laws.MakeOwn
import Derived.RangeFuncBox
import Derived.Lib.Bytes
import Derived.Lib.Endian
import Derived.Lib.EndianMore
import Derived.Lib.Varint
import Derived.Lib.VarintMem
import Derived.Deep.AppendLies
namespace Go.Proofs.YbulkcrtgFmt
open Go Go.RowKit

theorem own_form {w : World} {base : Nat} {e : TypeId} {size n : Nat} {v : Value} {xs : List Value} (h : w.ownsRow base e size v n xs) (hn : 0 < n) :
    ∃ g cap, v = .slice (some ⟨g, 0, none⟩) n cap ∧ base ≤ g ∧ n ≤ cap ∧ g < w.heap.size := by
  rcases h.2 with ⟨_, h0⟩ | ⟨g, cap, cur, h', hb, hg, hnc, _⟩
  · omega
  · exact ⟨g, cap, h', hb, hnc, (Array.getElem?_eq_some_iff.1 hg).1⟩
theorem own_le {w : World} {base base' size n : Nat} {e : TypeId} {v : Value} {xs : List Value} (h : w.ownsRow base e size v n xs) (hb : base' ≤ base) : w.ownsRow base' e size v n xs :=
  ⟨h.1, h.2.elim Or.inl (fun ⟨g, cap, cur, hv, hg, r⟩ => Or.inr ⟨g, cap, cur, hv, Nat.le_trans hb hg, r⟩)⟩
theorem own_cast {w : World} {base size n n' : Nat} {e : TypeId} {v : Value} {xs xs' : List Value} (h : w.ownsRow base e size v n xs) (hn : n = n') (hx : xs = xs') : w.ownsRow base e size v n' xs' := by subst hn; subst hx; exact h
theorem byteCells_length (l : List UInt8) : (Lib.byteCells l).length = l.length := by simp [Lib.byteCells]
theorem byteCells_append (a b : List UInt8) : Lib.byteCells (a ++ b) = Lib.byteCells a ++ Lib.byteCells b := by simp [Lib.byteCells]
theorem own_setCells {base : Nat} {e : TypeId} {size n g cap : Nat} : ∀ (vs : List Value) (o : Nat) (w : World) (xs : List Value), w.ownsRow base e size (.slice (some ⟨g, 0, none⟩) n cap) n xs → o + vs.length ≤ xs.length →
    (w.setCells g o vs).ownsRow base e size (.slice (some ⟨g, 0, none⟩) n cap) n (xs.take o ++ vs ++ xs.drop (o + vs.length))
  | [], o, w, xs, h, _ => by simpa [World.setCells] using h
  | v :: vs, o, w, xs, h, hl => by
    have h1 := (h.stored o v).1
    have hl' : o + 1 + vs.length ≤ (xs.set o v).length := by simp at hl ⊢; omega
    have h2 := own_setCells vs (o + 1) (w.setCell ⟨g, o, none⟩ v) (xs.set o v) h1 hl'
    have e1 : (xs.set o v).take (o + 1) ++ vs ++ (xs.set o v).drop (o + 1 + vs.length) = xs.take o ++ v :: vs ++ xs.drop (o + (v :: vs).length) := by
      simp only [List.length_cons] at hl
      rw [List.drop_set_of_lt (by omega), List.take_set, List.take_succ_eq_append_getElem (by omega)]
      rw [List.set_append_right _ _ (by rw [List.length_take]; exact Nat.min_le_left _ _)]
      simp [Nat.min_eq_left (by omega : o ≤ xs.length), Nat.add_comm, Nat.add_left_comm]
    rw [e1] at h2
    exact h2
theorem grown_setCells (g : Nat) : ∀ (vs : List Value) (o : Nat) (w : World), w.grownBy (w.setCells g o vs) (some g)
  | [], _, w => World.grownBy.refl w _
  | v :: vs, o, w => by
    have h := grown_setCells g vs (o + 1) (w.setCell ⟨g, o, none⟩ v)
    exact ⟨h.os, h.tape, h.output, by have := h.size; simp only [World.size_setCell] at this; exact this, fun k hk hne => (h.block k (by simpa using hk) hne).trans (heap_setCell_other w ⟨g, o, none⟩ k v (fun e => hne (by simp [e])))⟩
theorem grown_trans {a b c : World} {row : Option Nat} (h : a.grownBy b row) (k : b.grownBy c row) : a.grownBy c row :=
  ⟨k.os.trans h.os, k.tape.trans h.tape, k.output.trans h.output, Nat.le_trans h.size k.size, fun i hi hne => (k.block i (Nat.lt_of_lt_of_le hi h.size) hne).trans (h.block i hi hne)⟩
theorem grown_of_below {a b : World} (row : Option Nat) (h : Below a.heap.size a b) : a.grownBy b row :=
  ⟨h.os, h.tape, h.output, h.size, fun i hi _ => h.block i hi⟩
structure KeptB (N : Nat) (S : Nat → Prop) (w w' : World) : Prop where
  os : w'.os = w.os
  output : w'.output = w.output
  size : w.heap.size ≤ w'.heap.size
  block : ∀ k, k < N → ¬ S k → w'.heap[k]? = w.heap[k]?
theorem KeptB.refl (N : Nat) (S : Nat → Prop) (w : World) : KeptB N S w w := ⟨rfl, rfl, Nat.le_refl _, fun _ _ _ => rfl⟩
theorem KeptB.trans {N : Nat} {S : Nat → Prop} {a b c : World} (h : KeptB N S a b) (k : KeptB N S b c) : KeptB N S a c :=
  ⟨k.os.trans h.os, k.output.trans h.output, Nat.le_trans h.size k.size, fun i hi hs => (k.block i hi hs).trans (h.block i hi hs)⟩
theorem KeptB.mono {N N' : Nat} {S S' : Nat → Prop} {a b : World} (h : KeptB N S a b) (hN : N' ≤ N) (hS : ∀ k, k < N' → S k → S' k) : KeptB N' S' a b :=
  ⟨h.os, h.output, h.size, fun i hi hs => h.block i (by omega) (fun x => hs (hS i hi x))⟩
theorem KeptB.below {N : Nat} {S : Nat → Prop} {a b : World} (h : Below N a b) : KeptB N S a b := ⟨h.os, h.output, h.size, fun i hi _ => h.block i hi⟩
theorem KeptB.grown {N : Nat} {S : Nat → Prop} {a b : World} {row : Option Nat} (h : a.grownBy b row) (hN : N ≤ a.heap.size) (hr : ∀ k, row = some k → k < N → S k) : KeptB N S a b :=
  ⟨h.os, h.output, h.size, fun i hi hs => h.block i (by omega) (fun e => hs (hr i e.symm hi))⟩
theorem KeptB.alloc {N : Nat} {S : Nat → Prop} {a : World} (o : Obj) (hN : N ≤ a.heap.size) : KeptB N S a (a.alloc o) := KeptB.grown (World.grownBy_alloc a o none) hN (fun _ e => by cases e)
theorem KeptB.drew {N : Nat} {S : Nat → Prop} (a : World) : KeptB N S a a.drew := ⟨rfl, rfl, Nat.le_refl _, fun _ _ _ => rfl⟩
theorem KeptB.setCell {N : Nat} {S : Nat → Prop} (a : World) (b o : Nat) (v : Value) (hb : b < N → S b) : KeptB N S a (a.setCell ⟨b, o, none⟩ v) :=
  ⟨rfl, rfl, by simp [World.setCell], fun i hi hs => Below.heap_setCell _ _ _ _ (fun e => hs (by cases e; exact hb hi))⟩
theorem KeptB.boxed {N : Nat} {S : Nat → Prop} {a b : World} (h : KeptB N S a b) {k : Nat} {t : TypeId} {v : Value} (hb : Boxed a k t v) (hk : k < N) (hs : ¬ S k) : Boxed b k t v := (h.block k hk hs).trans hb
theorem KeptB.cell {N : Nat} {S : Nat → Prop} {a b : World} (h : KeptB N S a b) {p : Addr} {v : Value} (hc : a.cell? p = some v) (hk : p.block < N) (hs : ¬ S p.block) : b.cell? p = some v := (World.cell?_of_block (h.block _ hk hs)).trans hc
theorem KeptB.own {N : Nat} {S : Nat → Prop} {a b : World} (h : KeptB N S a b) {base size n : Nat} {e : TypeId} {v : Value} {xs : List Value} (ho : a.ownsRow base e size v n xs) (hk : ∀ k, v.ownBlock = some k → k < N ∧ ¬ S k) : b.ownsRow base e size v n xs := by
  refine ⟨ho.1, ?_⟩
  rcases ho.2 with hn | ⟨g, cap, cur, rfl, hb, hgg, rest⟩
  · exact .inl hn
  · exact .inr ⟨g, cap, cur, rfl, hb, (h.block g (hk g rfl).1 (hk g rfl).2).trans hgg, rest⟩
theorem Boxed.ne {w : World} {a b : Nat} {s t : TypeId} {u v : Value} (ha : Boxed w a s u) (hb : Boxed w b t v) (h : s ≠ t) : a ≠ b := fun e => by
  subst e
  have := ha.symm.trans hb
  simp at this
  exact h this.2
def BytesFrom (w : World) (g o : Nat) (l : List UInt8) : Prop := ∀ j (hj : j < l.length), w.cell? ⟨g, o + j, none⟩ = some (.int .u8 (l[j]).toNat)
theorem BytesFrom.drop {w : World} {g o : Nat} {a b : List UInt8} (h : BytesFrom w g o (a ++ b)) : BytesFrom w g (o + a.length) b := fun j hj => by
  have := h (a.length + j) (by simp; omega)
  rw [← Nat.add_assoc] at this
  simpa using this
theorem BytesFrom.take {w : World} {g o : Nat} {a b : List UInt8} (h : BytesFrom w g o (a ++ b)) : BytesFrom w g o a := fun j hj => by
  have := h j (by simp; omega)
  rw [this, List.getElem_append_left hj]
theorem BytesFrom.block {w w' : World} {g o : Nat} {l : List UInt8} (h : BytesFrom w g o l) (hb : w'.heap[g]? = w.heap[g]?) : BytesFrom w' g o l := fun j hj => (World.cell?_of_block (a := ⟨g, o + j, none⟩) hb).trans (h j hj)
theorem byteCells_take (l : List UInt8) (n : Nat) : (Lib.byteCells l).take n = Lib.byteCells (l.take n) := by simp [Lib.byteCells]
theorem byteCells_drop (l : List UInt8) (n : Nat) : (Lib.byteCells l).drop n = Lib.byteCells (l.drop n) := by simp [Lib.byteCells]
theorem byteCells_one (l : List UInt8) : ∀ u ∈ Lib.byteCells l, u.oneCell' = true := by
  intro u hu
  simp only [Lib.byteCells, List.mem_map] at hu
  obtain ⟨x, _, rfl⟩ := hu
  rfl
theorem byteCells_get {l : List UInt8} {j : Nat} {v : Value} (h : (Lib.byteCells l)[j]? = some v) : ∃ hj : j < l.length, v = .int .u8 (l[j]).toNat := by
  have hj : j < l.length := by
    have := (List.getElem?_eq_some_iff.1 h).1
    rwa [byteCells_length] at this
  refine ⟨hj, ?_⟩
  simp only [Lib.byteCells, List.getElem?_map, List.getElem?_eq_getElem hj, Option.map_some, Option.some.injEq] at h
  exact h.symm
theorem bytes_news {w : World} {g o : Nat} {l : List UInt8} (h : BytesFrom w g o l) : ∀ j v, (Lib.byteCells l)[j]? = some v → w.cell? ((⟨g, o, none⟩ : Addr).add j) = some v := fun j v hj => by
  obtain ⟨hl, rfl⟩ := byteCells_get hj
  rw [Addr.add_lit]
  exact h j hl
theorem own_bytes {w : World} {base : Nat} {v : Value} {l : List UInt8} (h : w.ownsRow base 5 1 v l.length (Lib.byteCells l)) : ∃ p cap, v = .slice p l.length cap ∧ (l ≠ [] → ∃ g o, p = some ⟨g, o, none⟩ ∧ BytesFrom w g o l) := by
  rcases h.2 with ⟨rfl, h0⟩ | ⟨g, cap, cur, rfl, _, hg, hnc, _, _, htk⟩
  · rw [h0]
    exact ⟨none, 0, rfl, fun hne => absurd (List.length_eq_zero_iff.1 h0) hne⟩
  · refine ⟨_, cap, rfl, fun _ => ⟨g, 0, rfl, fun j hj => ?_⟩⟩
    rw [Nat.zero_add, h.cellAt j (by omega)]
    simp [Lib.byteCells, hj]
/-- A row that has grown: what lay below lies as it lay but for the old row; the new row is the old one or new memory. -/
structure Grew (w : World) (sv : Value) (w' : World) (v' : Value) : Prop where
  kept : KeptB w.heap.size (fun k => some k = sv.ownBlock) w w'
  lies : ∀ k, v'.ownBlock = some k → sv.ownBlock = some k ∨ w.heap.size ≤ k
theorem Grew.refl (w : World) (sv : Value) : Grew w sv w sv := ⟨KeptB.refl _ _ _, fun _ h => .inl h⟩
theorem Grew.trans {w w1 w2 : World} {sv v1 v2 : Value} (h : Grew w sv w1 v1) (k : Grew w1 v1 w2 v2) : Grew w sv w2 v2 := by
  have hs := h.kept.size
  refine ⟨h.kept.trans (k.kept.mono hs (fun i hi e => ?_)), fun i hi => ?_⟩
  · rcases h.lies i e.symm with e' | e'
    · exact e'.symm
    · omega
  · rcases k.lies i hi with e | e
    · exact h.lies i e
    · exact .inr (by omega)
theorem Grew.pre {w w1 w2 : World} {sv v2 : Value} (h : KeptB w.heap.size (fun _ => False) w w1) (k : Grew w1 sv w2 v2) (hs : ∀ b, sv.ownBlock = some b → b < w1.heap.size) : Grew w sv w2 v2 := by
  have _ := hs
  refine ⟨(h.mono (Nat.le_refl _) (fun _ _ h => h.elim)).trans (k.kept.mono h.size (fun _ _ e => e)), fun i hi => ?_⟩
  rcases k.lies i hi with e | e
  · exact .inl e
  · exact .inr (by have := h.size; omega)
theorem Grew.of {w w1 : World} {v : Value} {g n cap : Nat} (hg : w.grownBy w1 v.ownBlock) (hl : v.ownBlock = some g ∨ g = w.heap.size) : Grew w v w1 (.slice (some ⟨g, 0, none⟩) n cap) := by
  refine ⟨KeptB.grown hg (Nat.le_refl _) (fun k e _ => e.symm), fun k e => ?_⟩
  simp only [Value.ownBlock, Option.some.injEq] at e
  subst e
  rcases hl with h | h
  · exact .inl h
  · exact .inr (by omega)
end Go.Proofs.YbulkcrtgFmt
