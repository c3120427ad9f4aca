/-
  What lies where: laws of no program, and the byte appends of this dump: what a byte append may turn are rows of bytes.
-/
import Derived.Test.YbulkcryqShelf
import Derived.Test.YbulkcryqPlain
import Derived.Test.YbulkcryqRows
import Derived.WalkKit
import Derived.Laws.AppendOwnNone
import Derived.RangeFuncBox
import Derived.Lib.EndianMore
namespace Go.Proofs.Ybulkcryq
open Go Go.RowKit

/-- Whatever is no row of bytes lies as it lay. -/
def Keeps5 (w w' : World) : Prop := ∀ (k : Nat) (o : Obj), w.heap[k]? = some o → (∀ cs fr, o ≠ Obj.cells cs 5 fr) → w'.heap[k]? = some o
theorem Keeps5.refl (w : World) : Keeps5 w w := fun _ _ h _ => h
theorem Keeps5.trans {a b c : World} (h : Keeps5 a b) (k : Keeps5 b c) : Keeps5 a c := fun i o hi ho => k i o (h i o hi ho) ho
theorem Keeps5.alloc (w : World) (o : Obj) : Keeps5 w (w.alloc o) := fun k _ hk _ => (Below.heap_alloc w o k (lt_of_block hk)).trans hk
theorem Keeps5.drew (w : World) : Keeps5 w w.drew := fun _ _ h _ => h
theorem Keeps5.below {w w' : World} (h : Below w.heap.size w w') : Keeps5 w w' := fun k _ hk _ => (h.block k (lt_of_block hk)).trans hk
theorem Keeps5.grown {w w' : World} {base size n : Nat} {v : Value} {xs : List Value} (ho : w.ownsRow base 5 size v n xs) (hg : w.grownBy w' v.ownBlock) : Keeps5 w w' := fun k o hk hne => by
  refine (hg.block k (lt_of_block hk) fun e => ?_).trans hk
  rcases ho.2 with ⟨rfl, _⟩ | ⟨g, cap, cur, rfl, _, hg', _⟩
  · simp [Value.ownBlock] at e
  · simp only [Value.ownBlock, Option.some.injEq] at e
    subst e
    rw [hk] at hg'
    exact hne cur (0, 0) (by simpa using hg')
theorem Keeps5.boxed {w w' : World} (h : Keeps5 w w') {b : Nat} {t : TypeId} {v : Value} (hb : Boxed w b t v) (ht : t ≠ 5) : Boxed w' b t v := h b _ hb (fun cs fr e => ht (by simpa using (congrArg (fun | .cells _ t _ => t | _ => 0) e)))
theorem Keeps5.cells {w w' : World} (h : Keeps5 w w') {b : Nat} {t : TypeId} {cs : Array Value} (hb : w.heap[b]? = some (.cells cs t (0, 0))) (ht : t ≠ 5) : w'.heap[b]? = some (.cells cs t (0, 0)) := h b _ hb (fun cs fr e => ht (by simpa using (congrArg (fun | .cells _ t _ => t | _ => 0) e)))

theorem own_form {w : World} {base : Nat} {e : TypeId} {size n : Nat} {v : Value} {xs : List Value} (h : w.ownsRow base e size v n xs) (hn : 0 < n) :
    ∃ g cap, v = .slice (some ⟨g, 0, none⟩) n cap ∧ base ≤ g ∧ n ≤ cap ∧ g < w.heap.size := by
  rcases h.2 with ⟨_, h0⟩ | ⟨g, cap, cur, h', hb, hg, hnc, _⟩
  · omega
  · exact ⟨g, cap, h', hb, hnc, (Array.getElem?_eq_some_iff.1 hg).1⟩
theorem own_le {w : World} {base base' size n : Nat} {e : TypeId} {v : Value} {xs : List Value} (h : w.ownsRow base e size v n xs) (hb : base' ≤ base) : w.ownsRow base' e size v n xs :=
  ⟨h.1, h.2.elim Or.inl (fun ⟨g, cap, cur, hv, hg, r⟩ => Or.inr ⟨g, cap, cur, hv, Nat.le_trans hb hg, r⟩)⟩
theorem own_cast {w : World} {base size n n' : Nat} {e : TypeId} {v : Value} {xs xs' : List Value} (h : w.ownsRow base e size v n xs) (hn : n = n') (hx : xs = xs') : w.ownsRow base e size v n' xs' := by subst hn; subst hx; exact h
theorem byteCells_length (l : List UInt8) : (Lib.byteCells l).length = l.length := by simp [Lib.byteCells]
theorem byteCells_append (a b : List UInt8) : Lib.byteCells (a ++ b) = Lib.byteCells a ++ Lib.byteCells b := by simp [Lib.byteCells]

theorem Yba.info5 : (Yba.prog.info? 5).map (fun i => (i.zero, i.size, i.bytes)) = some (some (.int .u8 0), 1, 1) := by kernel_rfl
theorem Yba.info28 : (Yba.prog.info? 28).map (fun i => (i.zero, i.size, i.bytes)) = some (some (.agg #[.int .i32 0, .int .i32 0]), 2, 8) := by kernel_rfl

set_option maxHeartbeats 8000000 in
set_option maxRecDepth 100000 in
/-- binary.AppendUvarint onto a row of the caller's own. -/
theorem append_uvarint (B n x : Nat) (hx : x < 18446744073709551616) (sv : Value) (xs : List Value) (w : World) (hown : w.ownsRow B 5 1 sv n xs) (hBw : B ≤ w.heap.size) (hlim : n + 10 ≤ 140737488355328) :
    Calls Yba.prog 16 #[sv, .int .u64 x] w fun e w' => ∃ v', e = .returned v' ∧ w'.ownsRow B 5 1 v' (n + (Lib.uvarint x).length) (xs ++ Lib.byteCells (Lib.uvarint x)) ∧ Below B w w' ∧ Keeps5 w w' := by
  obtain ⟨i0, hi, hz0, hz1, hz2⟩ := info_parts Yba.info5
  have hlen := Lib.uvarint_length64 hx
  go_enter Yba.func16, Yba.ntmps16
  go_wp2
  go_loopw [0, 1] (fun vb vx wr => ∃ (y : Nat) (pre : List UInt8), vx = .int .u64 y ∧ y ≤ x ∧ Lib.uvarint x = pre ++ Lib.uvarint y ∧ wr.ownsRow B 5 1 vb (n + pre.length) (xs ++ Lib.byteCells pre) ∧ Below B w wr ∧ Keeps5 w wr)
    (fun _ vx _ => (intOf vx).toNat)
  case atStart => exact ⟨x, [], rfl, Nat.le_refl _, rfl, by simpa [Lib.byteCells] using hown, Below.refl _ _, Keeps5.refl _⟩
  case round =>
    obtain ⟨y, pre, rfl, hy, hsplit, hown1, hnx, hk5⟩ := hrel
    have hpl : pre.length + (Lib.uvarint y).length ≤ 10 := by
      have h2 := congrArg List.length hsplit
      rw [List.length_append] at h2
      omega
    have hyp := Lib.uvarint_pos y
    by_cases h128 : 128 ≤ y
    · have hor : bits .or .u8 ((y : Int) % 256) 128 = ((y % 128 + 128 : Nat) : Int) := by
        rw [Lib.u8_or128_any _ (by omega) (by omega)]
        omega
      go_wp2_with (at_builtin; refine wpList_append_own _ rfl _ _ 29 rfl B 5 i0 (.int .u8 0) 1 1 Yba.underlying29 hi hz0 hz1 hz2 rfl (by decide) _ _ _ rfl (hown1.alloc _) ⟨wr.heap.size, 0, none⟩ 1 1 [Value.int .u8 ((y % 128 + 128 : Nat) : Int)] rfl rfl ?c1 ?c2 ?c3 ?c4 ?c5 ?_)
      case c1 =>
        intro j u hj
        match j, hj with
        | 0, hj => simp at hj; subst hj; simp [Addr.add]
      case c2 => intro u hu; simp at hu; subst hu; rfl
      case c3 => unfold maxLen; omega
      case c4 => omega
      case c5 => have := hnx.size; simp; omega
      intro v' w1 hown' hgrow _
      have hnx1 : Below B w w1 := (hnx.alloc (by have := hnx.size; omega) _).grown hgrow (by have := hnx.size; simp; omega) (fun k hk => (hown1.lt k hk).1)
      have hk1 : Keeps5 w w1 := (hk5.trans (Keeps5.alloc _ _)).trans (Keeps5.grown (hown1.alloc _) hgrow)
      clear hk5
      go_wp2
      go_roundw
      case rel =>
        refine ⟨y / 128, pre ++ [(y % 128 + 128).toUInt8], by go_num, by omega, by rw [hsplit, Lib.uvarint_big h128]; simp, ?_, hnx1, hk1⟩
        have ec : ((y % 128 + 128 : Nat) : Int) = (y : Int) % 128 + 128 := by omega
        rw [Lib.byteCells_snoc pre (by omega), List.length_append, List.length_singleton, ← Nat.add_assoc, ec]
        exact hown'
      case measure => simp [intOf]; omega
    · have hsm : Lib.uvarint y = [y.toUInt8] := Lib.uvarint_small (by omega)
      go_wp2_with (at_builtin; refine wpList_append_own _ rfl _ _ 29 rfl B 5 i0 (.int .u8 0) 1 1 Yba.underlying29 hi hz0 hz1 hz2 rfl (by decide) _ _ _ rfl (hown1.alloc _) ⟨wr.heap.size, 0, none⟩ 1 1 [Value.int .u8 (y : Int)] rfl rfl ?c1 ?c2 ?c3 ?c4 ?c5 ?_)
      case c1 =>
        intro j u hj
        match j, hj with
        | 0, hj => simp at hj; subst hj; simp [Addr.add]
      case c2 => intro u hu; simp at hu; subst hu; rfl
      case c3 => unfold maxLen; omega
      case c4 => omega
      case c5 => have := hnx.size; simp; omega
      intro v' w1 hown' hgrow _
      have hnx1 : Below B w w1 := (hnx.alloc (by have := hnx.size; omega) _).grown hgrow (by have := hnx.size; simp; omega) (fun k hk => (hown1.lt k hk).1)
      have hk1 : Keeps5 w w1 := (hk5.trans (Keeps5.alloc _ _)).trans (Keeps5.grown (hown1.alloc _) hgrow)
      clear hk5
      go_wp2
      go_ret
      refine ⟨v', rfl, ?_, hnx1, hk1⟩
      rw [hsplit, hsm, Lib.byteCells_snoc pre (by omega), List.length_append, List.length_singleton, ← Nat.add_assoc]
      exact hown'

/-- binary.AppendVarint onto a row of the caller's own. -/
theorem append_varint (B n : Nat) (x : Int) (h0 : -9223372036854775808 ≤ x) (h1 : x ≤ 9223372036854775807) (sv : Value) (xs : List Value) (w : World) (hown : w.ownsRow B 5 1 sv n xs) (hBw : B ≤ w.heap.size) (hlim : n + 10 ≤ 140737488355328) :
    Calls Yba.prog 11 #[sv, .int .i64 x] w fun e w' => ∃ v', e = .returned v' ∧ w'.ownsRow B 5 1 v' (n + (vi x).length) (xs ++ Lib.byteCells (vi x)) ∧ Below B w w' ∧ Keeps5 w w' := by
  have hU := append_uvarint B n (Lib.zigzag x) (Lib.zigzag_lt h0 h1) sv xs w hown hBw hlim
  by_cases hneg : x < 0
  · rw [← Lib.zigzag_neg h0 hneg] at hU
    go_enter Yba.func11, Yba.ntmps11
    go_wp2_with (go_at_call 16; refine hU.mono ?_; rintro e w1 ⟨v', rfl, ho, hb⟩)
    go_wp2
    go_ret
    exact ⟨v', rfl, ho, hb⟩
  · rw [Lib.zigzag_nonneg (by omega)] at hU
    go_enter Yba.func11, Yba.ntmps11
    go_wp2_with (go_at_call 16; refine hU.mono ?_; rintro e w1 ⟨v', rfl, ho, hb⟩)
    go_wp2
    go_ret
    exact ⟨v', rfl, ho, hb⟩
end Go.Proofs.Ybulkcryq
