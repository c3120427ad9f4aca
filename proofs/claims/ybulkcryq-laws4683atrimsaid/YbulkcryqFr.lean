/-
  trimFront (7): the names that its walk is told by; the loop's assignment and body taken out of the function as it is loaded.
-/
import Derived.Test.YbulkcryqInv
namespace Go.Proofs.Ybulkcryq
open Go Go.RowKit Go.Shelf

/-- The world as trimFront finds it: the list's block, the closures' boxes, the packed row. -/
structure FrontIn (M Lb klb kkb kpb tlb shb g cap : Nat) (ka : Option Addr) (kc : Nat) (ks : List Bool) (sh : Int) (cb : List (Int × Int)) (cl : Int × Int) (w : World) : Prop where
  list : Boxed w Lb 32 (.slice (some ⟨g, 0, none⟩) ((packB cb).length + 8) cap)
  klog : Boxed w klb 24 (.slice none 0 0)
  kcnt : Boxed w kkb 3 (.int .i64 0)
  keeps : Boxed w kpb 23 (.slice ka ks.length kc)
  tlog : Boxed w tlb 24 (.slice none 0 0)
  shift : Boxed w shb 21 (.int .i32 sh)
  bools : BoolsAt M w ka ks
  row : w.ownsRow M 5 1 (.slice (some ⟨g, 0, none⟩) ((packB cb).length + 8) cap) ((packB cb).length + 8) (Lib.byteCells (packB cb ++ lastB cl))
  ok : ∀ c ∈ cb ++ [cl], Ok c
  len : cb.length ≤ 300
  mL : M ≤ Lb
  mK : M ≤ klb
  mC : M ≤ kkb
  mT : M ≤ tlb
  ne : klb ≠ tlb
/-- How the call ends, in plain words: none is kept, and all go; or chain j is the first kept. -/
def Res (cs : List (Int × Int)) (ks : List Bool) (sh : Int) (kl tl : List (Int × Int)) (pk : List UInt8) : Prop :=
  ((∀ j, j < cs.length → (ks[j]?).getD false = false) ∧ kl = cs ∧ tl = [] ∧ pk = []) ∨
  ∃ j c, cs[j]? = some c ∧ (∀ j', j' < j → (ks[j']?).getD false = false) ∧ (ks[j]?).getD false = true ∧ kl = cs.take (j + 1) ∧ tl = [c] ∧ pk = encode ((wrap32 (c.1 + sh), c.2) :: cs.drop (j + 1))

/-- trimFront's frame where its loop stands: four slots vary. -/
def frame7 (Lb klb kkb kpb tlb shb H g N cap : Nat) (s8 s9 s35 s36 : Value) : Array Value :=
  #[.pointer (some ⟨Lb, 0, none⟩), .func (.func 5) #[] #[.pointer (some ⟨klb, 0, none⟩), .pointer (some ⟨kkb, 0, none⟩), .pointer (some ⟨kpb, 0, none⟩)], .func (.func 6) #[] #[.pointer (some ⟨tlb, 0, none⟩), .pointer (some ⟨shb, 0, none⟩)], .pointer (some ⟨H, 0, none⟩), .pointer (some ⟨H + 1, 0, none⟩), .pointer (some ⟨H + 1 + 1, 0, none⟩), .pointer (some ⟨H + 3, 0, none⟩), .pointer (some ⟨H + 3 + 1, 0, none⟩), s8, s9, undef, undef, undef, undef, undef, undef, .pointer (some ⟨Lb, 0, none⟩), .pointer (some ⟨Lb, 0, none⟩), .pointer (some ⟨Lb, 0, none⟩), .slice (some ⟨g, 0, none⟩) (N + 8) cap, .int .i64 ((N : Int) + 8), .bool false, .pointer (some ⟨Lb, 0, none⟩), .pointer (some ⟨Lb, 0, none⟩), .pointer (some ⟨Lb, 0, none⟩), .slice (some ⟨g, 0, none⟩) (N + 8) cap, .pointer (some ⟨Lb, 0, none⟩), .pointer (some ⟨Lb, 0, none⟩), .pointer (some ⟨Lb, 0, none⟩), .slice (some ⟨g, 0, none⟩) (N + 8) cap, .int .i64 ((N : Int) + 8), .int .i64 (N : Int), .slice (some ⟨g, 0, none⟩) N cap, .slice (some ⟨g, 0, none⟩) N cap, .func (.func 17) #[] #[.pointer (some ⟨H + 5, 0, none⟩)], s35, s36, undef, undef, undef, undef, undef, undef, undef, undef, undef, undef, undef, undef, undef, undef, undef, undef, undef, undef, undef, undef, undef, undef, undef, undef, undef, undef, undef, undef, undef, undef, undef, undef, undef, undef, undef, undef, undef, undef, undef, undef, undef, undef, undef, undef, undef, undef, undef, undef, undef, undef, undef, undef, undef, undef, undef, undef, undef, undef, undef, undef, undef, undef, undef, undef, undef, undef, undef, undef, undef, undef, undef, undef, undef, undef, undef, undef, undef, undef, undef, undef, undef, undef, undef, undef, undef, undef, undef, undef, undef, undef, undef, undef, undef, undef, undef, undef, undef, undef, undef, undef, undef, undef, undef, undef, undef, undef]


/-- The first range over a function in a code: its assignment and its body. -/
def rangeIn : Code → Option (Code × Code)
  | .seq a b => match rangeIn a with | some x => some x | none => rangeIn b
  | .cond _ a b => match rangeIn a with | some x => some x | none => rangeIn b
  | .block _ a => rangeIn a
  | .scope a => rangeIn a
  | .loop a => rangeIn a
  | .rangeFunc _ _ ac bd => some (ac, bd)
  | _ => none
theorem own_from {w : World} {B g n cap : Nat} {l : List UInt8} (h : w.ownsRow B 5 1 (.slice (some ⟨g, 0, none⟩) n cap) n (Lib.byteCells l)) : BytesFrom w g 0 l := fun j hj => by
  have hl := h.1
  rw [byteCells_length] at hl
  rw [Nat.zero_add, h.cellAt j (by omega)]
  simp [Lib.byteCells, hj]
/-- The frame of a round: behind the assignment. -/
def roundFrame (Lb klb kkb kpb tlb shb H g N cap : Nat) (cb : List (Int × Int)) (i bx : Nat) : Array Value :=
  frame7 Lb klb kkb kpb tlb shb H g N cap (.pointer (some ⟨bx, 0, none⟩)) (.slice (some ⟨g, offOf cb i, none⟩) ((packB cb).length - offOf cb i) (cap - offOf cb i)) (.agg #[.int .i32 (chainOf cb i).1, .int .i32 (chainOf cb i).2]) (.slice (some ⟨g, offOf cb i, none⟩) ((packB cb).length - offOf cb i) (cap - offOf cb i))
def Ax7 (Lb klb kkb kpb tlb shb H g N cap : Nat) (cb : List (Int × Int)) (i : Nat) (a' : Act) (W : World) : Prop :=
  ∃ bx, H + 8 ≤ bx ∧ W.heap[bx]? = some (.cells #[.int .i32 (chainOf cb i).1, .int .i32 (chainOf cb i).2] 28 (0, 0)) ∧ (∀ klv, Boxed W klb 24 klv → klv.ownBlock ≠ some bx) ∧
    a' = { tmps := roundFrame Lb klb kkb kpb tlb shb H g N cap cb i bx, defers := [] }
def Ix7 (H Lb klb kkb tlb g : Nat) (ks : List Bool) (sh : Int) (cs : List (Int × Int)) (w W : World) : Prop :=
  H ≤ W.heap.size ∧ ∃ kl tl pk, Res cs ks sh kl tl pk ∧ Out H Lb klb kkb tlb g kl tl pk w W
end Go.Proofs.Ybulkcryq
