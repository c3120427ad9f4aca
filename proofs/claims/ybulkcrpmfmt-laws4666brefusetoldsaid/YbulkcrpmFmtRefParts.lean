/-
  PARTS FOR THE LAW 'Refuse': the parameters that the law builds, as plain data; how they lie in memory.
-/
import Derived.Test.YbulkcrpmFmtMem
import Derived.Test.YbulkcrpmFmtPlain
import Derived.Laws.BitsAllLaws
namespace Go.Proofs.YbulkcrpmFmt
open Go Go.RowKit

/-- The length of the value that the law builds for the size x. -/
def szOf (x : Nat) : Nat := if x &&& 16 = 0 then 16376 + x % 16 else 65516 + x % 16
def parOf (i x : Nat) : Nat × List UInt8 := (x, (i % 256).toUInt8 :: List.replicate (szOf x - 1) 0)
def parsOf (xs : List Nat) : List (Nat × List UInt8) := xs.mapIdx parOf
def badB (ps : List (Nat × List UInt8)) : Bool := ps.any fun p => decide (65528 < parLen p)

theorem szOf_bd (x : Nat) : 16376 ≤ szOf x ∧ szOf x ≤ 65531 := by unfold szOf; split <;> omega
theorem parOf_len (i x : Nat) : (parOf i x).2.length = szOf x := by
  have := szOf_bd x
  simp [parOf]; omega
theorem bodyOf_le (M : Nat) (ps : List (Nat × List UInt8)) (h : ∀ p ∈ ps, parLen p ≤ M) : (bodyOf ps).length ≤ ps.length * (M + 3) := by
  induction ps with
  | nil => simp [bodyOf]
  | cons p ps ih =>
    have h1 := ih (fun q hq => h q (List.mem_cons_of_mem _ hq))
    have h2 := h p List.mem_cons_self
    have h3 := parBytes_length p
    have h4 := pad_lt (parLen p)
    simp only [bodyOf, List.flatMap_cons, List.length_append, List.length_cons, Nat.add_mul, Nat.one_mul] at h1 ⊢
    omega
theorem and16 (x : Nat) : x &&& 16 = 0 ∨ x &&& 16 = 16 := by
  have h16 : ∀ i, Nat.testBit 16 i = decide (4 = i) := fun i => Nat.testBit_two_pow (n := 4) (m := i)
  cases hb : x.testBit 4
  · left
    apply Nat.eq_of_testBit_eq
    intro i
    rw [Nat.testBit_and, h16, Nat.zero_testBit]
    by_cases h : 4 = i
    · subst h; simp [hb]
    · simp [h]
  · right
    apply Nat.eq_of_testBit_eq
    intro i
    rw [Nat.testBit_and, h16]
    by_cases h : 4 = i
    · subst h; simp [hb]
    · simp [h]
theorem ways (x : Nat) : (x &&& 16 = 0 ∧ szOf x = 16376 + x % 16 ∧ decide (65528 < 4 + szOf x) = false ∧ 0 ≤ (x : Int) % 16) ∨ (x &&& 16 = 16 ∧ szOf x = 65516 + x % 16 ∧ decide (65528 < 4 + szOf x) = false ∧ (x : Int) % 16 ≤ 8) ∨ (x &&& 16 = 16 ∧ szOf x = 65516 + x % 16 ∧ decide (65528 < 4 + szOf x) = true ∧ 8 < (x : Int) % 16) := by
  rcases and16 x with h | h
  · have h1 : szOf x = 16376 + x % 16 := by simp [szOf, h]
    exact .inl ⟨h, h1, by simp [h1]; omega, by omega⟩
  · have h1 : szOf x = 65516 + x % 16 := by simp [szOf, h]
    by_cases hb : 65528 < 4 + szOf x
    · exact .inr (.inr ⟨h, h1, by simpa using hb, by omega⟩)
    · exact .inr (.inl ⟨h, h1, by simpa using hb, by omega⟩)
theorem parsOf_length (xs : List Nat) : (parsOf xs).length = xs.length := by simp [parsOf]
theorem parsOf_body_le (xs : List Nat) (k : Nat) (hk : k ≤ xs.length) : (bodyOf ((parsOf xs).take k)).length ≤ k * 65538 := by
  have h := bodyOf_le 65535 ((parsOf xs).take k) (fun p hp => by
    have hm := List.mem_of_mem_take hp
    simp only [parsOf, List.mem_mapIdx] at hm
    obtain ⟨i, hi, rfl⟩ := hm
    have := szOf_bd xs[i]
    rw [parLen, parOf_len]; omega)
  rw [List.length_take, parsOf_length, Nat.min_eq_left hk] at h
  exact h
theorem parsOf_tag {xs : List Nat} (hx : ∀ x ∈ xs, x < 65536) : ∀ p ∈ parsOf xs, p.1 < 65536 := by
  intro p hp
  simp only [parsOf, List.mem_mapIdx] at hp
  obtain ⟨i, hi, rfl⟩ := hp
  exact hx _ (List.getElem_mem hi)
theorem parsOf_len {xs : List Nat} : ∀ p ∈ parsOf xs, p.2.length ≤ 140737488355328 := by
  intro p hp
  simp only [parsOf, List.mem_mapIdx] at hp
  obtain ⟨i, hi, rfl⟩ := hp
  have := szOf_bd xs[i]
  rw [parOf_len]; omega
theorem tot_step {xs : List Nat} {k x : Nat} (h : xs[k]? = some x) : (bodyOf ((parsOf xs).take (k + 1))).length = (bodyOf ((parsOf xs).take k)).length + (4 + szOf x + pad (4 + szOf x)) := by
  have hp : (parsOf xs)[k]? = some (parOf k x) := by simp [parsOf, h]
  rw [take_snoc hp, bodyOf_snoc, List.length_append, parBytes_length, parLen, parOf_len]
theorem bad_step {xs : List Nat} {k x : Nat} (h : xs[k]? = some x) : badB ((parsOf xs).take (k + 1)) = (badB ((parsOf xs).take k) || decide (65528 < 4 + szOf x)) := by
  have hp : (parsOf xs)[k]? = some (parOf k x) := by simp [parsOf, h]
  rw [take_snoc hp]
  simp only [badB, List.any_append, List.any_cons, List.any_nil, Bool.or_false, parLen, parOf_len]
theorem parsOf_get {xs : List Nat} {k x : Nat} (h : xs[k]? = some x) : (parsOf xs)[k]? = some (parOf k x) := by simp [parsOf, h]
theorem badB_snoc (ps : List (Nat × List UInt8)) (p : Nat × List UInt8) : badB (ps ++ [p]) = (badB ps || decide (65528 < parLen p)) := by simp [badB]
theorem fits_iff (ps : List (Nat × List UInt8)) : Fits ps ↔ (badB ps = false ∧ 8 + (bodyOf ps).length ≤ 65536) := by
  unfold Fits badB
  rw [List.any_eq_false]
  simp

/-- The cells of the parameters' row: a tag and a slice over a block of its own. -/
def parCells (ps : List (Nat × List UInt8)) (gs : List Nat) : List Value :=
  (List.zipWith (fun p g => [Value.int .u16 p.1, .slice (some ⟨g, 0, none⟩) p.2.length p.2.length]) ps gs).flatten

theorem parCells_snoc (ps : List (Nat × List UInt8)) (gs : List Nat) (p : Nat × List UInt8) (g : Nat) (h : ps.length = gs.length) :
    parCells (ps ++ [p]) (gs ++ [g]) = parCells ps gs ++ [Value.int .u16 p.1, .slice (some ⟨g, 0, none⟩) p.2.length p.2.length] := by
  simp [parCells, List.zipWith_append h]

theorem parCells_at : ∀ (ps : List (Nat × List UInt8)) (gs : List Nat) (i : Nat) (p : Nat × List UInt8) (g : Nat), ps[i]? = some p → gs[i]? = some g →
    (parCells ps gs)[i * 2]? = some (.int .u16 p.1) ∧ (parCells ps gs)[i * 2 + 1]? = some (.slice (some ⟨g, 0, none⟩) p.2.length p.2.length)
  | [], _, i, p, g, h, _ => by simp at h
  | _ :: _, [], i, p, g, _, h => by simp at h
  | q :: ps, f :: gs, 0, p, g, h1, h2 => by
    simp at h1 h2
    subst h1 h2
    simp [parCells]
  | q :: ps, f :: gs, i + 1, p, g, h1, h2 => by
    simp only [List.getElem?_cons_succ] at h1 h2
    have h := parCells_at ps gs i p g h1 h2
    have e1 : (i + 1) * 2 = i * 2 + 1 + 1 := by omega
    have e2 : (i + 1) * 2 + 1 = i * 2 + 1 + 1 + 1 := by omega
    rw [e2, e1]
    simpa [parCells] using h

/-- The values lie in blocks of their own, whole. -/
def ValsAt (w : World) (ps : List (Nat × List UInt8)) (gs : List Nat) : Prop :=
  ∀ (i : Nat) (p : Nat × List UInt8) (g : Nat), ps[i]? = some p → gs[i]? = some g → w.heap[g]? = some (Obj.cells (Lib.byteCells p.2).toArray 5 (0, 0))

theorem ValsAt.grown {w w' : World} {row : Option Nat} {ps : List (Nat × List UInt8)} {gs : List Nat} (h : ValsAt w ps gs) (hg : w.grownBy w' row) (hne : ∀ g ∈ gs, some g ≠ row) : ValsAt w' ps gs :=
  fun i p g hp hi => grown_block hg (h i p g hp hi) (hne g (List.mem_of_getElem? hi))

theorem ValsAt.pars {w : World} {base gv n cap : Nat} {ps : List (Nat × List UInt8)} {gs : List Nat} (h : ValsAt w ps gs) (hl : gs.length = ps.length) (hn : ps.length = n)
    (ho : w.ownsRow base 46 2 (.slice (some ⟨gv, 0, none⟩) n cap) n (parCells ps gs)) : ParsAt w (some ⟨gv, 0, none⟩) ps := by
  intro i p hp
  have hi : i < ps.length := (List.getElem?_eq_some_iff.1 hp).1
  obtain ⟨g, hg⟩ : ∃ g, gs[i]? = some g := ⟨gs[i], by simp [hl, hi]⟩
  obtain ⟨c0, c1⟩ := parCells_at ps gs i p g hp hg
  refine ⟨gv, 0, rfl, ?_, some ⟨g, 0, none⟩, p.2.length, ?_, by simp, ?_⟩
  · rw [Nat.zero_add, ho.cellAt (i * 2) (by omega)]; exact c0
  · rw [Nat.zero_add, ho.cellAt (i * 2 + 1) (by omega)]; exact c1
  · intro a ha j u hu
    simp only [Option.some.injEq] at ha
    subst ha
    rw [Addr.add_lit, Nat.zero_add, cell_of_row w g j _ 5 (0, 0) (h i p g hp hg)]
    simpa using hu

/-- A row that is owned whole is its block. -/
theorem own_whole {w : World} {base : Nat} {e : TypeId} {g n : Nat} {xs : List Value} (h : w.ownsRow base e 1 (.slice (some ⟨g, 0, none⟩) n n) n xs) : w.heap[g]? = some (.cells xs.toArray e (0, 0)) := by
  rcases h.2 with ⟨h', _⟩ | ⟨g', cap', cur, h', hb, hg, hnc, hcm, hcs, htake⟩
  · simp at h'
  · simp only [Value.slice.injEq, Option.some.injEq, Addr.mk.injEq, and_true, true_and] at h'
    obtain ⟨rfl, rfl⟩ := h'
    rw [hg, ← htake, List.take_of_length_le (by rw [Array.length_toList, hcs]; exact Nat.le_refl _)]

/-- The parameters' row, nil or not, as Encode wants it. -/
theorem ValsAt.all {w : World} {base n : Nat} {v : Value} {ps : List (Nat × List UInt8)} {gs : List Nat} (h : ValsAt w ps gs) (hl : gs.length = n) (hn : ps.length = n)
    (ho : w.ownsRow base 46 2 v n (parCells ps gs)) : ∃ pa pc, v = .slice pa ps.length pc ∧ ParsAt w pa ps := by
  rcases ho.2 with ⟨hv, h0⟩ | ⟨g, cap, cur, hv, _⟩
  · refine ⟨none, 0, by rw [hv, hn, h0], fun i p hp => ?_⟩
    have : ps = [] := List.eq_nil_of_length_eq_zero (by omega)
    subst this
    simp at hp
  · subst hv
    exact ⟨_, cap, by rw [hn], h.pars (by omega) hn ho⟩

/-- What one round of the law's loop does to memory. -/
theorem ref_step {w wr w1 w2 : World} {kind k L x : Nat} {v v' : Value} {ps : List (Nat × List UInt8)} {gs : List Nat} {o : Obj}
    (hM : wr.heap[w.heap.size]? = some (.cells #[.int .u16 kind, v] 43 (0, 0))) (hown : wr.ownsRow (w.heap.size + 1) 46 2 v k (parCells ps gs)) (hvals : ValsAt wr ps gs) (hgl : gs.length = ps.length)
    (hnx : Below w.heap.size w wr) (hsz : w.heap.size + 1 ≤ wr.heap.size) (hL : 0 < L) (hk : k < 256)
    (own1 : w1.ownsRow (w.heap.size + 1) 5 1 (.slice (some ⟨wr.heap.size, 0, none⟩) L L) L (List.replicate L (.int .u8 0))) (hg1 : wr.grownBy w1 none)
    (hown2 : w2.ownsRow (w.heap.size + 1) 46 2 v' (k + 1) (parCells ps gs ++ [.int .u16 x, .slice (some ⟨wr.heap.size, 0, none⟩) L L]))
    (hg2 : ((w1.setCell ⟨wr.heap.size, 0, none⟩ (.int .u8 k)).alloc o).grownBy w2 v.ownBlock) :
    w2.heap[w.heap.size]? = some (.cells #[.int .u16 kind, v] 43 (0, 0)) ∧
    (w2.setCell ⟨w.heap.size, 1, none⟩ v').heap[w.heap.size]? = some (.cells #[.int .u16 kind, v'] 43 (0, 0)) ∧
    (w2.setCell ⟨w.heap.size, 1, none⟩ v').ownsRow (w.heap.size + 1) 46 2 v' (k + 1) (parCells (ps ++ [(x, (k % 256).toUInt8 :: List.replicate (L - 1) 0)]) (gs ++ [wr.heap.size])) ∧
    ValsAt (w2.setCell ⟨w.heap.size, 1, none⟩ v') (ps ++ [(x, (k % 256).toUInt8 :: List.replicate (L - 1) 0)]) (gs ++ [wr.heap.size]) ∧
    Below w.heap.size w (w2.setCell ⟨w.heap.size, 1, none⟩ v') ∧ w.heap.size + 1 ≤ (w2.setCell ⟨w.heap.size, 1, none⟩ v').heap.size := by
  have hgm : ∀ g ∈ gs, g < wr.heap.size ∧ some g ≠ v.ownBlock ∧ g ≠ w.heap.size := by
    intro g hg
    obtain ⟨i, hi, rfl⟩ := List.getElem_of_mem hg
    have hi' : i < ps.length := by omega
    have hb := hvals i ps[i] gs[i] (by simp [hi']) (by simp [hi])
    refine ⟨lt_of_block hb, own_ne hown hb (by decide), fun e => ?_⟩
    rw [e, hM] at hb
    simp at hb
  have st1 := own1.stored 0 (.int .u8 k)
  have hg1' : wr.grownBy ((w1.setCell ⟨wr.heap.size, 0, none⟩ (.int .u8 k)).alloc o) (some wr.heap.size) :=
    grown_trans (grown_trans ⟨hg1.os, hg1.tape, hg1.output, hg1.size, fun i hi _ => hg1.block i hi (by simp)⟩ st1.2) (World.grownBy_alloc _ o _)
  have hMW := grown_block hg1' hM (by simp; omega)
  have hne2 : some w.heap.size ≠ v.ownBlock := own_ne hown hM (by decide)
  have hM2 := grown_block hg2 hMW hne2
  have hsl : ∀ j, v.ownBlock = some j → w.heap.size + 1 ≤ j := own_row_ge hown
  have hbW : Below w.heap.size w ((w1.setCell ⟨wr.heap.size, 0, none⟩ (.int .u8 k)).alloc o) := hnx.grown hg1' (by omega) (fun j hj => by simp at hj; omega)
  have hb2 : Below w.heap.size w w2 := hbW.grown hg2 hbW.size (fun j hj => by have := hsl j hj; omega)
  have hls := lt_of_block hM2
  -- the new value's block
  have hnew : w2.heap[wr.heap.size]? = some (.cells (Lib.byteCells ((k % 256).toUInt8 :: List.replicate (L - 1) 0)).toArray 5 (0, 0)) := by
    have h1 := own_whole st1.1
    have h2 : ((w1.setCell ⟨wr.heap.size, 0, none⟩ (.int .u8 k)).alloc o).heap[wr.heap.size]? = some (.cells ((List.replicate L (Value.int .u8 0)).set 0 (.int .u8 k)).toArray 5 (0, 0)) := by
      rw [Below.heap_alloc _ _ _ (lt_of_block h1)]; exact h1
    have h3 := grown_block hg2 h2 (fun e => by have := (hown.lt _ e.symm).2; omega)
    rw [h3]
    have e1 : (List.replicate L (Value.int .u8 0)).set 0 (.int .u8 k) = Lib.byteCells ((k % 256).toUInt8 :: List.replicate (L - 1) 0) := by
      obtain ⟨m, rfl⟩ : ∃ m, L = m + 1 := ⟨L - 1, by omega⟩
      simp only [List.replicate_succ, List.set_cons_zero, Nat.add_sub_cancel, Lib.byteCells, List.map_cons, Lib.toUInt8_mod, List.map_replicate]
      rw [Nat.mod_eq_of_lt hk]
      rfl
    rw [e1]
  refine ⟨hM2, ?_, ?_, ?_, ?_, ?_⟩
  · exact heap_setCell_same w2 w.heap.size 1 _ 43 v' hM2
  · rw [parCells_snoc _ _ _ _ hgl.symm]
    have e2 : ((x, (k % 256).toUInt8 :: List.replicate (L - 1) (0 : UInt8)) : Nat × List UInt8).2.length = L := by simp; omega
    rw [e2]
    exact ownsRow_setCell_below hown2 (by show w.heap.size < w.heap.size + 1; omega) v'
  · intro i p g hp hg
    have hst : ∀ b, b ≠ w.heap.size → (w2.setCell ⟨w.heap.size, 1, none⟩ v').heap[b]? = w2.heap[b]? := fun b hb => heap_setCell_other w2 ⟨w.heap.size, 1, none⟩ b v' hb
    rcases Nat.lt_or_ge i gs.length with hi | hi
    · rw [List.getElem?_append_left (by omega)] at hp
      rw [List.getElem?_append_left hi] at hg
      obtain ⟨a1, a2, a3⟩ := hgm g (List.mem_of_getElem? hg)
      rw [hst g a3]
      exact grown_block hg2 (grown_block hg1' (hvals i p g hp hg) (by simp; omega)) a2
    · rw [List.getElem?_append_right (by omega)] at hp
      rw [List.getElem?_append_right hi] at hg
      have hi0 : i - gs.length = 0 := by
        rcases Nat.eq_zero_or_pos (i - gs.length) with h | h
        · exact h
        · rw [List.getElem?_eq_none (by simp; omega)] at hg; simp at hg
      rw [hi0] at hg
      rw [← hgl, hi0] at hp
      simp at hp hg
      subst hp hg
      rw [hst _ (by omega)]
      exact hnew
  · exact hb2.setCell (p := ⟨w.heap.size, 1, none⟩) (Nat.le_refl _) v'
  · simp; omega
end Go.Proofs.YbulkcrpmFmt
