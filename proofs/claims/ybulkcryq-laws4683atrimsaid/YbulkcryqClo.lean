/-
  The law's two closures, keep (5) and trim (6), BY THEIR CONTRACTS; the frame that they are told by.
-/
import Derived.Test.YbulkcryqUnp
namespace Go.Proofs.Ybulkcryq
open Go Go.RowKit

/-- Of the blocks below N all but those of S lie as they lay. -/
structure KeptB (N : Nat) (S : Nat → Prop) (w w' : World) : Prop where
  os : w'.os = w.os
  output : w'.output = w.output
  size : w.heap.size ≤ w'.heap.size
  block : ∀ k, k < N → ¬ S k → w'.heap[k]? = w.heap[k]?
theorem KeptB.refl (N : Nat) (S : Nat → Prop) (w : World) : KeptB N S w w := ⟨rfl, rfl, Nat.le_refl _, fun _ _ _ => rfl⟩
theorem KeptB.trans {N : Nat} {S : Nat → Prop} {a b c : World} (h : KeptB N S a b) (k : KeptB N S b c) : KeptB N S a c :=
  ⟨k.os.trans h.os, k.output.trans h.output, Nat.le_trans h.size k.size, fun i hi hs => (k.block i hi hs).trans (h.block i hi hs)⟩
theorem KeptB.mono {N N' : Nat} {S S' : Nat → Prop} {a b : World} (h : KeptB N S a b) (hN : N' ≤ N) (hS : ∀ k, k < N' → S k → S' k) : KeptB N' S' a b :=
  ⟨h.os, h.output, h.size, fun i hi hs => h.block i (by omega) (fun x => hs (hS i hi x))⟩
theorem KeptB.below {N : Nat} {S : Nat → Prop} {a b : World} (h : Below N a b) : KeptB N S a b := ⟨h.os, h.output, h.size, fun i hi _ => h.block i hi⟩
theorem KeptB.grown {N : Nat} {S : Nat → Prop} {a b : World} {row : Option Nat} (h : a.grownBy b row) (hN : N ≤ a.heap.size) (hr : ∀ k, row = some k → k < N → S k) : KeptB N S a b :=
  ⟨h.os, h.output, h.size, fun i hi hs => h.block i (by omega) (fun e => hs (hr i e.symm hi))⟩
theorem KeptB.alloc {N : Nat} {S : Nat → Prop} {a : World} (o : Obj) (hN : N ≤ a.heap.size) : KeptB N S a (a.alloc o) := KeptB.grown (World.grownBy_alloc a o none) hN (fun _ e => by cases e)
theorem KeptB.drew {N : Nat} {S : Nat → Prop} (a : World) : KeptB N S a a.drew := ⟨rfl, rfl, Nat.le_refl _, fun _ _ _ => rfl⟩
theorem KeptB.setCell {N : Nat} {S : Nat → Prop} (a : World) (b o : Nat) (v : Value) (hb : b < N → S b) : KeptB N S a (a.setCell ⟨b, o, none⟩ v) :=
  ⟨rfl, rfl, by simp [World.setCell], fun i hi hs => Below.heap_setCell _ _ _ _ (fun e => hs (by cases e; exact hb hi))⟩
theorem KeptB.putObj {N : Nat} {S : Nat → Prop} (a : World) (l : Nat) (o : Obj) (hN : N ≤ a.heap.size) (hb : l < N → S l) : KeptB N S a (a.putObj l o) := KeptB.grown (grownBy_putObj' a l o) hN (fun k e hk => by cases e; exact hb hk)
theorem KeptB.boxed {N : Nat} {S : Nat → Prop} {a b : World} (h : KeptB N S a b) {k : Nat} {t : TypeId} {v : Value} (hb : Boxed a k t v) (hk : k < N) (hs : ¬ S k) : Boxed b k t v := (h.block k hk hs).trans hb
theorem KeptB.cell {N : Nat} {S : Nat → Prop} {a b : World} (h : KeptB N S a b) {p : Addr} {v : Value} (hc : a.cell? p = some v) (hk : p.block < N) (hs : ¬ S p.block) : b.cell? p = some v := (World.cell?_of_block (h.block _ hk hs)).trans hc
theorem KeptB.own {N : Nat} {S : Nat → Prop} {a b : World} (h : KeptB N S a b) {base size n : Nat} {e : TypeId} {v : Value} {xs : List Value} (ho : a.ownsRow base e size v n xs) (hk : ∀ k, v.ownBlock = some k → k < N ∧ ¬ S k) : b.ownsRow base e size v n xs := by
  refine ⟨ho.1, ?_⟩
  rcases ho.2 with hn | ⟨g, cap, cur, rfl, hb, hgg, rest⟩
  · exact .inl hn
  · exact .inr ⟨g, cap, cur, rfl, hb, (h.block g (hk g rfl).1 (hk g rfl).2).trans hgg, rest⟩

/-- The bools bs lie at ka, below block number M. -/
def BoolsAt (M : Nat) (w : World) (ka : Option Addr) (bs : List Bool) : Prop := ∀ i b, bs[i]? = some b → ∃ g o, ka = some ⟨g, o, none⟩ ∧ g < M ∧ w.cell? ⟨g, o + i, none⟩ = some (.bool b)
theorem BoolsAt.kept {M N : Nat} {S : Nat → Prop} {w w' : World} {ka : Option Addr} {bs : List Bool} (h : BoolsAt M w ka bs) (hk : KeptB N S w w') (hM : M ≤ N) (hS : ∀ k, S k → M ≤ k) : BoolsAt M w' ka bs := fun i b hi => by
  obtain ⟨g, o, rfl, hg, hc⟩ := h i b hi
  exact ⟨g, o, rfl, hg, hk.cell hc (by show g < N; omega) (fun x => by have h2 : M ≤ g := hS _ x; omega)⟩

theorem news_two (w : World) (H : Nat) (hH : w.heap.size = H) (a b : Value) (t : TypeId) : ∀ (j : Nat) (u : Value), [a, b][j]? = some u → (w.alloc (.cells #[a, b] t)).cell? ((⟨H, 0, none⟩ : Addr).add j) = some u := by
  subst hH
  intro j u hj
  rw [Addr.add_lit, Nat.zero_add, cell_of_row _ w.heap.size j _ t (0, 0) (heap_alloc_new w _)]
  simpa using hj
theorem two_one (a b : Int) : ∀ u ∈ [Value.int .i32 a, Value.int .i32 b], u.oneCell' = true := by
  intro u hu
  simp at hu
  rcases hu with rfl | rfl <;> rfl

theorem Boxed.ne {w : World} {a b : Nat} {s t : TypeId} {u v : Value} (ha : Boxed w a s u) (hb : Boxed w b t v) (h : s ≠ t) : a ≠ b := fun e => by
  subst e
  have := ha.symm.trans hb
  simp at this
  exact h this.2
/-- What keep turns. -/
def KeepS (klb kkb : Nat) (klv : Value) (k : Nat) : Prop := k = klb ∨ k = kkb ∨ some k = klv.ownBlock

set_option maxHeartbeats 8000000 in
set_option maxRecDepth 100000 in
/-- keep: c is logged; the k-th call answers keeps[k] (false beyond the end). -/
theorem keep_any (M N klb kkb kpb i : Nat) (a b : Int) (klv : Value) (xs : List Value) (ka : Option Addr) (kc : Nat) (ks : List Bool) (w : World)
    (hkl : Boxed w klb 24 klv) (hown : w.ownsRow N 28 2 klv i xs) (hkk : Boxed w kkb 3 (.int .i64 i)) (hkp : Boxed w kpb 23 (.slice ka ks.length kc)) (hks : BoolsAt M w ka ks)
    (hM1 : M ≤ klb) (hN : N ≤ w.heap.size) (hi : i ≤ 1000) (hkl' : klb < N) (hkk' : kkb < N) (hkp' : kpb < N) :
    Calls Yba.prog 5 #[.agg #[.int .i32 a, .int .i32 b], .pointer (some ⟨klb, 0, none⟩), .pointer (some ⟨kkb, 0, none⟩), .pointer (some ⟨kpb, 0, none⟩)] w fun e w' =>
      e = .returned (.bool ((ks[i]?).getD false)) ∧ KeptB w.heap.size (KeepS klb kkb klv) w w' ∧ Boxed w' kkb 3 (.int .i64 (i + 1)) ∧ ∃ klv', Boxed w' klb 24 klv' ∧ w'.ownsRow N 28 2 klv' (i + 1) (xs ++ [.int .i32 a, .int .i32 b]) := by
  obtain ⟨i0, hi0, hz0, hz1, hz2⟩ := info_parts Yba.info28
  have c1 := hkl.cell
  have hlt : klb < w.heap.size := hkl.lt
  have n1 : ¬ klb = w.heap.size := by have := hkl.lt; omega
  have n2 : ¬ klb = w.heap.size + 1 := by have := hkl.lt; omega
  have hr := hown.lt
  go_enter Yba.func5, Yba.ntmps5
  go_wp2_with (at_builtin; refine wpList_append_own _ rfl _ _ 24 rfl N 28 i0 (.agg #[.int .i32 0, .int .i32 0]) 2 8 Yba.underlying24 hi0 hz0 hz1 hz2 rfl (by decide) _ _ _ rfl ((hown.alloc _).alloc _) ⟨w.heap.size + 1, 0, none⟩ 1 1 [Value.int .i32 a, .int .i32 b] rfl rfl (news_two _ _ (by simp) _ _ _) (two_one a b) (by unfold maxLen; omega) (by omega) (by simp; omega) ?_)
  intro v' w1 hown' hgrow _
  have K1 : KeptB w.heap.size (fun k => some k = klv.ownBlock) w w1 := (((KeptB.alloc _ (Nat.le_refl _)).trans (KeptB.alloc _ (by simp))).trans (KeptB.grown hgrow (by simp; omega) (fun k e _ => e.symm)))
  have hno : ∀ k, k < N → ¬ some k = klv.ownBlock := fun k hk e => by have := (hr k e.symm).1; omega
  have b1 := K1.boxed hkl hlt (hno klb hkl')
  have b2 := K1.boxed hkk (by omega) (hno kkb hkk')
  have b3 := K1.boxed hkp (by omega) (hno kpb hkp')
  have hks1 : BoolsAt M w1 ka ks := hks.kept K1 (by omega) (fun k e => by have := (hr k e.symm).1; omega)
  have m1 : ¬ kkb = klb := fun e => Boxed.ne hkl hkk (by decide) e.symm
  have m2 : ¬ kpb = klb := fun e => Boxed.ne hkl hkp (by decide) e.symm
  have m3 : ¬ kpb = kkb := fun e => Boxed.ne hkk hkp (by decide) e.symm
  have m1' : ¬ klb = kkb := fun e => m1 e.symm
  obtain ⟨g', cap', rfl⟩ := ownsRow_succ hown'
  have q1 := b1.cell
  have q1f := b1.frozen
  have q2 := b2.cell
  have q2f := b2.frozen
  have q3 := b3.cell
  have HX : Hid (KeptB w.heap.size (fun k => some k = klv.ownBlock) w w1 ∧ Boxed w1 klb 24 klv ∧ Boxed w1 kkb 3 (.int .i64 i) ∧ w1.ownsRow N 28 2 (.slice (some ⟨g', 0, none⟩) (i + 1) cap') (i + 1) (xs ++ [.int .i32 a, .int .i32 b])) := ⟨K1, b1, b2, hown'⟩
  have HF : ∀ w', w' = (w1.setCell ⟨klb, 0, none⟩ (.slice (some ⟨g', 0, none⟩) (i + 1) cap')).setCell ⟨kkb, 0, none⟩ (.int .i64 (i + 1)) →
      KeptB w.heap.size (KeepS klb kkb klv) w w' ∧ Boxed w' kkb 3 (.int .i64 (i + 1)) ∧ ∃ klv', Boxed w' klb 24 klv' ∧ w'.ownsRow N 28 2 klv' (i + 1) (xs ++ [.int .i32 a, .int .i32 b]) := by
    rintro w' rfl
    obtain ⟨K1, b1, b2, hown'⟩ := HX.out
    have S1 := Boxed.set (.slice (some ⟨g', 0, none⟩) (i + 1) cap') b1
    have S2 : Boxed (w1.setCell ⟨klb, 0, none⟩ (.slice (some ⟨g', 0, none⟩) (i + 1) cap')) kkb 3 (.int .i64 i) := b2.kept (grownBy_setCell' w1 klb _) (by simpa using m1)
    have o1 := hown'.kept (grownBy_setCell' w1 klb (.slice (some ⟨g', 0, none⟩) (i + 1) cap')) (.inr (b1.not_row (by decide) hown').symm)
    refine ⟨((K1.mono (Nat.le_refl _) (fun k _ e => .inr (.inr e))).trans (KeptB.setCell _ _ _ _ (fun _ => .inl rfl))).trans (KeptB.setCell _ _ _ _ (fun _ => .inr (.inl rfl))), Boxed.set _ S2, _, S1.kept (grownBy_setCell' _ kkb _) (by simpa using m1'), o1.kept (grownBy_setCell' _ kkb _) (.inr (S2.not_row (by decide) o1).symm)⟩
  have HF' : Hid _ := HF
  have i1 : (0 : Int) ≤ (i : Int) := by omega
  have i2 : (i : Int) ≤ 1000 := by omega
  clear HF HX K1 b1 b2 b3 hown' hgrow hno hks c1 hkl hkk hkp hown hr
  by_cases hlen : i < ks.length
  · obtain ⟨bl, hbl⟩ : ∃ bl, ks[i]? = some bl := ⟨_, List.getElem?_eq_getElem hlen⟩
    obtain ⟨g, o, rfl, hgM, hcb⟩ := hks1 i bl hbl
    have m4 : ¬ g = klb := by omega
    have i3 : (i : Int) < (ks.length : Int) := by omega
    clear hks1
    go_wp2
    go_ret
    exact ⟨by first | rfl | (rw [hbl]; rfl), HF'.out _ rfl⟩
  · have hnone : ks[i]? = none := List.getElem?_eq_none (by omega)
    have i3 : ¬ (i : Int) < (ks.length : Int) := by omega
    clear hks1
    go_wp2
    go_ret
    exact ⟨rfl, HF'.out _ rfl⟩

set_option maxHeartbeats 8000000 in
set_option maxRecDepth 100000 in
/-- trim: c is logged (the log was empty); its from is moved by shift. -/
theorem trim_any (tlb shb : Nat) (a b sh : Int) (w : World) (htl : Boxed w tlb 24 (.slice none 0 0)) (hsh : Boxed w shb 21 (.int .i32 sh)) :
    Calls Yba.prog 6 #[.agg #[.int .i32 a, .int .i32 b], .pointer (some ⟨tlb, 0, none⟩), .pointer (some ⟨shb, 0, none⟩)] w fun e w' =>
      e = .returned (.agg #[.int .i32 (wrap32 (a + sh)), .int .i32 b]) ∧ KeptB w.heap.size (fun k => k = tlb) w w' ∧ ∃ tlv, Boxed w' tlb 24 tlv ∧ w'.ownsRow w.heap.size 28 2 tlv 1 [.int .i32 a, .int .i32 b] := by
  obtain ⟨i0, hi0, hz0, hz1, hz2⟩ := info_parts Yba.info28
  have c1 := htl.cell
  have c2 := hsh.cell
  have hlt : tlb < w.heap.size := htl.lt
  have hlt2 : shb < w.heap.size := hsh.lt
  have n1 : ¬ tlb = w.heap.size := by omega
  have n2 : ¬ tlb = w.heap.size + 1 := by omega
  have n3 : ¬ shb = w.heap.size := by omega
  have n4 : ¬ shb = w.heap.size + 1 := by omega
  go_enter Yba.func6, Yba.ntmps6
  go_wp2_with (at_builtin; refine wpList_append_own _ rfl _ _ 24 rfl (w.heap.size + 1 + 1 + 1) 28 i0 (.agg #[.int .i32 0, .int .i32 0]) 2 8 Yba.underlying24 hi0 hz0 hz1 hz2 rfl (by decide) _ 0 [] rfl (World.ownsRow_nil _ _ _ _) ⟨w.heap.size + 1 + 1, 0, none⟩ 1 1 [Value.int .i32 a, .int .i32 b] rfl rfl (news_two _ _ (by simp) _ _ _) (two_one a b) (by unfold maxLen; omega) (by omega) (by simp) ?_)
  intro v' w1 hown' hgrow _
  have K1 : KeptB w.heap.size (fun _ => False) w w1 := ((((KeptB.alloc _ (Nat.le_refl _)).trans (KeptB.alloc _ (by simp))).trans (KeptB.alloc _ (by simp; omega))).trans (KeptB.grown hgrow (by simp; omega) (fun k e _ => by cases e)))
  have b1 := K1.boxed htl hlt (fun h => h)
  have b2 := K1.boxed hsh hlt2 (fun h => h)
  have hbox : w1.heap[w.heap.size]? = some (.cells #[.int .i32 a, .int .i32 b] 28 (0, 0)) := (hgrow.block w.heap.size (by simp; omega) (by simp [Value.ownBlock])).trans ((Below.heap_alloc _ _ _ (by simp; omega)).trans ((Below.heap_alloc _ _ _ (by simp)).trans (heap_alloc_new w _)))
  have hres : w1.heap[w.heap.size + 1]? = some (.cells #[.int .i32 0, .int .i32 0] 28 (0, 0)) := (hgrow.block (w.heap.size + 1) (by simp) (by simp [Value.ownBlock])).trans ((Below.heap_alloc _ _ _ (by simp)).trans (by have := heap_alloc_new (w.alloc (.cells #[.int .i32 a, .int .i32 b] 28)) (.cells #[.int .i32 0, .int .i32 0] 28); rwa [World.size_alloc] at this))
  obtain ⟨g', cap', rfl⟩ := ownsRow_succ hown'
  have q1 := b1.cell
  have q1f := b1.frozen
  have q2 := b2.cell
  have x0 : w1.cell? ⟨w.heap.size, 0, none⟩ = some (.int .i32 a) := by rw [cell_of_row _ _ _ _ _ _ hbox]; rfl
  have x1 : w1.cell? ⟨w.heap.size, 1, none⟩ = some (.int .i32 b) := by rw [cell_of_row _ _ _ _ _ _ hbox]; rfl
  have y0 : w1.cell? ⟨w.heap.size + 1, 0, none⟩ = some (.int .i32 0) := by rw [cell_of_row _ _ _ _ _ _ hres]; rfl
  have y1 : w1.cell? ⟨w.heap.size + 1, 1, none⟩ = some (.int .i32 0) := by rw [cell_of_row _ _ _ _ _ _ hres]; rfl
  have yf0 : w1.frozen? ⟨w.heap.size + 1, 0, none⟩ = false := by rw [frozen_of_row _ _ _ _ _ hres]
  have yf1 : w1.frozen? ⟨w.heap.size + 1, 1, none⟩ = false := by rw [frozen_of_row _ _ _ _ _ hres]
  have m1 : ¬ shb = tlb := fun e => Boxed.ne htl hsh (by decide) e.symm
  have m2 : ¬ w.heap.size = tlb := by omega
  have m3 : ¬ w.heap.size + 1 = tlb := by omega
  have hg1 := (hown'.lt g' rfl).1
  have HX : Hid (∀ x y, KeptB w.heap.size (fun k => k = tlb) w (((w1.setCell ⟨tlb, 0, none⟩ (.slice (some ⟨g', 0, none⟩) (0 + 1) cap')).setCell ⟨w.heap.size + 1, 0, none⟩ x).setCell ⟨w.heap.size + 1, 1, none⟩ y) ∧
      (((w1.setCell ⟨tlb, 0, none⟩ (.slice (some ⟨g', 0, none⟩) (0 + 1) cap')).setCell ⟨w.heap.size + 1, 0, none⟩ x).setCell ⟨w.heap.size + 1, 1, none⟩ y).heap[w.heap.size + 1]? = some (.cells #[x, y] 28 (0, 0)) ∧
      ∃ tlv, Boxed (((w1.setCell ⟨tlb, 0, none⟩ (.slice (some ⟨g', 0, none⟩) (0 + 1) cap')).setCell ⟨w.heap.size + 1, 0, none⟩ x).setCell ⟨w.heap.size + 1, 1, none⟩ y) tlb 24 tlv ∧ (((w1.setCell ⟨tlb, 0, none⟩ (.slice (some ⟨g', 0, none⟩) (0 + 1) cap')).setCell ⟨w.heap.size + 1, 0, none⟩ x).setCell ⟨w.heap.size + 1, 1, none⟩ y).ownsRow w.heap.size 28 2 tlv 1 [.int .i32 a, .int .i32 b]) := by
    intro x y
    have S1 := Boxed.set (.slice (some ⟨g', 0, none⟩) (0 + 1) cap') b1
    have r0 : (w1.setCell ⟨tlb, 0, none⟩ (.slice (some ⟨g', 0, none⟩) (0 + 1) cap')).heap[w.heap.size + 1]? = some (.cells #[.int .i32 0, .int .i32 0] 28 (0, 0)) := (Below.heap_setCell _ _ _ _ (by show w.heap.size + 1 ≠ tlb; omega)).trans hres
    have r1 := heap_setCell_same _ (w.heap.size + 1) 0 _ 28 x r0
    have r2 := heap_setCell_same _ (w.heap.size + 1) 1 _ 28 y r1
    refine ⟨(((KeptB.mono (S' := fun k => k = tlb) K1 (Nat.le_refl _) (fun _ _ h => h.elim)).trans (KeptB.setCell w1 tlb 0 _ (fun _ => rfl))).trans (KeptB.setCell _ (w.heap.size + 1) 0 x (fun h => by omega))).trans (KeptB.setCell _ (w.heap.size + 1) 1 y (fun h => by omega)), r2, .slice (some ⟨g', 0, none⟩) (0 + 1) cap', ?_, ?_⟩
    · exact (Below.heap_setCell _ _ _ _ (by show tlb ≠ w.heap.size + 1; omega)).trans ((Below.heap_setCell _ _ _ _ (by show tlb ≠ w.heap.size + 1; omega)).trans S1)
    · have o1 := hown'.kept (grownBy_setCell' w1 tlb (.slice (some ⟨g', 0, none⟩) (0 + 1) cap')) (.inr (b1.not_row (by decide) hown').symm)
      have o2 := ownsRow_setCell_below o1 (a := ⟨w.heap.size + 1, 0, none⟩) (by show w.heap.size + 1 < _; omega) x
      have o3 := ownsRow_setCell_below o2 (a := ⟨w.heap.size + 1, 1, none⟩) (by show w.heap.size + 1 < _; omega) y
      exact own_le o3 (by omega)
  clear K1 b1 b2 hbox hres hown' hgrow c1 c2 htl hsh hg1 n1 n2 n3 n4
  go_wp2
  obtain ⟨z1, z2, z3⟩ := HX.out (.int .i32 (wrap32 (a + sh))) (.int .i32 b)
  have y0 := cell_of_row _ (w.heap.size + 1) 0 _ _ _ z2
  have y1 := cell_of_row _ (w.heap.size + 1) 1 _ _ _ z2
  exact bodyPost_ret (v := .agg #[.int .i32 (wrap32 (a + sh)), .int .i32 b]) (by simp [results, Yba.results6, go_sem, y0, y1]) rfl ⟨rfl, z1, z3⟩
end Go.Proofs.Ybulkcryq
