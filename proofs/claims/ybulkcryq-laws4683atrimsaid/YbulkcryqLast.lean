/-
  trimFront behind its loop: the last chain. The parts that its walk leans on.
-/
import Derived.Test.YbulkcryqKeepB
import Derived.Test.YbulkcryqSim
namespace Go.Proofs.Ybulkcryq
open Go Go.RowKit Go.Shelf

/-- binary.LittleEndian.AppendUint32, and which blocks it leaves as they lay. -/
theorem append32k (B n : Nat) (x : Int) (sv : Value) (xs : List Value) (w : World) (hown : w.ownsRow B 5 1 sv n xs) (hB : B ≤ w.heap.size) (hlim : n + 4 ≤ 140737488355328) :
    Calls Yba.prog 10 #[.agg #[], sv, .int .u32 (x % 4294967296)] w fun e w' => ∃ v', e = .returned v' ∧ w'.ownsRow B 5 1 v' (n + 4) (xs ++ Lib.byteCells (le32 x)) ∧ KeptB w.heap.size (fun k => some k = sv.ownBlock) w w' ∧ ∀ k, v'.ownBlock = some k → sv.ownBlock = some k ∨ w.heap.size ≤ k := by
  have hv : (x % 4294967296).toNat < 4294967296 := by omega
  have hc : (x % 4294967296) = (((x % 4294967296).toNat : Nat) : Int) := by omega
  rw [hc]
  rcases hown.2 with ⟨rfl, h0⟩ | ⟨g, cap, cur, rfl, hbg, hg, hnc, hcm, hcs, htake⟩
  · subst h0
    have hx : xs = [] := by have := hown.1; simpa using this
    subst hx
    refine (Yba.binary_LE_AppendUint32 w.heap.size 0 _ hv _ [] w (World.ownsRow_nil _ _ _ _) (Nat.le_refl _) (by omega)).mono ?_
    rintro e w' ⟨v', rfl, ho, hb⟩
    exact ⟨v', rfl, own_le ho hB, KeptB.below hb, fun k hk => .inr (ho.lt k hk).1⟩
  · have hl2 := le32_cells x
    refine (Yba.binary_LE_AppendUint32_arg g 0 n cap _ hv xs w (by simpa using hown.1) ?_ ?_ hlim).mono ?_
    · intro j u hu
      have h := hown.cells (g := g) rfl j u hu
      rwa [Addr.add_lit] at h
    · intro hroom j hj
      rw [cell_of_row w g _ cur 5 (0, 0) hg, frozen_of_row w g _ cur 5 hg]
      refine ⟨?_, rfl⟩
      rw [Array.getElem?_eq_getElem (by omega)]
      rfl
    · rintro e w' (⟨hroom, rfl, rfl⟩ | ⟨_, v', rfl, ho, hb⟩)
      · have h1 := (hown.alloc (.cells #[] 40)).alloc (.cells (Lib.byteCells (le32 x)).toArray 5)
        have h2 := own_spare (Lib.byteCells (le32 x)) n _ xs h1 (by omega)
        rw [hl2] at h2
        have g1 := grown_trans (World.grownBy_alloc w (.cells #[] 40) (some g)) (World.grownBy_alloc _ (.cells (Lib.byteCells (le32 x)).toArray 5) (some g))
        have g2 : w.grownBy (((w.alloc (.cells #[] 40)).alloc (.cells (Lib.byteCells (le32 x)).toArray 5)).setCells g n (Lib.byteCells (le32 x))) (some g) := grown_trans g1 (grown_setCells g (Lib.byteCells (le32 x)) n _)
        have e0 : 0 + n = n := Nat.zero_add n
        refine ⟨_, rfl, by rw [e0]; exact h2, ?_, fun k hk => .inl hk⟩
        rw [e0]; exact KeptB.grown g2 (Nat.le_refl _) (fun k hk _ => by simp only [Value.ownBlock]; exact hk.symm)
      · exact ⟨v', rfl, own_le ho (by omega), KeptB.below hb, fun k hk => .inr (by have := (ho.lt k hk).1; omega)⟩

set_option maxRecDepth 100000 in
theorem append_last_k (B n : Nat) (c : Int × Int) (sv : Value) (xs : List Value) (w : World) (hown : w.ownsRow B 5 1 sv n xs) (hB : B ≤ w.heap.size) (hlim : n + 8 ≤ 140737488355328) :
    Calls Yba.prog 15 #[sv, .agg #[.int .i32 c.1, .int .i32 c.2]] w fun e w' => ∃ v', e = .returned v' ∧ w'.ownsRow B 5 1 v' (n + 8) (xs ++ Lib.byteCells (lastB c)) ∧ KeptB w.heap.size (fun k => some k = sv.ownBlock) w w' := by
  obtain ⟨a, b⟩ := c
  dsimp only
  have hu := u32_of
  go_enter Yba.func15, Yba.ntmps15
  go_wp2_with fail
  go_at_call 10
  refine (append32k B n a sv xs _ (hown.alloc _) (by simp; omega) (by omega)).mono ?_
  rintro e w1 ⟨v1, rfl, ho1, hk1, ob1⟩
  have hbox : w1.heap[w.heap.size]? = some (.cells #[.int .i32 a, .int .i32 b] 28 (0, 0)) := (hk1.block _ (by simp) (fun e => by have := (hown.lt _ e.symm).2; omega)).trans (heap_alloc_new w _)
  have hc0 : w1.cell? ⟨w.heap.size, 0, none⟩ = some (.int .i32 a) := by rw [cell_of_row _ _ _ _ _ _ hbox]; rfl
  have hc1 : w1.cell? ⟨w.heap.size, 1, none⟩ = some (.int .i32 b) := by rw [cell_of_row _ _ _ _ _ _ hbox]; rfl
  have hs1 := hk1.size
  rw [World.size_alloc] at hs1
  have HK : Hid (KeptB w.heap.size (fun k => some k = sv.ownBlock) w w1) := (KeptB.alloc _ (Nat.le_refl _)).trans (hk1.mono (by simp) (fun _ _ h => h))
  have HO : Hid _ := ob1
  clear hk1 ob1
  go_wp2_with fail
  go_at_call 10
  refine (append32k B (n + 4) b v1 _ w1 ho1 (by omega) (by omega)).mono ?_
  rintro e w2 ⟨v2, rfl, ho2, hk2, ob2⟩
  go_wp2
  go_ret
  refine ⟨v2, rfl, own_cast ho2 (by omega) (by rw [List.append_assoc, ← byteCells_append]; rfl), HK.out.trans (hk2.mono (by omega) (fun k hk e => ?_))⟩
  rcases HO.out k e.symm with h | h
  · exact h.symm
  · rw [World.size_alloc] at h; omega

/-- Behind keep(last). -/
structure LastK (H Lb klb kkb kpb tlb shb g N cap bx : Nat) (cb : List (Int × Int)) (cl : Int × Int) (w V : World) : Prop where
  kept : KeptB H (fun k => k = klb ∨ k = kkb) w V
  box : Boxes H Lb klb kkb kpb tlb shb g N cap V
  dk : V.heap[H + 6]? = some (.deferred (some []))
  klog : ∃ klv, Boxed V klb 24 klv ∧ V.ownsRow (H + 8) 28 2 klv (cb.length + 1) (chainCells (cb ++ [cl]))
  size : H + 8 ≤ V.heap.size
  b14 : V.heap[bx]? = some (.cells #[.int .i32 cl.1, .int .i32 cl.2] 28 (0, 0))

section
variable {M Lb klb kkb kpb tlb shb g cap : Nat} {ka : Option Addr} {kc : Nat} {ks : List Bool} {sh : Int} {cb : List (Int × Int)} {cl : Int × Int} {w : World}
theorem keep_last (hin : FrontIn M Lb klb kkb kpb tlb shb g cap ka kc ks sh cb cl w) {N c bx : Nat} {V0 : World} (hi : Inv w.heap.size Lb klb kkb kpb tlb shb g N cap ks cb w c cb.length V0) (hsz : w.heap.size + 8 ≤ V0.heap.size)
    (dk : V0.heap[w.heap.size + 6]? = some (.deferred (some []))) (hbx : w.heap.size + 7 ≤ bx) (b14 : V0.heap[bx]? = some (.cells #[.int .i32 cl.1, .int .i32 cl.2] 28 (0, 0))) (nb : ∀ klv, Boxed V0 klb 24 klv → klv.ownBlock ≠ some bx) :
    Calls Yba.prog 5 #[.agg #[.int .i32 cl.1, .int .i32 cl.2], .pointer (some ⟨klb, 0, none⟩), .pointer (some ⟨kkb, 0, none⟩), .pointer (some ⟨kpb, 0, none⟩)] V0 fun e V =>
      e = .returned (.bool ((ks[cb.length]?).getD false)) ∧ LastK w.heap.size Lb klb kkb kpb tlb shb g N cap bx cb cl w V := by
  obtain ⟨klv, l1, l2, l3, l4⟩ := hi.log
  have hkl := hin.klog.lt
  have hkk := hin.kcnt.lt
  have hkp := hin.keeps.lt
  have hne1 : ¬ (kpb = klb ∨ kpb = kkb) := fun e => by
    rcases e with e | e
    · exact Boxed.ne hin.keeps hin.klog (by decide) e
    · exact Boxed.ne hin.keeps hin.kcnt (by decide) e
  have hkpW : Boxed V0 kpb 23 (.slice ka ks.length kc) := hi.kept.boxed hin.keeps hkp hne1
  have hM : M ≤ w.heap.size := by have := hin.mK; omega
  have hksW : BoolsAt M V0 ka ks := hin.bools.kept hi.kept hM (fun k e => by
    rcases e with rfl | rfl
    · exact hin.mK
    · exact hin.mC)
  have hlen := hin.len
  have hbl := lt_of_block b14
  refine (keep_any M (w.heap.size + 8) klb kkb kpb cb.length _ _ _ _ ka kc ks V0 l1 l2 hi.cnt hkpW hksW hin.mK hsz (by omega) (by omega) (by omega) (by omega)).mono ?_
  rintro e V ⟨rfl, hk, _, klv', k1, k2⟩
  have B : ∀ k, k < V0.heap.size → k ≠ klb → k ≠ kkb → k < w.heap.size + 8 → V.heap[k]? = V0.heap[k]? := fun k h0 h1 h2 h3 => hk.block k h0 (fun s => by
    rcases s with s | s | s
    · exact h1 s
    · exact h2 s
    · have := (l2.lt k s.symm).1; omega)
  refine ⟨rfl, hi.kept.trans ⟨hk.os, hk.output, hk.size, fun k h0 hs => B k (by omega) (fun e => hs (.inl e)) (fun e => hs (.inr e)) (by omega)⟩, hi.box.of (fun k h1 h2 _ => B k (by omega) (by omega) (by omega) (by omega)), (B _ (by omega) (by omega) (by omega) (by omega)).trans dk,
    ⟨klv', k1, own_cast k2 rfl (by rw [List.take_length, chainCells_snoc])⟩, Nat.le_trans hsz hk.size, (hk.block bx hbl (fun s => ?_)).trans b14⟩
  rcases s with s | s | s
  · omega
  · omega
  · exact nb klv l1 s.symm

theorem tail_end (hin : FrontIn M Lb klb kkb kpb tlb shb g cap ka kc ks sh cb cl w) {N bx : Nat} {V W' : World} (hk : LastK w.heap.size Lb klb kkb kpb tlb shb g N cap bx cb cl w V) (h : KeptB V.heap.size (fun k => k = Lb ∨ k = tlb ∨ k = g) V W')
    {tl : List (Int × Int)} {pk : List UInt8} (hr : Res (cb ++ [cl]) ks sh (cb ++ [cl]) tl pk) (ht : ∃ tlv, Boxed W' tlb 24 tlv ∧ W'.ownsRow w.heap.size 28 2 tlv tl.length (chainCells tl))
    (hp : ∃ pa cap', Boxed W' Lb 32 (.slice pa pk.length cap') ∧ (pk ≠ [] → ∃ g' o', pa = some ⟨g', o', none⟩ ∧ BytesFrom W' g' o' pk)) :
    Ix7 w.heap.size Lb klb kkb tlb g ks sh (cb ++ [cl]) w W' ∧ W'.heap[w.heap.size + 6]? = some (.deferred (some [])) := by
  have hLl := hin.list.lt
  have hgl := (hin.row.lt g rfl).2
  have hkl := hin.klog.lt
  have htl := hin.tlog.lt
  have hsz := hk.size
  have hs' := h.size
  have nLk : klb ≠ Lb := Boxed.ne hin.klog hin.list (by decide)
  have ngk : klb ≠ g := fun e => hin.klog.not_row (by decide) hin.row (by rw [e]; rfl)
  obtain ⟨klv, k1, k2⟩ := hk.klog
  have hk1 := k1.lt
  refine ⟨⟨by omega, _, _, _, hr, ?_, ⟨klv, h.boxed k1 hk1 (fun e => by rcases e with e | e | e; exact nLk e; exact hin.ne e; exact ngk e), ?_⟩, ht, hp⟩, (h.block _ (by omega) (fun e => by omega)).trans hk.dk⟩
  · refine (hk.kept.mono (Nat.le_refl _) (fun k _ e => by rcases e with e | e; exact .inr (.inl e); exact .inr (.inr (.inl e)))).trans ((h.mono (by omega) (fun k _ e => ?_)))
    rcases e with e | e | e
    · exact .inl e
    · exact .inr (.inr (.inr (.inl e)))
    · exact .inr (.inr (.inr (.inr e)))
  · refine own_le (own_cast (h.own k2 (fun k e => ⟨(k2.lt k e).2, fun s => ?_⟩)) (by simp) rfl) (by omega)
    have := (k2.lt k e).1
    rcases s with s | s | s <;> omega

/-- trimFront leaves. -/
theorem leave7 {W' : World} {tm : Array Value} (hx : Ix7 w.heap.size Lb klb kkb tlb g ks sh (cb ++ [cl]) w W') (hK : W'.heap[w.heap.size + 6]? = some (.deferred (some []))) :
    LeavesInM Fence.wide 9 Yba.prog Yba.f7 tm (fun e W => (∃ v, e = .returned v) ∧ Ix7 w.heap.size Lb klb kkb tlb g ks sh (cb ++ [cl]) w W) [{ target := .collected (w.heap.size + 6), args := #[] }] .returning W' := by
  obtain ⟨hs, kl, tl, pk, hr, ho⟩ := hx
  refine ⟨by simp, .inl ⟨_, _, rfl, run_takeDeferred hK, ?_⟩⟩
  refine ⟨_, by simp [results, Yba.f7]; rfl, ⟨_, rfl⟩, by simpa using hs, kl, tl, pk, hr, ho.put hs hK rfl (by omega) _⟩
end

theorem own_zero {w : World} {base size n g cap : Nat} {e : TypeId} {xs : List Value} (h : w.ownsRow base e size (.slice (some ⟨g, 0, none⟩) n cap) n xs) : w.ownsRow base e size (.slice (some ⟨g, 0, none⟩) 0 cap) 0 [] := by
  refine ⟨by simp, .inr ?_⟩
  rcases h.2 with ⟨h, _⟩ | ⟨g', cap', cur, h, hb, hg, hnc, hm, hsz, _⟩
  · cases h
  · simp only [Value.slice.injEq, Option.some.injEq, Addr.mk.injEq, and_true, true_and] at h
    obtain ⟨rfl, rfl⟩ := h
    exact ⟨_, _, cur, rfl, hb, hg, by omega, hm, hsz, by simp⟩
section
variable {M Lb klb kkb kpb tlb shb g cap : Nat} {ka : Option Addr} {kc : Nat} {ks : List Bool} {sh : Int} {cb : List (Int × Int)} {ca cbb : Int} {w : World}
/-- The last chain is the first kept: how the call ends. -/
theorem tail_trim (hin : FrontIn M Lb klb kkb kpb tlb shb g cap ka kc ks sh cb (ca, cbb) w) {N bx : Nat} {V V2 : World} (hk : LastK w.heap.size Lb klb kkb kpb tlb shb g N cap bx cb (ca, cbb) w V) (bL : Boxed V Lb 32 (.slice (some ⟨g, 0, none⟩) (N + 8) cap))
    (hno : ∀ j, j < cb.length → (ks[j]?).getD false = false) (hf : (ks[cb.length]?).getD false = true) (h : KeptB V.heap.size (fun k => k = tlb ∨ k = g) V V2) {tlv : Value} (t1 : Boxed V2 tlb 24 tlv) (t2 : V2.ownsRow V.heap.size 28 2 tlv 1 [.int .i32 ca, .int .i32 cbb])
    {B g' cap' : Nat} (own : V2.ownsRow B 5 1 (.slice (some ⟨g', 0, none⟩) 8 cap') 8 (Lib.byteCells (lastB (wrap32 (ca + sh), cbb)))) :
    Ix7 w.heap.size Lb klb kkb tlb g ks sh (cb ++ [(ca, cbb)]) w (V2.setCell ⟨Lb, 0, none⟩ (.slice (some ⟨g', 0, none⟩) 8 cap')) ∧ (V2.setCell ⟨Lb, 0, none⟩ (.slice (some ⟨g', 0, none⟩) 8 cap')).heap[w.heap.size + 6]? = some (.deferred (some [])) := by
  have hLl := bL.lt
  have nLt : Lb ≠ tlb := Boxed.ne hin.list hin.tlog (by decide)
  have nLg : Lb ≠ g := fun e => hin.list.not_row (by decide) hin.row (by rw [e]; rfl)
  have bL2 := h.boxed bL hLl (fun e => by rcases e with e | e; exact nLt e; exact nLg e)
  have hgs := grownBy_setCell' V2 Lb (.slice (some ⟨g', 0, none⟩) 8 cap')
  have hsz := hk.size
  refine tail_end hin hk ((h.mono (Nat.le_refl _) (fun k _ e => .inr e)).trans (KeptB.setCell _ _ _ _ (fun _ => .inl rfl))) (tl := [(ca, cbb)]) (pk := lastB (wrap32 (ca + sh), cbb)) (.inr ⟨cb.length, (ca, cbb), by simp, hno, hf, (List.take_of_length_le (by rw [List.length_append]; exact Nat.le_refl _)).symm, rfl, ?_⟩) ⟨tlv, t1.kept hgs (fun e => nLt (by cases e; rfl)), ?_⟩
    ⟨_, cap', by rw [lastB_length]; exact Boxed.set _ bL2, fun _ => ⟨g', 0, rfl, ?_⟩⟩
  · rw [show (cb ++ [(ca, cbb)]).drop (cb.length + 1) = [] by simp]
    rfl
  · refine own_le (t2.kept hgs (.inr ?_)) (by omega)
    exact (bL2.not_row (by decide) t2).symm
  · refine (own_from own).block (Below.heap_setCell _ _ _ _ ?_)
    exact fun e => bL2.not_row (by decide) own (by dsimp only at e; rw [e]; rfl)
end
end Go.Proofs.Ybulkcryq
