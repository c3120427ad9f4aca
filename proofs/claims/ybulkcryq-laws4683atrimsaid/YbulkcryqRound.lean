/-
  trimFront's rounds: the assignment and the body, walked.
-/
import Derived.Test.YbulkcryqFr
namespace Go.Proofs.Ybulkcryq
open Go Go.RowKit Go.Shelf

attribute [local go_sem] Oper.semAt_some

set_option maxHeartbeats 800000 in
set_option maxRecDepth 100000 in
theorem round_assign (Lb klb kkb kpb tlb shb H g N cap : Nat) (ks : List Bool) (cb : List (Int × Int)) (w : World) (l c i : Nat) (W : World) (K : Act → World → Prop) (ac bd : Code) (hcode : Yba.f7.body.bind rangeIn = some (ac, bd)) (hkl : klb < H)
    (hi : Inv H Lb klb kkb kpb tlb shb g N cap ks cb w c i W) (hsz : H + 8 ≤ W.heap.size)
    (hK : ∀ a' W', Below W.heap.size W W' → Ax7 Lb klb kkb kpb tlb shb H g N cap cb i a' W' → K a' W') :
    ac.wpIn (Fence.wide.inRound l) 7 Yba.prog (Exit.then K (fun _ _ _ => False)) { tmps := frame7 Lb klb kkb kpb tlb shb H g N cap undef undef (.agg #[.int .i32 (chainOf cb i).1, .int .i32 (chainOf cb i).2]) (.slice (some ⟨g, offOf cb i, none⟩) ((packB cb).length - offOf cb i) (cap - offOf cb i)), defers := [] } W := by
  have hax : Ax7 Lb klb kkb kpb tlb shb H g N cap cb i { tmps := roundFrame Lb klb kkb kpb tlb shb H g N cap cb i W.heap.size, defers := [] } (W.alloc (.cells #[.int .i32 (chainOf cb i).1, .int .i32 (chainOf cb i).2] 28)) := by
    refine ⟨W.heap.size, hsz, heap_alloc_new W _, fun klv hb e => ?_, rfl⟩
    have hb' : Boxed W klb 24 klv := (Below.heap_alloc W _ klb (by omega)).symm.trans hb
    have := ((hi.log_unique hb').1.lt _ e).2
    omega
  have hk := hK _ _ ((Below.refl _ W).alloc (Nat.le_refl _) _) hax
  have HKK : Hid _ := hk
  clear hk hK hax hi
  unfold frame7
  simp only [Yba.f7, rangeIn, Option.bind, Option.some.injEq, Prod.mk.injEq] at hcode
  obtain ⟨rfl, rfl⟩ := hcode
  gi_wp2
  exact HKK.out

/-- What a call of keep leaves, from a round's world W on. -/
structure KeepOut (H klb kkb : Nat) (cb : List (Int × Int)) (c i : Nat) (W W' : World) : Prop where
  kept : ∃ klv, Boxed W klb 24 klv ∧ KeptB W.heap.size (KeepS klb kkb klv) W W'
  cnt : Boxed W' kkb 3 (.int .i64 ((i : Int) + 1))
  log : ∃ klv', Boxed W' klb 24 klv' ∧ W'.ownsRow (H + 8) 28 2 klv' (i + 1) (chainCells (cb.take (i + 1))) ∧ klv'.ownBlock ≠ some c

theorem keep_step {M Lb klb kkb kpb tlb shb g cap : Nat} {ka : Option Addr} {kc : Nat} {ks : List Bool} {sh : Int} {cb : List (Int × Int)} {cl : Int × Int} {w : World} (hin : FrontIn M Lb klb kkb kpb tlb shb g cap ka kc ks sh cb cl w)
    {N c i : Nat} {W : World} (hi : Inv w.heap.size Lb klb kkb kpb tlb shb g N cap ks cb w c i W) (him : i < cb.length) {x y : Value} (hco : W.heap[c]? = some (.cells #[x, y] 28 (0, 0))) (hsz : w.heap.size + 8 ≤ W.heap.size) :
    Calls Yba.prog 5 #[.agg #[.int .i32 (chainOf cb i).1, .int .i32 (chainOf cb i).2], .pointer (some ⟨klb, 0, none⟩), .pointer (some ⟨kkb, 0, none⟩), .pointer (some ⟨kpb, 0, none⟩)] W fun e W' =>
      e = .returned (.bool ((ks[i]?).getD false)) ∧ KeepOut w.heap.size klb kkb cb c i W W' := by
  obtain ⟨klv, l1, l2, l3, l4⟩ := hi.log
  have hkl := hin.klog.lt
  have hkk := hin.kcnt.lt
  have hkp := hin.keeps.lt
  have hne1 : ¬ (kpb = klb ∨ kpb = kkb) := fun e => by
    rcases e with e | e
    · exact Boxed.ne hin.keeps hin.klog (by decide) e
    · exact Boxed.ne hin.keeps hin.kcnt (by decide) e
  have hkpW : Boxed W kpb 23 (.slice ka ks.length kc) := hi.kept.boxed hin.keeps hkp hne1
  have hM : M ≤ w.heap.size := by have := hin.mK; omega
  have hksW : BoolsAt M W ka ks := hin.bools.kept hi.kept hM (fun k e => by
    rcases e with rfl | rfl
    · exact hin.mK
    · exact hin.mC)
  have hch : cb.take (i + 1) = cb.take i ++ [chainOf cb i] := by
    have : cb[i]? = some (chainOf cb i) := by simp [chainOf, him]
    rw [List.take_add_one, this]; rfl
  have hlen := hin.len
  have hcl := lt_of_block hco
  by_cases h0 : i = 0
  · subst h0
    obtain rfl := l4 rfl
    refine (keep_any M W.heap.size klb kkb kpb 0 _ _ _ _ ka kc ks W l1 (World.ownsRow_nil W W.heap.size 28 2) hi.cnt hkpW hksW hin.mK (Nat.le_refl _) (by omega) (by omega) (by omega) (by omega)).mono ?_
    rintro e W' ⟨rfl, hk, hc, klv', k1, k2⟩
    refine ⟨rfl, ⟨_, l1, hk⟩, hc, klv', k1, own_le (own_cast k2 rfl (by rw [hch, chainCells_snoc]; rfl)) hsz, fun e => ?_⟩
    have := (k2.lt _ e).1
    omega
  · refine (keep_any M (w.heap.size + 8) klb kkb kpb i _ _ _ _ ka kc ks W l1 l2 hi.cnt hkpW hksW hin.mK hsz (by omega) (by omega) (by omega) (by omega)).mono ?_
    rintro e W' ⟨rfl, hk, hc, klv', k1, k2⟩
    refine ⟨rfl, ⟨_, l1, hk⟩, hc, klv', k1, own_cast k2 rfl (by rw [hch, chainCells_snoc]), fun e => ?_⟩
    have hcW : W'.heap[c]? = some (.cells #[x, y] 28 (0, 0)) := (hk.block c hcl (fun s => by
      rcases s with e1 | e1 | e1
      · have := hi.cge; omega
      · have := hi.cge; omega
      · exact l3 e1.symm)).trans hco
    rcases k2.2 with ⟨rfl, _⟩ | ⟨g', cap', cur, rfl, _, hgg, hnc, _, hsz', _⟩
    · simp [Value.ownBlock] at e
    · simp only [Value.ownBlock, Option.some.injEq] at e
      subst e
      rw [hcW] at hgg
      simp only [Option.some.injEq, Obj.cells.injEq] at hgg
      have : cur.size = 2 := by rw [← hgg.1]; rfl
      omega
end Go.Proofs.Ybulkcryq
