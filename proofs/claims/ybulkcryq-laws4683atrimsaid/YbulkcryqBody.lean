/-
  The body of trimFront's loop, walked: a chain that is not kept; the first that is.
-/
import Derived.Test.YbulkcryqRound
namespace Go.Proofs.Ybulkcryq
open Go Go.RowKit Go.Shelf

attribute [local go_sem] Oper.semAt_some

/-- What keep leaves as it lay: whatever is none of its two boxes and not the log's row. -/
theorem keep_block {M Lb klb kkb kpb tlb shb g cap : Nat} {ka : Option Addr} {kc : Nat} {ks : List Bool} {sh : Int} {cb : List (Int × Int)} {cl : Int × Int} {w : World} (hin : FrontIn M Lb klb kkb kpb tlb shb g cap ka kc ks sh cb cl w)
    {N c i : Nat} {W W1 : World} (hi : Inv w.heap.size Lb klb kkb kpb tlb shb g N cap ks cb w c i W) (ko : KeepOut w.heap.size klb kkb cb c i W W1) (k : Nat) (hk : k < W.heap.size) (h1 : k ≠ klb) (h2 : k ≠ kkb) (h3 : k < w.heap.size + 8 ∨ k = c ∨ ∀ klv, Boxed W klb 24 klv → klv.ownBlock ≠ some k) : W1.heap[k]? = W.heap[k]? := by
  have _ := hin
  obtain ⟨klv, q1, q2⟩ := ko.kept
  refine q2.block k hk (fun s => ?_)
  rcases s with s | s | s
  · exact h1 s
  · exact h2 s
  · rcases h3 with h | rfl | h
    · have := ((hi.log_unique q1).1.lt _ s.symm).1; omega
    · exact (hi.log_unique q1).2.1 s.symm
    · exact h klv q1 s.symm

theorem drop_end {M Lb klb kkb kpb tlb shb g cap : Nat} {ka : Option Addr} {kc : Nat} {ks : List Bool} {sh : Int} {cb : List (Int × Int)} {cl : Int × Int} {w : World} (hin : FrontIn M Lb klb kkb kpb tlb shb g cap ka kc ks sh cb cl w)
    {N c i : Nat} {W W1 : World} (hi : Inv w.heap.size Lb klb kkb kpb tlb shb g N cap ks cb w c i W) {o : Obj} (hco : W.heap[c]? = some o) (hl1 : w.heap.size + 7 < W.heap.size) (hf : (ks[i]?).getD false = false) (ko : KeepOut w.heap.size klb kkb cb c i W W1)
    (Ix : World → Prop) (a : Act) (W' : World) (hW' : W' = W1.setCell ⟨w.heap.size + 3 + 1, 0, none⟩ (.int .i64 ((i : Int) + 1))) :
    cellPost (w.heap.size + 6) c (Inv w.heap.size Lb klb kkb kpb tlb shb g N cap ks cb w c (i + 1)) Ix W .normal a W' := by
  have hkl := hin.klog.lt
  have hkk := hin.kcnt.lt
  have hcg := hi.cge
  have hcl := lt_of_block hco
  have B : ∀ k, k < W.heap.size → k ≠ w.heap.size + 4 → k ≠ klb → k ≠ kkb → (k < w.heap.size + 8 ∨ k = c) → W'.heap[k]? = W.heap[k]? := fun k hk h0 h1 h2 h3 => by
    rw [hW']
    exact (Below.heap_setCell _ _ _ _ (by show k ≠ w.heap.size + 3 + 1; omega)).trans (keep_block hin hi ko k hk h1 h2 (Or.elim h3 (fun x => .inl x) (fun x => .inr (.inl x))))
  obtain ⟨klv, q1, q2⟩ := ko.kept
  obtain ⟨klv', k1, k2, k3⟩ := ko.log
  have hg := grownBy_setCell' W1 (w.heap.size + 3 + 1) (.int .i64 ((i : Int) + 1))
  have hd1 : Boxed W1 (w.heap.size + 3 + 1) 3 (.int .i64 i) := (keep_block hin hi ko (w.heap.size + 4) hi.drop.lt (by omega) (by omega) (.inl (by omega))).trans hi.drop
  refine ⟨B _ (by omega) (by omega) (by omega) (by omega) (.inl (by omega)), B _ (by omega) (by omega) (by omega) (by omega) (.inl (by omega)), B c hcl (by omega) (by omega) (by omega) (.inr rfl), ?_⟩
  refine ⟨fun j hj => ?_, hcg, ?_, hi.box.of (fun k h1 h2 h3 => B k (by have := hi.box.b5.lt; omega) h3 (by omega) (by omega) (.inl (by omega))), ?_, ?_, klv', ?_, ?_, k3, fun e => by omega⟩
  · by_cases e : j = i
    · rw [e]; exact hf
    · exact hi.none j (by omega)
  · refine hi.kept.trans ⟨?_, ?_, ?_, fun k hk hne => B k (by omega) (by omega) (fun e => hne (.inl e)) (fun e => hne (.inr e)) (.inl (by omega))⟩
    · rw [hW']; exact hg.os.trans q2.os
    · rw [hW']; exact hg.output.trans q2.output
    · rw [hW']; exact Nat.le_trans q2.size hg.size
  · rw [hW']; exact Boxed.set _ hd1
  · rw [hW']; exact ko.cnt.kept hg (by simp; omega)
  · rw [hW']; exact k1.kept hg (by simp; omega)
  · rw [hW']; exact k2.kept hg (.inr (hd1.not_row (by decide) k2).symm)

set_option maxHeartbeats 800000 in
set_option maxRecDepth 100000 in
theorem body_drop {M Lb klb kkb kpb tlb shb g cap : Nat} {ka : Option Addr} {kc : Nat} {ks : List Bool} {sh : Int} {cb : List (Int × Int)} {cl : Int × Int} {w : World} (hin : FrontIn M Lb klb kkb kpb tlb shb g cap ka kc ks sh cb cl w)
    {N c i : Nat} {W : World} {a' : Act} (hi : Inv w.heap.size Lb klb kkb kpb tlb shb g N cap ks cb w c i W) (hax : Ax7 Lb klb kkb kpb tlb shb w.heap.size g N cap cb i a' W) (him : i < cb.length) {x y : Value} (hco : W.heap[c]? = some (.cells #[x, y] 28 (0, 0)))
    (hl1 : w.heap.size + 7 < W.heap.size) (Ix : World → Prop) (hf : (ks[i]?).getD false = false) (ac bd : Code) (hcode : Yba.f7.body.bind rangeIn = some (ac, bd)) (l : Nat) :
    bd.wpIn (Fence.wide.inRound l) 7 Yba.prog (cellPost (w.heap.size + 6) c (Inv w.heap.size Lb klb kkb kpb tlb shb g N cap ks cb w c (i + 1)) Ix W) a' W := by
  obtain ⟨bx, x1, x2, x3, rfl⟩ := hax
  have KS := keep_step hin hi him hco (by omega)
  rw [hf] at KS
  have HKS : Hid _ := KS
  have hbxl := lt_of_block x2
  have hlen := hin.len
  have HX : Hid (FrontIn M Lb klb kkb kpb tlb shb g cap ka kc ks sh cb cl w ∧ Inv w.heap.size Lb klb kkb kpb tlb shb g N cap ks cb w c i W ∧ W.heap[c]? = some (.cells #[x, y] 28 (0, 0)) ∧ (ks[i]?).getD false = false) := ⟨hin, hi, hco, hf⟩
  have d1 := hi.box.b1.cell
  unfold keepV at d1
  have e0 : W.cell? ⟨bx, 0, none⟩ = some (.int .i32 (chainOf cb i).1) := by rw [cell_of_row _ _ _ _ _ _ x2]; rfl
  have e1 : W.cell? ⟨bx, 1, none⟩ = some (.int .i32 (chainOf cb i).2) := by rw [cell_of_row _ _ _ _ _ _ x2]; rfl
  clear KS hin hi hco hf x2 x3
  unfold roundFrame frame7
  simp only [Yba.f7, rangeIn, Option.bind, Option.some.injEq, Prod.mk.injEq] at hcode
  obtain ⟨rfl, rfl⟩ := hcode
  gi_wp2_with fail
  refine ⟨trivial, ?_⟩
  gi_at_call 5
  refine CallsIn.mono (CallsIn.inRound l (callsIn_wide.2 HKS.out)) ?_
  rintro e W1 ⟨rfl, ko⟩
  have HKO : Hid _ := ko
  have hi := HX.out.2.1
  obtain ⟨klv, q1, q2⟩ := ko.kept
  have hdr : Boxed W1 (w.heap.size + 3 + 1) 3 (.int .i64 i) := q2.boxed hi.drop hi.drop.lt (fun s => by
    rcases s with s | s | s
    · have := HX.out.1.klog.lt; omega
    · have := HX.out.1.kcnt.lt; omega
    · have := ((hi.log_unique q1).1.lt _ s.symm).1; omega)
  have f1 := hdr.cell
  have f2 := hdr.frozen
  have i1 : (0 : Int) ≤ (i : Int) := by omega
  have i2 : (i : Int) ≤ 300 := by omega
  have HD : Hid _ := hdr
  clear ko hi q1 q2 hdr e0 e1 d1 HKS
  gi_wp2
  exact drop_end HX.out.1 HX.out.2.1 HX.out.2.2.1 hl1 HX.out.2.2.2 HKO.out Ix _ _ rfl
end Go.Proofs.Ybulkcryq
