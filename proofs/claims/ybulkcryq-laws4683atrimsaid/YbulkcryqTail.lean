/-
  trimFront behind its loop, walked.
-/
import Derived.Test.YbulkcryqLast
import Derived.Deep.RegionHeld
namespace Go.Proofs.Ybulkcryq
open Go Go.RowKit Go.Shelf

/-- What stands behind the first range over a function. -/
def tailIn : Code → Option Code
  | .seq a b => match rangeIn a with | some _ => some b | none => tailIn b
  | .block _ a => tailIn a
  | .scope a => tailIn a
  | _ => none

theorem onceP {P : Program} {c : Code} {Q : Exit → Act → World → Prop} {a : Act} {w : World} (T : Act → World → Prop) (h : c.wp P (fun e a' w' => e = .normal ∧ T a' w') a w) (k : ∀ a' w', T a' w' → Q .normal a' w') : c.wp P Q a w :=
  Code.wp_mono (by rintro e a' w' ⟨rfl, hq⟩; exact k a' w' hq) h

theorem region_plain {P : Program} {ops : Array Oper} {S : World → Prop} {id : Nat} {a : Act} {w : World} {T : Act → World → Prop} (hm : P.follows .mixedOrders = true)
    (h : wpAnyH P .any ops (fun e a' w' => e = .normal ∧ T a' w') S ops.size (Array.replicate ops.size false) a w.drew) : (Code.region id ops true).wp P (fun e a' w' => e = .normal ∧ T a' w') a w := wp_region_held hm h

section
variable {M Lb klb kkb kpb tlb shb g cap : Nat} {ka : Option Addr} {kc : Nat} {ks : List Bool} {sh : Int} {cb : List (Int × Int)} {cl : Int × Int} {w : World}
set_option maxHeartbeats 16000000 in
set_option maxRecDepth 100000 in
theorem tail_any (hin : FrontIn M Lb klb kkb kpb tlb shb g cap ka kc ks sh cb cl w) {N c : Nat} {W : World} (hN : (packB cb).length = N) (hi : Inv w.heap.size Lb klb kkb kpb tlb shb g N cap ks cb w c cb.length W) (hK : W.heap[w.heap.size + 6]? = some (.deferred (some []))) (hsz : w.heap.size + 7 ≤ W.heap.size)
    (tc : Code) (hcode : Yba.f7.body.bind tailIn = some tc) :
    tc.wp Yba.prog (bodyPostM Fence.wide 9 Yba.prog Yba.f7 (fun e W' => (∃ v, e = .returned v) ∧ Ix7 w.heap.size Lb klb kkb tlb g ks sh (cb ++ [cl]) w W')) { tmps := frame7 Lb klb kkb kpb tlb shb w.heap.size g N cap undef undef undef undef, defers := [{ target := .collected (w.heap.size + 6), args := #[] }] } W := by
  have hkl := hin.klog.lt
  have hkk := hin.kcnt.lt
  have hLl := hin.list.lt
  have hgl := (hin.row.lt g rfl).2
  have nLk : Lb ≠ klb := Boxed.ne hin.list hin.klog (by decide)
  have nLc : Lb ≠ kkb := Boxed.ne hin.list hin.kcnt (by decide)
  have nLt : Lb ≠ tlb := Boxed.ne hin.list hin.tlog (by decide)
  have ngk : g ≠ klb := fun e => hin.klog.not_row (by decide) hin.row (by rw [← e]; rfl)
  have ngc : g ≠ kkb := fun e => hin.kcnt.not_row (by decide) hin.row (by rw [← e]; rfl)
  have hcapl : N + 8 ≤ cap := by
    rcases hin.row.2 with ⟨h, _⟩ | ⟨g', cap', cur, h, _, _, hnc, _⟩
    · cases h
    · simp only [Value.slice.injEq] at h; rw [hN] at hnc; omega
  have hNl : N ≤ 3000 := by
    have := packB_length_le cb (fun c hc => hin.ok c (by simp [hc]))
    have := hin.len
    omega
  have d0 := hi.box.b0.cell
  have bL : Boxed W Lb 32 (.slice (some ⟨g, 0, none⟩) (N + 8) cap) := by
    have := hi.kept.boxed hin.list hLl (fun e => by rcases e with e | e; exact nLk e; exact nLc e)
    rw [hN] at this; exact this
  have hrow : BytesFrom W g 0 (packB cb ++ lastB cl) := (own_from hin.row).block (hi.kept.block g hgl (fun e => by rcases e with e | e; exact ngk e; exact ngc e))
  have L14 := last_any Lb g N cap (packB cb) cl W (hin.ok cl (by simp)) hN (by omega) hcapl bL.cell hrow
  have HL : Hid _ := L14
  have HX : Hid (FrontIn M Lb klb kkb kpb tlb shb g cap ka kc ks sh cb cl w ∧ Inv w.heap.size Lb klb kkb kpb tlb shb g N cap ks cb w c cb.length W ∧ W.heap[w.heap.size + 6]? = some (.deferred (some []))) := ⟨hin, hi, hK⟩
  clear L14 hin hi hK hrow bL
  unfold frame7
  simp only [Yba.f7, tailIn, rangeIn, Option.bind, Option.some.injEq] at hcode
  subst hcode
  go_wp2_with fail
  go_at_call 14
  refine Calls.mono HL.out ?_
  rintro e W1 ⟨rfl, hb1⟩
  obtain ⟨ca, cbb⟩ := cl
  dsimp only at *
  have hs1 := hb1.size
  have hi := HX.out.2.1
  have d1 : W1.cell? ⟨w.heap.size + 1, 0, none⟩ = some (keepV klb kkb kpb) := Boxed.cell ((hb1.block _ hi.box.b1.lt).trans hi.box.b1)
  unfold keepV at d1
  have j1 : w.heap.size + 1 < W1.heap.size := by omega
  have j2 : ¬ w.heap.size + 1 = W1.heap.size := by omega
  have HB1 : Hid _ := hb1
  clear d0 hi hb1 HL
  go_wp2_with fail
  go_at_call 5
  have hbV : Below W.heap.size W (W1.alloc (.cells #[.int .i32 ca, .int .i32 cbb] 28)) := HB1.out.alloc hs1 _
  have hiV := HX.out.2.1.below hkl hkk hbV
  refine Calls.mono (keep_last HX.out.1 hiV (by simp; omega) ((hbV.block _ (by omega)).trans HX.out.2.2) (bx := W1.heap.size) (by omega) (heap_alloc_new W1 _) (fun klv hb e => ?_)) ?_
  · have h1 := (HX.out.2.1.below hkl hkk HB1.out).log_unique ((Below.heap_alloc W1 _ klb (by omega)).symm.trans hb)
    have := (h1.1.lt _ e).2
    omega
  rintro e V ⟨rfl, lk⟩
  obtain ⟨bx, hbx⟩ : ∃ bx, W1.heap.size = bx := ⟨_, rfl⟩
  have hbxg : w.heap.size + 7 ≤ bx := by omega
  rw [hbx] at lk ⊢
  have hbxl := lt_of_block lk.b14
  have e0 := lk.box.b0.cell
  have e2 : V.cell? ⟨w.heap.size + 1 + 1, 0, none⟩ = some (trimV tlb shb) := lk.box.b2.cell
  have e3 := lk.box.b3.cell
  unfold trimV at e2
  have bL : Boxed V Lb 32 (.slice (some ⟨g, 0, none⟩) (N + 8) cap) := by
    have := lk.kept.boxed HX.out.1.list hLl (fun e => by rcases e with e | e; exact nLk e; exact nLc e)
    rw [hN] at this; exact this
  have eL := bL.cell
  have eLf := bL.frozen
  have c0 : V.cell? ⟨bx, 0, none⟩ = some (.int .i32 ca) := by rw [cell_of_row _ _ _ _ _ _ lk.b14]; rfl
  have c1 : V.cell? ⟨bx, 1, none⟩ = some (.int .i32 cbb) := by rw [cell_of_row _ _ _ _ _ _ lk.b14]; rfl
  have HLK : Hid (LastK w.heap.size Lb klb kkb kpb tlb shb g N cap bx cb (ca, cbb) w V ∧ Boxed V Lb 32 (.slice (some ⟨g, 0, none⟩) (N + 8) cap)) := ⟨lk, bL⟩
  clear lk bL hbV hiV d1 j1 j2 hbx
  have mixed : Yba.prog.follows .mixedOrders = true := by kernel_rfl
  have htl := HX.out.1.tlog.lt
  have hsl := HX.out.1.shift.lt
  have ntc : tlb ≠ kkb := Boxed.ne HX.out.1.tlog HX.out.1.kcnt (by decide)
  have nsk : shb ≠ klb := Boxed.ne HX.out.1.shift HX.out.1.klog (by decide)
  have nsc : shb ≠ kkb := Boxed.ne HX.out.1.shift HX.out.1.kcnt (by decide)
  have ngt : g ≠ tlb := fun e => HX.out.1.tlog.not_row (by decide) HX.out.1.row (by rw [← e]; rfl)
  have hsV := HLK.out.1.size
  have tV : Boxed V tlb 24 (.slice none 0 0) := HLK.out.1.kept.boxed HX.out.1.tlog htl (fun e => by rcases e with e | e; exact HX.out.1.ne e.symm; exact ntc e)
  have sV : Boxed V shb 21 (.int .i32 sh) := HLK.out.1.kept.boxed HX.out.1.shift hsl (fun e => by rcases e with e | e; exact nsk e; exact nsc e)
  have rV : V.ownsRow M 5 1 (.slice (some ⟨g, 0, none⟩) 0 cap) 0 [] := own_zero (HLK.out.1.kept.own HX.out.1.row (fun k e => by
    simp only [Value.ownBlock, Option.some.injEq] at e; subst e
    exact ⟨hgl, fun e => by rcases e with e | e; exact ngk e; exact ngc e⟩))
  have hnone := HX.out.2.1.none
  have keepS : ∀ V9 : World, KeptB V.heap.size (fun k => k = tlb) V V9 → V9.cell? ⟨w.heap.size, 0, none⟩ = some (.pointer (some ⟨Lb, 0, none⟩)) ∧ V9.cell? ⟨w.heap.size + 1 + 1, 0, none⟩ = some (.func (.func 6) #[] #[.pointer (some ⟨tlb, 0, none⟩), .pointer (some ⟨shb, 0, none⟩)]) ∧ V9.cell? ⟨bx, 0, none⟩ = some (.int .i32 ca) ∧ V9.cell? ⟨bx, 1, none⟩ = some (.int .i32 cbb) := fun V9 h => ⟨h.cell e0 (by show w.heap.size < _; omega) (fun e => by have e : w.heap.size = tlb := e; omega), h.cell e2 (by show w.heap.size + 1 + 1 < _; omega) (fun e => by have e : w.heap.size + 1 + 1 = tlb := e; omega), h.cell c0 hbxl (fun e => by have e : bx = tlb := e; omega), h.cell c1 hbxl (fun e => by have e : bx = tlb := e; omega)⟩
  have keepS2 : ∀ V8 V9 : World, (V8.cell? ⟨w.heap.size, 0, none⟩ = some (.pointer (some ⟨Lb, 0, none⟩)) ∧ V8.cell? ⟨w.heap.size + 1 + 1, 0, none⟩ = some (.func (.func 6) #[] #[.pointer (some ⟨tlb, 0, none⟩), .pointer (some ⟨shb, 0, none⟩)]) ∧ V8.cell? ⟨bx, 0, none⟩ = some (.int .i32 ca) ∧ V8.cell? ⟨bx, 1, none⟩ = some (.int .i32 cbb)) → V.heap.size ≤ V8.heap.size → KeptB V.heap.size (fun k => k = g) V8 V9 → V9.cell? ⟨w.heap.size, 0, none⟩ = some (.pointer (some ⟨Lb, 0, none⟩)) ∧ V9.cell? ⟨w.heap.size + 1 + 1, 0, none⟩ = some (.func (.func 6) #[] #[.pointer (some ⟨tlb, 0, none⟩), .pointer (some ⟨shb, 0, none⟩)]) ∧ V9.cell? ⟨bx, 0, none⟩ = some (.int .i32 ca) ∧ V9.cell? ⟨bx, 1, none⟩ = some (.int .i32 cbb) := fun V8 V9 hs8 _ h => ⟨h.cell hs8.1 (by show w.heap.size < _; omega) (fun e => by have e : w.heap.size = g := e; omega), h.cell hs8.2.1 (by show w.heap.size + 1 + 1 < _; omega) (fun e => by have e : w.heap.size + 1 + 1 = g := e; omega), h.cell hs8.2.2.1 hbxl (fun e => by have e : bx = g := e; omega), h.cell hs8.2.2.2 hbxl (fun e => by have e : bx = g := e; omega)⟩
  have keepL : ∀ (V9 : World) (v : Value), (V9.cell? ⟨w.heap.size, 0, none⟩ = some (.pointer (some ⟨Lb, 0, none⟩)) ∧ V9.cell? ⟨w.heap.size + 1 + 1, 0, none⟩ = some (.func (.func 6) #[] #[.pointer (some ⟨tlb, 0, none⟩), .pointer (some ⟨shb, 0, none⟩)]) ∧ V9.cell? ⟨bx, 0, none⟩ = some (.int .i32 ca) ∧ V9.cell? ⟨bx, 1, none⟩ = some (.int .i32 cbb)) → (V9.setCell ⟨Lb, 0, none⟩ v).cell? ⟨w.heap.size, 0, none⟩ = some (.pointer (some ⟨Lb, 0, none⟩)) ∧ (V9.setCell ⟨Lb, 0, none⟩ v).cell? ⟨w.heap.size + 1 + 1, 0, none⟩ = some (.func (.func 6) #[] #[.pointer (some ⟨tlb, 0, none⟩), .pointer (some ⟨shb, 0, none⟩)]) ∧ (V9.setCell ⟨Lb, 0, none⟩ v).cell? ⟨bx, 0, none⟩ = some (.int .i32 ca) ∧ (V9.setCell ⟨Lb, 0, none⟩ v).cell? ⟨bx, 1, none⟩ = some (.int .i32 cbb) := fun V9 v h9 => by
    rw [World.cell?_setCell_far _ _ _ _ (by show Lb ≠ w.heap.size; omega), World.cell?_setCell_far _ _ _ _ (by show Lb ≠ w.heap.size + 1 + 1; omega), World.cell?_setCell_far _ _ _ _ (by show Lb ≠ bx; omega), World.cell?_setCell_far _ _ _ _ (by show Lb ≠ bx; omega)]
    exact h9
  have hS := keepS V.drew (KeptB.drew V)
  cases hf : (ks[cb.length]?).getD false with
  | false =>
    go_wp2_with fail
    obtain ⟨hx, hk⟩ := tail_end HX.out.1 HLK.out.1 (W' := V.setCell ⟨Lb, 0, none⟩ (.slice none 0 0)) (KeptB.setCell _ _ _ _ (fun _ => .inl rfl)) (tl := []) (pk := []) (.inl ⟨fun j hj => by
      by_cases e : j < cb.length
      · exact hnone j e
      · rw [List.length_append] at hj
        obtain rfl : j = cb.length := by simp at hj; omega
        exact hf, rfl, rfl, rfl⟩) ⟨.slice none 0 0, tV.kept (grownBy_setCell' V Lb _) (fun e => nLt (by cases e; rfl)), World.ownsRow_nil _ _ _ _⟩ ⟨none, 0, Boxed.set _ HLK.out.2, fun h => absurd rfl h⟩
    exact leave7 hx hk
  | true =>
    have HLb := HLK.out.2
    have HH : Hid (Boxed V tlb 24 (.slice none 0 0) ∧ Boxed V shb 21 (.int .i32 sh) ∧ V.ownsRow M 5 1 (.slice (some ⟨g, 0, none⟩) 0 cap) 0 []) := ⟨tV, sV, rV⟩
    have HKS : Hid _ := keepS
    clear tV sV rV HLb
    by_cases hz : N = 0
    · have z1 : ((N : Int) > 0) = False := by simp; omega
      go_wp2_with fail
      refine onceP (T := fun a9 w9 => (∃ tm, a9 = { tmps := tm, defers := [{ target := .collected (w.heap.size + 6), args := #[] }] }) ∧ Ix7 w.heap.size Lb klb kkb tlb g ks sh (cb ++ [(ca, cbb)]) w w9 ∧ w9.heap[w.heap.size + 6]? = some (.deferred (some []))) ?_ ?_
      · refine region_plain (S := fun w9 => w9.cell? ⟨w.heap.size, 0, none⟩ = some (.pointer (some ⟨Lb, 0, none⟩)) ∧ w9.cell? ⟨w.heap.size + 1 + 1, 0, none⟩ = some (.func (.func 6) #[] #[.pointer (some ⟨tlb, 0, none⟩), .pointer (some ⟨shb, 0, none⟩)]) ∧ w9.cell? ⟨bx, 0, none⟩ = some (.int .i32 ca) ∧ w9.cell? ⟨bx, 1, none⟩ = some (.int .i32 cbb)) mixed ?_
        refine take_first (i := 0) (v := ?_) rfl (by kernel_rfl) (by kernel_rfl) (by kernel_rfl) (by rfl) ?_ hS ?_
        rotate_left
        · intro w0 hw0; obtain ⟨q0, q1, q2, q3⟩ := hw0; go_simp; try rfl
        try simp only [Act.put, List.setIfInBounds_toArray, List.set_cons_zero, List.set_cons_succ]
        refine take_first (i := 1) (v := ?_) rfl (by kernel_rfl) (by kernel_rfl) (by kernel_rfl) (by rfl) ?_ hS ?_
        rotate_left
        · intro w0 hw0; obtain ⟨q0, q1, q2, q3⟩ := hw0; go_simp; try rfl
        try simp only [Act.put, List.setIfInBounds_toArray, List.set_cons_zero, List.set_cons_succ]
        refine take_first (i := 2) (v := ?_) rfl (by kernel_rfl) (by kernel_rfl) (by kernel_rfl) (by rfl) ?_ hS ?_
        rotate_left
        · intro w0 hw0; obtain ⟨q0, q1, q2, q3⟩ := hw0; go_simp; try rfl
        try simp only [Act.put, List.setIfInBounds_toArray, List.set_cons_zero, List.set_cons_succ]
        refine take_first (i := 3) (v := ?_) rfl (by kernel_rfl) (by kernel_rfl) (by kernel_rfl) (by rfl) ?_ hS ?_
        rotate_left
        · intro w0 hw0; obtain ⟨q0, q1, q2, q3⟩ := hw0; go_simp; try rfl
        try simp only [Act.put, List.setIfInBounds_toArray, List.set_cons_zero, List.set_cons_succ]
        refine take_first (i := 6) (v := ?_) rfl (by kernel_rfl) (by kernel_rfl) (by kernel_rfl) (by rfl) ?_ hS ?_
        rotate_left
        · intro w0 hw0; obtain ⟨q0, q1, q2, q3⟩ := hw0; go_simp; try rfl
        try simp only [Act.put, List.setIfInBounds_toArray, List.set_cons_zero, List.set_cons_succ]
        refine take_first (i := 7) (v := ?_) rfl (by kernel_rfl) (by kernel_rfl) (by kernel_rfl) (by rfl) ?_ hS ?_
        rotate_left
        · intro w0 hw0; obtain ⟨q0, q1, q2, q3⟩ := hw0; go_simp; try rfl
        try simp only [Act.put, List.setIfInBounds_toArray, List.set_cons_zero, List.set_cons_succ]
        refine wpAnyH_ready (rs := [4, 8]) (by kernel_rfl) (by simp) ?_
        refine AllReadyH.cons rfl (fun K hK => ?_) (AllReadyH.cons rfl (fun K hK => ?_) AllReadyH.nil)
        · go_simp
          refine hK.out _ _ hS (fun _ => ?_)
          clear hK K
          try simp only [Act.put, List.setIfInBounds_toArray, List.set_cons_zero, List.set_cons_succ]
          refine take_first (i := 5) (v := ?_) rfl (by kernel_rfl) (by kernel_rfl) (by kernel_rfl) (by rfl) ?_ hS ?_
          rotate_left
          · intro w0 hw0; obtain ⟨q0, q1, q2, q3⟩ := hw0; go_simp; try rfl
          try simp only [Act.put, List.setIfInBounds_toArray, List.set_cons_zero, List.set_cons_succ]
          refine wpAnyH_ready (rs := [8]) (by kernel_rfl) (by simp) ?_
          refine AllReadyH.cons rfl (fun K hK => ?_) AllReadyH.nil
          go_simp
          go_at_call 6
          refine Calls.mono (trim_any tlb shb ca cbb sh _ HH.out.1 HH.out.2.1) ?_
          rintro e V1 ⟨rfl, kt, tlv, t1, t2⟩
          have hS1 := keepS V1 ((KeptB.drew V).trans kt)
          refine hK.out _ _ hS1 (fun _ => ?_)
          clear hK K
          try simp only [Act.put, List.setIfInBounds_toArray, List.set_cons_zero, List.set_cons_succ]
          refine wpAnyH_ready (rs := [9]) (by kernel_rfl) (by simp) ?_
          refine AllReadyH.cons rfl (fun K hK => ?_) AllReadyH.nil
          go_simp
          go_at_call 15
          refine Calls.mono (append_last_k M 0 (wrap32 (ca + sh), cbb) _ [] _ (kt.own HH.out.2.2 (fun k e => by simp only [Value.ownBlock, Option.some.injEq] at e; subst e; exact ⟨Nat.lt_of_lt_of_le hgl (by show w.heap.size ≤ V.heap.size; omega), ngt⟩)) (by have := kt.size; have : V.drew.heap.size = V.heap.size := rfl; have := HX.out.1.mK; omega) (by omega)) ?_
          rintro e V2 ⟨v9, rfl, o9, k9⟩
          obtain ⟨g9, cap9, rfl, _⟩ := own_form o9 (by omega)
          have kt' : KeptB V.heap.size (fun k => k = tlb) V V1 := (KeptB.drew V).trans kt
          have kg : KeptB V.heap.size (fun k => k = g) V1 V2 := k9.mono kt'.size (fun k _ e => by simpa [Value.ownBlock] using e)
          have hS2 := keepS2 V1 V2 hS1 kt'.size kg
          have ktg : KeptB V.heap.size (fun k => k = tlb ∨ k = g) V V2 := (kt'.mono (Nat.le_refl _) (fun k _ e => .inl e)).trans (kg.mono (Nat.le_refl _) (fun k _ e => .inr e))
          have t1l := t1.lt
          have t1g : Boxed V2 tlb 24 tlv := k9.boxed t1 t1l (fun e => ngt (by simp only [Value.ownBlock, Option.some.injEq] at e; exact e.symm))
          have t2g : V2.ownsRow V.heap.size 28 2 tlv 1 [.int .i32 ca, .int .i32 cbb] := k9.own t2 (fun k e => ⟨(t2.lt k e).2, fun s => by
            have h1 := (t2.lt k e).1
            have h2 : V.drew.heap.size = V.heap.size := rfl
            simp only [Value.ownBlock, Option.some.injEq] at s
            omega⟩)
          refine hK.out _ _ hS2 (fun _ => ?_)
          clear hK K
          try simp only [Act.put, List.setIfInBounds_toArray, List.set_cons_zero, List.set_cons_succ]
          refine take_first (i := 10) (v := ?_) rfl (by kernel_rfl) (by kernel_rfl) (by kernel_rfl) (by rfl) ?_ hS2 ?_
          rotate_left
          · intro w0 hw0; obtain ⟨q0, q1, q2, q3⟩ := hw0; go_simp; try rfl
          try simp only [Act.put, List.setIfInBounds_toArray, List.set_cons_zero, List.set_cons_succ]
          refine take_first (i := 11) (v := ?_) rfl (by kernel_rfl) (by kernel_rfl) (by kernel_rfl) (by rfl) ?_ hS2 ?_
          rotate_left
          · intro w0 hw0; obtain ⟨q0, q1, q2, q3⟩ := hw0; go_simp; try rfl
          try simp only [Act.put, List.setIfInBounds_toArray, List.set_cons_zero, List.set_cons_succ]
          have l2 := ktg.boxed HLK.out.2 HLK.out.2.lt (fun e => by rcases e with e | e; exact nLt e; exact (fun e => HX.out.1.list.not_row (by decide) HX.out.1.row (by rw [e]; rfl)) e)
          have l2c := l2.cell
          have l2f := l2.frozen
          refine wpAnyH_ready (rs := [12]) (by kernel_rfl) (by simp) ?_
          refine AllReadyH.cons rfl (fun K hK => ?_) AllReadyH.nil
          go_simp
          refine hK.out _ _ (keepL _ _ hS2) (fun _ => ?_)
          clear hK K
          try simp only [Act.put, List.setIfInBounds_toArray, List.set_cons_zero, List.set_cons_succ]
          exact wpAnyH_done (by kernel_rfl) ⟨rfl, ⟨_, rfl⟩, tail_trim HX.out.1 HLK.out.1 HLK.out.2 hnone hf ktg t1g t2g o9⟩ _
        · go_simp
          go_at_call 6
          refine Calls.mono (trim_any tlb shb ca cbb sh _ HH.out.1 HH.out.2.1) ?_
          rintro e V1 ⟨rfl, kt, tlv, t1, t2⟩
          have hS1 := keepS V1 ((KeptB.drew V).trans kt)
          refine hK.out _ _ hS1 (fun _ => ?_)
          clear hK K
          try simp only [Act.put, List.setIfInBounds_toArray, List.set_cons_zero, List.set_cons_succ]
          have lc1 := (KeptB.boxed (show KeptB V.heap.size (fun k => k = tlb) V V1 from (KeptB.drew V).trans kt) HLK.out.2 HLK.out.2.lt nLt).cell
          refine wpAnyH_ready (rs := [4]) (by kernel_rfl) (by simp) ?_
          refine AllReadyH.cons rfl (fun K hK => ?_) AllReadyH.nil
          go_simp
          refine hK.out _ _ hS1 (fun _ => ?_)
          clear hK K
          try simp only [Act.put, List.setIfInBounds_toArray, List.set_cons_zero, List.set_cons_succ]
          refine take_first (i := 5) (v := ?_) rfl (by kernel_rfl) (by kernel_rfl) (by kernel_rfl) (by rfl) ?_ hS1 ?_
          rotate_left
          · intro w0 hw0; obtain ⟨q0, q1, q2, q3⟩ := hw0; go_simp; try rfl
          try simp only [Act.put, List.setIfInBounds_toArray, List.set_cons_zero, List.set_cons_succ]
          refine wpAnyH_ready (rs := [9]) (by kernel_rfl) (by simp) ?_
          refine AllReadyH.cons rfl (fun K hK => ?_) AllReadyH.nil
          go_simp
          go_at_call 15
          refine Calls.mono (append_last_k M 0 (wrap32 (ca + sh), cbb) _ [] _ (kt.own HH.out.2.2 (fun k e => by simp only [Value.ownBlock, Option.some.injEq] at e; subst e; exact ⟨Nat.lt_of_lt_of_le hgl (by show w.heap.size ≤ V.heap.size; omega), ngt⟩)) (by have := kt.size; have : V.drew.heap.size = V.heap.size := rfl; have := HX.out.1.mK; omega) (by omega)) ?_
          rintro e V2 ⟨v9, rfl, o9, k9⟩
          obtain ⟨g9, cap9, rfl, _⟩ := own_form o9 (by omega)
          have kt' : KeptB V.heap.size (fun k => k = tlb) V V1 := (KeptB.drew V).trans kt
          have kg : KeptB V.heap.size (fun k => k = g) V1 V2 := k9.mono kt'.size (fun k _ e => by simpa [Value.ownBlock] using e)
          have hS2 := keepS2 V1 V2 hS1 kt'.size kg
          have ktg : KeptB V.heap.size (fun k => k = tlb ∨ k = g) V V2 := (kt'.mono (Nat.le_refl _) (fun k _ e => .inl e)).trans (kg.mono (Nat.le_refl _) (fun k _ e => .inr e))
          have t1l := t1.lt
          have t1g : Boxed V2 tlb 24 tlv := k9.boxed t1 t1l (fun e => ngt (by simp only [Value.ownBlock, Option.some.injEq] at e; exact e.symm))
          have t2g : V2.ownsRow V.heap.size 28 2 tlv 1 [.int .i32 ca, .int .i32 cbb] := k9.own t2 (fun k e => ⟨(t2.lt k e).2, fun s => by
            have h1 := (t2.lt k e).1
            have h2 : V.drew.heap.size = V.heap.size := rfl
            simp only [Value.ownBlock, Option.some.injEq] at s
            omega⟩)
          refine hK.out _ _ hS2 (fun _ => ?_)
          clear hK K
          try simp only [Act.put, List.setIfInBounds_toArray, List.set_cons_zero, List.set_cons_succ]
          refine take_first (i := 10) (v := ?_) rfl (by kernel_rfl) (by kernel_rfl) (by kernel_rfl) (by rfl) ?_ hS2 ?_
          rotate_left
          · intro w0 hw0; obtain ⟨q0, q1, q2, q3⟩ := hw0; go_simp; try rfl
          try simp only [Act.put, List.setIfInBounds_toArray, List.set_cons_zero, List.set_cons_succ]
          refine take_first (i := 11) (v := ?_) rfl (by kernel_rfl) (by kernel_rfl) (by kernel_rfl) (by rfl) ?_ hS2 ?_
          rotate_left
          · intro w0 hw0; obtain ⟨q0, q1, q2, q3⟩ := hw0; go_simp; try rfl
          try simp only [Act.put, List.setIfInBounds_toArray, List.set_cons_zero, List.set_cons_succ]
          have l2 := ktg.boxed HLK.out.2 HLK.out.2.lt (fun e => by rcases e with e | e; exact nLt e; exact (fun e => HX.out.1.list.not_row (by decide) HX.out.1.row (by rw [e]; rfl)) e)
          have l2c := l2.cell
          have l2f := l2.frozen
          refine wpAnyH_ready (rs := [12]) (by kernel_rfl) (by simp) ?_
          refine AllReadyH.cons rfl (fun K hK => ?_) AllReadyH.nil
          go_simp
          refine hK.out _ _ (keepL _ _ hS2) (fun _ => ?_)
          clear hK K
          try simp only [Act.put, List.setIfInBounds_toArray, List.set_cons_zero, List.set_cons_succ]
          exact wpAnyH_done (by kernel_rfl) ⟨rfl, ⟨_, rfl⟩, tail_trim HX.out.1 HLK.out.1 HLK.out.2 hnone hf ktg t1g t2g o9⟩ _
      · rintro a9 w9 ⟨⟨tm, rfl⟩, hx, hk⟩
        go_wp2_with fail
        exact leave7 hx hk
    · have z1 : (N : Int) > 0 := by omega
      go_wp2_with fail
      have hmk : ∀ w, (Instr.makeSlice 29 (.int .i64 0) (.int .i64 8)).run Yba.prog w = .ok (.slice (some ⟨w.heap.size, 0, none⟩) 0 8) (w.alloc (.cells (Array.replicate 8 (.int .u8 0)) 5)) := fun _ => by kernel_rfl
      refine onceP (T := fun a9 w9 => (∃ tm, a9 = { tmps := tm, defers := [{ target := .collected (w.heap.size + 6), args := #[] }] }) ∧ Ix7 w.heap.size Lb klb kkb tlb g ks sh (cb ++ [(ca, cbb)]) w w9 ∧ w9.heap[w.heap.size + 6]? = some (.deferred (some []))) ?_ ?_
      · refine region_plain (S := fun w9 => w9.cell? ⟨w.heap.size, 0, none⟩ = some (.pointer (some ⟨Lb, 0, none⟩)) ∧ w9.cell? ⟨w.heap.size + 1 + 1, 0, none⟩ = some (.func (.func 6) #[] #[.pointer (some ⟨tlb, 0, none⟩), .pointer (some ⟨shb, 0, none⟩)]) ∧ w9.cell? ⟨bx, 0, none⟩ = some (.int .i32 ca) ∧ w9.cell? ⟨bx, 1, none⟩ = some (.int .i32 cbb)) mixed ?_
        refine take_first (i := 0) (v := ?_) rfl (by kernel_rfl) (by kernel_rfl) (by kernel_rfl) (by rfl) ?_ hS ?_
        rotate_left
        · intro w0 hw0; obtain ⟨q0, q1, q2, q3⟩ := hw0; go_simp; try rfl
        try simp only [Act.put, List.setIfInBounds_toArray, List.set_cons_zero, List.set_cons_succ]
        refine take_first (i := 2) (v := ?_) rfl (by kernel_rfl) (by kernel_rfl) (by kernel_rfl) (by rfl) ?_ hS ?_
        rotate_left
        · intro w0 hw0; obtain ⟨q0, q1, q2, q3⟩ := hw0; go_simp; try rfl
        try simp only [Act.put, List.setIfInBounds_toArray, List.set_cons_zero, List.set_cons_succ]
        refine take_first (i := 3) (v := ?_) rfl (by kernel_rfl) (by kernel_rfl) (by kernel_rfl) (by rfl) ?_ hS ?_
        rotate_left
        · intro w0 hw0; obtain ⟨q0, q1, q2, q3⟩ := hw0; go_simp; try rfl
        try simp only [Act.put, List.setIfInBounds_toArray, List.set_cons_zero, List.set_cons_succ]
        refine wpAnyH_ready (rs := [1, 4]) (by kernel_rfl) (by simp) ?_
        refine AllReadyH.cons rfl (fun K hK => ?_) (AllReadyH.cons rfl (fun K hK => ?_) AllReadyH.nil)
        · go_simp
          have kA : KeptB V.heap.size (fun k => k = tlb) V (V.alloc (.cells (Array.replicate 8 (.int .u8 0)) 5)) := KeptB.alloc _ (Nat.le_refl _)
          have kA' : KeptB V.heap.size (fun k => k = tlb) V (V.drew.alloc (.cells (Array.replicate 8 (.int .u8 0)) 5)) := kA.trans ⟨rfl, rfl, Nat.le_refl _, fun _ _ _ => rfl⟩
          have hSA := keepS _ kA'
          refine hK.out _ _ hSA (fun _ => ?_)
          clear hK K
          try simp only [Act.put, List.setIfInBounds_toArray, List.set_cons_zero, List.set_cons_succ]
          refine wpAnyH_ready (rs := [4]) (by kernel_rfl) (by simp) ?_
          refine AllReadyH.cons rfl (fun K hK => ?_) AllReadyH.nil
          go_simp
          go_at_call 6
          refine Calls.mono (trim_any tlb shb ca cbb sh _ (show Boxed (V.alloc (.cells (Array.replicate 8 (.int .u8 0)) 5)) tlb 24 (.slice none 0 0) from HH.out.1.alloc _) (show Boxed (V.alloc (.cells (Array.replicate 8 (.int .u8 0)) 5)) shb 21 (.int .i32 sh) from HH.out.2.1.alloc _)) ?_
          rintro e V1 ⟨rfl, kt, tlv, t1, t2⟩
          have hsA : (V.drew.alloc (.cells (Array.replicate 8 (.int .u8 0)) 5)).heap.size = V.heap.size + 1 := World.size_alloc _ _
          have kt' : KeptB V.heap.size (fun k => k = tlb) V V1 := kA'.trans (kt.mono (by show V.heap.size ≤ (V.drew.alloc (.cells (Array.replicate 8 (.int .u8 0)) 5)).heap.size; omega) (fun k _ e => e))
          have hS1 := keepS V1 kt'
          refine hK.out _ _ hS1 (fun _ => ?_)
          clear hK K
          try simp only [Act.put, List.setIfInBounds_toArray, List.set_cons_zero, List.set_cons_succ]
          refine wpAnyH_ready (rs := [5]) (by kernel_rfl) (by simp) ?_
          refine AllReadyH.cons rfl (fun K hK => ?_) AllReadyH.nil
          go_simp
          go_at_call 15
          have sz1 : V.heap.size + 1 ≤ V1.heap.size := Nat.le_trans (Nat.le_of_eq hsA.symm) kt.size
          have own1 : V1.ownsRow V.heap.size 5 1 (.slice (some ⟨V.heap.size, 0, none⟩) 0 8) 0 [] := KeptB.own (a := V.drew.alloc (.cells (Array.replicate 8 (.int .u8 0)) 5)) kt (World.ownsRow_made V.drew (Array.replicate 8 (.int .u8 0)) 8 (Nat.le_refl _) (by decide) (by simp)) (fun k e => by
            simp only [Value.ownBlock, Option.some.injEq] at e; subst e
            exact ⟨by show V.heap.size < (V.drew.alloc (.cells (Array.replicate 8 (.int .u8 0)) 5)).heap.size; omega, fun e => by have e : V.heap.size = tlb := e; omega⟩)
          refine Calls.mono (append_last_k V.heap.size 0 (wrap32 (ca + sh), cbb) _ [] _ own1 (by omega) (by omega)) ?_
          rintro e V2 ⟨v9, rfl, o9, k9⟩
          obtain ⟨g9, cap9, rfl, _⟩ := own_form o9 (by omega)
          have kg : KeptB V.heap.size (fun k => k = g) V1 V2 := k9.mono (by omega) (fun k hk e => by simp only [Value.ownBlock, Option.some.injEq] at e; omega)
          have hS2 := keepS2 V1 V2 hS1 (by omega) kg
          have ktg : KeptB V.heap.size (fun k => k = tlb ∨ k = g) V V2 := (kt'.mono (Nat.le_refl _) (fun k _ e => .inl e)).trans (kg.mono (Nat.le_refl _) (fun k _ e => .inr e))
          have t1l := t1.lt
          have t1g : Boxed V2 tlb 24 tlv := k9.boxed t1 t1l (fun e => by simp only [Value.ownBlock, Option.some.injEq] at e; omega)
          have t2' : V1.ownsRow (V.heap.size + 1) 28 2 tlv 1 [.int .i32 ca, .int .i32 cbb] := by rw [← hsA]; exact t2
          have t2g : V2.ownsRow V.heap.size 28 2 tlv 1 [.int .i32 ca, .int .i32 cbb] := own_le (k9.own t2' (fun k e => ⟨(t2'.lt k e).2, fun s => by
            have h1 := (t2'.lt k e).1
            simp only [Value.ownBlock, Option.some.injEq] at s
            omega⟩)) (by omega)
          refine hK.out _ _ hS2 (fun _ => ?_)
          clear hK K
          try simp only [Act.put, List.setIfInBounds_toArray, List.set_cons_zero, List.set_cons_succ]
          refine take_first (i := 6) (v := ?_) rfl (by kernel_rfl) (by kernel_rfl) (by kernel_rfl) (by rfl) ?_ hS2 ?_
          rotate_left
          · intro w0 hw0; obtain ⟨q0, q1, q2, q3⟩ := hw0; go_simp; try rfl
          try simp only [Act.put, List.setIfInBounds_toArray, List.set_cons_zero, List.set_cons_succ]
          refine take_first (i := 7) (v := ?_) rfl (by kernel_rfl) (by kernel_rfl) (by kernel_rfl) (by rfl) ?_ hS2 ?_
          rotate_left
          · intro w0 hw0; obtain ⟨q0, q1, q2, q3⟩ := hw0; go_simp; try rfl
          try simp only [Act.put, List.setIfInBounds_toArray, List.set_cons_zero, List.set_cons_succ]
          have l2 := ktg.boxed HLK.out.2 HLK.out.2.lt (fun e => by rcases e with e | e; exact nLt e; exact (fun e => HX.out.1.list.not_row (by decide) HX.out.1.row (by rw [e]; rfl)) e)
          have l2c := l2.cell
          have l2f := l2.frozen
          refine wpAnyH_ready (rs := [8]) (by kernel_rfl) (by simp) ?_
          refine AllReadyH.cons rfl (fun K hK => ?_) AllReadyH.nil
          go_simp
          refine hK.out _ _ (keepL _ _ hS2) (fun _ => ?_)
          clear hK K
          try simp only [Act.put, List.setIfInBounds_toArray, List.set_cons_zero, List.set_cons_succ]
          exact wpAnyH_done (by kernel_rfl) ⟨rfl, ⟨_, rfl⟩, tail_trim HX.out.1 HLK.out.1 HLK.out.2 hnone hf ktg t1g t2g o9⟩ _
        · go_simp
          go_at_call 6
          refine Calls.mono (trim_any tlb shb ca cbb sh _ HH.out.1 HH.out.2.1) ?_
          rintro e V1 ⟨rfl, kt, tlv, t1, t2⟩
          have kt' : KeptB V.heap.size (fun k => k = tlb) V V1 := (KeptB.drew V).trans kt
          have hS1 := keepS V1 kt'
          refine hK.out _ _ hS1 (fun _ => ?_)
          clear hK K
          try simp only [Act.put, List.setIfInBounds_toArray, List.set_cons_zero, List.set_cons_succ]
          refine wpAnyH_ready (rs := [1]) (by kernel_rfl) (by simp) ?_
          refine AllReadyH.cons rfl (fun K hK => ?_) AllReadyH.nil
          go_simp
          have sz1 := kt'.size
          have kB : KeptB V.heap.size (fun k => k = tlb) V (V1.alloc (.cells (Array.replicate 8 (.int .u8 0)) 5)) := kt'.trans (KeptB.alloc _ sz1)
          have hSB := keepS _ kB
          refine hK.out _ _ hSB (fun _ => ?_)
          clear hK K
          try simp only [Act.put, List.setIfInBounds_toArray, List.set_cons_zero, List.set_cons_succ]
          refine wpAnyH_ready (rs := [5]) (by kernel_rfl) (by simp) ?_
          refine AllReadyH.cons rfl (fun K hK => ?_) AllReadyH.nil
          go_simp
          go_at_call 15
          have own1 : (V1.alloc (.cells (Array.replicate 8 (.int .u8 0)) 5)).ownsRow V.heap.size 5 1 (.slice (some ⟨V1.heap.size, 0, none⟩) 0 8) 0 [] := World.ownsRow_made V1 (Array.replicate 8 (.int .u8 0)) 8 sz1 (by decide) (by simp)
          refine Calls.mono (append_last_k V.heap.size 0 (wrap32 (ca + sh), cbb) _ [] _ own1 (by rw [World.size_alloc]; omega) (by omega)) ?_
          rintro e V2 ⟨v9, rfl, o9, k9⟩
          obtain ⟨g9, cap9, rfl, _⟩ := own_form o9 (by omega)
          have kg : KeptB V.heap.size (fun k => k = g) V1 V2 := (KeptB.alloc _ sz1).trans (k9.mono (by rw [World.size_alloc]; omega) (fun k hk e => by simp only [Value.ownBlock, Option.some.injEq] at e; omega))
          have hS2 := keepS2 V1 V2 hS1 (by omega) kg
          have ktg : KeptB V.heap.size (fun k => k = tlb ∨ k = g) V V2 := (kt'.mono (Nat.le_refl _) (fun k _ e => .inl e)).trans (kg.mono (Nat.le_refl _) (fun k _ e => .inr e))
          have t1l := t1.lt
          have t1g : Boxed V2 tlb 24 tlv := k9.boxed (t1.alloc _) (by rw [World.size_alloc]; omega) (fun e => by simp only [Value.ownBlock, Option.some.injEq] at e; omega)
          have t2g : V2.ownsRow V.heap.size 28 2 tlv 1 [.int .i32 ca, .int .i32 cbb] := k9.own (t2.alloc _) (fun k e => ⟨by have := (t2.lt k e).2; rw [World.size_alloc]; omega, fun s => by
            have h1 := (t2.lt k e).2
            simp only [Value.ownBlock, Option.some.injEq] at s
            omega⟩)
          refine hK.out _ _ hS2 (fun _ => ?_)
          clear hK K
          try simp only [Act.put, List.setIfInBounds_toArray, List.set_cons_zero, List.set_cons_succ]
          refine take_first (i := 6) (v := ?_) rfl (by kernel_rfl) (by kernel_rfl) (by kernel_rfl) (by rfl) ?_ hS2 ?_
          rotate_left
          · intro w0 hw0; obtain ⟨q0, q1, q2, q3⟩ := hw0; go_simp; try rfl
          try simp only [Act.put, List.setIfInBounds_toArray, List.set_cons_zero, List.set_cons_succ]
          refine take_first (i := 7) (v := ?_) rfl (by kernel_rfl) (by kernel_rfl) (by kernel_rfl) (by rfl) ?_ hS2 ?_
          rotate_left
          · intro w0 hw0; obtain ⟨q0, q1, q2, q3⟩ := hw0; go_simp; try rfl
          try simp only [Act.put, List.setIfInBounds_toArray, List.set_cons_zero, List.set_cons_succ]
          have l2 := ktg.boxed HLK.out.2 HLK.out.2.lt (fun e => by rcases e with e | e; exact nLt e; exact (fun e => HX.out.1.list.not_row (by decide) HX.out.1.row (by rw [e]; rfl)) e)
          have l2c := l2.cell
          have l2f := l2.frozen
          refine wpAnyH_ready (rs := [8]) (by kernel_rfl) (by simp) ?_
          refine AllReadyH.cons rfl (fun K hK => ?_) AllReadyH.nil
          go_simp
          refine hK.out _ _ (keepL _ _ hS2) (fun _ => ?_)
          clear hK K
          try simp only [Act.put, List.setIfInBounds_toArray, List.set_cons_zero, List.set_cons_succ]
          exact wpAnyH_done (by kernel_rfl) ⟨rfl, ⟨_, rfl⟩, tail_trim HX.out.1 HLK.out.1 HLK.out.2 hnone hf ktg t1g t2g o9⟩ _
      · rintro a9 w9 ⟨⟨tm, rfl⟩, hx, hk⟩
        go_wp2_with fail
        exact leave7 hx hk
end
end Go.Proofs.Ybulkcryq
