/-
  trimFront (7) BY ITS CONTRACT.
-/
import Derived.Test.YbulkcryqKeep
import Derived.Test.YbulkcryqTail
namespace Go.Proofs.Ybulkcryq
open Go Go.RowKit Go.Shelf

attribute [local go_sem] Oper.semAt_some

set_option maxHeartbeats 800000 in
set_option maxRecDepth 100000 in
theorem front_any (M Lb klb kkb kpb tlb shb g cap : Nat) (ka : Option Addr) (kc : Nat) (ks : List Bool) (sh : Int) (cb : List (Int × Int)) (cl : Int × Int) (w : World) (hin : FrontIn M Lb klb kkb kpb tlb shb g cap ka kc ks sh cb cl w) :
    CallsIn Fence.wide 9 Yba.prog 7 #[.pointer (some ⟨Lb, 0, none⟩), .func (.func 5) #[] #[.pointer (some ⟨klb, 0, none⟩), .pointer (some ⟨kkb, 0, none⟩), .pointer (some ⟨kpb, 0, none⟩)], .func (.func 6) #[] #[.pointer (some ⟨tlb, 0, none⟩), .pointer (some ⟨shb, 0, none⟩)]] w (fun e W' => (∃ v, e = .returned v) ∧ Ix7 w.heap.size Lb klb kkb tlb g ks sh (cb ++ [cl]) w W') := by
  have c1 := hin.list.cell
  have l1 : Lb < w.heap.size := hin.list.lt
  have n1 : ¬ Lb = w.heap.size := by omega
  have n2 : ¬ Lb = w.heap.size + 1 := by omega
  have n3 : ¬ Lb = w.heap.size + 1 + 1 := by omega
  obtain ⟨N, hN⟩ : ∃ N, (packB cb).length = N := ⟨_, rfl⟩
  rw [hN] at c1
  have c3 : (((w.alloc (.cells #[.pointer (some ⟨Lb, 0, none⟩)] 44)).alloc (.cells #[keepV klb kkb kpb] 33)).alloc (.cells #[trimV tlb shb] 34)).cell? ⟨Lb, 0, none⟩ = some (.slice (some ⟨g, 0, none⟩) (N + 8) cap) :=
    (World.cell?_of_block (a := ⟨Lb, 0, none⟩) ((Below.heap_alloc _ _ _ (by simp; omega)).trans ((Below.heap_alloc _ _ _ (by simp; omega)).trans (Below.heap_alloc _ _ _ l1)))).trans c1
  unfold keepV trimV at c3
  have hNl : N ≤ 3000 := by
    have := packB_length_le cb (fun c hc => hin.ok c (by simp [hc]))
    have := hin.len
    omega
  have hcapl : N + 8 ≤ cap := by
    rcases hin.row.2 with ⟨h, _⟩ | ⟨g', cap', cur, h, _, _, hnc, _⟩
    · cases h
    · simp only [Value.slice.injEq] at h; rw [hN] at hnc; omega
  have i1 : ((N : Int) + 8 == 0) = false := by simp; omega
  have i2 : (N : Int) + 8 - 8 = N := by omega
  have i3 : (0 : Int) ≤ (N : Int) := by omega
  have i4 : (N : Int) ≤ (cap : Int) := by omega
  have HI : Hid _ := hin
  have HN : Hid _ := hN
  clear hin hN
  refine callsIn_of_wp_marks Yba.func7 rfl trivial ?_ rfl
  simp only [Yba.ntmps7, List.size_toArray, List.length_cons, List.length_nil, Nat.reduceAdd, Nat.reduceSub, Array.replicate_succ, Array.replicate_zero, List.push_toArray, List.append_toArray, List.nil_append, List.cons_append]
  refine wpIn_wide.2 ?_
  go_wp2_with fail
  obtain ⟨H, hH⟩ : ∃ H, w.heap.size = H := ⟨_, rfl⟩
  obtain ⟨w3, hw3⟩ : ∃ w3, (((w.alloc (.cells #[.pointer (some ⟨Lb, 0, none⟩)] 44)).alloc (.cells #[keepV klb kkb kpb] 33)).alloc (.cells #[trimV tlb shb] 34)) = w3 := ⟨_, rfl⟩
  have b0 : Boxed w3 H 44 (.pointer (some ⟨Lb, 0, none⟩)) := by
    rw [← hw3, ← hH]; exact ((Boxed.new w 44 _).alloc _).alloc _
  have b1 : Boxed w3 (H + 1) 33 (keepV klb kkb kpb) := by
    rw [← hw3, ← hH]; have := (Boxed.new (w.alloc (.cells #[.pointer (some ⟨Lb, 0, none⟩)] 44)) 33 (keepV klb kkb kpb)).alloc (.cells #[trimV tlb shb] 34); rwa [World.size_alloc] at this
  have b2 : Boxed w3 (H + 2) 34 (trimV tlb shb) := by
    rw [← hw3, ← hH]; have := Boxed.new ((w.alloc (.cells #[.pointer (some ⟨Lb, 0, none⟩)] 44)).alloc (.cells #[keepV klb kkb kpb] 33)) 34 (trimV tlb shb); rwa [World.size_alloc, World.size_alloc] at this
  have hB3 : Below H w w3 := by rw [← hw3, ← hH]; exact (((Below.refl _ w).alloc (Nat.le_refl _) _).alloc (by simp) _).alloc (by simp; omega) _
  have hs3 : w3.heap.size = H + 1 + 1 + 1 := by rw [← hw3]; simp [hH]
  unfold keepV trimV at hw3
  rw [hw3] at c3 ⊢
  rw [hH] at l1 n1 n2 n3 ⊢
  have d0 := b0.cell
  have n4 : ¬ Lb = w3.heap.size := by omega
  have l4 : Lb < w3.heap.size := by omega
  have n5 : ¬ H = w3.heap.size := by omega
  have l5 : H < w3.heap.size := by omega
  have HB : Hid (Boxed w3 H 44 (.pointer (some ⟨Lb, 0, none⟩)) ∧ Boxed w3 (H + 1) 33 (keepV klb kkb kpb) ∧ Boxed w3 (H + 2) 34 (trimV tlb shb) ∧ Below H w w3 ∧ w3.heap.size = H + 3 ∧ w.heap.size = H) := ⟨b0, b1, b2, hB3, hs3, hH⟩
  clear hw3 b0 b1 b2 hB3 hs3 hH c1 n1 n2 n3
  go_region
  all_goals go_wp2_with fail
  go_at_call 12
  refine (packed_any _ ⟨_, _, _, rfl⟩ _).mono ?_
  rintro e w6 ⟨rfl, rfl⟩
  have hB6 : Boxes H Lb klb kkb kpb tlb shb g N cap (((w3.alloc (.cells #[.slice (some ⟨g, 0, none⟩) N cap] 29)).alloc (.cells #[.int .i64 0] 3)).drew.alloc (.cells #[.slice (some ⟨g, 0, none⟩) N cap] 29)) := by
    obtain ⟨x0, x1, x2, x3, x4, x5⟩ := HB.out
    refine ⟨((x0.alloc _).alloc _ : Boxed _ _ _ _).alloc _, ((x1.alloc _).alloc _ : Boxed _ _ _ _).alloc _, ((x2.alloc _).alloc _ : Boxed _ _ _ _).alloc _, ?_, ?_⟩
    · have := ((Boxed.new w3 29 (.slice (some ⟨g, 0, none⟩) N cap)).alloc (.cells #[.int .i64 0] 3) : Boxed _ _ _ _).alloc (.cells #[.slice (some ⟨g, 0, none⟩) N cap] 29)
      rw [x4] at this; exact this
    · have := Boxed.new (((w3.alloc (.cells #[.slice (some ⟨g, 0, none⟩) N cap] 29)).alloc (.cells #[.int .i64 0] 3)).drew) 29 (.slice (some ⟨g, 0, none⟩) N cap)
      rw [show (((w3.alloc (.cells #[.slice (some ⟨g, 0, none⟩) N cap] 29)).alloc (.cells #[.int .i64 0] 3)).drew).heap.size = H + 5 from by show ((w3.alloc _).alloc _).heap.size = _; simp [x4]] at this
      exact this
  have hD6 : Boxed (((w3.alloc (.cells #[.slice (some ⟨g, 0, none⟩) N cap] 29)).alloc (.cells #[.int .i64 0] 3)).drew.alloc (.cells #[.slice (some ⟨g, 0, none⟩) N cap] 29)) (H + 4) 3 (.int .i64 0) := by
    obtain ⟨x0, x1, x2, x3, x4, x5⟩ := HB.out
    have := (Boxed.new (w3.alloc (.cells #[.slice (some ⟨g, 0, none⟩) N cap] 29)) 3 (.int .i64 0) : Boxed _ _ _ _).alloc (.cells #[.slice (some ⟨g, 0, none⟩) N cap] 29)
    rw [World.size_alloc, x4] at this
    exact this
  have hW6 : Below H w (((w3.alloc (.cells #[.slice (some ⟨g, 0, none⟩) N cap] 29)).alloc (.cells #[.int .i64 0] 3)).drew.alloc (.cells #[.slice (some ⟨g, 0, none⟩) N cap] 29)) := by
    obtain ⟨x0, x1, x2, x3, x4, x5⟩ := HB.out
    exact (((x3.alloc (by omega) _).alloc (by simp; omega) _).drew).alloc (by show H ≤ ((w3.alloc _).alloc _).heap.size; simp; omega) _
  have hS6 : (((w3.alloc (.cells #[.slice (some ⟨g, 0, none⟩) N cap] 29)).alloc (.cells #[.int .i64 0] 3)).drew.alloc (.cells #[.slice (some ⟨g, 0, none⟩) N cap] 29)).heap.size = H + 6 := by
    obtain ⟨x0, x1, x2, x3, x4, x5⟩ := HB.out
    rw [World.size_alloc]; show ((w3.alloc _).alloc _).heap.size + 1 = _; simp [x4]
  have hP6 : (((w3.alloc (.cells #[.slice (some ⟨g, 0, none⟩) N cap] 29)).alloc (.cells #[.int .i64 0] 3)).drew).heap.size = H + 5 := by
    obtain ⟨x0, x1, x2, x3, x4, x5⟩ := HB.out
    show ((w3.alloc _).alloc _).heap.size = _; simp [x4]
  obtain ⟨w6, hw6⟩ : ∃ w6, (((w3.alloc (.cells #[.slice (some ⟨g, 0, none⟩) N cap] 29)).alloc (.cells #[.int .i64 0] 3)).drew.alloc (.cells #[.slice (some ⟨g, 0, none⟩) N cap] 29)) = w6 := ⟨_, rfl⟩
  rw [hw6] at hB6 hD6 hW6 hS6 ⊢
  rw [hP6, HB.out.2.2.2.2.1]
  have hwH := HB.out.2.2.2.2.2
  have HB6 : Hid (Boxes H Lb klb kkb kpb tlb shb g N cap w6 ∧ Boxed w6 (H + 4) 3 (.int .i64 0) ∧ Below H w w6 ∧ w6.heap.size = H + 6 ∧ w.heap.size = H) := ⟨hB6, hD6, hW6, hS6, hwH⟩
  clear hB6 hD6 hW6 hS6 hwH hw6 hP6 HB c3 d0 n4 l4 n5 l5
  go_wp2_with fail
  have hkl : klb < H := by have := HI.out.klog.lt; have := HB6.out.2.2.2.2; omega
  have hkk : kkb < H := by have := HI.out.kcnt.lt; have := HB6.out.2.2.2.2; omega
  have hgH : g < H := by have := (HI.out.row.lt g rfl).2; have := HB6.out.2.2.2.2; omega
  have hbF : BytesFrom w g 0 (packB cb ++ lastB cl) := own_from HI.out.row
  have hb5g : BytesFrom w g 0 (packB cb) := hbF.take
  have base : ∀ W, W.heap[H + 5]? = some (.cells #[.slice (some ⟨g, 0, none⟩) N cap] 29 (0, 0)) → W.heap[g]? = w.heap[g]? → BaseOf (H + 5) g cap cb W := fun W h1 h2 => by
    refine ⟨?_, hb5g.block h2⟩
    rw [HN.out]
    exact Boxed.cell h1
  have hS6 := HB6.out.2.2.2.1
  have HBase : Hid _ := base
  have HbF : Hid _ := hbF
  have Hb5 : Hid _ := hb5g
  clear base hbF hb5g
  refine wpIn_wide.1 (rangeFunc_cell (F := Fence.wide) (n := 9) rfl (by decide) (gf := 17) (lb := #[.pointer (some ⟨H + 5, 0, none⟩)]) rfl trivial (enters_of Yba.func17 (by kernel_rfl) rfl)
    (iter_seq 8 (H + 5) g cap cb (fun c hc => HI.out.ok c (by simp [hc])) (by rw [HN.out]; exact hcapl) (by rw [HN.out]; omega)) (fun _ => rfl)
    (Inv H Lb klb kkb kpb tlb shb g N cap ks cb w)
    (fun _ W => Ix7 H Lb klb kkb tlb g ks sh (cb ++ [cl]) w W)
    (Ax7 Lb klb kkb kpb tlb shb H g N cap cb)
    ?hB0 ?hIB ?hIc ?hIl ?hIxl ?hAl ?h0 ?hassign ?hIa ?hbody ?hdone ?hstop)
  case hB0 =>
    intro W hb
    have hB := HB6.out
    exact HBase.out W ((hb.block (H + 5) (by omega)).trans hB.1.b5) ((hb.block g (by omega)).trans (hB.2.2.1.block g hgH))
  case hIB =>
    intro c i W h
    exact HBase.out W h.box.b5 (h.kept.block g hgH (fun e => by
      have h1 := HI.out.row
      rcases e with rfl | rfl
      · exact (HI.out.klog.not_row (by decide) h1) rfl
      · exact (HI.out.kcnt.not_row (by decide) h1) rfl))
  case hIc => intro c i W1 W2 h hg; exact h.grow hkl hkk hg
  case hIl => intro c i W1 r o h hl; exact h.put hkl hkk hl (by omega) o
  case hIxl =>
    rintro i W1 r o ⟨hs, kl, tl, pk, hr, ho⟩ hl
    exact ⟨by simpa using hs, kl, tl, pk, hr, ho.put hs hl rfl (by omega) o⟩
  case hAl =>
    rintro i a' W1 r o ⟨bx, h1, h2, h3, h4⟩ hl
    have hne : bx ≠ w6.heap.size + 1 := fun e => by rw [e, hl] at h2; cases h2
    refine ⟨bx, h1, (World.putObj_heap_other hne).trans h2, fun klv hb => h3 klv ?_, h4⟩
    exact (World.putObj_heap_other (by omega)).symm.trans hb
  case h0 =>
    intro c W1 hb hc
    obtain ⟨x1, x2, x3, x4, x5⟩ := HB6.out
    have hk1 : Boxed W1 klb 24 (.slice none 0 0) := (hb.block klb (by omega)).trans ((x3.block klb hkl).trans HI.out.klog)
    refine ⟨fun j hj => by omega, by omega, (KeptB.below x3).trans (KeptB.below (hb.mono (by omega))), x1.of (fun k h1 h2 _ => hb.block k (by omega)), (hb.block _ (by omega)).trans x2, (hb.block kkb (by omega)).trans ((x3.block kkb hkk).trans HI.out.kcnt), _, hk1, World.ownsRow_nil _ _ _ _, by simp [Value.ownBlock], fun _ => rfl⟩
  case hIa => intro c i W W' h hb; exact h.below hkl hkk hb
  case hassign =>
    intro c i W o K hi him hc hco hcb hK
    have hcl := lt_of_block hco
    have hzip : (#[35, 36] : Array Tmp).zip (encsOf g cap cb i) = #[(35, .agg #[.int .i32 (chainOf cb i).1, .int .i32 (chainOf cb i).2]), (36, .slice (some ⟨g, offOf cb i, none⟩) ((packB cb).length - offOf cb i) (cap - offOf cb i))] := by simp [encsOf, Array.zip]
    rw [hzip]
    exact round_assign Lb klb kkb kpb tlb shb H g N cap ks cb w _ c i W K _ (((Yba.f7.body.bind rangeIn).map (fun x => x.2)).getD Code.ret) (by kernel_rfl) hkl hi (by omega) hK
  case hbody =>
    intro c i a' W o hi hax him hc hco hcb
    have hcl := lt_of_block hco
    have hwH := HB6.out.2.2.2.2
    obtain ⟨x, y, rfl⟩ := hcb
    rw [hS6]
    subst hwH
    by_cases hf : (ks[i]?).getD false = true
    · exact body_keep HI.out HN.out hi hax him hco (by omega) _ hf (((Yba.f7.body.bind rangeIn).map (fun x => x.1)).getD Code.ret) _ (by kernel_rfl) _
    · exact body_drop HI.out hi hax him hco (by omega) _ (by simpa using hf) (((Yba.f7.body.bind rangeIn).map (fun x => x.1)).getD Code.ret) _ (by kernel_rfl) _
  case hdone =>
    intro c W hi hK
    have hwH := HB6.out.2.2.2.2
    rw [hS6] at hK ⊢
    subst hwH
    simp only [Exit.inBlock, Exit.then]
    rename_i Q1 K1 h1
    have hKl := lt_of_block hK
    exact h1 _ _ (tail_any HI.out HN.out hi hK (by omega) _ (by kernel_rfl))
  case hstop =>
    intro i W him hx hK
    have hwH := HB6.out.2.2.2.2
    rw [hS6] at hK ⊢
    subst hwH
    refine wpIn_wide.2 ?_
    go_wp2_with fail
    exact leave7 hx hK
end Go.Proofs.Ybulkcryq
