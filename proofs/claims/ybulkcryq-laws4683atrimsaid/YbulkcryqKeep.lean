/-
  The body of trimFront's loop at the first chain kept, walked.
-/
import Derived.Test.YbulkcryqKeepB
import Derived.Test.YbulkcryqSim
import Derived.Deep.RegionHeld
import Derived.Laws.IdiomCopy
namespace Go.Proofs.Ybulkcryq
open Go Go.RowKit Go.Shelf

attribute [local go_sem] Oper.semAt_some

section
variable {M Lb klb kkb kpb tlb shb g cap : Nat} {ka : Option Addr} {kc : Nat} {ks : List Bool} {sh : Int} {cb : List (Int × Int)} {cl : Int × Int} {w : World}
set_option maxHeartbeats 16000000 in
set_option maxRecDepth 100000 in
theorem body_keep (hin : FrontIn M Lb klb kkb kpb tlb shb g cap ka kc ks sh cb cl w)
    {N c i : Nat} {W : World} {a' : Act} (hN : (packB cb).length = N) (hi : Inv w.heap.size Lb klb kkb kpb tlb shb g N cap ks cb w c i W) (hax : Ax7 Lb klb kkb kpb tlb shb w.heap.size g N cap cb i a' W) (him : i < cb.length) {x y : Value} (hco : W.heap[c]? = some (.cells #[x, y] 28 (0, 0)))
    (hl1 : w.heap.size + 7 < W.heap.size) (I : World → Prop) (hf : (ks[i]?).getD false = true) (ac bd : Code) (hcode : Yba.f7.body.bind rangeIn = some (ac, bd)) (l : Nat) :
    bd.wpIn (Fence.wide.inRound l) 7 Yba.prog (cellPost (w.heap.size + 6) c I (Ix7 w.heap.size Lb klb kkb tlb g ks sh (cb ++ [cl]) w) W) a' W := by
  obtain ⟨bx, x1, x2, x3, rfl⟩ := hax
  have KS := keep_step hin hi him hco (by omega)
  rw [hf] at KS
  have HKS : Hid _ := KS
  have hbxl := lt_of_block x2
  have hlen := hin.len
  have HX : Hid (FrontIn M Lb klb kkb kpb tlb shb g cap ka kc ks sh cb cl w ∧ Inv w.heap.size Lb klb kkb kpb tlb shb g N cap ks cb w c i W ∧ W.heap[c]? = some (.cells #[x, y] 28 (0, 0)) ∧ (ks[i]?).getD false = true ∧
    W.heap[bx]? = some (.cells #[.int .i32 (chainOf cb i).1, .int .i32 (chainOf cb i).2] 28 (0, 0)) ∧ (∀ klv, Boxed W klb 24 klv → klv.ownBlock ≠ some bx)) := ⟨hin, hi, hco, hf, x2, x3⟩
  have d1 := hi.box.b1.cell
  unfold keepV at d1
  have e0 : W.cell? ⟨bx, 0, none⟩ = some (.int .i32 (chainOf cb i).1) := by rw [cell_of_row _ _ _ _ _ _ x2]; rfl
  have e1 : W.cell? ⟨bx, 1, none⟩ = some (.int .i32 (chainOf cb i).2) := by rw [cell_of_row _ _ _ _ _ _ x2]; rfl
  have hkl := hin.klog.lt
  have hkk := hin.kcnt.lt
  have htl := hin.tlog.lt
  clear KS hin hi hco hf x2 x3
  unfold roundFrame frame7
  simp only [Yba.f7, rangeIn, Option.bind, Option.some.injEq, Prod.mk.injEq] at hcode
  obtain ⟨rfl, rfl⟩ := hcode
  gi_wp2_with fail
  refine ⟨trivial, ?_⟩
  gi_at_call 5
  refine CallsIn.mono (CallsIn.inRound l (callsIn_wide.2 HKS.out)) ?_
  rintro e W1 ⟨rfl, ko⟩
  have TS := trim_step HX.out.1 HX.out.2.1 (by omega) ko
  have HTS : Hid _ := TS
  have hi := HX.out.2.1
  have b2 : Boxed W1 (w.heap.size + 1 + 1) 34 (trimV tlb shb) := (keep_block HX.out.1 hi ko (w.heap.size + 2) hi.box.b2.lt (by omega) (by omega) (.inl (by omega))).trans hi.box.b2
  have bbx := (keep_block HX.out.1 hi ko bx hbxl (by omega) (by omega) (.inr (.inr HX.out.2.2.2.2.2))).trans HX.out.2.2.2.2.1
  have d2 := b2.cell
  unfold trimV at d2
  have g0 : W1.cell? ⟨bx, 0, none⟩ = some (.int .i32 (chainOf cb i).1) := by rw [cell_of_row _ _ _ _ _ _ bbx]; rfl
  have g1 : W1.cell? ⟨bx, 1, none⟩ = some (.int .i32 (chainOf cb i).2) := by rw [cell_of_row _ _ _ _ _ _ bbx]; rfl
  clear ko TS hi b2 bbx e0 e1 d1 HKS
  gi_wp2_with fail
  refine ⟨trivial, ?_⟩
  gi_at_call 6
  refine CallsIn.mono (CallsIn.inRound l (callsIn_wide.2 HTS.out)) ?_
  rintro e W2 ⟨rfl, to⟩
  have hi := HX.out.2.1
  have hin := HX.out.1
  have hLl := hin.list.lt
  have nLk : Lb ≠ klb := Boxed.ne hin.list hin.klog (by decide)
  have nLc : Lb ≠ kkb := Boxed.ne hin.list hin.kcnt (by decide)
  have nLt : Lb ≠ tlb := Boxed.ne hin.list hin.tlog (by decide)
  have c0 : Boxed W2 w.heap.size 44 (.pointer (some ⟨Lb, 0, none⟩)) := (to.block _ hi.box.b0.lt (by omega) (by omega) (by omega) (.inl (by omega))).trans hi.box.b0
  have c3 : Boxed W2 (w.heap.size + 3) 29 (.slice (some ⟨g, 0, none⟩) N cap) := (to.block _ hi.box.b3.lt (by omega) (by omega) (by omega) (.inl (by omega))).trans hi.box.b3
  have c4 : Boxed W2 (w.heap.size + 3 + 1) 3 (.int .i64 i) := (to.block _ hi.drop.lt (by omega) (by omega) (by omega) (.inl (by omega))).trans hi.drop
  have cL : Boxed W2 Lb 32 (.slice (some ⟨g, 0, none⟩) (N + 8) cap) := by
    have := (to.block Lb (by omega) nLk nLc nLt (.inl (by omega))).trans (hi.kept.boxed hin.list hLl (fun e => by rcases e with e | e; exact nLk e; exact nLc e))
    rw [hN] at this; exact this
  have cx := (to.block bx hbxl (by omega) (by omega) (by omega) (.inr (.inr HX.out.2.2.2.2.2))).trans HX.out.2.2.2.2.1
  have hs2 := to.size
  have hokc := chain_ok cb (fun c hc => hin.ok c (by simp [hc])) i him
  obtain ⟨⟨a, b⟩, hxc⟩ : ∃ x, chainOf cb i = x := ⟨_, rfl⟩
  obtain ⟨t1, ht1⟩ : ∃ t1, wrap32 (a + sh) = t1 := ⟨_, rfl⟩
  have hq := off_rest cb i him
  obtain ⟨q, hqe⟩ : ∃ q, offOf cb i = q := ⟨_, rfl⟩
  rw [hN, hqe] at hq
  have hqN : q ≤ N := by omega
  have HQ : Hid _ := hq
  clear hq
  have HTO : Hid _ := to
  have HC : Hid (Boxed W2 w.heap.size 44 (.pointer (some ⟨Lb, 0, none⟩)) ∧ Boxed W2 (w.heap.size + 3) 29 (.slice (some ⟨g, 0, none⟩) N cap) ∧ Boxed W2 (w.heap.size + 3 + 1) 3 (.int .i64 i) ∧ Boxed W2 Lb 32 (.slice (some ⟨g, 0, none⟩) (N + 8) cap)) := ⟨c0, c3, c4, cL⟩
  rw [hxc] at hokc cx ⊢
  dsimp only at cx ⊢
  rw [ht1]
  rw [hqe]
  have m4 := c4.cell
  have cx0 : W2.cell? ⟨bx, 0, none⟩ = some (.int .i32 a) := by rw [cell_of_row _ _ _ _ _ _ cx]; rfl
  have cx1 : W2.cell? ⟨bx, 1, none⟩ = some (.int .i32 b) := by rw [cell_of_row _ _ _ _ _ _ cx]; rfl
  have j1 : bx < W2.heap.size := by omega
  have j2 : ¬ bx = W2.heap.size := by omega
  have j3 : w.heap.size + 3 + 1 < W2.heap.size := by omega
  have j4 : ¬ w.heap.size + 3 + 1 = W2.heap.size := by omega
  clear to hi hin c0 c3 c4 cL cx HTS d2 g0 g1
  by_cases hz : i = 0 ∧ t1 = a
  · obtain ⟨hz0, hz1⟩ := hz
    have k1 : ((i : Int) == 0) = true := by simp; omega
    have k2 : (t1 == a) = true := by simp [hz1]
    gi_wp2_with fail
    have hg2 : g < W2.heap.size := by have := (HX.out.1.row.lt g rfl).2; omega
    refine keep_end HX.out.1 HX.out.2.1 him hl1 HX.out.2.2.2.1 HTO.out hxc ht1 (KeptB.alloc _ (Nat.le_refl _)) (packB cb ++ lastB cl) ?_ ⟨_, cap, ?_, fun _ => ⟨g, 0, rfl, ?_⟩⟩ I _
    · rw [hz1, hz0]
      refine (encode_same cb cl (a, b) ?_).symm
      rw [hz0] at hxc him
      rw [← hxc]; simp [chainOf, him]
    · rw [List.length_append, lastB_length, hN]; exact HC.out.2.2.2.alloc _
    · have hin := HX.out.1
      have hi := HX.out.2.1
      have ngk : g ≠ klb := fun e => hin.klog.not_row (by decide) hin.row (by rw [← e]; rfl)
      have ngt : g ≠ tlb := fun e => hin.tlog.not_row (by decide) hin.row (by rw [← e]; rfl)
      have ngc : g ≠ kkb := fun e => hin.kcnt.not_row (by decide) hin.row (by rw [← e]; rfl)
      have hgl := (hin.row.lt g rfl).2
      exact (own_from hin.row).block ((Below.heap_alloc _ _ _ hg2).trans ((HTO.out.block g (by omega) ngk ngc ngt (.inl (by omega))).trans (hi.kept.block g hgl (fun e => by rcases e with e | e; exact ngk e; exact ngc e))))
  · have hz' : (((i : Int) == 0) = false) ∨ (((i : Int) == 0) = true ∧ (t1 == a) = false) := by
      by_cases h0 : i = 0
      · exact .inr ⟨by simp; omega, by simp; exact fun e => hz ⟨h0, e⟩⟩
      · exact .inl (by simp; omega)
    clear hz
    have mixed : Yba.prog.follows .mixedOrders = true := by kernel_rfl
    rcases hz' with k1 | ⟨k1, k2⟩
    all_goals
      gi_wp2_with fail
      obtain ⟨W3, hW3⟩ : ∃ W3, ((W2.alloc (.cells #[.int .i32 t1, .int .i32 b] 28)).alloc (.cells #[.int .u8 0, .int .u8 0, .int .u8 0, .int .u8 0, .int .u8 0, .int .u8 0, .int .u8 0, .int .u8 0, .int .u8 0, .int .u8 0, .int .u8 0, .int .u8 0, .int .u8 0, .int .u8 0] 48)) = W3 := ⟨_, rfl⟩
      have hT3 : W3.heap[W2.heap.size]? = some (.cells #[.int .i32 t1, .int .i32 b] 28 (0, 0)) := by rw [← hW3]; exact (Below.heap_alloc _ _ _ (by simp)).trans (heap_alloc_new W2 _)
      have hS3 : W3.heap[W2.heap.size + 1]? = some (.cells #[.int .u8 0, .int .u8 0, .int .u8 0, .int .u8 0, .int .u8 0, .int .u8 0, .int .u8 0, .int .u8 0, .int .u8 0, .int .u8 0, .int .u8 0, .int .u8 0, .int .u8 0, .int .u8 0] 48 (0, 0)) := by rw [← hW3]; have := heap_alloc_new (W2.alloc (.cells #[.int .i32 t1, .int .i32 b] 28)) (.cells #[.int .u8 0, .int .u8 0, .int .u8 0, .int .u8 0, .int .u8 0, .int .u8 0, .int .u8 0, .int .u8 0, .int .u8 0, .int .u8 0, .int .u8 0, .int .u8 0, .int .u8 0, .int .u8 0] 48); rwa [World.size_alloc] at this
      have hB3 : Below W2.heap.size W2 W3 := by rw [← hW3]; exact ((Below.refl _ W2).alloc (Nat.le_refl _) _).alloc (by simp) _
      have hs3 : W3.heap.size = W2.heap.size + 2 := by rw [← hW3]; simp
      rw [hW3]
      have hok1 : Ok (t1, b) := ⟨by rw [← ht1]; constructor <;> (unfold wrap32; omega), hokc.2⟩
      have F3 := first_any (W2.heap.size + 1) _ 48 (t1, b) W3.drew hok1 hS3 rfl
      have HF3 : Hid _ := F3
      have y0 : W3.cell? ⟨W2.heap.size, 0, none⟩ = some (.int .i32 t1) := by rw [cell_of_row _ _ _ _ _ _ hT3]; rfl
      have y1 : W3.cell? ⟨W2.heap.size, 1, none⟩ = some (.int .i32 b) := by rw [cell_of_row _ _ _ _ _ _ hT3]; rfl
      clear hW3 hT3 F3 m4 cx0 cx1 j1 j2 j3 j4
      apply once (fun W4 => BytesFrom W4 (W2.heap.size + 1) 0 (packF (t1, b)) ∧ W4.os = W3.os ∧ W4.output = W3.output ∧ W3.heap.size ≤ W4.heap.size ∧ ∀ k, k < W3.heap.size → k ≠ W2.heap.size + 1 → W4.heap[k]? = W3.heap[k]?)
      case h =>
        gi_region_with_o (refine ⟨trivial, ?_⟩; gi_at_call 13; refine CallsIn.mono (CallsIn.inRound l (callsIn_wide.2 HF3.out)) ?_; rintro e W4 ⟨rfl, f1, f2, f3, f4, f5⟩)
        all_goals exact ⟨rfl, rfl, f1, f2, f3, f4, f5⟩
      rintro W4 ⟨f1, f2, f3, f4, f5⟩
      have h4 : KeptB W2.heap.size (fun _ => False) W2 W4 := ⟨f2.trans hB3.os, f3.trans hB3.output, by omega, fun k hk _ => (f5 k (by omega) (by omega)).trans (hB3.block k hk)⟩
      have b0 := h4.boxed HC.out.1 HC.out.1.lt (fun h => h)
      have bL := h4.boxed HC.out.2.2.2 HC.out.2.2.2.lt (fun h => h)
      have z0 := b0.cell
      have z3 := (h4.boxed HC.out.2.1 HC.out.2.1.lt (fun h => h)).cell
      have zL := bL.cell
      have zLf := bL.frozen
      have hfb : 5 ≤ (packF (t1, b)).length ∧ (packF (t1, b)).length ≤ 9 := by
        have h1 := vi_length_le (x := b - t1) (by have := hok1.1; have := hok1.2; unfold I32 at *; dsimp only at *; omega)
        have h2 := vi_pos (b - t1)
        simp only [packF, List.length_append, le32_length]; omega
      obtain ⟨fl, hfl⟩ : ∃ fl, (packF (t1, b)).length = fl := ⟨_, rfl⟩
      rw [hfl] at hfb ⊢
      have jA : ((N - q : Nat) : Int) = (N : Int) - (q : Int) := by omega
      have jB : (N : Int) - ((N : Int) - (q : Int)) = (q : Int) := by omega
      have jC : N ≤ 3000 := by
        have := packB_length_le cb (fun c hc => HX.out.1.ok c (by simp [hc]))
        omega
      have hsb4 : W2.heap.size + 1 < W4.heap.size := by omega
      have hcap : N + 8 ≤ cap := by
        rcases HX.out.1.row.2 with ⟨h, _⟩ | ⟨g', cap', cur, h, _, _, hnc, _⟩
        · cases h
        · simp only [Value.slice.injEq] at h; rw [hN] at hnc; omega
      have HF : Hid (BytesFrom W4 (W2.heap.size + 1) 0 (packF (t1, b)) ∧ KeptB W2.heap.size (fun _ => False) W2 W4 ∧ (packF (t1, b)).length = fl) := ⟨f1, h4, hfl⟩
      clear f1 f2 f3 f4 f5 h4 hfl hB3 y0 y1 HF3 hS3 hs3 b0 bL
      by_cases hle : fl ≤ q
      · have k3 : (fl : Int) ≤ (q : Int) := by omega
        obtain ⟨d, hd⟩ : ∃ d, q = fl + d := ⟨q - fl, by omega⟩
        have k4 : (q : Int) - (fl : Int) = (d : Int) := by omega
        have k5 : (0 : Int) ≤ (d : Int) := by omega
        have k6 : (d : Int) ≤ (N : Int) + 8 := by omega
        have k7 : ¬ cap = d := by omega
        have k8 : IntKind.i64.wrap (d : Int) = (d : Int) := by rw [IntKind.wrap_i64]; omega
        have k9 : IntKind.i64.wrap ((q : Int) - (fl : Int)) = (d : Int) := by rw [k4]; exact k8
        have k10 : d ≤ N + 8 := by omega
        have k11 : (d : Int).toNat = d := by omega
        have HD : Hid _ := hd
        clear hd
        gi_wp2_with fail
        apply once (fun W5 => W5 = W4.drew.setCell ⟨Lb, 0, none⟩ (.slice (some ⟨g, d, none⟩) (N + 8 - d) (cap - d)))
        case h =>
          apply region_round (S := fun w' => w'.cell? ⟨w.heap.size, 0, none⟩ = some (.pointer (some ⟨Lb, 0, none⟩))) (hd := by kernel_rfl) (hm := mixed)
          have hS : W4.drew.cell? ⟨w.heap.size, 0, none⟩ = some (.pointer (some ⟨Lb, 0, none⟩)) := z0
          refine take_first (i := 0) (v := ?_) rfl (by kernel_rfl) (by kernel_rfl) (by kernel_rfl) (by rfl) ?_ hS ?_
          rotate_left
          · intro w0 hw0; go_simp; try rfl
          try simp only [Act.put, List.setIfInBounds_toArray, List.set_cons_zero, List.set_cons_succ]
          refine take_first (i := 1) (v := ?_) rfl (by kernel_rfl) (by kernel_rfl) (by kernel_rfl) (by rfl) ?_ hS ?_
          rotate_left
          · intro w0 hw0; go_simp; try rfl
          try simp only [Act.put, List.setIfInBounds_toArray, List.set_cons_zero, List.set_cons_succ]
          refine take_first (i := 2) (v := ?_) rfl (by kernel_rfl) (by kernel_rfl) (by kernel_rfl) (by rfl) ?_ hS ?_
          rotate_left
          · intro w0 hw0; go_simp; try rfl
          try simp only [Act.put, List.setIfInBounds_toArray, List.set_cons_zero, List.set_cons_succ]
          refine take_first (i := 3) (v := ?_) rfl (by kernel_rfl) (by kernel_rfl) (by kernel_rfl) (by rfl) ?_ hS ?_
          rotate_left
          · intro w0 hw0; go_simp; try rfl
          try simp only [Act.put, List.setIfInBounds_toArray, List.set_cons_zero, List.set_cons_succ]
          refine take_first (i := 5) (v := ?_) rfl (by kernel_rfl) (by kernel_rfl) (by kernel_rfl) (by rfl) ?_ hS ?_
          rotate_left
          · intro w0 hw0; go_simp; try rfl
          try simp only [Act.put, List.setIfInBounds_toArray, List.set_cons_zero, List.set_cons_succ]
          refine take_first (i := 6) (v := ?_) rfl (by kernel_rfl) (by kernel_rfl) (by kernel_rfl) (by rfl) ?_ hS ?_
          rotate_left
          · intro w0 hw0; go_simp; try rfl
          try simp only [Act.put, List.setIfInBounds_toArray, List.set_cons_zero, List.set_cons_succ]
          refine take_first (i := 7) (v := ?_) rfl (by kernel_rfl) (by kernel_rfl) (by kernel_rfl) (by rfl) ?_ hS ?_
          rotate_left
          · intro w0 hw0; go_simp; try rfl
          try simp only [Act.put, List.setIfInBounds_toArray, List.set_cons_zero, List.set_cons_succ]
          refine take_first (i := 8) (v := ?_) rfl (by kernel_rfl) (by kernel_rfl) (by kernel_rfl) (by rfl) ?_ hS ?_
          rotate_left
          · intro w0 hw0; go_simp; try rfl
          try simp only [Act.put, List.setIfInBounds_toArray, List.set_cons_zero, List.set_cons_succ]
          refine wpAnyH_ready (rs := [4]) (by kernel_rfl) (by simp) ?_
          refine AllReadyH.cons rfl (fun K hK => ?_) AllReadyH.nil
          go_simp
          refine hK.out _ _ hS (fun _ => ?_)
          clear hK K
          try simp only [Act.put, List.setIfInBounds_toArray, List.set_cons_zero, List.set_cons_succ]
          refine take_first (i := 9) (v := ?_) rfl (by kernel_rfl) (by kernel_rfl) (by kernel_rfl) (by rfl) ?_ hS ?_
          rotate_left
          · intro w0 hw0; go_simp; try rfl
          try simp only [Act.put, List.setIfInBounds_toArray, List.set_cons_zero, List.set_cons_succ]
          refine take_first (i := 10) (v := ?_) rfl (by kernel_rfl) (by kernel_rfl) (by kernel_rfl) (by rfl) ?_ hS ?_
          rotate_left
          · intro w0 hw0; go_simp; try rfl
          try simp only [Act.put, List.setIfInBounds_toArray, List.set_cons_zero, List.set_cons_succ]
          refine take_first (i := 11) (v := ?_) rfl (by kernel_rfl) (by kernel_rfl) (by kernel_rfl) (by rfl) ?_ hS ?_
          rotate_left
          · intro w0 hw0; go_simp; try rfl
          try simp only [Act.put, List.setIfInBounds_toArray, List.set_cons_zero, List.set_cons_succ]
          refine wpAnyH_ready (rs := [12]) (by kernel_rfl) (by simp) ?_
          refine AllReadyH.cons rfl (fun K hK => ?_) AllReadyH.nil
          go_simp
          refine hK.out _ _ (by show (W4.setCell _ _).cell? _ = _; rw [World.cell?_setCell_far _ _ _ _ (by show Lb ≠ w.heap.size; omega)]; exact z0) (fun _ => ?_)
          clear hK K
          try simp only [Act.put, List.setIfInBounds_toArray, List.set_cons_zero, List.set_cons_succ]
          exact wpAnyH_done (by kernel_rfl) ⟨rfl, rfl, rfl⟩ _
        rintro W5 hW5
        have CE := copy_end HX.out.1 hN HX.out.2.1 him hl1 HX.out.2.2.2.1 HTO.out hxc ht1 HF.out.2.1 HC.out.2.2.2 (Nat.le_succ _) HF.out.1 HF.out.2.2 hqe HD.out hqN W5 hW5 I
        have hcp := CE.1
        have HCE : Hid _ := CE.2
        have v0 : W5.cell? ⟨w.heap.size, 0, none⟩ = some (.pointer (some ⟨Lb, 0, none⟩)) := by rw [hW5, World.cell?_setCell_far _ _ _ _ (by show Lb ≠ w.heap.size; omega)]; exact z0
        have vL : W5.cell? ⟨Lb, 0, none⟩ = some (.slice (some ⟨g, d, none⟩) (N + 8 - d) (cap - d)) := by
          have hb5 : Boxed W5 Lb 32 (.slice (some ⟨g, d, none⟩) (N + 8 - d) (cap - d)) := by rw [hW5]; exact Boxed.set _ (HF.out.2.1.boxed HC.out.2.2.2 HC.out.2.2.2.lt (fun h => h))
          exact hb5.cell
        clear CE hW5 z0 z3 zL zLf k3 k4 k5 k6 k7 k8 k9 k10 k11 jA jB
        gi_wp2_with fail
        exact HCE.out _
      · have k3 : ¬ (fl : Int) ≤ (q : Int) := by omega
        obtain ⟨T, hT⟩ : ∃ T, T = fl + (N + 8 - q) := ⟨_, rfl⟩
        obtain ⟨h, hh⟩ : ∃ h, W4.heap.size = h := ⟨_, rfl⟩
        have NE := new_end HX.out.1 hN HX.out.2.1 him hl1 HX.out.2.2.2.1 HTO.out hxc ht1 HF.out.2.1 HC.out.2.2.2 hsb4 HF.out.1 HF.out.2.2 (by omega) hqe hqN jC hfb.2 hT hh I
        obtain ⟨W6, W7, W8, hmk, ha1, ha2, e6, e7, e8, NE⟩ := NE
        have HNE : Hid _ := NE
        have c6 := (e6.boxed HC.out.1 HC.out.1.lt (fun h => h)).cell
        have c7 := (e7.boxed HC.out.1 HC.out.1.lt (fun h => h)).cell
        have c8 := (e8.boxed HC.out.1 HC.out.1.lt (fun h => h)).cell
        have l6 := (e6.boxed HC.out.2.2.2 HC.out.2.2.2.lt (fun h => h)).cell
        have l7 := (e7.boxed HC.out.2.2.2 HC.out.2.2.2.lt (fun h => h)).cell
        have l8f := (e8.boxed HC.out.2.2.2 HC.out.2.2.2.lt (fun h => h)).frozen
        have l8 := (e8.boxed HC.out.2.2.2 HC.out.2.2.2.lt (fun h => h)).cell
        have k4 : (fl : Int) + ((N : Int) + 8) - (q : Int) = (T : Int) := by omega
        have k5 : (0 : Int) ≤ (q : Int) := by omega
        have k6 : (q : Int) ≤ (N : Int) + 8 := by omega
        have k7 : ¬ cap = q := by omega
        have k8 : IntKind.i64.wrap (T : Int) = (T : Int) := by rw [IntKind.wrap_i64]; omega
        have k9 : IntKind.i64.wrap ((fl : Int) + ((N : Int) + 8)) = (fl : Int) + ((N : Int) + 8) := by rw [IntKind.wrap_i64]; omega
        have k10 : q ≤ N + 8 := by omega
        have k11 : (q : Int).toNat = q := by omega
        clear NE e6 e7 e8 hT hle
        gi_wp2_with fail
        refine wpIn_mono (Q := fun e _ w' => e = .normal ∧ w' = W8.setCell ⟨Lb, 0, none⟩ (.slice (some ⟨h, 0, none⟩) T T)) ?_ ?_
        · apply region_round (T := fun _ w' => w' = W8.setCell ⟨Lb, 0, none⟩ (.slice (some ⟨h, 0, none⟩) T T)) (S := fun w' => w'.cell? ⟨w.heap.size, 0, none⟩ = some (.pointer (some ⟨Lb, 0, none⟩))) (hd := by kernel_rfl) (hm := mixed)
          have hS : W4.drew.cell? ⟨w.heap.size, 0, none⟩ = some (.pointer (some ⟨Lb, 0, none⟩)) := z0
          refine take_first (i := 0) (v := ?_) rfl (by kernel_rfl) (by kernel_rfl) (by kernel_rfl) (by rfl) ?_ hS ?_
          rotate_left
          · intro w0 hw0; go_simp; try rfl
          try simp only [Act.put, List.setIfInBounds_toArray, List.set_cons_zero, List.set_cons_succ]
          refine take_first (i := 1) (v := ?_) rfl (by kernel_rfl) (by kernel_rfl) (by kernel_rfl) (by rfl) ?_ hS ?_
          rotate_left
          · intro w0 hw0; go_simp; try rfl
          try simp only [Act.put, List.setIfInBounds_toArray, List.set_cons_zero, List.set_cons_succ]
          refine take_first (i := 2) (v := ?_) rfl (by kernel_rfl) (by kernel_rfl) (by kernel_rfl) (by rfl) ?_ hS ?_
          rotate_left
          · intro w0 hw0; go_simp; try rfl
          try simp only [Act.put, List.setIfInBounds_toArray, List.set_cons_zero, List.set_cons_succ]
          refine take_first (i := 3) (v := ?_) rfl (by kernel_rfl) (by kernel_rfl) (by kernel_rfl) (by rfl) ?_ hS ?_
          rotate_left
          · intro w0 hw0; go_simp; try rfl
          try simp only [Act.put, List.setIfInBounds_toArray, List.set_cons_zero, List.set_cons_succ]
          refine take_first (i := 4) (v := ?_) rfl (by kernel_rfl) (by kernel_rfl) (by kernel_rfl) (by rfl) ?_ hS ?_
          rotate_left
          · intro w0 hw0; go_simp; try rfl
          try simp only [Act.put, List.setIfInBounds_toArray, List.set_cons_zero, List.set_cons_succ]
          refine take_first (i := 5) (v := ?_) rfl (by kernel_rfl) (by kernel_rfl) (by kernel_rfl) (by rfl) ?_ hS ?_
          rotate_left
          · intro w0 hw0; go_simp; try rfl
          try simp only [Act.put, List.setIfInBounds_toArray, List.set_cons_zero, List.set_cons_succ]
          refine take_first (i := 9) (v := ?_) rfl (by kernel_rfl) (by kernel_rfl) (by kernel_rfl) (by rfl) ?_ hS ?_
          rotate_left
          · intro w0 hw0; go_simp; try rfl
          try simp only [Act.put, List.setIfInBounds_toArray, List.set_cons_zero, List.set_cons_succ]
          refine take_first (i := 12) (v := ?_) rfl (by kernel_rfl) (by kernel_rfl) (by kernel_rfl) (by rfl) ?_ hS ?_
          rotate_left
          · intro w0 hw0; go_simp; try rfl
          try simp only [Act.put, List.setIfInBounds_toArray, List.set_cons_zero, List.set_cons_succ]
          refine take_first (i := 14) (v := ?_) rfl (by kernel_rfl) (by kernel_rfl) (by kernel_rfl) (by rfl) ?_ hS ?_
          rotate_left
          · intro w0 hw0; go_simp; try rfl
          try simp only [Act.put, List.setIfInBounds_toArray, List.set_cons_zero, List.set_cons_succ]
          refine take_first (i := 15) (v := ?_) rfl (by kernel_rfl) (by kernel_rfl) (by kernel_rfl) (by rfl) ?_ hS ?_
          rotate_left
          · intro w0 hw0; go_simp; try rfl
          try simp only [Act.put, List.setIfInBounds_toArray, List.set_cons_zero, List.set_cons_succ]
          refine take_first (i := 16) (v := ?_) rfl (by kernel_rfl) (by kernel_rfl) (by kernel_rfl) (by rfl) ?_ hS ?_
          rotate_left
          · intro w0 hw0; go_simp; try rfl
          try simp only [Act.put, List.setIfInBounds_toArray, List.set_cons_zero, List.set_cons_succ]
          refine take_first (i := 18) (v := ?_) rfl (by kernel_rfl) (by kernel_rfl) (by kernel_rfl) (by rfl) ?_ hS ?_
          rotate_left
          · intro w0 hw0; go_simp; try rfl
          try simp only [Act.put, List.setIfInBounds_toArray, List.set_cons_zero, List.set_cons_succ]
          refine wpAnyH_ready (rs := [6, 17]) (by kernel_rfl) (by simp) ?_
          refine AllReadyH.cons rfl (fun K hK => ?_) (AllReadyH.cons rfl (fun K hK => ?_) AllReadyH.nil)
          · go_simp
            refine hK.out _ _ hS (fun _ => ?_)
            clear hK K
            try simp only [Act.put, List.setIfInBounds_toArray, List.set_cons_zero, List.set_cons_succ]
            refine take_first (i := 7) (v := ?_) rfl (by kernel_rfl) (by kernel_rfl) (by kernel_rfl) (by rfl) ?_ hS ?_
            rotate_left
            · intro w0 hw0; go_simp; try rfl
            try simp only [Act.put, List.setIfInBounds_toArray, List.set_cons_zero, List.set_cons_succ]
            refine take_first (i := 8) (v := ?_) rfl (by kernel_rfl) (by kernel_rfl) (by kernel_rfl) (by rfl) ?_ hS ?_
            rotate_left
            · intro w0 hw0; go_simp; try rfl
            try simp only [Act.put, List.setIfInBounds_toArray, List.set_cons_zero, List.set_cons_succ]
            refine take_first (i := 10) (v := ?_) rfl (by kernel_rfl) (by kernel_rfl) (by kernel_rfl) (by rfl) ?_ hS ?_
            rotate_left
            · intro w0 hw0; go_simp; try rfl
            try simp only [Act.put, List.setIfInBounds_toArray, List.set_cons_zero, List.set_cons_succ]
            refine wpAnyH_ready (rs := [11, 17]) (by kernel_rfl) (by simp) ?_
            refine AllReadyH.cons rfl (fun K hK => ?_) (AllReadyH.cons rfl (fun K hK => ?_) AllReadyH.nil)
            · go_simp
              refine hK.out _ _ c6 (fun _ => ?_)
              clear hK K
              try simp only [Act.put, List.setIfInBounds_toArray, List.set_cons_zero, List.set_cons_succ]
              refine wpAnyH_ready (rs := [13, 17]) (by kernel_rfl) (by simp) ?_
              refine AllReadyH.cons rfl (fun K hK => ?_) (AllReadyH.cons rfl (fun K hK => ?_) AllReadyH.nil)
              · refine step_append_run (by rfl) (.tmp 94) (.tmp 95) 29 29 (by rfl) (by rfl) _ _ (by rfl) (by rfl) ha1 ?_
                refine hK.out _ _ c7 (fun _ => ?_)
                clear hK K
                try simp only [Act.put, List.setIfInBounds_toArray]
                refine wpAnyH_ready (rs := [17]) (by kernel_rfl) (by simp) ?_
                refine AllReadyH.cons rfl (fun K hK => ?_) AllReadyH.nil
                go_simp
                refine hK.out _ _ c7 (fun _ => ?_)
                clear hK K
                try simp only [Act.put, List.setIfInBounds_toArray, List.set_cons_zero, List.set_cons_succ]
                refine take_first (i := 19) (v := ?_) rfl (by kernel_rfl) (by kernel_rfl) (by kernel_rfl) (by rfl) ?_ c7 ?_
                rotate_left
                · intro w0 hw0; go_simp; try rfl
                try simp only [Act.put, List.setIfInBounds_toArray, List.set_cons_zero, List.set_cons_succ]
                refine wpAnyH_ready (rs := [20]) (by kernel_rfl) (by simp) ?_
                refine AllReadyH.cons rfl (fun K hK => ?_) AllReadyH.nil
                refine step_append_run (by rfl) (.tmp 96) (.tmp 102) 29 29 (by rfl) (by rfl) _ _ (by rfl) (by rfl) ha2 ?_
                refine hK.out _ _ c8 (fun _ => ?_)
                clear hK K
                try simp only [Act.put, List.setIfInBounds_toArray]
                refine take_first (i := 21) (v := ?_) rfl (by kernel_rfl) (by kernel_rfl) (by kernel_rfl) (by rfl) ?_ c8 ?_
                rotate_left
                · intro w0 hw0; go_simp; try rfl
                try simp only [Act.put]
                refine take_first (i := 22) (v := ?_) rfl (by kernel_rfl) (by kernel_rfl) (by kernel_rfl) (by rfl) ?_ c8 ?_
                rotate_left
                · intro w0 hw0; go_simp; try rfl
                try simp only [Act.put]
                refine wpAnyH_ready (rs := [23]) (by kernel_rfl) (by simp) ?_
                refine AllReadyH.cons rfl (fun K hK => ?_) AllReadyH.nil
                go_simp
                refine hK.out _ _ (by show (W8.setCell _ _).cell? _ = _; rw [World.cell?_setCell_far _ _ _ _ (by show Lb ≠ w.heap.size; omega)]; exact c8) (fun _ => ?_)
                clear hK K
                try simp only [Act.put, List.setIfInBounds_toArray, List.set_cons_zero, List.set_cons_succ]
                exact wpAnyH_done (by kernel_rfl) ⟨rfl, rfl⟩ _
              · go_simp
                refine hK.out _ _ c6 (fun _ => ?_)
                clear hK K
                try simp only [Act.put, List.setIfInBounds_toArray, List.set_cons_zero, List.set_cons_succ]
                refine take_first (i := 19) (v := ?_) rfl (by kernel_rfl) (by kernel_rfl) (by kernel_rfl) (by rfl) ?_ c6 ?_
                rotate_left
                · intro w0 hw0; go_simp; try rfl
                try simp only [Act.put, List.setIfInBounds_toArray, List.set_cons_zero, List.set_cons_succ]
                refine wpAnyH_ready (rs := [13]) (by kernel_rfl) (by simp) ?_
                refine AllReadyH.cons rfl (fun K hK => ?_) AllReadyH.nil
                refine step_append_run (by rfl) (.tmp 94) (.tmp 95) 29 29 (by rfl) (by rfl) _ _ (by rfl) (by rfl) ha1 ?_
                refine hK.out _ _ c7 (fun _ => ?_)
                clear hK K
                try simp only [Act.put, List.setIfInBounds_toArray]
                refine wpAnyH_ready (rs := [20]) (by kernel_rfl) (by simp) ?_
                refine AllReadyH.cons rfl (fun K hK => ?_) AllReadyH.nil
                refine step_append_run (by rfl) (.tmp 96) (.tmp 102) 29 29 (by rfl) (by rfl) _ _ (by rfl) (by rfl) ha2 ?_
                refine hK.out _ _ c8 (fun _ => ?_)
                clear hK K
                try simp only [Act.put]
                refine take_first (i := 21) (v := ?_) rfl (by kernel_rfl) (by kernel_rfl) (by kernel_rfl) (by rfl) ?_ c8 ?_
                rotate_left
                · intro w0 hw0; go_simp; try rfl
                try simp only [Act.put]
                refine take_first (i := 22) (v := ?_) rfl (by kernel_rfl) (by kernel_rfl) (by kernel_rfl) (by rfl) ?_ c8 ?_
                rotate_left
                · intro w0 hw0; go_simp; try rfl
                try simp only [Act.put]
                refine wpAnyH_ready (rs := [23]) (by kernel_rfl) (by simp) ?_
                refine AllReadyH.cons rfl (fun K hK => ?_) AllReadyH.nil
                go_simp
                refine hK.out _ _ (by show (W8.setCell _ _).cell? _ = _; rw [World.cell?_setCell_far _ _ _ _ (by show Lb ≠ w.heap.size; omega)]; exact c8) (fun _ => ?_)
                clear hK K
                try simp only [Act.put, List.setIfInBounds_toArray, List.set_cons_zero, List.set_cons_succ]
                exact wpAnyH_done (by kernel_rfl) ⟨rfl, rfl⟩ _
            · go_simp
              refine hK.out _ _ hS (fun _ => ?_)
              clear hK K
              try simp only [Act.put, List.setIfInBounds_toArray, List.set_cons_zero, List.set_cons_succ]
              refine take_first (i := 19) (v := ?_) rfl (by kernel_rfl) (by kernel_rfl) (by kernel_rfl) (by rfl) ?_ hS ?_
              rotate_left
              · intro w0 hw0; go_simp; try rfl
              try simp only [Act.put, List.setIfInBounds_toArray, List.set_cons_zero, List.set_cons_succ]
              refine wpAnyH_ready (rs := [11]) (by kernel_rfl) (by simp) ?_
              refine AllReadyH.cons rfl (fun K hK => ?_) AllReadyH.nil
              go_simp
              refine hK.out _ _ c6 (fun _ => ?_)
              clear hK K
              try simp only [Act.put, List.setIfInBounds_toArray, List.set_cons_zero, List.set_cons_succ]
              refine wpAnyH_ready (rs := [13]) (by kernel_rfl) (by simp) ?_
              refine AllReadyH.cons rfl (fun K hK => ?_) AllReadyH.nil
              refine step_append_run (by rfl) (.tmp 94) (.tmp 95) 29 29 (by rfl) (by rfl) _ _ (by rfl) (by rfl) ha1 ?_
              refine hK.out _ _ c7 (fun _ => ?_)
              clear hK K
              try simp only [Act.put, List.setIfInBounds_toArray]
              refine wpAnyH_ready (rs := [20]) (by kernel_rfl) (by simp) ?_
              refine AllReadyH.cons rfl (fun K hK => ?_) AllReadyH.nil
              refine step_append_run (by rfl) (.tmp 96) (.tmp 102) 29 29 (by rfl) (by rfl) _ _ (by rfl) (by rfl) ha2 ?_
              refine hK.out _ _ c8 (fun _ => ?_)
              clear hK K
              try simp only [Act.put]
              refine take_first (i := 21) (v := ?_) rfl (by kernel_rfl) (by kernel_rfl) (by kernel_rfl) (by rfl) ?_ c8 ?_
              rotate_left
              · intro w0 hw0; go_simp; try rfl
              try simp only [Act.put]
              refine take_first (i := 22) (v := ?_) rfl (by kernel_rfl) (by kernel_rfl) (by kernel_rfl) (by rfl) ?_ c8 ?_
              rotate_left
              · intro w0 hw0; go_simp; try rfl
              try simp only [Act.put]
              refine wpAnyH_ready (rs := [23]) (by kernel_rfl) (by simp) ?_
              refine AllReadyH.cons rfl (fun K hK => ?_) AllReadyH.nil
              go_simp
              refine hK.out _ _ (by show (W8.setCell _ _).cell? _ = _; rw [World.cell?_setCell_far _ _ _ _ (by show Lb ≠ w.heap.size; omega)]; exact c8) (fun _ => ?_)
              clear hK K
              try simp only [Act.put, List.setIfInBounds_toArray, List.set_cons_zero, List.set_cons_succ]
              exact wpAnyH_done (by kernel_rfl) ⟨rfl, rfl⟩ _
          · go_simp
            refine hK.out _ _ hS (fun _ => ?_)
            clear hK K
            try simp only [Act.put, List.setIfInBounds_toArray, List.set_cons_zero, List.set_cons_succ]
            refine take_first (i := 19) (v := ?_) rfl (by kernel_rfl) (by kernel_rfl) (by kernel_rfl) (by rfl) ?_ hS ?_
            rotate_left
            · intro w0 hw0; go_simp; try rfl
            try simp only [Act.put, List.setIfInBounds_toArray, List.set_cons_zero, List.set_cons_succ]
            refine wpAnyH_ready (rs := [6]) (by kernel_rfl) (by simp) ?_
            refine AllReadyH.cons rfl (fun K hK => ?_) AllReadyH.nil
            go_simp
            refine hK.out _ _ hS (fun _ => ?_)
            clear hK K
            try simp only [Act.put, List.setIfInBounds_toArray, List.set_cons_zero, List.set_cons_succ]
            refine take_first (i := 7) (v := ?_) rfl (by kernel_rfl) (by kernel_rfl) (by kernel_rfl) (by rfl) ?_ hS ?_
            rotate_left
            · intro w0 hw0; go_simp; try rfl
            try simp only [Act.put, List.setIfInBounds_toArray, List.set_cons_zero, List.set_cons_succ]
            refine take_first (i := 8) (v := ?_) rfl (by kernel_rfl) (by kernel_rfl) (by kernel_rfl) (by rfl) ?_ hS ?_
            rotate_left
            · intro w0 hw0; go_simp; try rfl
            try simp only [Act.put, List.setIfInBounds_toArray, List.set_cons_zero, List.set_cons_succ]
            refine take_first (i := 10) (v := ?_) rfl (by kernel_rfl) (by kernel_rfl) (by kernel_rfl) (by rfl) ?_ hS ?_
            rotate_left
            · intro w0 hw0; go_simp; try rfl
            try simp only [Act.put, List.setIfInBounds_toArray, List.set_cons_zero, List.set_cons_succ]
            refine wpAnyH_ready (rs := [11]) (by kernel_rfl) (by simp) ?_
            refine AllReadyH.cons rfl (fun K hK => ?_) AllReadyH.nil
            go_simp
            refine hK.out _ _ c6 (fun _ => ?_)
            clear hK K
            try simp only [Act.put, List.setIfInBounds_toArray, List.set_cons_zero, List.set_cons_succ]
            refine wpAnyH_ready (rs := [13]) (by kernel_rfl) (by simp) ?_
            refine AllReadyH.cons rfl (fun K hK => ?_) AllReadyH.nil
            refine step_append_run (by rfl) (.tmp 94) (.tmp 95) 29 29 (by rfl) (by rfl) _ _ (by rfl) (by rfl) ha1 ?_
            refine hK.out _ _ c7 (fun _ => ?_)
            clear hK K
            try simp only [Act.put, List.setIfInBounds_toArray]
            refine wpAnyH_ready (rs := [20]) (by kernel_rfl) (by simp) ?_
            refine AllReadyH.cons rfl (fun K hK => ?_) AllReadyH.nil
            refine step_append_run (by rfl) (.tmp 96) (.tmp 102) 29 29 (by rfl) (by rfl) _ _ (by rfl) (by rfl) ha2 ?_
            refine hK.out _ _ c8 (fun _ => ?_)
            clear hK K
            try simp only [Act.put]
            refine take_first (i := 21) (v := ?_) rfl (by kernel_rfl) (by kernel_rfl) (by kernel_rfl) (by rfl) ?_ c8 ?_
            rotate_left
            · intro w0 hw0; go_simp; try rfl
            try simp only [Act.put]
            refine take_first (i := 22) (v := ?_) rfl (by kernel_rfl) (by kernel_rfl) (by kernel_rfl) (by rfl) ?_ c8 ?_
            rotate_left
            · intro w0 hw0; go_simp; try rfl
            try simp only [Act.put]
            refine wpAnyH_ready (rs := [23]) (by kernel_rfl) (by simp) ?_
            refine AllReadyH.cons rfl (fun K hK => ?_) AllReadyH.nil
            go_simp
            refine hK.out _ _ (by show (W8.setCell _ _).cell? _ = _; rw [World.cell?_setCell_far _ _ _ _ (by show Lb ≠ w.heap.size; omega)]; exact c8) (fun _ => ?_)
            clear hK K
            try simp only [Act.put, List.setIfInBounds_toArray, List.set_cons_zero, List.set_cons_succ]
            exact wpAnyH_done (by kernel_rfl) ⟨rfl, rfl⟩ _
        · rintro e a9 w9 ⟨rfl, rfl⟩
          gi_wp2_with fail
          exact HNE.out _
end
end Go.Proofs.Ybulkcryq
