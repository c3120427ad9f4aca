/-
  packedChains' iterator (17) HAS ITS CONTRACT.
-/
import Derived.Test.YbulkcryqClo
import Derived.Test.YbulkcryqRng
import Derived.Shelf.Abstract
import Derived.Shelf.RegionOpen
import Derived.OwnWalkIn
import Derived.TacticsInMore
import Derived.LoopNIn
import Derived.LoopIn
namespace Go.Proofs.Ybulkcryq
open Go Go.RowKit Go.Shelf

attribute [local go_sem] Oper.semAt_some

def sliceLen : Value → Nat | .slice _ n _ => n | _ => 0
/-- How many bytes the chains through number i take. -/
def offOf (cs : List (Int × Int)) (i : Nat) : Nat := (packB (cs.take (i + 1))).length
def chainOf (cs : List (Int × Int)) (i : Nat) : Int × Int := (cs[i]?).getD (0, 0)
def encsOf (g cap : Nat) (cs : List (Int × Int)) (i : Nat) : Array Value :=
  #[.agg #[.int .i32 (chainOf cs i).1, .int .i32 (chainOf cs i).2], .slice (some ⟨g, offOf cs i, none⟩) ((packB cs).length - offOf cs i) (cap - offOf cs i)]
/-- What the iterator reads: body's box and body's bytes. -/
def BaseOf (bb g cap : Nat) (cs : List (Int × Int)) (W : World) : Prop := W.cell? ⟨bb, 0, none⟩ = some (.slice (some ⟨g, 0, none⟩) (packB cs).length cap) ∧ BytesFrom W g 0 (packB cs)

theorem off_rest (cs : List (Int × Int)) (i : Nat) (h : i < cs.length) : (packB cs).length = offOf cs i + (packR (chainOf cs i).2 (cs.drop (i + 1))).length := by
  have hc : cs[i]? = some (chainOf cs i) := by simp [chainOf, h]
  have := congrArg List.length (packB_take cs i _ hc)
  rw [List.length_append] at this
  exact this
theorem chain_ok (cs : List (Int × Int)) (hok : ∀ c ∈ cs, Ok c) (i : Nat) (h : i < cs.length) : Ok (chainOf cs i) := by
  have hc : cs[i]? = some (chainOf cs i) := by simp [chainOf, h]
  exact hok _ (List.mem_of_getElem? hc)
/-- Behind chain i the next is packed. -/
theorem bytes_next (cs : List (Int × Int)) (i g : Nat) (W : World) (h : i + 1 < cs.length) (hb : BytesFrom W g 0 (packB cs)) :
    BytesFrom W g (offOf cs i) (packC (chainOf cs i).2 (chainOf cs (i + 1)) ++ packR (chainOf cs (i + 1)).2 (cs.drop (i + 1 + 1))) ∧
    (packB cs).length - offOf cs i = (packC (chainOf cs i).2 (chainOf cs (i + 1)) ++ packR (chainOf cs (i + 1)).2 (cs.drop (i + 1 + 1))).length ∧ offOf cs (i + 1) = offOf cs i + (packC (chainOf cs i).2 (chainOf cs (i + 1))).length := by
  have hc : cs[i]? = some (chainOf cs i) := by simp [chainOf, show i < cs.length by omega]
  have hc1 : cs[i + 1]? = some (chainOf cs (i + 1)) := by simp [chainOf, h]
  have e1 := packB_take cs i _ hc
  have e2 := packR_drop cs (i + 1) _ hc1 (chainOf cs i).2
  rw [e2] at e1
  have hl := congrArg List.length e1
  rw [e1] at hb
  have hd := hb.drop
  rw [Nat.zero_add] at hd
  refine ⟨hd, ?_, ?_⟩
  · rw [List.length_append] at hl; unfold offOf; omega
  · have r0 := off_rest cs i (by omega)
    have r1 := off_rest cs (i + 1) h
    rw [e2, List.length_append] at r0
    omega

theorem Yba.enters20 : ∀ args w, (callFunc 20 args).run Yba.prog w = .ok (.enter 20 args) w := enters_of Yba.func20 (by kernel_rfl) rfl

set_option maxHeartbeats 800000 in
set_option maxRecDepth 100000 in
theorem iter_seq (n bb g cap : Nat) (cs : List (Int × Int)) (hok : ∀ c ∈ cs, Ok c) (hcap : (packB cs).length + 8 ≤ cap) (hN : (packB cs).length ≤ 100000) :
    CellSeq Fence.wide n Yba.prog 17 #[.pointer (some ⟨bb, 0, none⟩)] (encsOf g cap cs) cs.length (BaseOf bb g cap cs) (fun o => ∃ x y, o = .cells #[x, y] 28 (0, 0)) := by
  intro l J Jx W hB hJB hJc h0 hY
  show CallsIn Fence.wide n Yba.prog 17 #[.func (.yield l) #[] #[], .pointer (some ⟨bb, 0, none⟩)] W _
  obtain ⟨N, hNe⟩ : ∃ N, (packB cs).length = N := ⟨_, rfl⟩
  have hcell := hB.1
  have hbytes := hB.2
  rw [hNe] at hcell hcap hN
  have HY : Hid (∀ c i W1 o, J c i W1 → W1.heap[c]? = some o → (∃ x y, o = Obj.cells #[x, y] 28 (0, 0)) → i < cs.length → YieldAt Fence.wide (n - 1) Yba.prog l (encsOf g cap cs i) W1 fun e W' =>
      (e = .returned (.bool true) ∧ J c (i + 1) W' ∧ W'.heap[c]? = W1.heap[c]?) ∨ (e = .returned (.bool false) ∧ Jx (i + 1) W')) := hY
  have HJ : Hid ((∀ c i W1, J c i W1 → BaseOf bb g cap cs W1) ∧ (∀ c i W1 W2, J c i W1 → W1.grownBy W2 (some c) → J c i W2) ∧ (∀ c W1, Below W.heap.size W W1 → W.heap.size ≤ c → J c 0 W1)) := ⟨hJB, hJc, h0⟩
  clear hY hJB hJc h0 hB
  cases hcs : cs with
  | nil =>
    subst hcs
    obtain rfl : N = 0 := by rw [← hNe]; rfl
    refine callsIn_of_wp Yba.func17 rfl trivial ?_ rfl
    simp only [Yba.ntmps17, List.size_toArray, List.length_cons, List.length_nil, Nat.reduceAdd, Nat.reduceSub, Array.replicate_succ, Array.replicate_zero, List.push_toArray, List.append_toArray, List.nil_append, List.cons_append]
    gi_wp2
    refine bodyPost_ret (results_none rfl _ _ _) rfl ?_
    exact ⟨⟨_, rfl⟩, .inl ⟨W.heap.size, HJ.out.2.2 _ W (Below.refl _ _) (Nat.le_refl _)⟩⟩
  | cons c0 ct =>
    rw [← hcs]
    refine callsIn_of_wp Yba.func17 rfl trivial ?_ rfl
    simp only [Yba.ntmps17, List.size_toArray, List.length_cons, List.length_nil, Nat.reduceAdd, Nat.reduceSub, Array.replicate_succ, Array.replicate_zero, List.push_toArray, List.append_toArray, List.nil_append, List.cons_append]
    have hpos : 0 < N := by
      have := packB_eq_nil cs
      rw [hNe] at this
      rcases Nat.eq_zero_or_pos N with h | h
      · rw [this.1 h] at hcs; cases hcs
      · exact h
    have hNz : ((N : Int) == 0) = false := by simp; omega
    obtain ⟨a, b⟩ := c0
    have hok0 := hok (a, b) (by rw [hcs]; simp)
    have ha := hok0.1
    have hbI := hok0.2
    have hw1 := wrap32_mod a ha
    have hw2 := i32_wrap b hbI a
    have hspl : packB cs = le32 a ++ (vi (b - a) ++ packR b ct) := by rw [hcs]; simp [packB, packF]
    obtain ⟨n1, hn1⟩ : ∃ n1, (vi (b - a)).length = n1 := ⟨_, rfl⟩
    obtain ⟨R, hR⟩ : ∃ R, (packR b ct).length = R := ⟨_, rfl⟩
    have hNs : N = 4 + (n1 + R) := by rw [← hNe, hspl]; simp [le32_length, hn1, hR]
    have hb0 : BytesFrom W g 0 (le32 a ++ (vi (b - a) ++ packR b ct)) := by rw [← hspl]; exact hbytes
    have hb4 : BytesFrom W g 4 (vi (b - a) ++ packR b ct) := by have := hb0.drop; rw [le32_length] at this; exact this
    have hgl : g < W.heap.size := World.block_lt_of_cell? W _ (hbytes 0 (by omega))
    have hbbl : bb < W.heap.size := World.block_lt_of_cell? W _ hcell
    have hn1p : 1 ≤ n1 := by rw [← hn1]; exact vi_pos _
    have hn1l : n1 ≤ 5 := by rw [← hn1]; exact vi_length_le (by unfold Ok I32 at hok0; omega)
    have hoff : offOf cs 0 = 4 + n1 := by rw [hcs]; simp [offOf, packB, packF, packR, le32_length, hn1]
    have hch : chainOf cs 0 = (a, b) := by rw [hcs]; rfl
    have V2 := fun w (hb : BytesFrom w g 4 (vi (b - a) ++ packR b ct)) => Yba.binary_Varint g 4 (n1 + R) (cap - 4) _ w (by simp [hn1, hR]) hb
    have d2 := dec_vi (x := b - a) (by unfold Ok I32 at hok0; omega) (packR b ct)
    rw [hn1] at d2
    simp only [d2] at V2
    have i1 : (4 : Int) ≤ (N : Int) := by omega
    have i2 : N - 4 = n1 + R := by omega
    have i3 : (0 : Int) ≤ (4 : Int) + (n1 : Int) := by omega
    have i4 : (4 : Int) + (n1 : Int) ≤ (N : Int) := by omega
    have i5 : N - (4 + n1) = R := by omega
    have i6 : ¬ cap = 4 := by omega
    have HZ : Hid (BytesFrom W g 0 (le32 a ++ (vi (b - a) ++ packR b ct)) ∧ BytesFrom W g 4 (vi (b - a) ++ packR b ct) ∧ offOf cs 0 = 4 + n1 ∧ chainOf cs 0 = (a, b) ∧ (∀ c ∈ cs, Ok c) ∧ cs = (a, b) :: ct ∧ (packB cs).length = N) := ⟨hb0, hb4, hoff, hch, hok, hcs, hNe⟩
    have HV2 : Hid _ := V2
    have HNs : Hid (N = 4 + (n1 + R)) := hNs
    clear hspl hb0 hb4 hoff hch hok hcs hNe hbytes hn1 hR d2 V2 hNs hok0 ha hbI
    gi_wp2_with fail
    refine ⟨trivial, fun h => by simp [Fence.wide] at h, ?_⟩
    gi_at_call 18
    refine CallsIn.mono (callsIn_wide.2 (uint32_at g 0 N cap a _ W (by omega) HZ.out.1)) ?_
    rintro e w1 ⟨rfl, hb1⟩
    have hs1 := hb1.size
    have hcell1 : w1.cell? ⟨bb, 0, none⟩ = some (.slice (some ⟨g, 0, none⟩) N cap) := (hb1.cell (p := ⟨bb, 0, none⟩) hbbl).trans hcell
    have m1 : ¬ bb = w1.heap.size := by omega
    have m2 : bb < w1.heap.size := by omega
    have HB1 : Hid (Below W.heap.size W w1) := hb1
    clear hb1 hcell
    gi_wp2_with fail
    refine ⟨trivial, fun h => by simp [Fence.wide] at h, ?_⟩
    gi_at_call 19
    refine CallsIn.mono (callsIn_wide.2 (HV2.out _ ((HZ.out.2.1.block (HB1.out.block g hgl)).block (Below.heap_alloc _ _ _ (by omega))))) ?_
    rintro e w2 ⟨rfl, rfl⟩
    clear HV2
    gi_wp2_with fail
    have hJ0 : J w1.heap.size 0 (w1.alloc (.cells #[.int .i32 a, .int .i32 b] 28)) := HJ.out.2.2 _ _ (HB1.out.alloc hs1 _) hs1
    have hC0 := heap_alloc_new w1 (.cells #[.int .i32 a, .int .i32 b] 28)
    obtain ⟨w2, hw2e⟩ : ∃ w2, w2 = w1.alloc (.cells #[.int .i32 a, .int .i32 b] 28) := ⟨_, rfl⟩
    rw [← hw2e] at hJ0 hC0 ⊢
    obtain ⟨C, hCe⟩ : ∃ C, w1.heap.size = C := ⟨_, rfl⟩
    rw [hCe] at hJ0 hC0 ⊢
    clear hw2e hCe m1 m2 hcell1 hs1 HB1 hw1 hw2
    gi_loopw [6] (fun vb wr => ∃ i, i < cs.length ∧ vb = .slice (some ⟨g, offOf cs i, none⟩) (N - offOf cs i) (cap - offOf cs i) ∧ J C i wr ∧ wr.heap[C]? = some (.cells #[.int .i32 (chainOf cs i).1, .int .i32 (chainOf cs i).2] 28 (0, 0))) (fun vb _ => sliceLen vb)
    case atStart =>
      obtain ⟨_, _, h1, h2, _, h3, h4⟩ := HZ.out
      refine ⟨0, by rw [h3]; simp, ?_, hJ0, by rw [h2]; exact hC0⟩
      rw [h1, i5]
    case round =>
      obtain ⟨i, him, rfl, hJi, hCi⟩ := hrel
      clear hJ0 hC0 i1 i2 i3 i4 i5 i6 hn1p hn1l hNz hpos HNs
      have hYi := HY.out C i wr _ hJi hCi ⟨_, _, rfl⟩ him
      have hrest := off_rest cs i him
      have hokc := chain_ok cs HZ.out.2.2.2.2.1 i him
      have hnext := fun (h : i + 1 < cs.length) (V : World) (hV : BytesFrom V g 0 (packB cs)) => bytes_next cs i g V h hV
      have hnext2 := fun (h : i + 1 < cs.length) => chain_ok cs HZ.out.2.2.2.2.1 (i + 1) h
      unfold encsOf at hYi
      obtain ⟨⟨a1, b1⟩, hx⟩ : ∃ x, chainOf cs i = x := ⟨_, rfl⟩
      obtain ⟨q, hq⟩ : ∃ q, offOf cs i = q := ⟨_, rfl⟩
      rw [hx, hq, HZ.out.2.2.2.2.2.2] at hYi
      rw [hx] at hCi hokc
      rw [hx, hq, HZ.out.2.2.2.2.2.2] at hrest
      simp only [hx, hq, HZ.out.2.2.2.2.2.2] at hnext
      rw [hq]
      have hlast : ¬ i + 1 < cs.length → (packR b1 (cs.drop (i + 1))).length = 0 := fun h => by rw [List.drop_eq_nil_of_le (by omega)]; rfl
      have hc0 : wr.cell? ⟨C, 0, none⟩ = some (.int .i32 a1) := by rw [cell_of_row _ _ _ _ _ _ hCi]; rfl
      have hc1 : wr.cell? ⟨C, 1, none⟩ = some (.int .i32 b1) := by rw [cell_of_row _ _ _ _ _ _ hCi]; rfl
      obtain ⟨fn, tmps, assign, body, hy, hR⟩ := hYi
      have HN : Hid _ := hnext
      have HN2 : Hid _ := hnext2
      have HR : Hid _ := hrest
      have HL : Hid _ := hlast
      have HC : Hid _ := hCi
      clear hnext hnext2 hrest hlast hCi hx hq hJi
      dsimp only at hy
      gi_wp2
      refine ⟨fun h => by simp [Fence.wide] at h, RoundIn.mono hR ?_⟩
      rintro e W3 (⟨rfl, hJ3, hk3⟩ | ⟨rfl, hJx3⟩)
      · by_cases hmore : i + 1 < cs.length
        · obtain ⟨hbn, hlen, hoffn⟩ := HN.out hmore W3 (HJ.out.1 C (i + 1) W3 hJ3).2
          have hok2 := HN2.out hmore
          have hC3 : W3.heap[C]? = some (.cells #[.int .i32 a1, .int .i32 b1] 28 (0, 0)) := hk3.trans HC.out
          have hd1 : W3.cell? ⟨C, 1, none⟩ = some (.int .i32 b1) := by rw [cell_of_row _ _ _ _ _ _ hC3]; rfl
          obtain ⟨⟨a2, b2⟩, hx2⟩ : ∃ x, chainOf cs (i + 1) = x := ⟨_, rfl⟩
          rw [hx2] at hbn hlen hoffn hok2
          have U := unpack_any g q (cap - q) b1 (a2, b2) (packR b2 (cs.drop (i + 1 + 1))) W3 hokc.2 hok2 (by rw [← hlen]; have := HR.out; omega) hbn
          have hp2 : 1 ≤ (packC b1 (a2, b2)).length := by have := vi_pos (a2 - b1); simp only [packC, List.length_append]; omega
          have hlen' := hlen
          rw [List.length_append] at hlen'
          rw [← hlen] at U
          have j1 : 0 < N - q := by omega
          have j1' : ((N - q : Nat) : Int) = (N : Int) - (q : Int) := by have := HR.out; omega
          have j2 : (0 : Int) < (N : Int) - (q : Int) := by omega
          have j3 : q ≤ N := by omega
          have HU : Hid _ := U
          have HK3 : Hid _ := hC3
          have HO : Hid _ := hoffn
          have HLn : Hid _ := hlen'
          clear U hC3 hoffn hlen hlen' hbn hc0 hc1 hy hk3 hR
          gi_wp2_with fail
          refine ⟨trivial, fun h => by simp [Fence.wide] at h, ?_⟩
          gi_at_call 20
          refine CallsIn.mono (callsIn_wide.2 HU.out) ?_
          rintro e w4 ⟨rfl, hb4⟩
          have hC4 := (hb4.block C (lt_of_block HK3.out)).trans HK3.out
          have e0 : w4.cell? ⟨C, 0, none⟩ = some (.int .i32 a1) := by rw [cell_of_row _ _ _ _ _ _ hC4]; rfl
          have e1 : w4.cell? ⟨C, 1, none⟩ = some (.int .i32 b1) := by rw [cell_of_row _ _ _ _ _ _ hC4]; rfl
          have f0 : w4.frozen? ⟨C, 0, none⟩ = false := by rw [frozen_of_row _ _ _ _ _ hC4]
          have f1 : w4.frozen? ⟨C, 1, none⟩ = false := by rw [frozen_of_row _ _ _ _ _ hC4]
          have HW : Hid ((((w4.setCell ⟨C, 0, none⟩ (.int .i32 a2)).setCell ⟨C, 1, none⟩ (.int .i32 b2)).heap[C]? = some (.cells #[.int .i32 a2, .int .i32 b2] 28 (0, 0))) ∧ J C (i + 1) ((w4.setCell ⟨C, 0, none⟩ (.int .i32 a2)).setCell ⟨C, 1, none⟩ (.int .i32 b2))) := by
            have r1 := heap_setCell_same w4 C 0 _ 28 (.int .i32 a2) hC4
            have r2 := heap_setCell_same _ C 1 _ 28 (.int .i32 b2) r1
            refine ⟨r2, HJ.out.2.1 C (i + 1) W3 _ hJ3 ?_⟩
            refine ⟨hb4.os, hb4.tape, hb4.output, by simpa using hb4.size, fun k hk hne => ?_⟩
            have hkC : k ≠ C := fun e => hne (by rw [e])
            exact (Below.heap_setCell _ _ _ _ hkC).trans ((Below.heap_setCell _ _ _ _ hkC).trans (hb4.block k hk))
          clear HU HK3 hC4 hb4 hd1
          gi_wp2
          go_roundw
          case rel =>
            refine ⟨i + 1, hmore, ?_, HW.out.2, by rw [hx2]; exact HW.out.1⟩
            rw [HO.out, show N - (q + (packC b1 (a2, b2)).length) = (packR b2 (cs.drop (i + 1 + 1))).length by have := HLn.out; omega, show cap - (q + (packC b1 (a2, b2)).length) = cap - q - (packC b1 (a2, b2)).length by omega]
          case measure => simp [sliceLen]; have := HLn.out; omega
        · have hz : N - q = 0 := by have := HR.out; have := HL.out hmore; omega
          have hend : i + 1 = cs.length := by omega
          rw [hend] at hJ3
          clear hc0 hc1 hy hR hk3
          gi_wp2
          go_end0
          exact ⟨⟨_, rfl⟩, .inl ⟨C, hJ3⟩⟩
      · gi_wp2
        go_end0
        exact ⟨⟨_, rfl⟩, .inr ⟨i, him, hJx3⟩⟩
end Go.Proofs.Ybulkcryq
