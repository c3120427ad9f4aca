/-
  THE LAW 'Refuse' (function 5): its walk.
-/
import Derived.Test.YbulkcrpmFmtEnc
import Derived.Test.YbulkcrpmFmtRefParts
import Derived.Test.YbulkcrpmFmtHead
namespace Go.Proofs.YbulkcrpmFmt
open Go Go.RowKit Go.Extern.Stop Go.Stop Go.Extern
theorem Ybaf.info46 : (Ybaf.prog.info? 46).map (fun i => (i.zero, i.size, i.bytes)) = some (some (.agg #[.int .u16 0, .slice none 0 0]), 2, 32) := by kernel_rfl

set_option maxHeartbeats 400000 in
theorem refuse_long (kind : Int) (sa : Option Addr) (n c : Nat) (w : World) (hn : 16 < n) (hn' : n ≤ 140737488355328) :
    Calls Ybaf.prog 5 #[.int .u16 kind, .slice sa n c] w fun e w' => e = .returned (.bool true) ∧ w' = w := by
  go_enter Ybaf.func5, Ybaf.ntmps5
  go_wp2
  go_ret
  exact ⟨rfl, rfl⟩

set_option maxHeartbeats 800000 in
theorem refuse_short (F : Interp) (kind : Nat) (sa : Option Addr) (c : Nat) (xs : List Nat) (w : World) (hF : F.answers w.tape) (hk : kind < 65536) (hn : xs.length ≤ 16) (hx : ∀ x ∈ xs, x < 65536)
    (hc : ∀ (i x : Nat), xs[i]? = some x → ∃ g o, sa = some ⟨g, o, none⟩ ∧ w.cell? ⟨g, o + i, none⟩ = some (.int .u16 x)) :
    Calls Ybaf.prog 5 #[.int .u16 kind, .slice sa xs.length c] w fun e w' => e = .returned (.bool true) ∧ Below w.heap.size w w' := by
  have knil := fun (w : World) (a : Option Addr) (l c : Nat) => Lib.run_eql_slice_nil (P := Ybaf.prog) w 25 5 a l c 0 0 Ybaf.underlying25
  go_enter Ybaf.func5, Ybaf.ntmps5
  go_wp2_with fail
  obtain ⟨w0, hw0⟩ : ∃ w0, w0 = w.alloc (.cells #[.int .u16 kind, .slice none 0 0] 43) := ⟨_, rfl⟩
  rw [← hw0]
  have hM0 : w0.heap[w.heap.size]? = some (.cells #[.int .u16 kind, .slice none 0 0] 43 (0, 0)) := by rw [hw0]; exact heap_alloc_new w _
  have hb0 : Below w.heap.size w w0 := by rw [hw0]; exact (Below.refl _ _).alloc (Nat.le_refl _) _
  have hs0 : w.heap.size + 1 ≤ w0.heap.size := by rw [hw0]; simp
  clear hw0
  go_loopw [6, 7, 23] (fun bad tot i wr => ∃ (k : Nat) (gs : List Nat) (v : Value), k ≤ xs.length ∧ gs.length = k ∧ i = .int .i64 k ∧ tot = .int .i64 (8 + ((bodyOf ((parsOf xs).take k)).length : Int)) ∧ bad = .bool (badB ((parsOf xs).take k)) ∧
      wr.heap[w.heap.size]? = some (.cells #[.int .u16 kind, v] 43 (0, 0)) ∧ wr.ownsRow (w.heap.size + 1) 46 2 v k (parCells ((parsOf xs).take k) gs) ∧ ValsAt wr ((parsOf xs).take k) gs ∧ Below w.heap.size w wr ∧ w.heap.size + 1 ≤ wr.heap.size)
    (fun _ _ i _ => xs.length - (intOf i).toNat)
  case atStart => exact ⟨0, [], .slice none 0 0, Nat.zero_le _, rfl, rfl, by simp [bodyOf], by simp [badB], hM0, by simpa [parCells] using World.ownsRow_nil w0 (w.heap.size + 1) 46 2, fun i p g hp => by simp at hp, hb0, hs0⟩
  case round =>
    obtain ⟨k, gs, v, hkn, hgl, rfl, rfl, rfl, hM, hown, hvals, hnx, hsz⟩ := hrel
    clear hM0 hb0 hs0
    by_cases hlt : k < xs.length
    · obtain ⟨x, hxk⟩ : ∃ x, xs[k]? = some x := ⟨xs[k], by simp [hlt]⟩
      obtain ⟨g, o, rfl, hcx⟩ := hc k x hxk
      have hcx := cell_below hnx hcx
      have hxb := hx x (List.mem_of_getElem? hxk)
      have hand : bits BinOp.and IntKind.u16 (x : Int) 16 = ((x &&& 16 : Nat) : Int) := u16_and_nat x 16 hxb (by omega)
      have hstep := tot_step hxk
      have hbstep := bad_step hxk
      have hbl := parsOf_body_le xs k hkn
      have hLb := szOf_bd x
      have hways := ways x
      have hsnoc : (parsOf xs).take (k + 1) = (parsOf xs).take k ++ [(x, (k % 256).toUInt8 :: List.replicate (szOf x - 1) 0)] := take_snoc (parsOf_get hxk)
      obtain ⟨L, hL⟩ : ∃ L, L = szOf x := ⟨_, rfl⟩
      rw [← hL] at hstep hbstep hLb hways hsnoc
      have HS : Hid ((bodyOf ((parsOf xs).take (k + 1))).length = (bodyOf ((parsOf xs).take k)).length + (4 + L + pad (4 + L))) := hstep
      have HB : Hid (badB ((parsOf xs).take (k + 1)) = (badB ((parsOf xs).take k) || decide (65528 < 4 + L))) := hbstep
      have HN : Hid ((parsOf xs).take (k + 1) = (parsOf xs).take k ++ [(x, (k % 256).toUInt8 :: List.replicate (L - 1) 0)]) := hsnoc
      obtain ⟨i5, hi, hz0, hz1, hz2⟩ := info_parts Ybaf.info5
      obtain ⟨i46, ki, kz0, kz1, kz2⟩ := info_parts Ybaf.info46
      clear hstep hbstep hsnoc hL hc hx
      rcases hways with ⟨hbit, hLe, hbig, hx9⟩ | ⟨hbit, hLe, hbig, hx9⟩ | ⟨hbit, hLe, hbig, hx9⟩
      all_goals
        rw [hbit] at hand
        simp only [Int.cast_ofNat_Int] at hand
        have HLe : Hid (L = _) := hLe
        have HD : Hid (decide (65528 < 4 + L) = _) := hbig
        clear hLe hbig hbit
        go_wp2_with (at_make; refine wpList_make_full _ rfl (.tmp 39) (.tmp 39) 25 rfl (w.heap.size + 1) 5 i5 (.int .u8 0) 1 Ybaf.underlying25 hi hz0 hz1 .i64 .i64 _ _ L rfl rfl (by have := HLe.out; omega) (by have := HLe.out; omega) (by rw [hz2]; omega) (by unfold maxLen; omega) hsz ?_)
        intro w1 own1 hg1
        have own1 : w1.ownsRow (w.heap.size + 1) 5 1 (.slice (some ⟨wr.heap.size, 0, none⟩) L L) L (List.replicate L (.int .u8 0)) := by
          rwa [toList_madeCells_one] at own1
        have q0 : w1.cell? ⟨wr.heap.size, 0, none⟩ = some (.int .u8 0) := by rw [own1.cellAt 0 (by omega), List.getElem?_replicate, if_pos (by omega)]
        have f0 := own1.frozenAt 0
        have hM1 := grown_block hg1 hM (by simp)
        have hb1 : w.heap.size < w1.heap.size := lt_of_block hM1
        have qM : w1.cell? ⟨w.heap.size, 1, none⟩ = some v := (cell_of_row w1 w.heap.size 1 _ _ _ hM1).trans rfl
        have fM := frozen_of_row w1 w.heap.size 1 _ _ hM1
        have hne : ¬ w.heap.size = wr.heap.size := by omega
        have hownv := hown.kept hg1 (by cases hv : v.ownBlock <;> simp)
        have hvne : v.ownBlock ≠ some wr.heap.size := fun h => by have := (hown.lt _ h).2; omega
        go_wp2_with (at_builtin; refine wpList_append_own _ rfl (.tmp 49) (.tmp 53) 41 rfl (w.heap.size + 1) 46 i46 (.agg #[.int .u16 0, .slice none 0 0]) 2 32 Ybaf.underlying41 ki kz0 kz1 kz2 rfl (by decide) v k _ rfl ((ownsRow_setCell_other hownv (by exact hvne) _).alloc _) ⟨w1.heap.size, 0, none⟩ 1 1 [.int .u16 x, .slice (some ⟨wr.heap.size, 0, none⟩) L L] rfl rfl (news_two _ _ (by simp) _ _ _) (by intro u hu; simp at hu; rcases hu with rfl | rfl <;> rfl) (by unfold maxLen; omega) (by omega) (by simp; omega) ?_)
        intro v' w2 hown2 hg2 _
        obtain ⟨R1, R2, R3, R4, R5, R6⟩ := ref_step hM hown hvals (by simp [parsOf_length]; omega) hnx hsz (by omega) (by omega) own1 hg1 hown2 hg2
        obtain ⟨gv, capv, rfl, _⟩ := own_form hown2 (by omega)
        have qM2 : w2.cell? ⟨w.heap.size, 1, none⟩ = some v := (cell_of_row w2 w.heap.size 1 _ _ _ R1).trans rfl
        have fM2 := frozen_of_row w2 w.heap.size 1 _ _ R1
        rw [← HN.out] at R3 R4
        clear hg2 hown2 hg1 own1 q0 f0 hM1 hb1 qM fM hownv hvne hM hown hvals hnx R1 hcx
        go_wp2
        go_roundw
        case rel => exact ⟨k + 1, gs ++ [wr.heap.size], _, by omega, by simp; omega, by go_num, by rw [HS.out]; have := HLe.out; exact congrArg _ (by unfold pad; omega), by rw [HB.out, HD.out]; simp, R2, R3, R4, R5, R6⟩
        case measure => simp [intOf]; omega
    · have hke : (parsOf xs).take k = parsOf xs := List.take_of_length_le (by rw [parsOf_length]; omega)
      have hbl := parsOf_body_le xs k hkn
      rw [hke] at hown hvals hbl ⊢
      have hkx : k = xs.length := by omega
      obtain ⟨pa, pc, rfl, hps⟩ := hvals.all hgl (by rw [parsOf_length]; omega) hown
      have hFr : F.answers wr.tape := by rw [hnx.tape]; exact hF
      have hm0 : wr.cell? ⟨w.heap.size, 0, none⟩ = some (.int .u16 kind) := (cell_of_row wr w.heap.size 0 _ _ _ hM).trans rfl
      have hm1 : wr.cell? ⟨w.heap.size, 0 + 1, none⟩ = some (.slice pa (parsOf xs).length pc) := (cell_of_row wr w.heap.size 1 _ _ _ hM).trans rfl
      have HE := encode_hid F w.heap.size 0 kind pa pc (parsOf xs) wr hFr hk (by rw [parsOf_length]; omega) (parsOf_tag hx) parsOf_len hm0 hm1 hps
      obtain ⟨ps, hpse⟩ : ∃ ps, ps = parsOf xs := ⟨_, rfl⟩
      rw [← hpse] at HE hbl ⊢
      obtain ⟨T, hTe⟩ : ∃ T, T = 8 + (bodyOf ps).length := ⟨_, rfl⟩
      have eT : (8 + ((bodyOf ps).length : Int)) = (T : Int) := by omega
      have hTb : T ≤ 140737488355328 := by omega
      have hT8 : 8 ≤ T := by omega
      have HTE : Hid (T = 8 + (bodyOf ps).length) := hTe
      rw [eT]
      rw [← hTe] at HE
      have hfi := fits_iff ps
      rw [← hTe] at hfi
      have HFI : Hid (Fits ps ↔ (badB ps = false ∧ T ≤ 65536)) := hfi
      clear hown hvals hps hM hm0 hm1 hke eT hTe hpse hfi hc hx hgl
      rcases (show (badB ps = true ∧ T ≤ 65536) ∨ 65536 < T ∨ (badB ps = false ∧ T ≤ 65536) from by rcases Nat.lt_or_ge 65536 T with h | h <;> cases badB ps <;> simp [h]) with ⟨hb, hT⟩ | hT | ⟨hb, hT⟩
      · have hnf : ¬ Fits ps := fun h => by have := (HFI.out.1 h).1; rw [hb] at this; cases this
        go_wp2_with fail
        refine HE.out.mono ?_
        rintro e w1 ⟨hb1, ⟨hf, _⟩ | ⟨_, x, rfl⟩⟩
        · exact absurd hf hnf
        · go_wp2
          go_ret
          exact ⟨rfl, hnx.trans (hb1.mono (by omega))⟩
      · have hnf : ¬ Fits ps := fun h => by have := (HFI.out.1 h).2; omega
        go_wp2_with fail
        refine HE.out.mono ?_
        rintro e w1 ⟨hb1, ⟨hf, _⟩ | ⟨_, x, rfl⟩⟩
        · exact absurd hf hnf
        · go_wp2
          go_ret
          exact ⟨rfl, hnx.trans (hb1.mono (by omega))⟩
      · have hnf : Fits ps := HFI.out.2 ⟨hb, hT⟩
        go_wp2_with fail
        refine HE.out.mono ?_
        rintro e w1 ⟨hb1, ⟨_, v1, rfl, hown1⟩ | ⟨hf, _⟩⟩
        · obtain ⟨g1, cap1, rfl, _, hnc1, hgl1⟩ := own_form hown1 (by omega)
          obtain ⟨m0, m1, m2, m3, m4, _⟩ := msg_cells hk HTE.out hown1
          have hwr : IntKind.u32.wrap (T : Int) = T := by rw [IntKind.wrap_u32]; omega
          have hc4 : ¬ cap1 = 4 := by omega
          have i0 : 0 < T := by omega
          have e5 : IntKind.u8.wrap ((kind : Int) / 256) = (kind : Int) / 256 := by rw [IntKind.wrap_u8]; omega
          have e6 : IntKind.u8.wrap (kind : Int) = (kind : Int) % 256 := IntKind.wrap_u8 _
          have i1 : (1 : Int) < (T : Int) := by omega
          have i2 : (2 : Int) < (T : Int) := by omega
          have i3 : (3 : Int) < (T : Int) := by omega
          have i4 : (4 : Int) ≤ (T : Int) := by omega
          have i5' : (T : Int) ≤ (cap1 : Int) := by omega
          have i6 : (4 : Int) ≤ (cap1 : Int) := by omega
          have HM4 : Hid (∀ (j : Nat) (u : Value), (Lib.byteCells (Lib.beBytes 4 T))[j]? = some u → w1.cell? ⟨g1, 4 + j, none⟩ = some u) := m4
          clear m4 hown1
          go_wp2
          go_region_held3 (fun w' => w'.cell? ⟨g1, 0, none⟩ = some (.int .u8 1) ∧ w'.cell? ⟨g1, 1, none⟩ = some (.int .u8 0) ∧ w'.cell? ⟨g1, 2, none⟩ = some (.int .u8 ((kind : Int) / 256)) ∧ w'.cell? ⟨g1, 3, none⟩ = some (.int .u8 ((kind : Int) % 256))) (go_keep)
            (first | (go_at_call 12; refine (uint32_at g1 4 (T - 4) (cap1 - 4) T _ (by omega) (by omega) (by exact HM4.out)).mono ?_; rintro e w2 ⟨rfl, hb2⟩; have k0 := cell_below hb2 m0; have k1 := cell_below hb2 m1; have k2 := cell_below hb2 m2; have k3 := cell_below hb2 m3))
          all_goals go_wp2
          all_goals go_ret
          all_goals exact ⟨rfl, (hnx.trans (hb1.mono (by omega))).drew.trans (hb2.mono (by have := hb1.size; show w.heap.size ≤ w1.heap.size; omega))⟩
        · exact absurd hnf hf
end Go.Proofs.YbulkcrpmFmt
