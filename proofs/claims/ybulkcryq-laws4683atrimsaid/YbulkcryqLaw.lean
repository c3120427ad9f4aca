/-
  LawS4683ATrim (3), walked.
-/
import Derived.Test.YbulkcryqFront
import Derived.Test.YbulkcryqEq
import Derived.Test.YbulkcryqLawF
import Derived.Deep.RegionHeld3
namespace Go.Proofs.Ybulkcryq
open Go Go.RowKit Go.Shelf

theorem oncePa {P : Program} {c : Code} {Q : Exit → Act → World → Prop} {a a0 : Act} {w : World} (Q0 : World → Prop) (h : c.wp P (fun e a' w' => e = .normal ∧ a' = a0 ∧ Q0 w') a w) (k : ∀ w', Q0 w' → Q .normal a0 w') : c.wp P Q a w :=
  Code.wp_mono (by rintro e a' w' ⟨rfl, rfl, hq⟩; exact k w' hq) h
theorem equal_n (sa sb : Option Addr) (ca cb : Nat) (cs : List (Int × Int)) (n : Nat) (w : World) (hl : cs.length = n) (hn : n ≤ 1000) (ha : ChainsAt w sa cs) (hb : ChainsAt w sb cs) :
    Calls Yba.prog 8 #[.slice sa n ca, .slice sb n cb] w fun e w' => e = .returned (.bool true) ∧ Below w.heap.size w w' := by
  subst hl
  exact equal_same sa sb ca cb cs w hn ha hb
theorem res_none {cs kl tl : List (Int × Int)} {ks : List Bool} {sh : Int} {pk : List UInt8} (h : Res cs ks sh kl tl pk) (hno : ∀ j, j < cs.length → (ks[j]?).getD false = false) : kl = cs ∧ tl = [] ∧ pk = [] := by
  rcases h with h | ⟨j, c, hc, _, hf, _⟩
  · exact h.2
  · have := hno j (List.getElem?_eq_some_iff.1 hc).1
    rw [hf] at this; cases this
theorem res_some {cs kl tl : List (Int × Int)} {ks : List Bool} {sh : Int} {pk : List UInt8} (h : Res cs ks sh kl tl pk) {j : Nat} {c : Int × Int} (hc : cs[j]? = some c) (hno : ∀ j', j' < j → (ks[j']?).getD false = false) (hf : (ks[j]?).getD false = true) :
    kl = cs.take (j + 1) ∧ tl = [c] ∧ pk = encode ((wrap32 (c.1 + sh), c.2) :: cs.drop (j + 1)) := by
  rcases h with h | ⟨i, d, hd, hn, hfi, h1, h2, h3⟩
  · have := h.1 j (List.getElem?_eq_some_iff.1 hc).1
    rw [hf] at this; cases this
  · obtain rfl : i = j := by
      rcases Nat.lt_trichotomy i j with hlt | he | hgt
      · have := hno i hlt; rw [hfi] at this; cases this
      · exact he
      · have := hn j hgt; rw [hf] at this; cases this
    rw [hc] at hd
    cases hd
    exact ⟨h1, h2, h3⟩

/-- More than three hundred chains: nothing is tried. -/
theorem law_big (sa ka : Option Addr) (n cap m kc : Nat) (sh : Int) (w : World) (hn : 300 < n) :
    Calls Yba.prog 3 #[.slice sa n cap, .slice ka m kc, .int .i32 sh] w fun e w' => e = .returned (.bool true) ∧ KeptB w.heap.size (fun _ => False) w w' := by
  have hn3 : (n : Int) > 300 := by omega
  go_enter Yba.func3, Yba.ntmps3
  go_wp2
  go_ret
  exact ⟨rfl, (KeptB.alloc _ (Nat.le_refl _)).trans (KeptB.alloc _ (by simp))⟩

set_option maxHeartbeats 8000000 in
set_option maxRecDepth 100000 in
theorem law_any (sa ka : Option Addr) (cap kc : Nat) (cs : List (Int × Int)) (ks : List Bool) (sh : Int) (w : World) (hn : cs.length ≤ 300) (hok : ∀ c ∈ cs, Ok c) (hsh : I32 sh) (hat : ChainsAt w sa cs) (hks : BoolsAt w.heap.size w ka ks) :
    Calls Yba.prog 3 #[.slice sa cs.length cap, .slice ka ks.length kc, .int .i32 sh] w fun e w' => e = .returned (.bool true) ∧ KeptB w.heap.size (fun _ => False) w w' := by
  obtain ⟨n, hcn⟩ : ∃ n, cs.length = n := ⟨_, rfl⟩
  rw [hcn]
  obtain ⟨i28, hi28, hz28, hs28, hb28⟩ := info_parts Yba.info28
  have hn3 : ¬ ((n : Int) > 300) := by omega
  have hn3' : (n : Int) ≤ 300 := by omega
  have MK := fun W : World => run_makeSlice_full (P := Yba.prog) W W.heap.size 24 28 i28 _ 2 Yba.underlying24 hi28 hz28 hs28 .i64 .i64 n (by omega) (by rw [hb28]; omega) (by simp only [maxLen]; omega) (Nat.le_refl _)
  obtain ⟨W2, hW2⟩ : ∃ W2, (w.alloc (.cells #[.slice ka ks.length kc] 23)).alloc (.cells #[.int .i32 sh] 21) = W2 := ⟨_, rfl⟩
  obtain ⟨W3, hmk, own3, gr3⟩ := MK W2
  have hs2 : W2.heap.size = w.heap.size + 2 := by rw [← hW2]; simp
  rw [hs2] at hmk own3
  have b0 : Boxed W3 w.heap.size 23 (.slice ka ks.length kc) := by
    have : Boxed W2 w.heap.size 23 (.slice ka ks.length kc) := by rw [← hW2]; exact (Boxed.new w 23 _).alloc _
    exact (gr3.block _ (by omega) (by simp)).trans this
  have b1 : Boxed W3 (w.heap.size + 1) 21 (.int .i32 sh) := by
    have : Boxed W2 (w.heap.size + 1) 21 (.int .i32 sh) := by rw [← hW2]; have := Boxed.new (w.alloc (.cells #[.slice ka ks.length kc] 23)) 21 (.int .i32 sh); rwa [World.size_alloc] at this
    exact (gr3.block _ (by omega) (by simp)).trans this
  have hB3 : Below w.heap.size w W3 := by
    have h2 : Below w.heap.size w W2 := by rw [← hW2]; exact ((Below.refl _ w).alloc (Nat.le_refl _) _).alloc (by simp) _
    exact h2.grown gr3 (by omega) (fun k hk => by cases hk)
  have own3' : W3.ownsRow (w.heap.size + 2) 28 2 (.slice (some ⟨w.heap.size + 2, 0, none⟩) n n) n (rowOf cs 0) := by
    refine own_cast own3 rfl ?_
    exact rowOf_zero cs n hcn
  have H3 : Hid (Boxed W3 w.heap.size 23 (.slice ka ks.length kc) ∧ Boxed W3 (w.heap.size + 1) 21 (.int .i32 sh) ∧ Below w.heap.size w W3 ∧ W3.ownsRow (w.heap.size + 2) 28 2 (.slice (some ⟨w.heap.size + 2, 0, none⟩) n n) n (rowOf cs 0)) := ⟨b0, b1, hB3, own3'⟩
  have HI : Hid (ChainsAt w sa cs ∧ BoolsAt w.heap.size w ka ks ∧ (∀ c ∈ cs, Ok c) ∧ I32 sh ∧ cs.length = n) := ⟨hat, hks, hok, hsh, hcn⟩
  have mixed : Yba.prog.follows .mixedOrders = true := by kernel_rfl
  clear MK own3 own3' b0 b1 hB3 gr3 hat hks hok hsh hcn hs2
  go_enter Yba.func3, Yba.ntmps3
  go_wp2_with fail
  go_loopw [29] (fun vx wr => ∃ k : Nat, k ≤ n ∧ vx = .int .i64 k ∧ Boxed wr w.heap.size 23 (.slice ka ks.length kc) ∧ Boxed wr (w.heap.size + 1) 21 (.int .i32 sh) ∧ Below w.heap.size w wr ∧ wr.ownsRow (w.heap.size + 2) 28 2 (.slice (some ⟨w.heap.size + 2, 0, none⟩) n n) n (rowOf cs k)) (fun vx _ => n - (intOf vx).toNat)
  case atStart => exact ⟨0, by omega, rfl, H3.out⟩
  case round =>
    obtain ⟨k, hk, rfl, b0, b1, hB, own⟩ := hrel
    by_cases hlt : k < n
    · obtain ⟨⟨a, b⟩, hc⟩ : ∃ c, cs[k]? = some c := ⟨cs[k]'(by have := HI.out.2.2.2.2; omega), List.getElem?_eq_getElem _⟩
      obtain ⟨g, o, rfl, h0, h1⟩ := HI.out.1 k _ hc
      have hgl : g < w.heap.size := World.block_lt_of_cell? w _ h0
      have q0 : wr.cell? ⟨g, o + k * 2, none⟩ = some (.int .i32 a) := (hB.cell (p := ⟨g, _, none⟩) hgl).trans h0
      have q1 : wr.cell? ⟨g, o + k * 2 + 1, none⟩ = some (.int .i32 b) := (hB.cell (p := ⟨g, _, none⟩) hgl).trans h1
      have hlen := rowOf_length cs k (by have := HI.out.2.2.2.2; omega)
      rw [HI.out.2.2.2.2] at hlen
      obtain ⟨v0, s0⟩ : ∃ v0, wr.cell? ⟨w.heap.size + 2, k * 2, none⟩ = some v0 := ⟨_, (own.cellAt (k * 2) (by omega)).trans (List.getElem?_eq_getElem (by omega))⟩
      obtain ⟨v1, s1⟩ : ∃ v1, wr.cell? ⟨w.heap.size + 2, k * 2 + 1, none⟩ = some v1 := ⟨_, (own.cellAt (k * 2 + 1) (by omega)).trans (List.getElem?_eq_getElem (by omega))⟩
      have f0 := own.frozenAt (k * 2)
      have f1 := own.frozenAt (k * 2 + 1)
      have ng : ¬ w.heap.size + 2 = g := by omega
      have ng' : ¬ g = w.heap.size + 2 := by omega
      have i1 : (0 : Int) ≤ (k : Int) := by omega
      have i2 : (k : Int) < (n : Int) := by omega
      have HR : Hid (Boxed wr w.heap.size 23 (.slice ka ks.length kc) ∧ Boxed wr (w.heap.size + 1) 21 (.int .i32 sh) ∧ Below w.heap.size w wr ∧ wr.ownsRow (w.heap.size + 2) 28 2 (.slice (some ⟨w.heap.size + 2, 0, none⟩) n n) n (rowOf cs k) ∧ cs[k]? = some (a, b)) := ⟨b0, b1, hB, own, hc⟩
      clear b0 b1 hB own hc h0 h1 hlen
      go_wp2_with fail
      go_region_held3 (fun w' => w'.cell? ⟨g, o + k * 2, none⟩ = some (.int .i32 a) ∧ w'.cell? ⟨g, o + k * 2 + 1, none⟩ = some (.int .i32 b)) (go_keep) (fail)
      go_wp2
      go_roundw
      case rel =>
        obtain ⟨b0, b1, hB, own, hc⟩ := HR.out
        obtain ⟨own1, gr1⟩ := own.stored (k * 2) (.int .i32 a)
        obtain ⟨own2, gr2⟩ := own1.stored (k * 2 + 1) (.int .i32 b)
        have gr := grown_trans gr1 gr2
        have b0' := b0.kept gr (by simp)
        have b1' := b1.kept gr (by simp)
        refine ⟨k + 1, by omega, by go_num, b0', b1', (hB.grown gr hB.size (fun k hk => by cases hk; omega)).drew, own_cast own2 rfl (rowOf_next cs k a b hc)⟩
      case measure => simp [intOf]; omega
    · obtain rfl : k = n := by omega
      have hcn := HI.out.2.2.2.2
      have own' : wr.ownsRow (w.heap.size + 2) 28 2 (.slice (some ⟨w.heap.size + 2, 0, none⟩) k k) cs.length (chainCells cs) := own_cast own hcn.symm (by rw [← hcn]; exact rowOf_full cs)
      have hch : ChainsAt wr (some ⟨w.heap.size + 2, 0, none⟩) cs := by
        obtain ⟨sa', cap', e, h⟩ := own_chains own'
        simp only [Value.slice.injEq] at e
        rw [e.1]; exact h
      have ENC := encode_any (some ⟨w.heap.size + 2, 0, none⟩) k cs wr (by omega) HI.out.2.2.1 hch
      rw [hcn] at ENC
      have HENC : Hid _ := ENC
      have HR : Hid (Boxed wr w.heap.size 23 (.slice ka ks.length kc) ∧ Boxed wr (w.heap.size + 1) 21 (.int .i32 sh) ∧ Below w.heap.size w wr ∧ wr.ownsRow (w.heap.size + 2) 28 2 (.slice (some ⟨w.heap.size + 2, 0, none⟩) k k) k (chainCells cs)) := ⟨b0, b1, hB, own_cast own' hcn rfl⟩
      clear ENC own own' b0 b1 hB hch hcn H3
      go_wp2_with fail
      go_at_call 4
      refine Calls.mono HENC.out ?_
      rintro e wE ⟨vE, rfl, oE, hbE⟩
      obtain ⟨pE, cE, rfl, hE⟩ := own_bytes oE
      obtain ⟨L, hL⟩ : ∃ L, (encode cs).length = L := ⟨_, rfl⟩
      rw [hL] at oE ⊢
      have HE : Hid (wE.ownsRow wr.heap.size 5 1 (.slice pE L cE) L (Lib.byteCells (encode cs)) ∧ Below wr.heap.size wr wE) := ⟨oE, hbE⟩
      clear oE hbE HENC hE
      go_wp2_with fail
      go_at_call 7
      have hcn := HI.out.2.2.2.2
      have FL := front_law ka kc cE pE cs ks sh w wr wE (by omega) HI.out.2.2.1 HI.out.2.1 HR.out.1 HR.out.2.1 HR.out.2.2.1 (by rw [hcn]; exact HR.out.2.2.2) (by rw [hL]; exact HE.out.1) HE.out.2 wE.heap.size rfl
      rw [hL] at FL
      refine Calls.mono FL ?_
      rintro e V ⟨⟨v7, rfl⟩, kl, tl, pk, lf⟩
      obtain ⟨X, hX⟩ : ∃ X, wE.heap.size = X := ⟨_, rfl⟩
      rw [hX] at lf ⊢
      have e0 := lf.b0.cell
      have HL : Hid (LawF X ka kc cs ks sh kl tl pk w V ∧ cs.length = k) := ⟨lf, hcn⟩
      clear lf hcn FL hX HE HR hL
      go_wp2_with fail
      go_loopw [15, 57] (fun vf vx wr' => ∃ j : Nat, j ≤ k ∧ vx = .int .i64 j ∧ vf = .int .i64 (-1) ∧ wr' = V ∧ ∀ j', j' < j → (ks[j']?).getD false = false) (fun _ vx _ => k - (intOf vx).toNat)
      case atStart => exact ⟨0, by omega, rfl, rfl, rfl, fun j' h => by omega⟩
      case round =>
        obtain ⟨j, hj, rfl, rfl, rfl, hno⟩ := hrel
        by_cases hjn : j < k
        · cases hf : (ks[j]?).getD false with
          | true =>
            have hjk : j < ks.length := by
              rcases Nat.lt_or_ge j ks.length with h | h
              · exact h
              · rw [List.getElem?_eq_none h] at hf; cases hf
            have hbit : ks[j]? = some true := by
              rw [List.getElem?_eq_getElem hjk] at hf ⊢
              simpa using hf
            obtain ⟨g, o, rfl, hg, hcell⟩ := HI.out.2.1 j true hbit
            have hc9 : wr.cell? ⟨g, o + j, none⟩ = some (.bool true) := HL.out.1.kept.cell hcell hg (fun h => h)
            obtain ⟨lf, hcn⟩ := HL.out
            obtain ⟨⟨a, b⟩, hc⟩ : ∃ c, cs[j]? = some c := ⟨cs[j]'(by omega), List.getElem?_eq_getElem _⟩
            obtain ⟨hkl9, htl9, hpk9⟩ := res_some lf.res hc hno hf
            obtain ⟨q0, q1⟩ := chainCells_get cs j _ hc
            have r0 : wr.cell? ⟨w.heap.size + 2, j * 2, none⟩ = some (.int .i32 a) := (lf.row.cellAt (j * 2) (by omega)).trans q0
            have r1 : wr.cell? ⟨w.heap.size + 2, j * 2 + 1, none⟩ = some (.int .i32 b) := (lf.row.cellAt (j * 2 + 1) (by omega)).trans q1
            have hsV := lf.size
            have i1 : (0 : Int) ≤ (j : Int) := by omega
            have i2 : (j : Int) < (k : Int) := by omega
            have i3 : (j : Int) < (ks.length : Int) := by omega
            have i4 : (0 : Int) ≤ (j : Int) + 1 := by omega
            have i5 : (j : Int) + 1 ≤ (k : Int) := by omega
            have i6 : ¬ (j : Int) < 0 := by omega
            have i7 : ((j : Int) + 1).toNat = j + 1 := by omega
            have j1 : w.heap.size + 2 < wr.heap.size := hsV
            have j2 : ¬ w.heap.size + 2 = wr.heap.size := by omega
            have HLF : Hid _ := lf
            clear lf q0 q1 hcell hbit
            go_wp2_with fail
            obtain ⟨Wc, hWc⟩ : ∃ Wc, (wr.alloc (.cells #[.int .i32 a, .int .i32 b] 28)).alloc (.cells #[.int .i32 a, .int .i32 b] 28) = Wc := ⟨_, rfl⟩
            have hsc : Wc.heap.size = wr.heap.size + 2 := by rw [← hWc]; simp
            have hBc : Below wr.heap.size wr Wc := by rw [← hWc]; exact ((Below.refl _ wr).alloc (Nat.le_refl _) _).alloc (by simp) _
            have x20 : Wc.heap[wr.heap.size]? = some (.cells #[.int .i32 a, .int .i32 b] 28 (0, 0)) := by rw [← hWc]; exact (Below.heap_alloc _ _ _ (by simp)).trans (heap_alloc_new wr _)
            have x19 : Wc.heap[wr.heap.size + 1]? = some (.cells #[.int .i32 a, .int .i32 b] 28 (0, 0)) := by rw [← hWc]; have := heap_alloc_new (wr.alloc (.cells #[.int .i32 a, .int .i32 b] 28)) (.cells #[.int .i32 a, .int .i32 b] 28); rwa [World.size_alloc] at this
            rw [hWc]
            have y0 : Wc.cell? ⟨wr.heap.size, 0, none⟩ = some (.int .i32 a) := by rw [cell_of_row _ _ _ _ _ _ x20]; rfl
            have y1 : Wc.cell? ⟨wr.heap.size, 1, none⟩ = some (.int .i32 b) := by rw [cell_of_row _ _ _ _ _ _ x20]; rfl
            have y2 : Wc.cell? ⟨w.heap.size + 1, 0, none⟩ = some (.int .i32 sh) := Boxed.cell ((hBc.block _ HLF.out.b1.lt).trans HLF.out.b1)
            obtain ⟨t1, ht1⟩ : ∃ t1, wrap32 (a + sh) = t1 := ⟨_, rfl⟩
            have ht1' : IntKind.i32.wrap (a + sh) = t1 := by rw [IntKind.wrap_i32, ← ht1, wrap32]
            have i8 : IntKind.i64.wrap ((j : Int) + 1) = (j : Int) + 1 := by rw [IntKind.wrap_i64]; omega
            clear hWc r0 r1 hc9 j1 j2 e0
            by_cases hlast : k = j + 1
            · subst hlast
              obtain ⟨v9, We, hap, own9, k9⟩ := append_want Wc.drew (wr.heap.size + 2) hsc t1 b (cs.drop (j + 1)) 0 0 (by rw [List.length_drop]; omega) (by omega) ⟨w.heap.size + 2, 0, none⟩ (by
                  intro i u hu
                  rw [List.drop_eq_nil_of_le (by omega)] at hu
                  simp [chainCells] at hu)
              obtain ⟨s17, c17, rfl, hc17⟩ := own_chains own9
              obtain ⟨want, hwant⟩ : ∃ want, (t1, b) :: cs.drop (j + 1) = want := ⟨_, rfl⟩
              rw [hwant] at hap own9 hc17
              obtain ⟨nw, hnw⟩ : ∃ nw, want.length = nw := ⟨_, rfl⟩
              have hnwl : nw ≤ 301 := by rw [← hnw, ← hwant, List.length_cons, List.length_drop]; omega
              rw [hnw] at hap
              have kWe : KeptB wr.heap.size (fun _ => False) wr We := (KeptB.below hBc).trans ((KeptB.drew Wc).trans (k9.mono (by omega) (fun _ _ h => h)))
              obtain ⟨klv, k1, k2⟩ := HLF.out.klog
              obtain ⟨tlv, t1', t2⟩ := HLF.out.tlog
              obtain ⟨pa, cp, p1, p2⟩ := HLF.out.pack
              obtain ⟨ska, ckc, rfl, hck⟩ := own_chains k2
              obtain ⟨sta, ctc, rfl, hct⟩ := own_chains t2
              obtain ⟨np, hnp⟩ : ∃ np, pk.length = np := ⟨_, rfl⟩
              have hkll : kl.length = j + 1 := by rw [hkl9, List.length_take]; omega
              have htll : tl.length = 1 := by rw [htl9]; rfl
              have kcell := (kWe.boxed k1 k1.lt (fun h => h)).cell
              have tcell := (kWe.boxed t1' t1'.lt (fun h => h)).cell
              have pcell := (kWe.boxed p1 p1.lt (fun h => h)).cell
              rw [hkll] at kcell
              rw [htll] at tcell
              rw [hnp] at pcell
              have hcc : ChainsAt wr (some ⟨w.heap.size + 2, 0, none⟩) cs := by
                obtain ⟨sa', cap', e, h⟩ := own_chains HLF.out.row
                simp only [Value.slice.injEq] at e
                rw [e.1]; exact h
              have h19 : ChainsAt We (some ⟨wr.heap.size + 1, 0, none⟩) tl := fun i c hi => by
                have hx := (k9.block (wr.heap.size + 1) (by omega) (fun h => h)).trans x19
                rw [htl9] at hi
                cases i with
                | zero =>
                  simp at hi; subst hi
                  refine ⟨_, _, rfl, ?_, ?_⟩ <;> (rw [cell_of_row _ _ _ _ _ _ hx]; rfl)
                | succ i => simp at hi
              have HEND : Hid (ChainsAt We ska kl ∧ ChainsAt We (some ⟨w.heap.size + 2, 0, none⟩) kl ∧ kl.length = j + 1 ∧ ChainsAt We sta tl ∧ ChainsAt We (some ⟨wr.heap.size + 1, 0, none⟩) tl ∧ tl.length = 1 ∧ ChainsAt We s17 want ∧ want.length = nw ∧ nw ≤ 301 ∧ (∀ c ∈ want, Ok c) ∧ (pk ≠ [] → ∃ g o, pa = some ⟨g, o, none⟩ ∧ BytesFrom We g o pk) ∧ pk = encode want ∧ pk.length = np ∧ KeptB w.heap.size (fun _ => False) w We ∧ j + 1 ≤ 1000 ∧ 1 ≤ 1000) := by
                refine ⟨hck.kept kWe (fun _ h => h), ?_, hkll, hct.kept kWe (fun _ h => h), h19, htll, hc17, hnw, hnwl, ?_, ?_, ?_, hnp, HLF.out.kept.trans (kWe.mono (by omega) (fun _ _ h => h)), by omega, by omega⟩
                · rw [hkl9]; exact (hcc.kept kWe (fun _ h => h)).take (j + 1)
                · intro c9 hc9
                  rw [← hwant] at hc9
                  rcases List.mem_cons.1 hc9 with rfl | h
                  · exact ⟨by rw [← ht1]; constructor <;> (unfold wrap32; omega), (HI.out.2.2.1 _ (List.mem_of_getElem? hc)).2⟩
                  · exact HI.out.2.2.1 _ (List.mem_of_mem_drop h)
                · intro hne
                  obtain ⟨g9, o9, e9, hb9⟩ := p2 hne
                  have hne0 : 0 < pk.length := by cases pk with | nil => exact absurd rfl hne | cons _ _ => simp
                  exact ⟨g9, o9, e9, hb9.block (kWe.block g9 (World.block_lt_of_cell? _ _ (hb9 0 hne0)) (fun h => h))⟩
                · rw [hpk9, ← hwant, ← ht1]
              have kS : ∀ W9, KeptB (wr.heap.size + 2) (fun _ => False) Wc W9 → W9.cell? ⟨wr.heap.size, 0, none⟩ = some (.int .i32 a) ∧ W9.cell? ⟨wr.heap.size, 1, none⟩ = some (.int .i32 b) ∧ W9.cell? ⟨w.heap.size + 1, 0, none⟩ = some (.int .i32 sh) := fun W9 h => ⟨h.cell y0 (by show wr.heap.size < _; omega) (fun h => h), h.cell y1 (by show wr.heap.size < _; omega) (fun h => h), h.cell y2 (by show w.heap.size + 1 < _; omega) (fun h => h)⟩
              have hS0 := kS Wc.drew (KeptB.drew Wc)
              have hS1 := kS (Wc.drew.alloc (.cells #[.int .i32 t1, .int .i32 b] 28)) ((KeptB.drew Wc).trans (KeptB.alloc _ (by show wr.heap.size + 2 ≤ Wc.heap.size; omega)))
              have hS2 := kS We ((KeptB.drew Wc).trans k9)
              have HKS : Hid _ := kS
              have z1 : (0 : Int) ≤ (1 : Int) := by decide
              clear kS own9 hc17 kWe k1 k2 t1' t2 p1 p2 hck hct hcc h19 HLF hkl9 htl9 hpk9 k9 x19 x20 hBc
              apply oncePa (fun W9 => W9 = We)
              case h =>
                apply region_plain (S := fun w' => w'.cell? ⟨wr.heap.size, 0, none⟩ = some (.int .i32 a) ∧ w'.cell? ⟨wr.heap.size, 1, none⟩ = some (.int .i32 b) ∧ w'.cell? ⟨w.heap.size + 1, 0, none⟩ = some (.int .i32 sh)) (hm := mixed)
                refine take_first (i := 0) (v := ?_) rfl (by kernel_rfl) (by kernel_rfl) (by kernel_rfl) (by rfl) ?_ hS0 ?_
                rotate_left
                · intro w0 hw0; obtain ⟨q0, q1, q2⟩ := hw0; go_simp; try rfl
                try simp only [Act.put, List.setIfInBounds_toArray, List.set_cons_zero, List.set_cons_succ]
                refine take_first (i := 1) (v := ?_) rfl (by kernel_rfl) (by kernel_rfl) (by kernel_rfl) (by rfl) ?_ hS0 ?_
                rotate_left
                · intro w0 hw0; obtain ⟨q0, q1, q2⟩ := hw0; go_simp; try rfl
                try simp only [Act.put, List.setIfInBounds_toArray, List.set_cons_zero, List.set_cons_succ]
                refine take_first (i := 2) (v := ?_) rfl (by kernel_rfl) (by kernel_rfl) (by kernel_rfl) (by rfl) ?_ hS0 ?_
                rotate_left
                · intro w0 hw0; obtain ⟨q0, q1, q2⟩ := hw0; go_simp; try rfl
                try simp only [Act.put, List.setIfInBounds_toArray, List.set_cons_zero, List.set_cons_succ]
                refine take_first (i := 3) (v := ?_) rfl (by kernel_rfl) (by kernel_rfl) (by kernel_rfl) (by rfl) ?_ hS0 ?_
                rotate_left
                · intro w0 hw0; obtain ⟨q0, q1, q2⟩ := hw0; go_simp; try rfl
                try simp only [Act.put, List.setIfInBounds_toArray, List.set_cons_zero, List.set_cons_succ]
                refine take_first (i := 4) (v := ?_) rfl (by kernel_rfl) (by kernel_rfl) (by kernel_rfl) (by rfl) ?_ hS0 ?_
                rotate_left
                · intro w0 hw0; obtain ⟨q0, q1, q2⟩ := hw0; go_simp; try rfl
                try simp only [Act.put, List.setIfInBounds_toArray, List.set_cons_zero, List.set_cons_succ]
                refine take_first (i := 5) (v := ?_) rfl (by kernel_rfl) (by kernel_rfl) (by kernel_rfl) (by rfl) ?_ hS0 ?_
                rotate_left
                · intro w0 hw0; obtain ⟨q0, q1, q2⟩ := hw0; go_simp; try rfl
                try simp only [Act.put, List.setIfInBounds_toArray, List.set_cons_zero, List.set_cons_succ]
                refine take_first (i := 6) (v := ?_) rfl (by kernel_rfl) (by kernel_rfl) (by kernel_rfl) (by rfl) ?_ hS0 ?_
                rotate_left
                · intro w0 hw0; obtain ⟨q0, q1, q2⟩ := hw0; go_simp; try rfl
                try simp only [Act.put, List.setIfInBounds_toArray, List.set_cons_zero, List.set_cons_succ]
                refine take_first (i := 8) (v := ?_) rfl (by kernel_rfl) (by kernel_rfl) (by kernel_rfl) (by rfl) ?_ hS0 ?_
                rotate_left
                · intro w0 hw0; obtain ⟨q0, q1, q2⟩ := hw0; go_simp; try rfl
                try simp only [Act.put, List.setIfInBounds_toArray, List.set_cons_zero, List.set_cons_succ]
                refine take_first (i := 9) (v := ?_) rfl (by kernel_rfl) (by kernel_rfl) (by kernel_rfl) (by rfl) ?_ hS0 ?_
                rotate_left
                · intro w0 hw0; obtain ⟨q0, q1, q2⟩ := hw0; go_simp; try rfl
                try simp only [Act.put, List.setIfInBounds_toArray, List.set_cons_zero, List.set_cons_succ]
                refine take_first (i := 10) (v := ?_) rfl (by kernel_rfl) (by kernel_rfl) (by kernel_rfl) (by rfl) ?_ hS0 ?_
                rotate_left
                · intro w0 hw0; obtain ⟨q0, q1, q2⟩ := hw0; go_simp; try rfl
                try simp only [Act.put, List.setIfInBounds_toArray, List.set_cons_zero, List.set_cons_succ]
                refine take_first (i := 11) (v := ?_) rfl (by kernel_rfl) (by kernel_rfl) (by kernel_rfl) (by rfl) ?_ hS0 ?_
                rotate_left
                · intro w0 hw0; obtain ⟨q0, q1, q2⟩ := hw0; go_simp; try rfl
                try simp only [Act.put, List.setIfInBounds_toArray, List.set_cons_zero, List.set_cons_succ]
                refine wpAnyH_ready (rs := [7]) (by kernel_rfl) (by simp) ?_
                refine AllReadyH.cons rfl (fun K hK => ?_) AllReadyH.nil
                go_simp
                refine hK.out _ _ hS1 (fun _ => ?_)
                clear hK K
                try simp only [Act.put, List.setIfInBounds_toArray, List.set_cons_zero, List.set_cons_succ]
                refine wpAnyH_ready (rs := [12]) (by kernel_rfl) (by simp) ?_
                refine AllReadyH.cons rfl (fun K hK => ?_) AllReadyH.nil
                refine step_append_run (by rfl) (.tmp 92) (.tmp 96) 24 24 (by rfl) (by rfl) _ _ (by rfl) (by rfl) hap ?_
                refine hK.out _ _ hS2 (fun _ => ?_)
                clear hK K
                try simp only [Act.put, List.setIfInBounds_toArray]
                refine take_first (i := 13) (v := ?_) rfl (by kernel_rfl) (by kernel_rfl) (by kernel_rfl) (by rfl) ?_ hS2 ?_
                rotate_left
                · intro w0 hw0; obtain ⟨q0, q1, q2⟩ := hw0; go_simp; try rfl
                try simp only [Act.put]
                exact wpAnyH_done (by kernel_rfl) ⟨rfl, rfl, rfl⟩ _
              rintro W9 rfl
              clear hap hS0 hS1 hS2 HKS y0 y1 y2
              go_wp2_with fail
              go_at_call 8
              obtain ⟨x1, x2, x3, x4, x5, x6, x7, x8, x9, x10, x11, x12, x13, x14, x15, x16⟩ := HEND.out
              refine Calls.mono (equal_n ska _ ckc _ kl (j + 1) W9 x3 x15 x1 x2) ?_
              rintro e U1 ⟨rfl, hb1⟩
              have tc1 := (hb1.cell (p := ⟨X + 1 + 1 + 1, 0, none⟩) (World.block_lt_of_cell? _ _ tcell)).trans tcell
              have pc1 := (hb1.cell (p := ⟨X, 0, none⟩) (World.block_lt_of_cell? _ _ pcell)).trans pcell
              clear kcell tcell pcell
              clear x1 x2 x3 x4 x5 x6 x7 x8 x9 x10 x11 x12 x13 x14 x15 x16
              go_wp2_with fail
              go_at_call 8
              obtain ⟨x1, x2, x3, x4, x5, x6, x7, x8, x9, x10, x11, x12, x13, x14, x15, x16⟩ := HEND.out
              refine Calls.mono (equal_n sta _ ctc _ tl 1 U1 x6 x16 (x4.below hb1) (x5.below hb1)) ?_
              rintro e U2 ⟨rfl, hb2⟩
              have pc2 := (hb2.cell (p := ⟨X, 0, none⟩) (World.block_lt_of_cell? _ _ pc1)).trans pc1
              have hb12 : Below W9.heap.size W9 U2 := hb1.trans (hb2.mono hb1.size)
              have ENC := encode_any s17 c17 want U2.drew (by omega) x10 (show ChainsAt U2 s17 want from x7.below hb12)
              rw [x8] at ENC
              have HENC : Hid _ := ENC
              have bU2 : pk ≠ [] → ∃ g o, pa = some ⟨g, o, none⟩ ∧ BytesFrom U2 g o pk := fun hne => by
                obtain ⟨g9, o9, e9, hb9⟩ := x11 hne
                have hne0 : 0 < pk.length := by cases pk with | nil => exact absurd rfl hne | cons _ _ => simp
                exact ⟨g9, o9, e9, hb9.block (hb12.block g9 (World.block_lt_of_cell? _ _ (hb9 0 hne0)))⟩
              have kU2 : KeptB w.heap.size (fun _ => False) w U2 := x14.trans (KeptB.below (hb12.mono x14.size))
              have szU2 : w.heap.size ≤ U2.heap.size := kU2.size
              have HB2 : Hid (pk ≠ [] → ∃ g o, pa = some ⟨g, o, none⟩ ∧ BytesFrom U2 g o pk) := bU2
              have HPK : Hid (pk = encode want ∧ pk.length = np) := ⟨x12, x13⟩
              have HKU : Hid (KeptB w.heap.size (fun _ => False) w U2) := kU2
              clear ENC bU2 kU2 tc1 pc1 x1 x2 x3 x4 x5 x6 x7 x8 x9 x10 x11 x12 x13 x14 x15 x16
              go_wp2_with fail
              refine onceP (T := fun a9 w9 => (∃ tm, a9 = { tmps := tm, defers := [] } ∧ tm[6]? = some (.bool true)) ∧ KeptB w.heap.size (fun _ => False) w w9) ?_ ?_
              · refine region_plain (S := fun w' => w'.cell? ⟨X, 0, none⟩ = some (.slice pa np cp)) mixed ?_
                have hS : U2.drew.cell? ⟨X, 0, none⟩ = some (.slice pa np cp) := pc2
                refine take_first (i := 0) (v := ?_) rfl (by kernel_rfl) (by kernel_rfl) (by kernel_rfl) (by rfl) ?_ hS ?_
                rotate_left
                · intro w0 hw0; go_simp; try rfl
                try simp only [Act.put, List.setIfInBounds_toArray, List.set_cons_zero, List.set_cons_succ]
                refine take_first (i := 1) (v := ?_) rfl (by kernel_rfl) (by kernel_rfl) (by kernel_rfl) (by rfl) ?_ hS ?_
                rotate_left
                · intro w0 hw0; go_simp; try rfl
                try simp only [Act.put, List.setIfInBounds_toArray, List.set_cons_zero, List.set_cons_succ]
                refine take_first (i := 2) (v := ?_) rfl (by kernel_rfl) (by kernel_rfl) (by kernel_rfl) (by rfl) ?_ hS ?_
                rotate_left
                · intro w0 hw0; go_simp; try rfl
                try simp only [Act.put, List.setIfInBounds_toArray, List.set_cons_zero, List.set_cons_succ]
                refine wpAnyH_ready (rs := [3]) (by kernel_rfl) (by simp) ?_
                refine AllReadyH.cons rfl (fun K hK => ?_) AllReadyH.nil
                go_simp
                go_at_call 4
                refine Calls.mono HENC.out ?_
                rintro e U3 ⟨v9, rfl, o9, hb9⟩
                rw [← HPK.out.1] at o9
                obtain ⟨p9, c9, rfl, h9⟩ := own_bytes o9
                rw [HPK.out.2]
                have hS3 : U3.cell? ⟨X, 0, none⟩ = some (.slice pa np cp) := (hb9.cell (p := ⟨X, 0, none⟩) (World.block_lt_of_cell? _ _ hS)).trans hS
                have EB := equal_bytes pa p9 cp c9 pk U3 (fun hne => by
                  obtain ⟨g9, o9, e9, hb8⟩ := HB2.out hne
                  have hne0 : 0 < pk.length := by cases pk with | nil => exact absurd rfl hne | cons _ _ => simp
                  exact ⟨g9, o9, e9, hb8.block (hb9.block g9 (World.block_lt_of_cell? _ _ (hb8 0 hne0)))⟩) h9
                rw [HPK.out.2] at EB
                have HEB : Hid _ := EB
                have kU3 : KeptB w.heap.size (fun _ => False) w U3 := HKU.out.trans ((KeptB.drew U2).trans (KeptB.below (hb9.mono szU2)))
                clear EB h9 o9
                refine hK.out _ _ hS3 (fun _ => ?_)
                clear hK K
                try simp only [Act.put, List.setIfInBounds_toArray, List.set_cons_zero, List.set_cons_succ]
                refine wpAnyH_ready (rs := [4]) (by kernel_rfl) (by simp) ?_
                refine AllReadyH.cons rfl (fun K hK => ?_) AllReadyH.nil
                go_simp
                go_at_call 9
                refine Calls.mono HEB.out ?_
                rintro e U4 ⟨rfl, rfl⟩
                refine hK.out _ _ hS3 (fun _ => ?_)
                clear hK K
                try simp only [Act.put, List.setIfInBounds_toArray, List.set_cons_zero, List.set_cons_succ]
                refine take_first (i := 5) (v := ?_) rfl (by kernel_rfl) (by kernel_rfl) (by kernel_rfl) (by rfl) ?_ hS3 ?_
                rotate_left
                · intro w0 hw0; go_simp; try rfl
                try simp only [Act.put, List.setIfInBounds_toArray, List.set_cons_zero, List.set_cons_succ]
                exact wpAnyH_done (by kernel_rfl) ⟨rfl, ⟨_, rfl, rfl⟩, kU3⟩ _
              · rintro a9 w9 ⟨⟨tm, rfl, h6⟩, hk9⟩
                go_wp2_with fail
                refine bodyPost_ret (v := .bool true) ?_ rfl ⟨rfl, hk9⟩
                simp [results, Yba.f3, h6]
            · obtain ⟨v9, We, hap, own9, k9⟩ := append_want Wc.drew (wr.heap.size + 2) hsc t1 b (cs.drop (j + 1)) (k - (j + 1)) (k - (j + 1)) (by rw [List.length_drop]; omega) (by omega) ⟨w.heap.size + 2, (j + 1) * 2, none⟩ (by
                  intro i u hu
                  rw [chainCells_drop, List.getElem?_drop] at hu
                  have hlt : (j + 1) * 2 + i < k * 2 := by
                    have := (List.getElem?_eq_some_iff.1 hu).1
                    rw [chainCells_length] at this; omega
                  rw [Addr.add_lit]
                  exact (World.cell?_of_block (hBc.block _ hsV)).trans ((HLF.out.row.cellAt ((j + 1) * 2 + i) (by omega)).trans hu))
              obtain ⟨s17, c17, rfl, hc17⟩ := own_chains own9
              obtain ⟨want, hwant⟩ : ∃ want, (t1, b) :: cs.drop (j + 1) = want := ⟨_, rfl⟩
              rw [hwant] at hap own9 hc17
              obtain ⟨nw, hnw⟩ : ∃ nw, want.length = nw := ⟨_, rfl⟩
              have hnwl : nw ≤ 301 := by rw [← hnw, ← hwant, List.length_cons, List.length_drop]; omega
              rw [hnw] at hap
              have kWe : KeptB wr.heap.size (fun _ => False) wr We := (KeptB.below hBc).trans ((KeptB.drew Wc).trans (k9.mono (by omega) (fun _ _ h => h)))
              obtain ⟨klv, k1, k2⟩ := HLF.out.klog
              obtain ⟨tlv, t1', t2⟩ := HLF.out.tlog
              obtain ⟨pa, cp, p1, p2⟩ := HLF.out.pack
              obtain ⟨ska, ckc, rfl, hck⟩ := own_chains k2
              obtain ⟨sta, ctc, rfl, hct⟩ := own_chains t2
              obtain ⟨np, hnp⟩ : ∃ np, pk.length = np := ⟨_, rfl⟩
              have hkll : kl.length = j + 1 := by rw [hkl9, List.length_take]; omega
              have htll : tl.length = 1 := by rw [htl9]; rfl
              have kcell := (kWe.boxed k1 k1.lt (fun h => h)).cell
              have tcell := (kWe.boxed t1' t1'.lt (fun h => h)).cell
              have pcell := (kWe.boxed p1 p1.lt (fun h => h)).cell
              rw [hkll] at kcell
              rw [htll] at tcell
              rw [hnp] at pcell
              have hcc : ChainsAt wr (some ⟨w.heap.size + 2, 0, none⟩) cs := by
                obtain ⟨sa', cap', e, h⟩ := own_chains HLF.out.row
                simp only [Value.slice.injEq] at e
                rw [e.1]; exact h
              have h19 : ChainsAt We (some ⟨wr.heap.size + 1, 0, none⟩) tl := fun i c hi => by
                have hx := (k9.block (wr.heap.size + 1) (by omega) (fun h => h)).trans x19
                rw [htl9] at hi
                cases i with
                | zero =>
                  simp at hi; subst hi
                  refine ⟨_, _, rfl, ?_, ?_⟩ <;> (rw [cell_of_row _ _ _ _ _ _ hx]; rfl)
                | succ i => simp at hi
              have HEND : Hid (ChainsAt We ska kl ∧ ChainsAt We (some ⟨w.heap.size + 2, 0, none⟩) kl ∧ kl.length = j + 1 ∧ ChainsAt We sta tl ∧ ChainsAt We (some ⟨wr.heap.size + 1, 0, none⟩) tl ∧ tl.length = 1 ∧ ChainsAt We s17 want ∧ want.length = nw ∧ nw ≤ 301 ∧ (∀ c ∈ want, Ok c) ∧ (pk ≠ [] → ∃ g o, pa = some ⟨g, o, none⟩ ∧ BytesFrom We g o pk) ∧ pk = encode want ∧ pk.length = np ∧ KeptB w.heap.size (fun _ => False) w We ∧ j + 1 ≤ 1000 ∧ 1 ≤ 1000) := by
                refine ⟨hck.kept kWe (fun _ h => h), ?_, hkll, hct.kept kWe (fun _ h => h), h19, htll, hc17, hnw, hnwl, ?_, ?_, ?_, hnp, HLF.out.kept.trans (kWe.mono (by omega) (fun _ _ h => h)), by omega, by omega⟩
                · rw [hkl9]; exact (hcc.kept kWe (fun _ h => h)).take (j + 1)
                · intro c9 hc9
                  rw [← hwant] at hc9
                  rcases List.mem_cons.1 hc9 with rfl | h
                  · exact ⟨by rw [← ht1]; constructor <;> (unfold wrap32; omega), (HI.out.2.2.1 _ (List.mem_of_getElem? hc)).2⟩
                  · exact HI.out.2.2.1 _ (List.mem_of_mem_drop h)
                · intro hne
                  obtain ⟨g9, o9, e9, hb9⟩ := p2 hne
                  have hne0 : 0 < pk.length := by cases pk with | nil => exact absurd rfl hne | cons _ _ => simp
                  exact ⟨g9, o9, e9, hb9.block (kWe.block g9 (World.block_lt_of_cell? _ _ (hb9 0 hne0)) (fun h => h))⟩
                · rw [hpk9, ← hwant, ← ht1]
              have kS : ∀ W9, KeptB (wr.heap.size + 2) (fun _ => False) Wc W9 → W9.cell? ⟨wr.heap.size, 0, none⟩ = some (.int .i32 a) ∧ W9.cell? ⟨wr.heap.size, 1, none⟩ = some (.int .i32 b) ∧ W9.cell? ⟨w.heap.size + 1, 0, none⟩ = some (.int .i32 sh) := fun W9 h => ⟨h.cell y0 (by show wr.heap.size < _; omega) (fun h => h), h.cell y1 (by show wr.heap.size < _; omega) (fun h => h), h.cell y2 (by show w.heap.size + 1 < _; omega) (fun h => h)⟩
              have hS0 := kS Wc.drew (KeptB.drew Wc)
              have hS1 := kS (Wc.drew.alloc (.cells #[.int .i32 t1, .int .i32 b] 28)) ((KeptB.drew Wc).trans (KeptB.alloc _ (by show wr.heap.size + 2 ≤ Wc.heap.size; omega)))
              have hS2 := kS We ((KeptB.drew Wc).trans k9)
              have HKS : Hid _ := kS
              have z1 : (k : Int) ≤ (k : Int) := Int.le_refl _
              clear kS own9 hc17 kWe k1 k2 t1' t2 p1 p2 hck hct hcc h19 HLF hkl9 htl9 hpk9 k9 x19 x20 hBc
              apply oncePa (fun W9 => W9 = We)
              case h =>
                apply region_plain (S := fun w' => w'.cell? ⟨wr.heap.size, 0, none⟩ = some (.int .i32 a) ∧ w'.cell? ⟨wr.heap.size, 1, none⟩ = some (.int .i32 b) ∧ w'.cell? ⟨w.heap.size + 1, 0, none⟩ = some (.int .i32 sh)) (hm := mixed)
                refine take_first (i := 0) (v := ?_) rfl (by kernel_rfl) (by kernel_rfl) (by kernel_rfl) (by rfl) ?_ hS0 ?_
                rotate_left
                · intro w0 hw0; obtain ⟨q0, q1, q2⟩ := hw0; go_simp; try rfl
                try simp only [Act.put, List.setIfInBounds_toArray, List.set_cons_zero, List.set_cons_succ]
                refine take_first (i := 1) (v := ?_) rfl (by kernel_rfl) (by kernel_rfl) (by kernel_rfl) (by rfl) ?_ hS0 ?_
                rotate_left
                · intro w0 hw0; obtain ⟨q0, q1, q2⟩ := hw0; go_simp; try rfl
                try simp only [Act.put, List.setIfInBounds_toArray, List.set_cons_zero, List.set_cons_succ]
                refine take_first (i := 2) (v := ?_) rfl (by kernel_rfl) (by kernel_rfl) (by kernel_rfl) (by rfl) ?_ hS0 ?_
                rotate_left
                · intro w0 hw0; obtain ⟨q0, q1, q2⟩ := hw0; go_simp; try rfl
                try simp only [Act.put, List.setIfInBounds_toArray, List.set_cons_zero, List.set_cons_succ]
                refine take_first (i := 3) (v := ?_) rfl (by kernel_rfl) (by kernel_rfl) (by kernel_rfl) (by rfl) ?_ hS0 ?_
                rotate_left
                · intro w0 hw0; obtain ⟨q0, q1, q2⟩ := hw0; go_simp; try rfl
                try simp only [Act.put, List.setIfInBounds_toArray, List.set_cons_zero, List.set_cons_succ]
                refine take_first (i := 4) (v := ?_) rfl (by kernel_rfl) (by kernel_rfl) (by kernel_rfl) (by rfl) ?_ hS0 ?_
                rotate_left
                · intro w0 hw0; obtain ⟨q0, q1, q2⟩ := hw0; go_simp; try rfl
                try simp only [Act.put, List.setIfInBounds_toArray, List.set_cons_zero, List.set_cons_succ]
                refine take_first (i := 5) (v := ?_) rfl (by kernel_rfl) (by kernel_rfl) (by kernel_rfl) (by rfl) ?_ hS0 ?_
                rotate_left
                · intro w0 hw0; obtain ⟨q0, q1, q2⟩ := hw0; go_simp; try rfl
                try simp only [Act.put, List.setIfInBounds_toArray, List.set_cons_zero, List.set_cons_succ]
                refine take_first (i := 6) (v := ?_) rfl (by kernel_rfl) (by kernel_rfl) (by kernel_rfl) (by rfl) ?_ hS0 ?_
                rotate_left
                · intro w0 hw0; obtain ⟨q0, q1, q2⟩ := hw0; go_simp; try rfl
                try simp only [Act.put, List.setIfInBounds_toArray, List.set_cons_zero, List.set_cons_succ]
                refine take_first (i := 8) (v := ?_) rfl (by kernel_rfl) (by kernel_rfl) (by kernel_rfl) (by rfl) ?_ hS0 ?_
                rotate_left
                · intro w0 hw0; obtain ⟨q0, q1, q2⟩ := hw0; go_simp; try rfl
                try simp only [Act.put, List.setIfInBounds_toArray, List.set_cons_zero, List.set_cons_succ]
                refine take_first (i := 9) (v := ?_) rfl (by kernel_rfl) (by kernel_rfl) (by kernel_rfl) (by rfl) ?_ hS0 ?_
                rotate_left
                · intro w0 hw0; obtain ⟨q0, q1, q2⟩ := hw0; go_simp; try rfl
                try simp only [Act.put, List.setIfInBounds_toArray, List.set_cons_zero, List.set_cons_succ]
                refine take_first (i := 10) (v := ?_) rfl (by kernel_rfl) (by kernel_rfl) (by kernel_rfl) (by rfl) ?_ hS0 ?_
                rotate_left
                · intro w0 hw0; obtain ⟨q0, q1, q2⟩ := hw0; go_simp; try rfl
                try simp only [Act.put, List.setIfInBounds_toArray, List.set_cons_zero, List.set_cons_succ]
                refine take_first (i := 11) (v := ?_) rfl (by kernel_rfl) (by kernel_rfl) (by kernel_rfl) (by rfl) ?_ hS0 ?_
                rotate_left
                · intro w0 hw0; obtain ⟨q0, q1, q2⟩ := hw0; go_simp; try rfl
                try simp only [Act.put, List.setIfInBounds_toArray, List.set_cons_zero, List.set_cons_succ]
                refine wpAnyH_ready (rs := [7]) (by kernel_rfl) (by simp) ?_
                refine AllReadyH.cons rfl (fun K hK => ?_) AllReadyH.nil
                go_simp
                refine hK.out _ _ hS1 (fun _ => ?_)
                clear hK K
                try simp only [Act.put, List.setIfInBounds_toArray, List.set_cons_zero, List.set_cons_succ]
                refine wpAnyH_ready (rs := [12]) (by kernel_rfl) (by simp) ?_
                refine AllReadyH.cons rfl (fun K hK => ?_) AllReadyH.nil
                refine step_append_run (by rfl) (.tmp 92) (.tmp 96) 24 24 (by rfl) (by rfl) _ _ (by rfl) (by rfl) hap ?_
                refine hK.out _ _ hS2 (fun _ => ?_)
                clear hK K
                try simp only [Act.put, List.setIfInBounds_toArray]
                refine take_first (i := 13) (v := ?_) rfl (by kernel_rfl) (by kernel_rfl) (by kernel_rfl) (by rfl) ?_ hS2 ?_
                rotate_left
                · intro w0 hw0; obtain ⟨q0, q1, q2⟩ := hw0; go_simp; try rfl
                try simp only [Act.put]
                exact wpAnyH_done (by kernel_rfl) ⟨rfl, rfl, rfl⟩ _
              rintro W9 rfl
              clear hap hS0 hS1 hS2 HKS y0 y1 y2
              go_wp2_with fail
              go_at_call 8
              obtain ⟨x1, x2, x3, x4, x5, x6, x7, x8, x9, x10, x11, x12, x13, x14, x15, x16⟩ := HEND.out
              refine Calls.mono (equal_n ska _ ckc _ kl (j + 1) W9 x3 x15 x1 x2) ?_
              rintro e U1 ⟨rfl, hb1⟩
              have tc1 := (hb1.cell (p := ⟨X + 1 + 1 + 1, 0, none⟩) (World.block_lt_of_cell? _ _ tcell)).trans tcell
              have pc1 := (hb1.cell (p := ⟨X, 0, none⟩) (World.block_lt_of_cell? _ _ pcell)).trans pcell
              clear kcell tcell pcell
              clear x1 x2 x3 x4 x5 x6 x7 x8 x9 x10 x11 x12 x13 x14 x15 x16
              go_wp2_with fail
              go_at_call 8
              obtain ⟨x1, x2, x3, x4, x5, x6, x7, x8, x9, x10, x11, x12, x13, x14, x15, x16⟩ := HEND.out
              refine Calls.mono (equal_n sta _ ctc _ tl 1 U1 x6 x16 (x4.below hb1) (x5.below hb1)) ?_
              rintro e U2 ⟨rfl, hb2⟩
              have pc2 := (hb2.cell (p := ⟨X, 0, none⟩) (World.block_lt_of_cell? _ _ pc1)).trans pc1
              have hb12 : Below W9.heap.size W9 U2 := hb1.trans (hb2.mono hb1.size)
              have ENC := encode_any s17 c17 want U2.drew (by omega) x10 (show ChainsAt U2 s17 want from x7.below hb12)
              rw [x8] at ENC
              have HENC : Hid _ := ENC
              have bU2 : pk ≠ [] → ∃ g o, pa = some ⟨g, o, none⟩ ∧ BytesFrom U2 g o pk := fun hne => by
                obtain ⟨g9, o9, e9, hb9⟩ := x11 hne
                have hne0 : 0 < pk.length := by cases pk with | nil => exact absurd rfl hne | cons _ _ => simp
                exact ⟨g9, o9, e9, hb9.block (hb12.block g9 (World.block_lt_of_cell? _ _ (hb9 0 hne0)))⟩
              have kU2 : KeptB w.heap.size (fun _ => False) w U2 := x14.trans (KeptB.below (hb12.mono x14.size))
              have szU2 : w.heap.size ≤ U2.heap.size := kU2.size
              have HB2 : Hid (pk ≠ [] → ∃ g o, pa = some ⟨g, o, none⟩ ∧ BytesFrom U2 g o pk) := bU2
              have HPK : Hid (pk = encode want ∧ pk.length = np) := ⟨x12, x13⟩
              have HKU : Hid (KeptB w.heap.size (fun _ => False) w U2) := kU2
              clear ENC bU2 kU2 tc1 pc1 x1 x2 x3 x4 x5 x6 x7 x8 x9 x10 x11 x12 x13 x14 x15 x16
              go_wp2_with fail
              refine onceP (T := fun a9 w9 => (∃ tm, a9 = { tmps := tm, defers := [] } ∧ tm[6]? = some (.bool true)) ∧ KeptB w.heap.size (fun _ => False) w w9) ?_ ?_
              · refine region_plain (S := fun w' => w'.cell? ⟨X, 0, none⟩ = some (.slice pa np cp)) mixed ?_
                have hS : U2.drew.cell? ⟨X, 0, none⟩ = some (.slice pa np cp) := pc2
                refine take_first (i := 0) (v := ?_) rfl (by kernel_rfl) (by kernel_rfl) (by kernel_rfl) (by rfl) ?_ hS ?_
                rotate_left
                · intro w0 hw0; go_simp; try rfl
                try simp only [Act.put, List.setIfInBounds_toArray, List.set_cons_zero, List.set_cons_succ]
                refine take_first (i := 1) (v := ?_) rfl (by kernel_rfl) (by kernel_rfl) (by kernel_rfl) (by rfl) ?_ hS ?_
                rotate_left
                · intro w0 hw0; go_simp; try rfl
                try simp only [Act.put, List.setIfInBounds_toArray, List.set_cons_zero, List.set_cons_succ]
                refine take_first (i := 2) (v := ?_) rfl (by kernel_rfl) (by kernel_rfl) (by kernel_rfl) (by rfl) ?_ hS ?_
                rotate_left
                · intro w0 hw0; go_simp; try rfl
                try simp only [Act.put, List.setIfInBounds_toArray, List.set_cons_zero, List.set_cons_succ]
                refine wpAnyH_ready (rs := [3]) (by kernel_rfl) (by simp) ?_
                refine AllReadyH.cons rfl (fun K hK => ?_) AllReadyH.nil
                go_simp
                go_at_call 4
                refine Calls.mono HENC.out ?_
                rintro e U3 ⟨v9, rfl, o9, hb9⟩
                rw [← HPK.out.1] at o9
                obtain ⟨p9, c9, rfl, h9⟩ := own_bytes o9
                rw [HPK.out.2]
                have hS3 : U3.cell? ⟨X, 0, none⟩ = some (.slice pa np cp) := (hb9.cell (p := ⟨X, 0, none⟩) (World.block_lt_of_cell? _ _ hS)).trans hS
                have EB := equal_bytes pa p9 cp c9 pk U3 (fun hne => by
                  obtain ⟨g9, o9, e9, hb8⟩ := HB2.out hne
                  have hne0 : 0 < pk.length := by cases pk with | nil => exact absurd rfl hne | cons _ _ => simp
                  exact ⟨g9, o9, e9, hb8.block (hb9.block g9 (World.block_lt_of_cell? _ _ (hb8 0 hne0)))⟩) h9
                rw [HPK.out.2] at EB
                have HEB : Hid _ := EB
                have kU3 : KeptB w.heap.size (fun _ => False) w U3 := HKU.out.trans ((KeptB.drew U2).trans (KeptB.below (hb9.mono szU2)))
                clear EB h9 o9
                refine hK.out _ _ hS3 (fun _ => ?_)
                clear hK K
                try simp only [Act.put, List.setIfInBounds_toArray, List.set_cons_zero, List.set_cons_succ]
                refine wpAnyH_ready (rs := [4]) (by kernel_rfl) (by simp) ?_
                refine AllReadyH.cons rfl (fun K hK => ?_) AllReadyH.nil
                go_simp
                go_at_call 9
                refine Calls.mono HEB.out ?_
                rintro e U4 ⟨rfl, rfl⟩
                refine hK.out _ _ hS3 (fun _ => ?_)
                clear hK K
                try simp only [Act.put, List.setIfInBounds_toArray, List.set_cons_zero, List.set_cons_succ]
                refine take_first (i := 5) (v := ?_) rfl (by kernel_rfl) (by kernel_rfl) (by kernel_rfl) (by rfl) ?_ hS3 ?_
                rotate_left
                · intro w0 hw0; go_simp; try rfl
                try simp only [Act.put, List.setIfInBounds_toArray, List.set_cons_zero, List.set_cons_succ]
                exact wpAnyH_done (by kernel_rfl) ⟨rfl, ⟨_, rfl, rfl⟩, kU3⟩ _
              · rintro a9 w9 ⟨⟨tm, rfl, h6⟩, hk9⟩
                go_wp2_with fail
                refine bodyPost_ret (v := .bool true) ?_ rfl ⟨rfl, hk9⟩
                simp [results, Yba.f3, h6]
          | false =>
            have e0' : wr.cell? ⟨w.heap.size, 0, none⟩ = some (.slice ka ks.length kc) := e0
            have i1 : (0 : Int) ≤ (j : Int) := by omega
            have i2 : (j : Int) < (k : Int) := by omega
            by_cases hjk : j < ks.length
            · have hbit : ks[j]? = some false := by
                rw [List.getElem?_eq_getElem hjk] at hf ⊢
                simpa using hf
              obtain ⟨g, o, rfl, hg, hcell⟩ := HI.out.2.1 j false hbit
              have hc9 : wr.cell? ⟨g, o + j, none⟩ = some (.bool false) := HL.out.1.kept.cell hcell hg (fun h => h)
              have i3 : (j : Int) < (ks.length : Int) := by omega
              clear hcell hbit
              go_wp2
              go_roundw
              case rel => exact ⟨j + 1, by omega, by go_num, by first | rfl | trivial, by first | rfl | trivial, fun j' h => by
                by_cases e : j' = j
                · rw [e]; exact hf
                · exact hno j' (by omega)⟩
              case measure => simp [intOf]; omega
            · have i3 : ¬ (j : Int) < (ks.length : Int) := by omega
              go_wp2
              go_roundw
              case rel => exact ⟨j + 1, by omega, by go_num, by first | rfl | trivial, by first | rfl | trivial, fun j' h => by
                by_cases e : j' = j
                · rw [e]; exact hf
                · exact hno j' (by omega)⟩
              case measure => simp [intOf]; omega
        · obtain rfl : j = k := by omega
          obtain ⟨lf, hcn⟩ := HL.out
          obtain ⟨rfl, rfl, rfl⟩ := res_none lf.res (fun j' h => hno j' (by omega))
          obtain ⟨klv, k1, k2⟩ := lf.klog
          obtain ⟨tlv, t1, t2⟩ := lf.tlog
          obtain ⟨pa, cp, p1, p2⟩ := lf.pack
          obtain ⟨ska, ckc, rfl, hck⟩ := own_chains k2
          obtain ⟨sta, ctc, rfl, hct⟩ := own_chains t2
          have hcc : ChainsAt wr (some ⟨w.heap.size + 2, 0, none⟩) kl := by
            obtain ⟨sa', cap', e, h⟩ := own_chains lf.row
            simp only [Value.slice.injEq] at e
            rw [e.1]; exact h
          obtain ⟨s18, hs18⟩ : ∃ s18 : Option Addr, s18 = some ⟨w.heap.size + 2, 0, none⟩ := ⟨_, rfl⟩
          have kcell := k1.cell
          have tcell := t1.cell
          have pcell := p1.cell
          rw [hcn] at kcell
          have HEND : Hid (ChainsAt wr ska kl ∧ ChainsAt wr (some ⟨w.heap.size + 2, 0, none⟩) kl ∧ kl.length = j ∧ ChainsAt wr sta [] ∧ ChainsAt wr none [] ∧ ([] : List (Int × Int)).length = 0 ∧ ChainsAt wr none [] ∧ ([] : List (Int × Int)).length = 0 ∧ 0 ≤ 301 ∧ (∀ c ∈ ([] : List (Int × Int)), Ok c) ∧ (([] : List UInt8) ≠ [] → ∃ g o, pa = some ⟨g, o, none⟩ ∧ BytesFrom wr g o []) ∧ ([] : List UInt8) = encode [] ∧ ([] : List UInt8).length = 0 ∧ KeptB w.heap.size (fun _ => False) w wr ∧ j ≤ 1000 ∧ 0 ≤ 1000) :=
            ⟨hck, hcc, hcn, hct, ChainsAt.nil _ _, rfl, ChainsAt.nil _ _, rfl, by omega, by simp, p2, rfl, rfl, lf.kept, by omega, by omega⟩
          clear lf k1 k2 t1 t2 p1 p2 hck hct hcc hcn HL e0 hs18
          go_wp2_with fail
          go_at_call 8
          obtain ⟨x1, x2, x3, x4, x5, x6, x7, x8, x9, x10, x11, x12, x13, x14, x15, x16⟩ := HEND.out
          refine Calls.mono (equal_n ska _ ckc _ kl j wr x3 x15 x1 x2) ?_
          rintro e U1 ⟨rfl, hb1⟩
          have tc1 := (hb1.cell (p := ⟨X + 1 + 1 + 1, 0, none⟩) (World.block_lt_of_cell? _ _ tcell)).trans tcell
          have pc1 := (hb1.cell (p := ⟨X, 0, none⟩) (World.block_lt_of_cell? _ _ pcell)).trans pcell
          clear kcell tcell pcell
          clear x1 x2 x3 x4 x5 x6 x7 x8 x9 x10 x11 x12 x13 x14 x15 x16
          go_wp2_with fail
          go_at_call 8
          obtain ⟨x1, x2, x3, x4, x5, x6, x7, x8, x9, x10, x11, x12, x13, x14, x15, x16⟩ := HEND.out
          refine Calls.mono (equal_n sta none ctc 0 [] 0 U1 x6 x16 (x4.below hb1) (x5.below hb1)) ?_
          rintro e U2 ⟨rfl, hb2⟩
          have pc2 := (hb2.cell (p := ⟨X, 0, none⟩) (World.block_lt_of_cell? _ _ pc1)).trans pc1
          have hb12 : Below wr.heap.size wr U2 := hb1.trans (hb2.mono hb1.size)
          have ENC := encode_any none 0 [] U2.drew (by omega) x10 (show ChainsAt U2 none [] from x7.below hb12)
          rw [x8] at ENC
          have HENC : Hid _ := ENC
          have bU2 : ([] : List UInt8) ≠ [] → ∃ g o, pa = some ⟨g, o, none⟩ ∧ BytesFrom U2 g o [] := fun hne => by
            obtain ⟨g9, o9, e9, hb9⟩ := x11 hne
            have hne0 : 0 < ([] : List UInt8).length := absurd rfl hne
            exact ⟨g9, o9, e9, hb9.block (hb12.block g9 (World.block_lt_of_cell? _ _ (hb9 0 hne0)))⟩
          have kU2 : KeptB w.heap.size (fun _ => False) w U2 := x14.trans (KeptB.below (hb12.mono x14.size))
          have szU2 : w.heap.size ≤ U2.heap.size := kU2.size
          have HB2 : Hid (([] : List UInt8) ≠ [] → ∃ g o, pa = some ⟨g, o, none⟩ ∧ BytesFrom U2 g o []) := bU2
          have HPK : Hid (([] : List UInt8) = encode [] ∧ ([] : List UInt8).length = 0) := ⟨x12, x13⟩
          have HKU : Hid (KeptB w.heap.size (fun _ => False) w U2) := kU2
          clear ENC bU2 kU2 tc1 pc1 x1 x2 x3 x4 x5 x6 x7 x8 x9 x10 x11 x12 x13 x14 x15 x16
          go_wp2_with fail
          refine onceP (T := fun a9 w9 => (∃ tm, a9 = { tmps := tm, defers := [] } ∧ tm[6]? = some (.bool true)) ∧ KeptB w.heap.size (fun _ => False) w w9) ?_ ?_
          · refine region_plain (S := fun w' => w'.cell? ⟨X, 0, none⟩ = some (.slice pa 0 cp)) mixed ?_
            have hS : U2.drew.cell? ⟨X, 0, none⟩ = some (.slice pa 0 cp) := pc2
            refine take_first (i := 0) (v := ?_) rfl (by kernel_rfl) (by kernel_rfl) (by kernel_rfl) (by rfl) ?_ hS ?_
            rotate_left
            · intro w0 hw0; go_simp; try rfl
            try simp only [Act.put, List.setIfInBounds_toArray, List.set_cons_zero, List.set_cons_succ]
            refine take_first (i := 1) (v := ?_) rfl (by kernel_rfl) (by kernel_rfl) (by kernel_rfl) (by rfl) ?_ hS ?_
            rotate_left
            · intro w0 hw0; go_simp; try rfl
            try simp only [Act.put, List.setIfInBounds_toArray, List.set_cons_zero, List.set_cons_succ]
            refine take_first (i := 2) (v := ?_) rfl (by kernel_rfl) (by kernel_rfl) (by kernel_rfl) (by rfl) ?_ hS ?_
            rotate_left
            · intro w0 hw0; go_simp; try rfl
            try simp only [Act.put, List.setIfInBounds_toArray, List.set_cons_zero, List.set_cons_succ]
            refine wpAnyH_ready (rs := [3]) (by kernel_rfl) (by simp) ?_
            refine AllReadyH.cons rfl (fun K hK => ?_) AllReadyH.nil
            go_simp
            go_at_call 4
            refine Calls.mono HENC.out ?_
            rintro e U3 ⟨v9, rfl, o9, hb9⟩
            rw [← HPK.out.1] at o9
            obtain ⟨p9, c9, rfl, h9⟩ := own_bytes o9
            rw [HPK.out.2]
            have hS3 : U3.cell? ⟨X, 0, none⟩ = some (.slice pa 0 cp) := (hb9.cell (p := ⟨X, 0, none⟩) (World.block_lt_of_cell? _ _ hS)).trans hS
            have EB := equal_bytes pa p9 cp c9 [] U3 (fun hne => by
              obtain ⟨g9, o9, e9, hb8⟩ := HB2.out hne
              have hne0 : 0 < ([] : List UInt8).length := absurd rfl hne
              exact ⟨g9, o9, e9, hb8.block (hb9.block g9 (World.block_lt_of_cell? _ _ (hb8 0 hne0)))⟩) h9
            rw [HPK.out.2] at EB
            have HEB : Hid _ := EB
            have kU3 : KeptB w.heap.size (fun _ => False) w U3 := HKU.out.trans ((KeptB.drew U2).trans (KeptB.below (hb9.mono szU2)))
            clear EB h9 o9
            refine hK.out _ _ hS3 (fun _ => ?_)
            clear hK K
            try simp only [Act.put, List.setIfInBounds_toArray, List.set_cons_zero, List.set_cons_succ]
            refine wpAnyH_ready (rs := [4]) (by kernel_rfl) (by simp) ?_
            refine AllReadyH.cons rfl (fun K hK => ?_) AllReadyH.nil
            go_simp
            go_at_call 9
            refine Calls.mono HEB.out ?_
            rintro e U4 ⟨rfl, rfl⟩
            refine hK.out _ _ hS3 (fun _ => ?_)
            clear hK K
            try simp only [Act.put, List.setIfInBounds_toArray, List.set_cons_zero, List.set_cons_succ]
            refine take_first (i := 5) (v := ?_) rfl (by kernel_rfl) (by kernel_rfl) (by kernel_rfl) (by rfl) ?_ hS3 ?_
            rotate_left
            · intro w0 hw0; go_simp; try rfl
            try simp only [Act.put, List.setIfInBounds_toArray, List.set_cons_zero, List.set_cons_succ]
            exact wpAnyH_done (by kernel_rfl) ⟨rfl, ⟨_, rfl, rfl⟩, kU3⟩ _
          · rintro a9 w9 ⟨⟨tm, rfl, h6⟩, hk9⟩
            go_wp2_with fail
            refine bodyPost_ret (v := .bool true) ?_ rfl ⟨rfl, hk9⟩
            simp [results, Yba.f3, h6]
end Go.Proofs.Ybulkcryq
