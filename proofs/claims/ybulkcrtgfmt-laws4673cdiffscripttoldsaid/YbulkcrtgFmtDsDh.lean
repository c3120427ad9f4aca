/-
  diffTo (40), walked.
-/
import Derived.Test.YbulkcrtgFmtDsDx
namespace Go.Proofs.YbulkcrtgFmt
open Go Go.RowKit

/-- What diffTo leaves. -/
def DiffEnd (H cb p : Nat) (es : List (Nat × Nat)) (l1 : List Nat) (sx sy : Option Nat) (st : Int) (ev rv mv dv : Value) (j : Bool) (c : Nat) (W : World) (d' : Value) (W' : World) : Prop := ∃ rv' mv', Clk0 H cb p es (some l1) (if j then sx else some c) (if j then some c else sy) st ev rv' mv' dv W' ∧
  W'.ownsRow H 39 2 d' (outOf es l1 (lastOf j sx sy)).length (entCells (outOf es l1 (lastOf j sx sy))) ∧ KeptB W.heap.size (Ft cb ev rv mv dv) W W' ∧ (∀ b, rv'.ownBlock = some b → rv.ownBlock = some b ∨ W.heap.size ≤ b) ∧ (∀ b, d'.ownBlock = some b → dv.ownBlock = some b ∨ W.heap.size ≤ b) ∧ (∀ b, mv' = .map (some b) → mv = .map (some b) ∨ W.heap.size ≤ b) ∧ ∀ b, ev.ownBlock = some b → d'.ownBlock ≠ some b

set_option maxHeartbeats 8000000 in
set_option maxRecDepth 100000 in
theorem diff_any {H cb p : Nat} {es : List (Nat × Nat)} {rs : Option (List Nat)} {sx sy : Option Nat} {st : Int} {ev rv mv dv : Value} {nd : Nat} {xd : List Value} {W : World} (j : Bool) (hk : Clk H cb p es rs sx sy st ev rv mv dv nd xd W) (hH : H ≤ W.heap.size) (hs : Srt es) (hp : p ≤ 5) (hn : es.length ≤ 50) (kk c : Nat) (hown : es[kk]? = some (p, c)) (l1 : List Nat) (hl1 : l1 = rs.getD (List.replicate es.length 0)) :
    Calls Ybaf.prog 40 #[.pointer (some ⟨cb, 3, none⟩), .string (nm p), .string (pr j), dv] W fun e W' => ∃ d', e = .returned d' ∧ DiffEnd H cb p es l1 sx sy st ev rv mv dv j c W d' W' := by
  obtain ⟨ea, ec, rfl, hat⟩ := own_ents hk.ent
  obtain ⟨da, cd, rfl, hdc, hdm, hdz, hdb⟩ := own_cut hk.dif
  obtain ⟨n, hln⟩ : ∃ n, es.length = n := ⟨_, rfl⟩
  obtain ⟨z0, _, z3, z4, z5, _, zf⟩ := clk_cells hk.box
  have hz4f := zf 4
  have hmix : Ybaf.prog.follows .mixedOrders = true := by kernel_rfl
  rw [hln] at z3
  have hd63 : cd ≤ 9223372036854775807 := by unfold maxLen at hdm; omega
  have HK : Hid _ := hk
  have HO : Hid (es[kk]? = some (p, c) ∧ es.length = n ∧ Srt es) := ⟨hown, hln, hs⟩
  have HL1 : Hid _ := hl1
  have HD : Hid (W.ownsRow H 39 2 (.slice da 0 cd) 0 [] ∧ (Value.slice da 0 cd).ownBlock = (Value.slice da nd cd).ownBlock) := ⟨hdz, hdb⟩
  have hn' : n ≤ 50 := by omega
  clear hat hk hown hs hln hl1 zf hdz hdb hn
  obtain ⟨i0, hi0, hz0, hz1, hz2⟩ := info_parts Ybaf.info39
  cases hrs : rs with
  | none =>
    have hk0 := HK.out.zero
    rw [hrs] at hk0
    have hrv := hk0.rai
    dsimp only at hrv
    obtain ⟨W0, hmk, y4, y4f, h1⟩ := mk_raised hk0 hH (by have := HO.out.2.1; omega) n HO.out.2.1
    rw [hrv] at z4 y4
    have hq := eq_nil Ybaf.underlying32 none 0 0
    simp only [Option.isNone] at hq
    obtain ⟨W1, hW1⟩ : ∃ W1, W0.setCell ⟨cb, 4, none⟩ (.slice (some ⟨W.heap.size, 0, none⟩) n n) = W1 := ⟨_, rfl⟩
    obtain ⟨hk1, hkp1⟩ := h1 W1 hW1.symm
    obtain ⟨_, _, x3, x4, x5, _, _⟩ := clk_cells hk1.box
    have hlk := look_sent hk1.snt j
    rw [HO.out.2.1] at x3
    obtain ⟨ls, hls⟩ : ∃ ls, lastOf j sx sy = ls := ⟨_, rfl⟩
    rw [hls] at hlk
    obtain ⟨lv, hlv⟩ : ∃ lv, ls.getD 0 = lv := ⟨_, rfl⟩
    obtain ⟨lb, hlb⟩ : ∃ lb, ls.isSome = lb := ⟨_, rfl⟩
    rw [hlv, hlb] at hlk
    have HLV : Hid (ls.getD 0 = lv ∧ ls.isSome = lb) := ⟨hlv, hlb⟩
    have HLS := hid hls
    clear hlv hlb hls
    obtain ⟨gr, hgr⟩ : ∃ gr, gr = W.heap.size := ⟨_, rfl⟩
    obtain ⟨cr, hcr⟩ : ∃ cr, cr = n := ⟨_, rfl⟩
    have hl1e : l1 = List.replicate n 0 := by rw [HL1.out, hrs]; simp [HO.out.2.1]
    have HK1 : Hid (Clk0 H cb p es (some l1) sx sy st (.slice ea es.length ec) (.slice (some ⟨gr, 0, none⟩) n cr) mv (.slice da nd cd) W1 ∧ KeptB W.heap.size (fun k => k = cb) W W1) := ⟨by rw [hl1e, hgr, hcr]; exact hk1, hkp1⟩
    have hcn : n ≤ cr := by omega
    have HRV : Hid (∀ b, (Value.slice (some ⟨gr, 0, none⟩) n cr).ownBlock = some b → rv.ownBlock = some b ∨ W.heap.size ≤ b) := fun b e => by
      simp only [Value.ownBlock, Option.some.injEq] at e
      exact .inr (by omega)
    have ncd : ¬ some cb = (Value.slice da nd cd).ownBlock := fun e => by
      rcases HK.out.dif.2 with ⟨h, _⟩ | ⟨g', cap', cur, h, _, hg, _⟩
      · rw [h] at e; simp [Value.ownBlock] at e
      · rw [h] at e
        simp only [Value.ownBlock, Option.some.injEq] at e
        rw [← e, HK.out.box] at hg; simp at hg
    have HD1 : Hid (W1.ownsRow H 39 2 (.slice da 0 cd) 0 []) := hkp1.own HD.out.1 (fun b e => ⟨(HD.out.1.lt b e).2, fun e2 => by rw [HD.out.2] at e; exact ncd (by rw [← e2, e])⟩)
    have HAP : Hid (∀ k, (Value.slice ea es.length ec).ownBlock = some k → (Value.slice da 0 cd).ownBlock ≠ some k) := fun k e => by rw [HD.out.2]; exact HK.out.apt k e
    rw [← hgr] at hmk hW1 x4
    have HGR := hid hgr
    have hH1 : H ≤ W1.heap.size := Nat.le_trans hH HK1.out.2.size
    clear hk0 h1 hk1 hkp1 hrv ncd hl1e hgr
    have HCR := hid hcr
    have hcr1 : (Value.slice (some ⟨gr, 0, none⟩) n n) = .slice (some ⟨gr, 0, none⟩) n cr := by rw [hcr]
    rw [hcr1] at hmk hW1 x4
    clear hcr hcr1
    go_enter Ybaf.func40, Ybaf.ntmps40
    go_wp2_with fail
    go_loopw [3, 45] (fun vb vx wr => ∃ i : Nat, i ≤ n ∧ vx = .int .i64 i ∧ wr.ownsRow H 39 2 vb (outOf (es.take i) (l1.take i) ls).length (entCells (outOf (es.take i) (l1.take i) ls)) ∧ Grew W1 (.slice da 0 cd) wr vb) (fun _ vx _ => n - (intOf vx).toNat)
    case atStart => exact ⟨0, by omega, rfl, HD1.out, Grew.refl _ _⟩
    case round =>
      obtain ⟨i, hi, rfl, oi, gi⟩ := hrel
      have hsi := gi.kept.size
      have hkw : Clk0 H cb p es (some l1) sx sy st (.slice ea es.length ec) (.slice (some ⟨gr, 0, none⟩) n cr) mv (.slice da nd cd) wr := HK1.out.1.still HD1.out HAP.out gi.kept
      by_cases hin : i < n
      · obtain ⟨⟨a, cc⟩, he⟩ : ∃ e, es[i]? = some e := ⟨es[i]'(by have := HO.out.2.1; omega), List.getElem?_eq_getElem _⟩
        have hll : l1.length = n := by have := HK1.out.1.rai.2.2; have := HO.out.2.1; omega
        obtain ⟨m, hm⟩ : ∃ m, l1[i]? = some m := ⟨l1[i]'(by omega), List.getElem?_eq_getElem _⟩
        have hON := out_next es l1 ls i (a, cc) m he hm
        obtain ⟨ge, oe, rfl, q0, q1⟩ : ∃ ge oe, ea = some ⟨ge, oe, none⟩ ∧ wr.cell? ⟨ge, oe + i * 2, none⟩ = some (.string (nm a)) ∧ wr.cell? ⟨ge, oe + i * 2 + 1, none⟩ = some (.int .u64 cc) := by
          obtain ⟨ea', cap', e, hat⟩ := own_ents hkw.ent
          simp only [Value.slice.injEq] at e
          obtain ⟨g, o, e2, h0, h1⟩ := hat i _ he
          exact ⟨g, o, by rw [e.1, e2], h0, h1⟩
        obtain ⟨_, _, _, x4w, _, _, _⟩ := clk_cells hkw.box
        have r1 : wr.cell? ⟨gr, i, none⟩ = some (.int .u64 m) := by
          have := hkw.rai.1
          rw [hll] at this
          refine (this.cellAt i (by omega)).trans ?_
          simp [u64Cells, hm]
        have i1 : (0 : Int) ≤ (i : Int) := by omega
        have i2 : (i : Int) < (n : Int) := by omega
        have l1w : ge < wr.heap.size := World.block_lt_of_cell? _ _ q0
        have l2w : cb < wr.heap.size := lt_of_block hkw.box
        have l3w : gr < wr.heap.size := World.block_lt_of_cell? _ _ r1
        have n1w : ¬ ge = wr.heap.size := by omega
        have n2w : ¬ cb = wr.heap.size := by omega
        have n3w : ¬ gr = wr.heap.size := by omega
        have hol : (outOf (es.take i) (l1.take i) ls).length ≤ i := by
          unfold outOf
          rw [List.length_map]
          refine Nat.le_trans (List.length_filter_le _ _) ?_
          rw [List.length_zip, List.length_take]; omega
        have HOI := hid oi
        have HGI : Hid _ := gi
        have HON : Hid _ := hON
        have HMM : Hid (l1[i]? = some m) := hm
        clear oi gi hON he hm hkw
        cases lb with
        | false =>
          have hp1 : pickAt l1 ls i = true := by
            have := HLV.out.2
            cases ls with
            | none => rfl
            | some x => simp at this
          go_wp2_with (at_builtin; refine wpList_append_lies _ rfl _ _ 37 rfl H 39 i0 _ 2 24 Ybaf.underlying37 hi0 hz0 hz1 hz2 rfl (by decide) _ _ _ rfl ((HOI.out.alloc _).alloc _) ⟨wr.heap.size + 1, 0, none⟩ 1 1 [.string (nm a), .int .u64 cc] rfl rfl ?c1 ?c2 (by decide) ?c3 ?c4 ?c5 _ rfl ?_)
          case c1 =>
            intro q u hq
            have hbx : ((wr.alloc (.cells #[.string (nm a), .int .u64 cc] 39)).alloc (.cells #[.string (nm a), .int .u64 cc] 39)).heap[wr.heap.size + 1]? = some (.cells #[.string (nm a), .int .u64 cc] 39 (0, 0)) := by
              have := heap_alloc_new (wr.alloc (.cells #[.string (nm a), .int .u64 cc] 39)) (.cells #[.string (nm a), .int .u64 cc] 39)
              rwa [World.size_alloc] at this
            rw [Addr.add_lit, Nat.zero_add, cell_of_row _ _ _ _ _ _ hbx]
            simpa using hq
          case c2 => intro u hu; simp at hu; rcases hu with rfl | rfl <;> rfl
          case c3 => unfold maxLen; omega
          case c4 => omega
          case c5 => simp; omega
          intro g9 cap9 w6 hown' hgrow hat9 hlt9
          have G6 : Grew W1 (.slice da 0 cd) w6 (.slice (some ⟨g9, 0, none⟩) ((outOf (es.take i) (l1.take i) ls).length + 1) cap9) := HGI.out.trans (Grew.pre ((KeptB.alloc _ (Nat.le_refl _)).trans (KeptB.alloc _ (by simp))) (Grew.of hgrow (by rw [World.size_alloc, World.size_alloc]; exact hat9)) (fun b e => by have := (HOI.out.lt b e).2; simp; omega))
          have HF : Hid (w6.ownsRow H 39 2 (.slice (some ⟨g9, 0, none⟩) ((outOf (es.take i) (l1.take i) ls).length + 1) cap9) (outOf (es.take (i + 1)) (l1.take (i + 1)) ls).length (entCells (outOf (es.take (i + 1)) (l1.take (i + 1)) ls))) := by
            refine own_cast hown' ?_ ?_
            · rw [HON.out, if_pos hp1, List.length_append]; rfl
            · rw [HON.out, if_pos hp1, entCells_append]; rfl
          have HG6 : Hid _ := G6
          clear hown' hgrow hat9 hlt9 G6
          go_wp2
          go_roundw
          case rel => exact ⟨i + 1, by omega, by go_num, HF.out, HG6.out⟩
          case measure => simp [intOf]; omega
        | true =>
          have hle : ls = some lv := by
            have := HLV.out
            cases ls with
            | none => simp at this
            | some x => simpa using this.1
          by_cases hcm : lv < m
          · have g1 : (m : Int) > (lv : Int) := by omega
            have hp1 : pickAt l1 ls i = true := by simp [hle, pickAt, HMM.out, hcm]
            clear hle
            go_wp2_with (at_builtin; refine wpList_append_lies _ rfl _ _ 37 rfl H 39 i0 _ 2 24 Ybaf.underlying37 hi0 hz0 hz1 hz2 rfl (by decide) _ _ _ rfl ((HOI.out.alloc _).alloc _) ⟨wr.heap.size + 1, 0, none⟩ 1 1 [.string (nm a), .int .u64 cc] rfl rfl ?c1 ?c2 (by decide) ?c3 ?c4 ?c5 _ rfl ?_)
            case c1 =>
              intro q u hq
              have hbx : ((wr.alloc (.cells #[.string (nm a), .int .u64 cc] 39)).alloc (.cells #[.string (nm a), .int .u64 cc] 39)).heap[wr.heap.size + 1]? = some (.cells #[.string (nm a), .int .u64 cc] 39 (0, 0)) := by
                have := heap_alloc_new (wr.alloc (.cells #[.string (nm a), .int .u64 cc] 39)) (.cells #[.string (nm a), .int .u64 cc] 39)
                rwa [World.size_alloc] at this
              rw [Addr.add_lit, Nat.zero_add, cell_of_row _ _ _ _ _ _ hbx]
              simpa using hq
            case c2 => intro u hu; simp at hu; rcases hu with rfl | rfl <;> rfl
            case c3 => unfold maxLen; omega
            case c4 => omega
            case c5 => simp; omega
            intro g9 cap9 w6 hown' hgrow hat9 hlt9
            have G6 : Grew W1 (.slice da 0 cd) w6 (.slice (some ⟨g9, 0, none⟩) ((outOf (es.take i) (l1.take i) ls).length + 1) cap9) := HGI.out.trans (Grew.pre ((KeptB.alloc _ (Nat.le_refl _)).trans (KeptB.alloc _ (by simp))) (Grew.of hgrow (by rw [World.size_alloc, World.size_alloc]; exact hat9)) (fun b e => by have := (HOI.out.lt b e).2; simp; omega))
            have HF : Hid (w6.ownsRow H 39 2 (.slice (some ⟨g9, 0, none⟩) ((outOf (es.take i) (l1.take i) ls).length + 1) cap9) (outOf (es.take (i + 1)) (l1.take (i + 1)) ls).length (entCells (outOf (es.take (i + 1)) (l1.take (i + 1)) ls))) := by
              refine own_cast hown' ?_ ?_
              · rw [HON.out, if_pos hp1, List.length_append]; rfl
              · rw [HON.out, if_pos hp1, entCells_append]; rfl
            have HG6 : Hid _ := G6
            clear hown' hgrow hat9 hlt9 G6
            go_wp2
            go_roundw
            case rel => exact ⟨i + 1, by omega, by go_num, HF.out, HG6.out⟩
            case measure => simp [intOf]; omega
          · have g1 : ¬ (m : Int) > (lv : Int) := by omega
            have hp1 : pickAt l1 ls i = false := by simp [hle, pickAt, HMM.out, hcm]
            clear hle
            go_wp2
            go_roundw
            case rel =>
              refine ⟨i + 1, by omega, by go_num, own_cast (HOI.out.alloc _) ?_ ?_, HGI.out.trans (Grew.pre (KeptB.alloc _ (Nat.le_refl _)) (Grew.refl _ _) (fun b e => by have := (HOI.out.lt b e).2; simp; omega))⟩
              · rw [HON.out, if_neg (by rw [hp1]; decide), List.append_nil]
              · rw [HON.out, if_neg (by rw [hp1]; decide), List.append_nil]
            case measure => simp [intOf]; omega
      · obtain rfl : n = i := by omega
        have hout : outOf (es.take n) (l1.take n) ls = outOf es l1 ls := by
          have h1 := HO.out.2.1
          have h2 := HK1.out.1.rai.2.2
          rw [List.take_of_length_le (by omega), List.take_of_length_le (by omega)]
        rw [hout] at oi
        obtain ⟨_, _, _, _, x5w, _, _⟩ := clk_cells hkw.box
        have hHw : H ≤ wr.heap.size := by omega
        have HGI : Hid _ := gi
        have hsn := hkw.snt
        clear hout gi
        rcases hsn with ⟨rfl, rfl, rfl⟩ | ⟨b, rfl, hbH, _⟩
        · obtain ⟨y5, y5f, hmk2⟩ := mk_sent hkw hHw
          obtain ⟨W2, hW2⟩ : ∃ W2, (wr.alloc (.map #[] 0)).setCell ⟨cb, 5, none⟩ (.map (some wr.heap.size)) = W2 := ⟨_, rfl⟩
          obtain ⟨hk2, kp2⟩ := hmk2 W2 hW2.symm
          have ncb : ∀ k, u3.ownBlock = some k → k < wr.heap.size ∧ ¬ k = cb := fun k e => by
            refine ⟨(oi.lt k e).2, ?_⟩
            rintro rfl
            rcases oi.2 with ⟨h3, _⟩ | ⟨g', cap', cur, h3, _, hg', _⟩
            · rw [h3] at e; simp [Value.ownBlock] at e
            · rw [h3] at e
              simp only [Value.ownBlock, Option.some.injEq] at e
              rw [e, hkw.box] at hg'; simp at hg'
          have od2 := kp2.own oi ncb
          have HK2 := hid (And.intro hk2 od2)
          have HKW := hid (And.intro hkw kp2)
          have hmm := run_makeMap (P := Ybaf.prog) 61 wr
          have hqm := eq_mnil none
          simp only [Option.isNone] at hqm
          clear hk2 od2 hkw kp2 hmk2 oi ncb
          go_wp2_with fail
          obtain ⟨_, _, y3, _, y5, _, _⟩ := clk_cells HK2.out.1.box
          rw [HO.out.2.1] at y3
          have hS : W2.drew.cell? ⟨cb, 5, none⟩ = some (.map (some wr.heap.size)) ∧ W2.drew.cell? ⟨cb, 3, none⟩ = some (.slice ea n ec) := ⟨y5, y3⟩
          have GO : ∀ V, EntAt V ea es → Calls Ybaf.prog 19 #[.agg #[.slice ea n ec], .string (nm p)] V fun e w' => e = .returned (.int .u64 c) ∧ Below V.heap.size V w' := fun V hV => by
            have := get_own ea ec p es V (by have := HO.out.2.1; omega) HO.out.2.2 hp hV kk c HO.out.1
            rwa [HO.out.2.1] at this
          have hcc : c < 18446744073709551616 := by
            have := (HO.out.2.2.1 _ (List.mem_of_getElem? HO.out.1)).2
            dsimp only at this; omega
          have ha2 : EntAt W2.drew ea es := by
            obtain ⟨ea', cap', e, hat⟩ := own_ents (HK2.out.1.ent)
            simp only [Value.slice.injEq] at e
            rw [e.1]; exact hat
          have HGO := hid GO
          clear GO
          apply oncePa (fun W9 => Clk0 H cb p es (some l1) (if j then none else some c) (if j then some c else none) st (.slice ea es.length ec) (.slice (some ⟨gr, 0, none⟩) n cr) (.map (some wr.heap.size)) (.slice da nd cd) W9 ∧ W9.ownsRow H 39 2 u3 (outOf es l1 ls).length (entCells (outOf es l1 ls)) ∧ KeptB W2.heap.size (fun k => k = wr.heap.size) W2 W9)
          case h =>
            apply region_plain (S := fun w' => w'.cell? ⟨cb, 5, none⟩ = some (.map (some wr.heap.size)) ∧ w'.cell? ⟨cb, 3, none⟩ = some (.slice ea n ec)) (hm := hmix)
            refine take_first (i := 0) (v := ?_) rfl (by kernel_rfl) (by kernel_rfl) (by kernel_rfl) (by rfl) ?_ hS ?_
            rotate_left
            · intro w0 hw0; obtain ⟨q5, q3⟩ := hw0; go_simp; try rfl
            try simp only [Act.put, List.setIfInBounds_toArray, List.set_cons_zero, List.set_cons_succ]
            refine take_first (i := 1) (v := ?_) rfl (by kernel_rfl) (by kernel_rfl) (by kernel_rfl) (by rfl) ?_ hS ?_
            rotate_left
            · intro w0 hw0; obtain ⟨q5, q3⟩ := hw0; go_simp; try rfl
            try simp only [Act.put, List.setIfInBounds_toArray, List.set_cons_zero, List.set_cons_succ]
            refine take_first (i := 2) (v := ?_) rfl (by kernel_rfl) (by kernel_rfl) (by kernel_rfl) (by rfl) ?_ hS ?_
            rotate_left
            · intro w0 hw0; obtain ⟨q5, q3⟩ := hw0; go_simp; try rfl
            try simp only [Act.put, List.setIfInBounds_toArray, List.set_cons_zero, List.set_cons_succ]
            refine take_first (i := 3) (v := ?_) rfl (by kernel_rfl) (by kernel_rfl) (by kernel_rfl) (by rfl) ?_ hS ?_
            rotate_left
            · intro w0 hw0; obtain ⟨q5, q3⟩ := hw0; go_simp; try rfl
            try simp only [Act.put, List.setIfInBounds_toArray, List.set_cons_zero, List.set_cons_succ]
            refine take_first (i := 4) (v := ?_) rfl (by kernel_rfl) (by kernel_rfl) (by kernel_rfl) (by rfl) ?_ hS ?_
            rotate_left
            · intro w0 hw0; obtain ⟨q5, q3⟩ := hw0; go_simp; try rfl
            try simp only [Act.put, List.setIfInBounds_toArray, List.set_cons_zero, List.set_cons_succ]
            refine take_first (i := 5) (v := ?_) rfl (by kernel_rfl) (by kernel_rfl) (by kernel_rfl) (by rfl) ?_ hS ?_
            rotate_left
            · intro w0 hw0; obtain ⟨q5, q3⟩ := hw0; go_simp; try rfl
            try simp only [Act.put, List.setIfInBounds_toArray, List.set_cons_zero, List.set_cons_succ]
            refine take_first (i := 6) (v := ?_) rfl (by kernel_rfl) (by kernel_rfl) (by kernel_rfl) (by rfl) ?_ hS ?_
            rotate_left
            · intro w0 hw0; obtain ⟨q5, q3⟩ := hw0; go_simp; try rfl
            try simp only [Act.put, List.setIfInBounds_toArray, List.set_cons_zero, List.set_cons_succ]
            refine take_first (i := 7) (v := ?_) rfl (by kernel_rfl) (by kernel_rfl) (by kernel_rfl) (by rfl) ?_ hS ?_
            rotate_left
            · intro w0 hw0; obtain ⟨q5, q3⟩ := hw0; go_simp; try rfl
            try simp only [Act.put, List.setIfInBounds_toArray, List.set_cons_zero, List.set_cons_succ]
            refine take_first (i := 8) (v := ?_) rfl (by kernel_rfl) (by kernel_rfl) (by kernel_rfl) (by rfl) ?_ hS ?_
            rotate_left
            · intro w0 hw0; obtain ⟨q5, q3⟩ := hw0; go_simp; try rfl
            try simp only [Act.put, List.setIfInBounds_toArray, List.set_cons_zero, List.set_cons_succ]
            refine take_first (i := 9) (v := ?_) rfl (by kernel_rfl) (by kernel_rfl) (by kernel_rfl) (by rfl) ?_ hS ?_
            rotate_left
            · intro w0 hw0; obtain ⟨q5, q3⟩ := hw0; go_simp; try rfl
            try simp only [Act.put, List.setIfInBounds_toArray, List.set_cons_zero, List.set_cons_succ]
            refine wpAnyH_ready (rs := [10]) (by kernel_rfl) (by simp) ?_
            refine AllReadyH.cons rfl (fun K hK => ?_) AllReadyH.nil
            go_simp
            go_at_call 19
            refine Calls.mono (HGO.out _ ha2) ?_
            rintro e V1 ⟨rfl, hb1⟩
            have hb2 : Below W2.heap.size W2 V1 := ⟨hb1.os, hb1.tape, hb1.output, hb1.size, hb1.block⟩
            obtain ⟨W', hr, r1, r2, r3⟩ := put_end HK2.out.1 HK2.out.2 hb2 j c hcc
            have kS : V1.cell? ⟨cb, 5, none⟩ = some (.map (some wr.heap.size)) ∧ V1.cell? ⟨cb, 3, none⟩ = some (.slice ea n ec) := ⟨(KeptB.below (S := fun _ => False) hb2).cell y5 (lt_of_block HK2.out.1.box) (fun h => h), (KeptB.below (S := fun _ => False) hb2).cell y3 (lt_of_block HK2.out.1.box) (fun h => h)⟩
            refine hK.out _ _ kS (fun _ => ?_)
            clear hK K
            try simp only [Act.put, List.setIfInBounds_toArray, List.set_cons_zero, List.set_cons_succ]
            refine wpAnyH_ready (rs := [11]) (by kernel_rfl) (by simp) ?_
            refine AllReadyH.cons rfl (fun K hK => ?_) AllReadyH.nil
            go_simp
            refine hK.out _ _ (by obtain ⟨_, _, t3, _, t5, _, _⟩ := clk_cells r1.box; rw [HO.out.2.1] at t3; exact ⟨t5, t3⟩) (fun _ => ?_)
            clear hK K
            try simp only [Act.put, List.setIfInBounds_toArray, List.set_cons_zero, List.set_cons_succ]
            exact wpAnyH_done (by kernel_rfl) ⟨rfl, rfl, r1, r2, r3⟩ _
          rintro W9 ⟨k9, o9, kp9⟩
          have HE : Hid (Clk0 H cb p es (some l1) (if j then none else some c) (if j then some c else none) st (.slice ea es.length ec) (.slice (some ⟨gr, 0, none⟩) n cr) (.map (some wr.heap.size)) (.slice da nd cd) W9 ∧ W9.ownsRow H 39 2 u3 (outOf es l1 ls).length (entCells (outOf es l1 ls)) ∧ KeptB W2.heap.size (fun k => k = wr.heap.size) W2 W9) := ⟨k9, o9, kp9⟩
          clear k9 o9 kp9
          go_wp2_with fail
          go_ret
          have hw1 := HK1.out.2.size
          have hw2 := HGI.out.kept.size
          have hw3 := HKW.out.2.size
          have hbk : (Value.slice da 0 cd).ownBlock = (Value.slice da nd cd).ownBlock := HD.out.2
          refine ⟨_, rfl, _, _, HE.out.1, ?_, ?_, HRV.out, ?_, ?_, ?_⟩
          · rw [HLS.out]; exact HE.out.2.1
          · refine (HK1.out.2.mono (Nat.le_refl _) (fun k _ e => .inl e)).trans ((HGI.out.kept.mono hw1 (fun k _ e => .inr (.inr (.inr (.inl (by rw [← hbk]; exact e)))))).trans ((HKW.out.2.mono (Nat.le_trans hw1 hw2) (fun k _ e => .inl e)).trans (HE.out.2.2.mono (Nat.le_trans hw1 (Nat.le_trans hw2 hw3)) ?_)))
            intro k hk e
            omega
          · intro b9 e
            rcases HGI.out.lies b9 e with h | h
            · exact .inl (by rw [← hbk]; exact h)
            · exact .inr (by omega)
          · intro b9 e
            simp only [Value.map.injEq, Option.some.injEq] at e
            exact .inr (by omega)
          · intro b9 e1 e2
            rcases HGI.out.lies b9 e2 with h | h
            · exact HAP.out b9 e1 h
            · have := (HK1.out.1.ent.lt b9 e1).2
              omega
        · have HK2 := hid (And.intro hkw oi)
          have HKW := hid (And.intro hkw (KeptB.refl wr.heap.size (fun k => k = cb) wr))
          have hqm := eq_mnil (some b)
          simp only [Option.isNone] at hqm
          clear hkw oi
          go_wp2_with fail
          obtain ⟨_, _, y3, _, y5, _, _⟩ := clk_cells HK2.out.1.box
          rw [HO.out.2.1] at y3
          have hS : wr.drew.cell? ⟨cb, 5, none⟩ = some (.map (some b)) ∧ wr.drew.cell? ⟨cb, 3, none⟩ = some (.slice ea n ec) := ⟨y5, y3⟩
          have GO : ∀ V, EntAt V ea es → Calls Ybaf.prog 19 #[.agg #[.slice ea n ec], .string (nm p)] V fun e w' => e = .returned (.int .u64 c) ∧ Below V.heap.size V w' := fun V hV => by
            have := get_own ea ec p es V (by have := HO.out.2.1; omega) HO.out.2.2 hp hV kk c HO.out.1
            rwa [HO.out.2.1] at this
          have hcc : c < 18446744073709551616 := by
            have := (HO.out.2.2.1 _ (List.mem_of_getElem? HO.out.1)).2
            dsimp only at this; omega
          have ha2 : EntAt wr.drew ea es := by
            obtain ⟨ea', cap', e, hat⟩ := own_ents (HK2.out.1.ent)
            simp only [Value.slice.injEq] at e
            rw [e.1]; exact hat
          have HGO := hid GO
          clear GO
          apply oncePa (fun W9 => Clk0 H cb p es (some l1) (if j then sx else some c) (if j then some c else sy) st (.slice ea es.length ec) (.slice (some ⟨gr, 0, none⟩) n cr) (.map (some b)) (.slice da nd cd) W9 ∧ W9.ownsRow H 39 2 u3 (outOf es l1 ls).length (entCells (outOf es l1 ls)) ∧ KeptB wr.heap.size (fun k => k = b) wr W9)
          case h =>
            apply region_plain (S := fun w' => w'.cell? ⟨cb, 5, none⟩ = some (.map (some b)) ∧ w'.cell? ⟨cb, 3, none⟩ = some (.slice ea n ec)) (hm := hmix)
            refine take_first (i := 0) (v := ?_) rfl (by kernel_rfl) (by kernel_rfl) (by kernel_rfl) (by rfl) ?_ hS ?_
            rotate_left
            · intro w0 hw0; obtain ⟨q5, q3⟩ := hw0; go_simp; try rfl
            try simp only [Act.put, List.setIfInBounds_toArray, List.set_cons_zero, List.set_cons_succ]
            refine take_first (i := 1) (v := ?_) rfl (by kernel_rfl) (by kernel_rfl) (by kernel_rfl) (by rfl) ?_ hS ?_
            rotate_left
            · intro w0 hw0; obtain ⟨q5, q3⟩ := hw0; go_simp; try rfl
            try simp only [Act.put, List.setIfInBounds_toArray, List.set_cons_zero, List.set_cons_succ]
            refine take_first (i := 2) (v := ?_) rfl (by kernel_rfl) (by kernel_rfl) (by kernel_rfl) (by rfl) ?_ hS ?_
            rotate_left
            · intro w0 hw0; obtain ⟨q5, q3⟩ := hw0; go_simp; try rfl
            try simp only [Act.put, List.setIfInBounds_toArray, List.set_cons_zero, List.set_cons_succ]
            refine take_first (i := 3) (v := ?_) rfl (by kernel_rfl) (by kernel_rfl) (by kernel_rfl) (by rfl) ?_ hS ?_
            rotate_left
            · intro w0 hw0; obtain ⟨q5, q3⟩ := hw0; go_simp; try rfl
            try simp only [Act.put, List.setIfInBounds_toArray, List.set_cons_zero, List.set_cons_succ]
            refine take_first (i := 4) (v := ?_) rfl (by kernel_rfl) (by kernel_rfl) (by kernel_rfl) (by rfl) ?_ hS ?_
            rotate_left
            · intro w0 hw0; obtain ⟨q5, q3⟩ := hw0; go_simp; try rfl
            try simp only [Act.put, List.setIfInBounds_toArray, List.set_cons_zero, List.set_cons_succ]
            refine take_first (i := 5) (v := ?_) rfl (by kernel_rfl) (by kernel_rfl) (by kernel_rfl) (by rfl) ?_ hS ?_
            rotate_left
            · intro w0 hw0; obtain ⟨q5, q3⟩ := hw0; go_simp; try rfl
            try simp only [Act.put, List.setIfInBounds_toArray, List.set_cons_zero, List.set_cons_succ]
            refine take_first (i := 6) (v := ?_) rfl (by kernel_rfl) (by kernel_rfl) (by kernel_rfl) (by rfl) ?_ hS ?_
            rotate_left
            · intro w0 hw0; obtain ⟨q5, q3⟩ := hw0; go_simp; try rfl
            try simp only [Act.put, List.setIfInBounds_toArray, List.set_cons_zero, List.set_cons_succ]
            refine take_first (i := 7) (v := ?_) rfl (by kernel_rfl) (by kernel_rfl) (by kernel_rfl) (by rfl) ?_ hS ?_
            rotate_left
            · intro w0 hw0; obtain ⟨q5, q3⟩ := hw0; go_simp; try rfl
            try simp only [Act.put, List.setIfInBounds_toArray, List.set_cons_zero, List.set_cons_succ]
            refine take_first (i := 8) (v := ?_) rfl (by kernel_rfl) (by kernel_rfl) (by kernel_rfl) (by rfl) ?_ hS ?_
            rotate_left
            · intro w0 hw0; obtain ⟨q5, q3⟩ := hw0; go_simp; try rfl
            try simp only [Act.put, List.setIfInBounds_toArray, List.set_cons_zero, List.set_cons_succ]
            refine take_first (i := 9) (v := ?_) rfl (by kernel_rfl) (by kernel_rfl) (by kernel_rfl) (by rfl) ?_ hS ?_
            rotate_left
            · intro w0 hw0; obtain ⟨q5, q3⟩ := hw0; go_simp; try rfl
            try simp only [Act.put, List.setIfInBounds_toArray, List.set_cons_zero, List.set_cons_succ]
            refine wpAnyH_ready (rs := [10]) (by kernel_rfl) (by simp) ?_
            refine AllReadyH.cons rfl (fun K hK => ?_) AllReadyH.nil
            go_simp
            go_at_call 19
            refine Calls.mono (HGO.out _ ha2) ?_
            rintro e V1 ⟨rfl, hb1⟩
            have hb2 : Below wr.heap.size wr V1 := ⟨hb1.os, hb1.tape, hb1.output, hb1.size, hb1.block⟩
            obtain ⟨W', hr, r1, r2, r3⟩ := put_end HK2.out.1 HK2.out.2 hb2 j c hcc
            have kS : V1.cell? ⟨cb, 5, none⟩ = some (.map (some b)) ∧ V1.cell? ⟨cb, 3, none⟩ = some (.slice ea n ec) := ⟨(KeptB.below (S := fun _ => False) hb2).cell y5 (lt_of_block HK2.out.1.box) (fun h => h), (KeptB.below (S := fun _ => False) hb2).cell y3 (lt_of_block HK2.out.1.box) (fun h => h)⟩
            refine hK.out _ _ kS (fun _ => ?_)
            clear hK K
            try simp only [Act.put, List.setIfInBounds_toArray, List.set_cons_zero, List.set_cons_succ]
            refine wpAnyH_ready (rs := [11]) (by kernel_rfl) (by simp) ?_
            refine AllReadyH.cons rfl (fun K hK => ?_) AllReadyH.nil
            go_simp
            refine hK.out _ _ (by obtain ⟨_, _, t3, _, t5, _, _⟩ := clk_cells r1.box; rw [HO.out.2.1] at t3; exact ⟨t5, t3⟩) (fun _ => ?_)
            clear hK K
            try simp only [Act.put, List.setIfInBounds_toArray, List.set_cons_zero, List.set_cons_succ]
            exact wpAnyH_done (by kernel_rfl) ⟨rfl, rfl, r1, r2, r3⟩ _
          rintro W9 ⟨k9, o9, kp9⟩
          have HE : Hid (Clk0 H cb p es (some l1) (if j then sx else some c) (if j then some c else sy) st (.slice ea es.length ec) (.slice (some ⟨gr, 0, none⟩) n cr) (.map (some b)) (.slice da nd cd) W9 ∧ W9.ownsRow H 39 2 u3 (outOf es l1 ls).length (entCells (outOf es l1 ls)) ∧ KeptB wr.heap.size (fun k => k = b) wr W9) := ⟨k9, o9, kp9⟩
          clear k9 o9 kp9
          go_wp2_with fail
          go_ret
          have hw1 := HK1.out.2.size
          have hw2 := HGI.out.kept.size
          have hw3 := HKW.out.2.size
          have hbk : (Value.slice da 0 cd).ownBlock = (Value.slice da nd cd).ownBlock := HD.out.2
          refine ⟨_, rfl, _, _, HE.out.1, ?_, ?_, HRV.out, ?_, ?_, ?_⟩
          · rw [HLS.out]; exact HE.out.2.1
          · refine (HK1.out.2.mono (Nat.le_refl _) (fun k _ e => .inl e)).trans ((HGI.out.kept.mono hw1 (fun k _ e => .inr (.inr (.inr (.inl (by rw [← hbk]; exact e)))))).trans ((HKW.out.2.mono (Nat.le_trans hw1 hw2) (fun k _ e => .inl e)).trans (HE.out.2.2.mono (Nat.le_trans hw1 (Nat.le_trans hw2 hw3)) ?_)))
            intro k hk e
            exact .inr (.inr (.inr (.inr (by rw [e]))))
          · intro b9 e
            rcases HGI.out.lies b9 e with h | h
            · exact .inl (by rw [← hbk]; exact h)
            · exact .inr (by omega)
          · intro b9 e
            simp only [Value.map.injEq, Option.some.injEq] at e
            exact .inl (by rw [e])
          · intro b9 e1 e2
            rcases HGI.out.lies b9 e2 with h | h
            · exact HAP.out b9 e1 h
            · have := (HK1.out.1.ent.lt b9 e1).2
              omega
  | some l =>
    have hk0 := HK.out.zero
    rw [hrs] at hk0
    have hrai := hk0.rai
    dsimp only at hrai
    obtain ⟨hro, hrn, hrl⟩ := hrai
    obtain ⟨gr, cr, rfl, hcn⟩ : ∃ gr cr, rv = .slice (some ⟨gr, 0, none⟩) n cr ∧ n ≤ cr := by
      rcases hro.2 with ⟨h, _⟩ | ⟨g', cap', cur, h, _, _, hnc, _⟩
      · exact absurd h hrn
      · have : l.length = n := by have := HO.out.2.1; omega
        rw [this] at h hnc
        exact ⟨g', cap', h, hnc⟩
    have hq := eq_nil Ybaf.underlying32 (some ⟨gr, 0, none⟩) n cr
    simp only [Option.isNone] at hq
    have hl1e : l1 = l := by rw [HL1.out, hrs]; rfl
    have hlk := look_sent hk0.snt j
    obtain ⟨ls, hls⟩ : ∃ ls, lastOf j sx sy = ls := ⟨_, rfl⟩
    rw [hls] at hlk
    obtain ⟨lv, hlv⟩ : ∃ lv, ls.getD 0 = lv := ⟨_, rfl⟩
    obtain ⟨lb, hlb⟩ : ∃ lb, ls.isSome = lb := ⟨_, rfl⟩
    rw [hlv, hlb] at hlk
    have HLV : Hid (ls.getD 0 = lv ∧ ls.isSome = lb) := ⟨hlv, hlb⟩
    have HLS := hid hls
    clear hlv hlb hls
    have HK1 : Hid (Clk0 H cb p es (some l1) sx sy st (.slice ea es.length ec) (.slice (some ⟨gr, 0, none⟩) n cr) mv (.slice da nd cd) W ∧ KeptB W.heap.size (fun k => k = cb) W W) := ⟨by rw [hl1e]; exact hk0, KeptB.refl _ _ _⟩
    have HRV : Hid (∀ b, (Value.slice (some ⟨gr, 0, none⟩) n cr).ownBlock = some b → (Value.slice (some ⟨gr, 0, none⟩) n cr).ownBlock = some b ∨ W.heap.size ≤ b) := fun b e => .inl e
    have HD1 := hid HD.out.1
    have HAP : Hid (∀ k, (Value.slice ea es.length ec).ownBlock = some k → (Value.slice da 0 cd).ownBlock ≠ some k) := fun k e => by rw [HD.out.2]; exact HK.out.apt k e
    have hH1 : H ≤ W.heap.size := hH
    clear hk0 hro hrn hrl hl1e
    go_enter Ybaf.func40, Ybaf.ntmps40
    go_wp2_with fail
    go_loopw [3, 45] (fun vb vx wr => ∃ i : Nat, i ≤ n ∧ vx = .int .i64 i ∧ wr.ownsRow H 39 2 vb (outOf (es.take i) (l1.take i) ls).length (entCells (outOf (es.take i) (l1.take i) ls)) ∧ Grew W (.slice da 0 cd) wr vb) (fun _ vx _ => n - (intOf vx).toNat)
    case atStart => exact ⟨0, by omega, rfl, HD1.out, Grew.refl _ _⟩
    case round =>
      obtain ⟨i, hi, rfl, oi, gi⟩ := hrel
      have hsi := gi.kept.size
      have hkw : Clk0 H cb p es (some l1) sx sy st (.slice ea es.length ec) (.slice (some ⟨gr, 0, none⟩) n cr) mv (.slice da nd cd) wr := HK1.out.1.still HD1.out HAP.out gi.kept
      by_cases hin : i < n
      · obtain ⟨⟨a, cc⟩, he⟩ : ∃ e, es[i]? = some e := ⟨es[i]'(by have := HO.out.2.1; omega), List.getElem?_eq_getElem _⟩
        have hll : l1.length = n := by have := HK1.out.1.rai.2.2; have := HO.out.2.1; omega
        obtain ⟨m, hm⟩ : ∃ m, l1[i]? = some m := ⟨l1[i]'(by omega), List.getElem?_eq_getElem _⟩
        have hON := out_next es l1 ls i (a, cc) m he hm
        obtain ⟨ge, oe, rfl, q0, q1⟩ : ∃ ge oe, ea = some ⟨ge, oe, none⟩ ∧ wr.cell? ⟨ge, oe + i * 2, none⟩ = some (.string (nm a)) ∧ wr.cell? ⟨ge, oe + i * 2 + 1, none⟩ = some (.int .u64 cc) := by
          obtain ⟨ea', cap', e, hat⟩ := own_ents hkw.ent
          simp only [Value.slice.injEq] at e
          obtain ⟨g, o, e2, h0, h1⟩ := hat i _ he
          exact ⟨g, o, by rw [e.1, e2], h0, h1⟩
        obtain ⟨_, _, _, x4w, _, _, _⟩ := clk_cells hkw.box
        have r1 : wr.cell? ⟨gr, i, none⟩ = some (.int .u64 m) := by
          have := hkw.rai.1
          rw [hll] at this
          refine (this.cellAt i (by omega)).trans ?_
          simp [u64Cells, hm]
        have i1 : (0 : Int) ≤ (i : Int) := by omega
        have i2 : (i : Int) < (n : Int) := by omega
        have l1w : ge < wr.heap.size := World.block_lt_of_cell? _ _ q0
        have l2w : cb < wr.heap.size := lt_of_block hkw.box
        have l3w : gr < wr.heap.size := World.block_lt_of_cell? _ _ r1
        have n1w : ¬ ge = wr.heap.size := by omega
        have n2w : ¬ cb = wr.heap.size := by omega
        have n3w : ¬ gr = wr.heap.size := by omega
        have hol : (outOf (es.take i) (l1.take i) ls).length ≤ i := by
          unfold outOf
          rw [List.length_map]
          refine Nat.le_trans (List.length_filter_le _ _) ?_
          rw [List.length_zip, List.length_take]; omega
        have HOI := hid oi
        have HGI : Hid _ := gi
        have HON : Hid _ := hON
        have HMM : Hid (l1[i]? = some m) := hm
        clear oi gi hON he hm hkw
        cases lb with
        | false =>
          have hp1 : pickAt l1 ls i = true := by
            have := HLV.out.2
            cases ls with
            | none => rfl
            | some x => simp at this
          go_wp2_with (at_builtin; refine wpList_append_lies _ rfl _ _ 37 rfl H 39 i0 _ 2 24 Ybaf.underlying37 hi0 hz0 hz1 hz2 rfl (by decide) _ _ _ rfl ((HOI.out.alloc _).alloc _) ⟨wr.heap.size + 1, 0, none⟩ 1 1 [.string (nm a), .int .u64 cc] rfl rfl ?c1 ?c2 (by decide) ?c3 ?c4 ?c5 _ rfl ?_)
          case c1 =>
            intro q u hq
            have hbx : ((wr.alloc (.cells #[.string (nm a), .int .u64 cc] 39)).alloc (.cells #[.string (nm a), .int .u64 cc] 39)).heap[wr.heap.size + 1]? = some (.cells #[.string (nm a), .int .u64 cc] 39 (0, 0)) := by
              have := heap_alloc_new (wr.alloc (.cells #[.string (nm a), .int .u64 cc] 39)) (.cells #[.string (nm a), .int .u64 cc] 39)
              rwa [World.size_alloc] at this
            rw [Addr.add_lit, Nat.zero_add, cell_of_row _ _ _ _ _ _ hbx]
            simpa using hq
          case c2 => intro u hu; simp at hu; rcases hu with rfl | rfl <;> rfl
          case c3 => unfold maxLen; omega
          case c4 => omega
          case c5 => simp; omega
          intro g9 cap9 w6 hown' hgrow hat9 hlt9
          have G6 : Grew W (.slice da 0 cd) w6 (.slice (some ⟨g9, 0, none⟩) ((outOf (es.take i) (l1.take i) ls).length + 1) cap9) := HGI.out.trans (Grew.pre ((KeptB.alloc _ (Nat.le_refl _)).trans (KeptB.alloc _ (by simp))) (Grew.of hgrow (by rw [World.size_alloc, World.size_alloc]; exact hat9)) (fun b e => by have := (HOI.out.lt b e).2; simp; omega))
          have HF : Hid (w6.ownsRow H 39 2 (.slice (some ⟨g9, 0, none⟩) ((outOf (es.take i) (l1.take i) ls).length + 1) cap9) (outOf (es.take (i + 1)) (l1.take (i + 1)) ls).length (entCells (outOf (es.take (i + 1)) (l1.take (i + 1)) ls))) := by
            refine own_cast hown' ?_ ?_
            · rw [HON.out, if_pos hp1, List.length_append]; rfl
            · rw [HON.out, if_pos hp1, entCells_append]; rfl
          have HG6 : Hid _ := G6
          clear hown' hgrow hat9 hlt9 G6
          go_wp2
          go_roundw
          case rel => exact ⟨i + 1, by omega, by go_num, HF.out, HG6.out⟩
          case measure => simp [intOf]; omega
        | true =>
          have hle : ls = some lv := by
            have := HLV.out
            cases ls with
            | none => simp at this
            | some x => simpa using this.1
          by_cases hcm : lv < m
          · have g1 : (m : Int) > (lv : Int) := by omega
            have hp1 : pickAt l1 ls i = true := by simp [hle, pickAt, HMM.out, hcm]
            clear hle
            go_wp2_with (at_builtin; refine wpList_append_lies _ rfl _ _ 37 rfl H 39 i0 _ 2 24 Ybaf.underlying37 hi0 hz0 hz1 hz2 rfl (by decide) _ _ _ rfl ((HOI.out.alloc _).alloc _) ⟨wr.heap.size + 1, 0, none⟩ 1 1 [.string (nm a), .int .u64 cc] rfl rfl ?c1 ?c2 (by decide) ?c3 ?c4 ?c5 _ rfl ?_)
            case c1 =>
              intro q u hq
              have hbx : ((wr.alloc (.cells #[.string (nm a), .int .u64 cc] 39)).alloc (.cells #[.string (nm a), .int .u64 cc] 39)).heap[wr.heap.size + 1]? = some (.cells #[.string (nm a), .int .u64 cc] 39 (0, 0)) := by
                have := heap_alloc_new (wr.alloc (.cells #[.string (nm a), .int .u64 cc] 39)) (.cells #[.string (nm a), .int .u64 cc] 39)
                rwa [World.size_alloc] at this
              rw [Addr.add_lit, Nat.zero_add, cell_of_row _ _ _ _ _ _ hbx]
              simpa using hq
            case c2 => intro u hu; simp at hu; rcases hu with rfl | rfl <;> rfl
            case c3 => unfold maxLen; omega
            case c4 => omega
            case c5 => simp; omega
            intro g9 cap9 w6 hown' hgrow hat9 hlt9
            have G6 : Grew W (.slice da 0 cd) w6 (.slice (some ⟨g9, 0, none⟩) ((outOf (es.take i) (l1.take i) ls).length + 1) cap9) := HGI.out.trans (Grew.pre ((KeptB.alloc _ (Nat.le_refl _)).trans (KeptB.alloc _ (by simp))) (Grew.of hgrow (by rw [World.size_alloc, World.size_alloc]; exact hat9)) (fun b e => by have := (HOI.out.lt b e).2; simp; omega))
            have HF : Hid (w6.ownsRow H 39 2 (.slice (some ⟨g9, 0, none⟩) ((outOf (es.take i) (l1.take i) ls).length + 1) cap9) (outOf (es.take (i + 1)) (l1.take (i + 1)) ls).length (entCells (outOf (es.take (i + 1)) (l1.take (i + 1)) ls))) := by
              refine own_cast hown' ?_ ?_
              · rw [HON.out, if_pos hp1, List.length_append]; rfl
              · rw [HON.out, if_pos hp1, entCells_append]; rfl
            have HG6 : Hid _ := G6
            clear hown' hgrow hat9 hlt9 G6
            go_wp2
            go_roundw
            case rel => exact ⟨i + 1, by omega, by go_num, HF.out, HG6.out⟩
            case measure => simp [intOf]; omega
          · have g1 : ¬ (m : Int) > (lv : Int) := by omega
            have hp1 : pickAt l1 ls i = false := by simp [hle, pickAt, HMM.out, hcm]
            clear hle
            go_wp2
            go_roundw
            case rel =>
              refine ⟨i + 1, by omega, by go_num, own_cast (HOI.out.alloc _) ?_ ?_, HGI.out.trans (Grew.pre (KeptB.alloc _ (Nat.le_refl _)) (Grew.refl _ _) (fun b e => by have := (HOI.out.lt b e).2; simp; omega))⟩
              · rw [HON.out, if_neg (by rw [hp1]; decide), List.append_nil]
              · rw [HON.out, if_neg (by rw [hp1]; decide), List.append_nil]
            case measure => simp [intOf]; omega
      · obtain rfl : n = i := by omega
        have hout : outOf (es.take n) (l1.take n) ls = outOf es l1 ls := by
          have h1 := HO.out.2.1
          have h2 := HK1.out.1.rai.2.2
          rw [List.take_of_length_le (by omega), List.take_of_length_le (by omega)]
        rw [hout] at oi
        obtain ⟨_, _, _, _, x5w, _, _⟩ := clk_cells hkw.box
        have hHw : H ≤ wr.heap.size := by omega
        have HGI : Hid _ := gi
        have hsn := hkw.snt
        clear hout gi
        rcases hsn with ⟨rfl, rfl, rfl⟩ | ⟨b, rfl, hbH, _⟩
        · obtain ⟨y5, y5f, hmk2⟩ := mk_sent hkw hHw
          obtain ⟨W2, hW2⟩ : ∃ W2, (wr.alloc (.map #[] 0)).setCell ⟨cb, 5, none⟩ (.map (some wr.heap.size)) = W2 := ⟨_, rfl⟩
          obtain ⟨hk2, kp2⟩ := hmk2 W2 hW2.symm
          have ncb : ∀ k, u3.ownBlock = some k → k < wr.heap.size ∧ ¬ k = cb := fun k e => by
            refine ⟨(oi.lt k e).2, ?_⟩
            rintro rfl
            rcases oi.2 with ⟨h3, _⟩ | ⟨g', cap', cur, h3, _, hg', _⟩
            · rw [h3] at e; simp [Value.ownBlock] at e
            · rw [h3] at e
              simp only [Value.ownBlock, Option.some.injEq] at e
              rw [e, hkw.box] at hg'; simp at hg'
          have od2 := kp2.own oi ncb
          have HK2 := hid (And.intro hk2 od2)
          have HKW := hid (And.intro hkw kp2)
          have hmm := run_makeMap (P := Ybaf.prog) 61 wr
          have hqm := eq_mnil none
          simp only [Option.isNone] at hqm
          clear hk2 od2 hkw kp2 hmk2 oi ncb
          go_wp2_with fail
          obtain ⟨_, _, y3, _, y5, _, _⟩ := clk_cells HK2.out.1.box
          rw [HO.out.2.1] at y3
          have hS : W2.drew.cell? ⟨cb, 5, none⟩ = some (.map (some wr.heap.size)) ∧ W2.drew.cell? ⟨cb, 3, none⟩ = some (.slice ea n ec) := ⟨y5, y3⟩
          have GO : ∀ V, EntAt V ea es → Calls Ybaf.prog 19 #[.agg #[.slice ea n ec], .string (nm p)] V fun e w' => e = .returned (.int .u64 c) ∧ Below V.heap.size V w' := fun V hV => by
            have := get_own ea ec p es V (by have := HO.out.2.1; omega) HO.out.2.2 hp hV kk c HO.out.1
            rwa [HO.out.2.1] at this
          have hcc : c < 18446744073709551616 := by
            have := (HO.out.2.2.1 _ (List.mem_of_getElem? HO.out.1)).2
            dsimp only at this; omega
          have ha2 : EntAt W2.drew ea es := by
            obtain ⟨ea', cap', e, hat⟩ := own_ents (HK2.out.1.ent)
            simp only [Value.slice.injEq] at e
            rw [e.1]; exact hat
          have HGO := hid GO
          clear GO
          apply oncePa (fun W9 => Clk0 H cb p es (some l1) (if j then none else some c) (if j then some c else none) st (.slice ea es.length ec) (.slice (some ⟨gr, 0, none⟩) n cr) (.map (some wr.heap.size)) (.slice da nd cd) W9 ∧ W9.ownsRow H 39 2 u3 (outOf es l1 ls).length (entCells (outOf es l1 ls)) ∧ KeptB W2.heap.size (fun k => k = wr.heap.size) W2 W9)
          case h =>
            apply region_plain (S := fun w' => w'.cell? ⟨cb, 5, none⟩ = some (.map (some wr.heap.size)) ∧ w'.cell? ⟨cb, 3, none⟩ = some (.slice ea n ec)) (hm := hmix)
            refine take_first (i := 0) (v := ?_) rfl (by kernel_rfl) (by kernel_rfl) (by kernel_rfl) (by rfl) ?_ hS ?_
            rotate_left
            · intro w0 hw0; obtain ⟨q5, q3⟩ := hw0; go_simp; try rfl
            try simp only [Act.put, List.setIfInBounds_toArray, List.set_cons_zero, List.set_cons_succ]
            refine take_first (i := 1) (v := ?_) rfl (by kernel_rfl) (by kernel_rfl) (by kernel_rfl) (by rfl) ?_ hS ?_
            rotate_left
            · intro w0 hw0; obtain ⟨q5, q3⟩ := hw0; go_simp; try rfl
            try simp only [Act.put, List.setIfInBounds_toArray, List.set_cons_zero, List.set_cons_succ]
            refine take_first (i := 2) (v := ?_) rfl (by kernel_rfl) (by kernel_rfl) (by kernel_rfl) (by rfl) ?_ hS ?_
            rotate_left
            · intro w0 hw0; obtain ⟨q5, q3⟩ := hw0; go_simp; try rfl
            try simp only [Act.put, List.setIfInBounds_toArray, List.set_cons_zero, List.set_cons_succ]
            refine take_first (i := 3) (v := ?_) rfl (by kernel_rfl) (by kernel_rfl) (by kernel_rfl) (by rfl) ?_ hS ?_
            rotate_left
            · intro w0 hw0; obtain ⟨q5, q3⟩ := hw0; go_simp; try rfl
            try simp only [Act.put, List.setIfInBounds_toArray, List.set_cons_zero, List.set_cons_succ]
            refine take_first (i := 4) (v := ?_) rfl (by kernel_rfl) (by kernel_rfl) (by kernel_rfl) (by rfl) ?_ hS ?_
            rotate_left
            · intro w0 hw0; obtain ⟨q5, q3⟩ := hw0; go_simp; try rfl
            try simp only [Act.put, List.setIfInBounds_toArray, List.set_cons_zero, List.set_cons_succ]
            refine take_first (i := 5) (v := ?_) rfl (by kernel_rfl) (by kernel_rfl) (by kernel_rfl) (by rfl) ?_ hS ?_
            rotate_left
            · intro w0 hw0; obtain ⟨q5, q3⟩ := hw0; go_simp; try rfl
            try simp only [Act.put, List.setIfInBounds_toArray, List.set_cons_zero, List.set_cons_succ]
            refine take_first (i := 6) (v := ?_) rfl (by kernel_rfl) (by kernel_rfl) (by kernel_rfl) (by rfl) ?_ hS ?_
            rotate_left
            · intro w0 hw0; obtain ⟨q5, q3⟩ := hw0; go_simp; try rfl
            try simp only [Act.put, List.setIfInBounds_toArray, List.set_cons_zero, List.set_cons_succ]
            refine take_first (i := 7) (v := ?_) rfl (by kernel_rfl) (by kernel_rfl) (by kernel_rfl) (by rfl) ?_ hS ?_
            rotate_left
            · intro w0 hw0; obtain ⟨q5, q3⟩ := hw0; go_simp; try rfl
            try simp only [Act.put, List.setIfInBounds_toArray, List.set_cons_zero, List.set_cons_succ]
            refine take_first (i := 8) (v := ?_) rfl (by kernel_rfl) (by kernel_rfl) (by kernel_rfl) (by rfl) ?_ hS ?_
            rotate_left
            · intro w0 hw0; obtain ⟨q5, q3⟩ := hw0; go_simp; try rfl
            try simp only [Act.put, List.setIfInBounds_toArray, List.set_cons_zero, List.set_cons_succ]
            refine take_first (i := 9) (v := ?_) rfl (by kernel_rfl) (by kernel_rfl) (by kernel_rfl) (by rfl) ?_ hS ?_
            rotate_left
            · intro w0 hw0; obtain ⟨q5, q3⟩ := hw0; go_simp; try rfl
            try simp only [Act.put, List.setIfInBounds_toArray, List.set_cons_zero, List.set_cons_succ]
            refine wpAnyH_ready (rs := [10]) (by kernel_rfl) (by simp) ?_
            refine AllReadyH.cons rfl (fun K hK => ?_) AllReadyH.nil
            go_simp
            go_at_call 19
            refine Calls.mono (HGO.out _ ha2) ?_
            rintro e V1 ⟨rfl, hb1⟩
            have hb2 : Below W2.heap.size W2 V1 := ⟨hb1.os, hb1.tape, hb1.output, hb1.size, hb1.block⟩
            obtain ⟨W', hr, r1, r2, r3⟩ := put_end HK2.out.1 HK2.out.2 hb2 j c hcc
            have kS : V1.cell? ⟨cb, 5, none⟩ = some (.map (some wr.heap.size)) ∧ V1.cell? ⟨cb, 3, none⟩ = some (.slice ea n ec) := ⟨(KeptB.below (S := fun _ => False) hb2).cell y5 (lt_of_block HK2.out.1.box) (fun h => h), (KeptB.below (S := fun _ => False) hb2).cell y3 (lt_of_block HK2.out.1.box) (fun h => h)⟩
            refine hK.out _ _ kS (fun _ => ?_)
            clear hK K
            try simp only [Act.put, List.setIfInBounds_toArray, List.set_cons_zero, List.set_cons_succ]
            refine wpAnyH_ready (rs := [11]) (by kernel_rfl) (by simp) ?_
            refine AllReadyH.cons rfl (fun K hK => ?_) AllReadyH.nil
            go_simp
            refine hK.out _ _ (by obtain ⟨_, _, t3, _, t5, _, _⟩ := clk_cells r1.box; rw [HO.out.2.1] at t3; exact ⟨t5, t3⟩) (fun _ => ?_)
            clear hK K
            try simp only [Act.put, List.setIfInBounds_toArray, List.set_cons_zero, List.set_cons_succ]
            exact wpAnyH_done (by kernel_rfl) ⟨rfl, rfl, r1, r2, r3⟩ _
          rintro W9 ⟨k9, o9, kp9⟩
          have HE : Hid (Clk0 H cb p es (some l1) (if j then none else some c) (if j then some c else none) st (.slice ea es.length ec) (.slice (some ⟨gr, 0, none⟩) n cr) (.map (some wr.heap.size)) (.slice da nd cd) W9 ∧ W9.ownsRow H 39 2 u3 (outOf es l1 ls).length (entCells (outOf es l1 ls)) ∧ KeptB W2.heap.size (fun k => k = wr.heap.size) W2 W9) := ⟨k9, o9, kp9⟩
          clear k9 o9 kp9
          go_wp2_with fail
          go_ret
          have hw1 := HK1.out.2.size
          have hw2 := HGI.out.kept.size
          have hw3 := HKW.out.2.size
          have hbk : (Value.slice da 0 cd).ownBlock = (Value.slice da nd cd).ownBlock := HD.out.2
          refine ⟨_, rfl, _, _, HE.out.1, ?_, ?_, HRV.out, ?_, ?_, ?_⟩
          · rw [HLS.out]; exact HE.out.2.1
          · refine (HK1.out.2.mono (Nat.le_refl _) (fun k _ e => .inl e)).trans ((HGI.out.kept.mono hw1 (fun k _ e => .inr (.inr (.inr (.inl (by rw [← hbk]; exact e)))))).trans ((HKW.out.2.mono (Nat.le_trans hw1 hw2) (fun k _ e => .inl e)).trans (HE.out.2.2.mono (Nat.le_trans hw1 (Nat.le_trans hw2 hw3)) ?_)))
            intro k hk e
            omega
          · intro b9 e
            rcases HGI.out.lies b9 e with h | h
            · exact .inl (by rw [← hbk]; exact h)
            · exact .inr (by omega)
          · intro b9 e
            simp only [Value.map.injEq, Option.some.injEq] at e
            exact .inr (by omega)
          · intro b9 e1 e2
            rcases HGI.out.lies b9 e2 with h | h
            · exact HAP.out b9 e1 h
            · have := (HK1.out.1.ent.lt b9 e1).2
              omega
        · have HK2 := hid (And.intro hkw oi)
          have HKW := hid (And.intro hkw (KeptB.refl wr.heap.size (fun k => k = cb) wr))
          have hqm := eq_mnil (some b)
          simp only [Option.isNone] at hqm
          clear hkw oi
          go_wp2_with fail
          obtain ⟨_, _, y3, _, y5, _, _⟩ := clk_cells HK2.out.1.box
          rw [HO.out.2.1] at y3
          have hS : wr.drew.cell? ⟨cb, 5, none⟩ = some (.map (some b)) ∧ wr.drew.cell? ⟨cb, 3, none⟩ = some (.slice ea n ec) := ⟨y5, y3⟩
          have GO : ∀ V, EntAt V ea es → Calls Ybaf.prog 19 #[.agg #[.slice ea n ec], .string (nm p)] V fun e w' => e = .returned (.int .u64 c) ∧ Below V.heap.size V w' := fun V hV => by
            have := get_own ea ec p es V (by have := HO.out.2.1; omega) HO.out.2.2 hp hV kk c HO.out.1
            rwa [HO.out.2.1] at this
          have hcc : c < 18446744073709551616 := by
            have := (HO.out.2.2.1 _ (List.mem_of_getElem? HO.out.1)).2
            dsimp only at this; omega
          have ha2 : EntAt wr.drew ea es := by
            obtain ⟨ea', cap', e, hat⟩ := own_ents (HK2.out.1.ent)
            simp only [Value.slice.injEq] at e
            rw [e.1]; exact hat
          have HGO := hid GO
          clear GO
          apply oncePa (fun W9 => Clk0 H cb p es (some l1) (if j then sx else some c) (if j then some c else sy) st (.slice ea es.length ec) (.slice (some ⟨gr, 0, none⟩) n cr) (.map (some b)) (.slice da nd cd) W9 ∧ W9.ownsRow H 39 2 u3 (outOf es l1 ls).length (entCells (outOf es l1 ls)) ∧ KeptB wr.heap.size (fun k => k = b) wr W9)
          case h =>
            apply region_plain (S := fun w' => w'.cell? ⟨cb, 5, none⟩ = some (.map (some b)) ∧ w'.cell? ⟨cb, 3, none⟩ = some (.slice ea n ec)) (hm := hmix)
            refine take_first (i := 0) (v := ?_) rfl (by kernel_rfl) (by kernel_rfl) (by kernel_rfl) (by rfl) ?_ hS ?_
            rotate_left
            · intro w0 hw0; obtain ⟨q5, q3⟩ := hw0; go_simp; try rfl
            try simp only [Act.put, List.setIfInBounds_toArray, List.set_cons_zero, List.set_cons_succ]
            refine take_first (i := 1) (v := ?_) rfl (by kernel_rfl) (by kernel_rfl) (by kernel_rfl) (by rfl) ?_ hS ?_
            rotate_left
            · intro w0 hw0; obtain ⟨q5, q3⟩ := hw0; go_simp; try rfl
            try simp only [Act.put, List.setIfInBounds_toArray, List.set_cons_zero, List.set_cons_succ]
            refine take_first (i := 2) (v := ?_) rfl (by kernel_rfl) (by kernel_rfl) (by kernel_rfl) (by rfl) ?_ hS ?_
            rotate_left
            · intro w0 hw0; obtain ⟨q5, q3⟩ := hw0; go_simp; try rfl
            try simp only [Act.put, List.setIfInBounds_toArray, List.set_cons_zero, List.set_cons_succ]
            refine take_first (i := 3) (v := ?_) rfl (by kernel_rfl) (by kernel_rfl) (by kernel_rfl) (by rfl) ?_ hS ?_
            rotate_left
            · intro w0 hw0; obtain ⟨q5, q3⟩ := hw0; go_simp; try rfl
            try simp only [Act.put, List.setIfInBounds_toArray, List.set_cons_zero, List.set_cons_succ]
            refine take_first (i := 4) (v := ?_) rfl (by kernel_rfl) (by kernel_rfl) (by kernel_rfl) (by rfl) ?_ hS ?_
            rotate_left
            · intro w0 hw0; obtain ⟨q5, q3⟩ := hw0; go_simp; try rfl
            try simp only [Act.put, List.setIfInBounds_toArray, List.set_cons_zero, List.set_cons_succ]
            refine take_first (i := 5) (v := ?_) rfl (by kernel_rfl) (by kernel_rfl) (by kernel_rfl) (by rfl) ?_ hS ?_
            rotate_left
            · intro w0 hw0; obtain ⟨q5, q3⟩ := hw0; go_simp; try rfl
            try simp only [Act.put, List.setIfInBounds_toArray, List.set_cons_zero, List.set_cons_succ]
            refine take_first (i := 6) (v := ?_) rfl (by kernel_rfl) (by kernel_rfl) (by kernel_rfl) (by rfl) ?_ hS ?_
            rotate_left
            · intro w0 hw0; obtain ⟨q5, q3⟩ := hw0; go_simp; try rfl
            try simp only [Act.put, List.setIfInBounds_toArray, List.set_cons_zero, List.set_cons_succ]
            refine take_first (i := 7) (v := ?_) rfl (by kernel_rfl) (by kernel_rfl) (by kernel_rfl) (by rfl) ?_ hS ?_
            rotate_left
            · intro w0 hw0; obtain ⟨q5, q3⟩ := hw0; go_simp; try rfl
            try simp only [Act.put, List.setIfInBounds_toArray, List.set_cons_zero, List.set_cons_succ]
            refine take_first (i := 8) (v := ?_) rfl (by kernel_rfl) (by kernel_rfl) (by kernel_rfl) (by rfl) ?_ hS ?_
            rotate_left
            · intro w0 hw0; obtain ⟨q5, q3⟩ := hw0; go_simp; try rfl
            try simp only [Act.put, List.setIfInBounds_toArray, List.set_cons_zero, List.set_cons_succ]
            refine take_first (i := 9) (v := ?_) rfl (by kernel_rfl) (by kernel_rfl) (by kernel_rfl) (by rfl) ?_ hS ?_
            rotate_left
            · intro w0 hw0; obtain ⟨q5, q3⟩ := hw0; go_simp; try rfl
            try simp only [Act.put, List.setIfInBounds_toArray, List.set_cons_zero, List.set_cons_succ]
            refine wpAnyH_ready (rs := [10]) (by kernel_rfl) (by simp) ?_
            refine AllReadyH.cons rfl (fun K hK => ?_) AllReadyH.nil
            go_simp
            go_at_call 19
            refine Calls.mono (HGO.out _ ha2) ?_
            rintro e V1 ⟨rfl, hb1⟩
            have hb2 : Below wr.heap.size wr V1 := ⟨hb1.os, hb1.tape, hb1.output, hb1.size, hb1.block⟩
            obtain ⟨W', hr, r1, r2, r3⟩ := put_end HK2.out.1 HK2.out.2 hb2 j c hcc
            have kS : V1.cell? ⟨cb, 5, none⟩ = some (.map (some b)) ∧ V1.cell? ⟨cb, 3, none⟩ = some (.slice ea n ec) := ⟨(KeptB.below (S := fun _ => False) hb2).cell y5 (lt_of_block HK2.out.1.box) (fun h => h), (KeptB.below (S := fun _ => False) hb2).cell y3 (lt_of_block HK2.out.1.box) (fun h => h)⟩
            refine hK.out _ _ kS (fun _ => ?_)
            clear hK K
            try simp only [Act.put, List.setIfInBounds_toArray, List.set_cons_zero, List.set_cons_succ]
            refine wpAnyH_ready (rs := [11]) (by kernel_rfl) (by simp) ?_
            refine AllReadyH.cons rfl (fun K hK => ?_) AllReadyH.nil
            go_simp
            refine hK.out _ _ (by obtain ⟨_, _, t3, _, t5, _, _⟩ := clk_cells r1.box; rw [HO.out.2.1] at t3; exact ⟨t5, t3⟩) (fun _ => ?_)
            clear hK K
            try simp only [Act.put, List.setIfInBounds_toArray, List.set_cons_zero, List.set_cons_succ]
            exact wpAnyH_done (by kernel_rfl) ⟨rfl, rfl, r1, r2, r3⟩ _
          rintro W9 ⟨k9, o9, kp9⟩
          have HE : Hid (Clk0 H cb p es (some l1) (if j then sx else some c) (if j then some c else sy) st (.slice ea es.length ec) (.slice (some ⟨gr, 0, none⟩) n cr) (.map (some b)) (.slice da nd cd) W9 ∧ W9.ownsRow H 39 2 u3 (outOf es l1 ls).length (entCells (outOf es l1 ls)) ∧ KeptB wr.heap.size (fun k => k = b) wr W9) := ⟨k9, o9, kp9⟩
          clear k9 o9 kp9
          go_wp2_with fail
          go_ret
          have hw1 := HK1.out.2.size
          have hw2 := HGI.out.kept.size
          have hw3 := HKW.out.2.size
          have hbk : (Value.slice da 0 cd).ownBlock = (Value.slice da nd cd).ownBlock := HD.out.2
          refine ⟨_, rfl, _, _, HE.out.1, ?_, ?_, HRV.out, ?_, ?_, ?_⟩
          · rw [HLS.out]; exact HE.out.2.1
          · refine (HK1.out.2.mono (Nat.le_refl _) (fun k _ e => .inl e)).trans ((HGI.out.kept.mono hw1 (fun k _ e => .inr (.inr (.inr (.inl (by rw [← hbk]; exact e)))))).trans ((HKW.out.2.mono (Nat.le_trans hw1 hw2) (fun k _ e => .inl e)).trans (HE.out.2.2.mono (Nat.le_trans hw1 (Nat.le_trans hw2 hw3)) ?_)))
            intro k hk e
            exact .inr (.inr (.inr (.inr (by rw [e]))))
          · intro b9 e
            rcases HGI.out.lies b9 e with h | h
            · exact .inl (by rw [← hbk]; exact h)
            · exact .inr (by omega)
          · intro b9 e
            simp only [Value.map.injEq, Option.some.injEq] at e
            exact .inl (by rw [e])
          · intro b9 e1 e2
            rcases HGI.out.lies b9 e2 with h | h
            · exact HAP.out b9 e1 h
            · have := (HK1.out.1.ent.lt b9 e1).2
              omega
end Go.Proofs.YbulkcrtgFmt
