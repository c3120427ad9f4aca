/-
  (*Message).Encode (function 8) BY ITS CONTRACT.
-/
import Derived.Test.YbulkcrpmFmtShelf
import Derived.Test.YbulkcrpmFmtErr
import Derived.Test.YbulkcrpmFmtMem
import Derived.Test.YbulkcrpmFmtPlain
import Derived.Deep.RegionHeld3
namespace Go.Proofs.YbulkcrpmFmt
open Go Go.RowKit Go.Extern.Stop Go.Stop Go.Extern

theorem class_any (k : Int) (w : World) (h0 : 0 ≤ k) (h1 : k < 65536) :
    Calls Ybaf.prog 13 #[.int .u16 k] w fun e w' => e = .returned (.int .u8 (k / 256)) ∧ w' = w := by
  go_enter Ybaf.func13, Ybaf.ntmps13
  go_wp2
  go_ret
  exact ⟨rfl, rfl⟩

theorem ret_int {k : IntKind} {a b : Int} (h : a = b) : Ending.returned (.int k a) = .returned (.int k b) := by rw [h]

theorem padding_any (n : Nat) (w : World) (h1 : n ≤ 140737488355328) :
    Calls Ybaf.prog 16 #[.int .i64 n] w fun e w' => e = .returned (.int .i64 (pad n)) ∧ w' = w := by
  go_enter Ybaf.func16, Ybaf.ntmps16
  go_wp2
  go_ret
  exact ⟨ret_int (by unfold pad; omega), rfl⟩

theorem Ybaf.info5 : (Ybaf.prog.info? 5).map (fun i => (i.zero, i.size, i.bytes)) = some (some (.int .u8 0), 1, 1) := by kernel_rfl

/-- binary.BigEndian.AppendUint16 onto a row of the call's own: that row and new blocks alone are written. -/
theorem append16 (base n v : Nat) (hv : v < 65536) (sv : Value) (xs : List Value) (w : World) (hown : w.ownsRow base 5 1 sv n xs) (hn : 0 < n) (hbase : base ≤ w.heap.size) (hlim : n + 2 ≤ 140737488355328) :
    Calls Ybaf.prog 15 #[.agg #[], sv, .int .u16 v] w fun e w' => ∃ v', e = .returned v' ∧ w'.ownsRow base 5 1 v' (n + 2) (xs ++ Lib.byteCells (Lib.beBytes 2 v)) ∧ w.grownBy w' sv.ownBlock := by
  obtain ⟨g, cap, rfl, hbg, hnc, hgl⟩ := own_form hown hn
  have hcur : ∃ cur, w.heap[g]? = some (.cells cur 5 (0, 0)) ∧ cur.size = cap := by
    rcases hown.2 with ⟨h', _⟩ | ⟨g', cap', cur, h', _, hg, _, _, hcs, _⟩
    · simp at h'
    · simp only [Value.slice.injEq, Option.some.injEq, Addr.mk.injEq, and_true, true_and] at h'
      obtain ⟨rfl, rfl⟩ := h'
      exact ⟨cur, hg, by omega⟩
  obtain ⟨cur, hg, hcs⟩ := hcur
  have hl2 : (Lib.byteCells (Lib.beBytes 2 v)).length = 2 := by rw [byteCells_length, Lib.beBytes_length]
  refine (Ybaf.binary_BE_AppendUint16_arg g 0 n cap v hv xs w (by simpa using hown.1) ?_ ?_ hlim).mono ?_
  · intro j u hu
    have h := hown.cells (g := g) rfl j u hu
    rwa [Addr.add_lit] at h
  · intro hroom j hj
    rw [cell_of_row w g _ cur 5 (0, 0) hg, frozen_of_row w g _ cur 5 hg]
    refine ⟨?_, rfl⟩
    rw [Array.getElem?_eq_getElem (by omega)]
    rfl
  · rintro e w' (⟨hroom, rfl, rfl⟩ | ⟨_, v', rfl, ho, hb⟩)
    · have h1 := (hown.alloc (.cells #[] 50)).alloc (.cells (Lib.byteCells (Lib.beBytes 2 v)).toArray 5)
      have h2 := own_spare (Lib.byteCells (Lib.beBytes 2 v)) n _ xs h1 (by omega)
      rw [hl2] at h2
      refine ⟨_, rfl, by simpa using h2, ?_⟩
      have g1 := grown_trans (World.grownBy_alloc w (.cells #[] 50) (some g)) (World.grownBy_alloc _ (.cells (Lib.byteCells (Lib.beBytes 2 v)).toArray 5) (some g))
      simpa [Value.ownBlock] using grown_trans g1 (grown_setCells g (Lib.byteCells (Lib.beBytes 2 v)) n _)
    · exact ⟨v', rfl, own_le ho (by omega), grown_of_below _ hb⟩

theorem step_all {ps : List (Nat × List UInt8)} {k tg : Nat} {bs : List UInt8} (hall : ∀ p ∈ ps.take k, parLen p ≤ 65528) (hp : ps[k]? = some (tg, bs)) (hL : 4 + bs.length ≤ 65528) : ∀ p ∈ ps.take (k + 1), parLen p ≤ 65528 := by
  intro q hq
  rw [take_snoc hp, List.mem_append, List.mem_singleton] at hq
  rcases hq with hq | rfl
  · exact hall q hq
  · exact hL
theorem step_own {ps : List (Nat × List UInt8)} {k tg kind B : Nat} {bs : List UInt8} {w : World} {v : Value} (hp : ps[k]? = some (tg, bs))
    (h : w.ownsRow B 5 1 v (8 + (bodyOf (ps.take k)).length + 2 + 2 + bs.length + pad (4 + bs.length)) (Lib.byteCells (hd4 kind ++ ([0, 0, 0, 0] ++ bodyOf (ps.take k))) ++ Lib.byteCells (Lib.beBytes 2 tg) ++ Lib.byteCells (Lib.beBytes 2 (4 + bs.length)) ++ Lib.byteCells bs ++ List.replicate (pad (4 + bs.length)) (.int .u8 0))) :
    w.ownsRow B 5 1 v (8 + (bodyOf (ps.take (k + 1))).length) (Lib.byteCells (hd4 kind ++ ([0, 0, 0, 0] ++ bodyOf (ps.take (k + 1))))) := by
  rw [← byteCells_zeros, ← byteCells_append, ← byteCells_append, ← byteCells_append, ← byteCells_append] at h
  rw [take_snoc hp, bodyOf_snoc]
  have e1 : hd4 kind ++ ([0, 0, 0, 0] ++ (bodyOf (ps.take k) ++ parBytes (tg, bs))) = hd4 kind ++ ([0, 0, 0, 0] ++ bodyOf (ps.take k)) ++ Lib.beBytes 2 tg ++ Lib.beBytes 2 (4 + bs.length) ++ bs ++ List.replicate (pad (4 + bs.length)) 0 := by
    simp [parBytes, parLen]
  have e2 : 8 + (bodyOf (ps.take k) ++ parBytes (tg, bs)).length = 8 + (bodyOf (ps.take k)).length + 2 + 2 + bs.length + pad (4 + bs.length) := by
    rw [List.length_append, parBytes_length]; simp only [parLen]; omega
  rw [e1, e2]
  exact h

theorem put_own {kind B T g cap : Nat} {ps : List (Nat × List UInt8)} {w : World} (hT : T = 8 + (bodyOf ps).length)
    (h : w.ownsRow B 5 1 (.slice (some ⟨g, 0, none⟩) T cap) T ((Lib.byteCells (hd4 kind ++ ([0, 0, 0, 0] ++ bodyOf ps))).take 4 ++ Lib.byteCells (Lib.beBytes 4 T) ++ (Lib.byteCells (hd4 kind ++ ([0, 0, 0, 0] ++ bodyOf ps))).drop (4 + (Lib.byteCells (Lib.beBytes 4 T)).length))) :
    w.ownsRow B 5 1 (.slice (some ⟨g, 0, none⟩) T cap) T (Lib.byteCells (msgBytes kind ps)) := by
  have hl : (Lib.byteCells (Lib.beBytes 4 T)).length = 4 := by rw [byteCells_length, Lib.beBytes_length]
  have e1 : (Lib.byteCells (hd4 kind ++ ([0, 0, 0, 0] ++ bodyOf ps))).take 4 = Lib.byteCells (hd4 kind) := by
    rw [byteCells_append]; exact List.take_left' (by simp [byteCells_length, hd4])
  have e2 : (Lib.byteCells (hd4 kind ++ ([0, 0, 0, 0] ++ bodyOf ps))).drop (4 + (Lib.byteCells (Lib.beBytes 4 T)).length) = Lib.byteCells (bodyOf ps) := by
    rw [hl, ← List.append_assoc, byteCells_append]; exact List.drop_left' (by simp [byteCells_length, hd4])
  rw [e1, e2, ← byteCells_append, ← byteCells_append, List.append_assoc] at h
  rw [msgBytes, ← hT]
  exact h

theorem own_start (kind : Nat) (hk : kind < 65536) (w : World) :
    (w.alloc (.cells ((((Array.replicate 64 (Value.int IntKind.u8 0)).setIfInBounds 0 (Value.int IntKind.u8 1)).setIfInBounds 2 (Value.int IntKind.u8 (↑kind / 256))).setIfInBounds 3 (Value.int IntKind.u8 (↑kind % 256))) 5)).ownsRow w.heap.size 5 1
      (.slice (some ⟨w.heap.size, 0, none⟩) 8 64) 8 (Lib.byteCells (hd4 kind ++ [0, 0, 0, 0])) := by
  refine ⟨by simp [Lib.byteCells, hd4], .inr ⟨w.heap.size, 64, _, rfl, Nat.le_refl _, heap_alloc_new w _, by decide, by simp [maxLen], by simp, ?_⟩⟩
  have e1 : ((((Array.replicate 64 (Value.int IntKind.u8 0)).setIfInBounds 0 (Value.int IntKind.u8 1)).setIfInBounds 2 (Value.int IntKind.u8 ((kind : Int) / 256))).setIfInBounds 3 (Value.int IntKind.u8 ((kind : Int) % 256))).toList.take (8 * 1) = [.int .u8 1, .int .u8 0, .int .u8 ((kind : Int) / 256), .int .u8 ((kind : Int) % 256), .int .u8 0, .int .u8 0, .int .u8 0, .int .u8 0] := rfl
  have e2 : (((kind / 256).toUInt8.toNat : Nat) : Int) = (kind : Int) / 256 := by
    rw [show (kind / 256).toUInt8.toNat = kind / 256 from by simp [Nat.toUInt8, UInt8.toNat_ofNat']; omega]; omega
  have e3 : (((kind % 256).toUInt8.toNat : Nat) : Int) = (kind : Int) % 256 := by
    rw [Lib.toUInt8_mod]; omega
  rw [e1]
  simp only [Lib.byteCells, hd4, List.cons_append, List.nil_append, List.map_cons, List.map_nil, e2, e3]
  rfl

set_option maxHeartbeats 400000 in
theorem encode_any (F : Interp) (mb mo kind : Nat) (pa : Option Addr) (pc : Nat) (ps : List (Nat × List UInt8)) (w : World) (hF : F.answers w.tape)
    (hk : kind < 65536) (hnp : ps.length ≤ 20000) (ht : ∀ p ∈ ps, p.1 < 65536) (hlen : ∀ p ∈ ps, p.2.length ≤ 140737488355328)
    (hm0 : w.cell? ⟨mb, mo, none⟩ = some (.int .u16 kind)) (hm1 : w.cell? ⟨mb, mo + 1, none⟩ = some (.slice pa ps.length pc)) (hps : ParsAt w pa ps) :
    Calls Ybaf.prog 8 #[.pointer (some ⟨mb, mo, none⟩)] w fun e w' => Below w.heap.size w w' ∧
      ((Fits ps ∧ ∃ v, e = .returned (.tuple #[v, .nilIface]) ∧ w'.ownsRow w.heap.size 5 1 v (8 + (bodyOf ps).length) (Lib.byteCells (msgBytes kind ps))) ∨
       (¬ Fits ps ∧ ∃ x, e = .returned (.tuple #[.slice none 0 0, .iface 63 x]))) := by
  have hmb : mb < w.heap.size := World.block_lt_of_cell? w _ hm0
  have hmne : ¬ mb = w.heap.size := by omega
  have hmk : ∀ w, (Instr.makeSlice 25 (.int .i64 8) (.int .i64 64)).run Ybaf.prog w = .ok (.slice (some ⟨w.heap.size, 0, none⟩) 8 64) (w.alloc (.cells (Array.replicate 64 (.int .u8 0)) 5)) := fun _ => by kernel_rfl
  go_enter Ybaf.func8, Ybaf.ntmps8
  go_wp2_with (first | (go_at_call 13; refine (class_any _ _ (by omega) (by omega)).mono ?_; rintro e w' ⟨rfl, rfl⟩))
  obtain ⟨w0, hw0⟩ : ∃ w0, w0 = w.alloc (.cells ((((Array.replicate 64 (Value.int IntKind.u8 0)).setIfInBounds 0 (Value.int IntKind.u8 1)).setIfInBounds 2 (Value.int IntKind.u8 (↑kind / 256))).setIfInBounds 3 (Value.int IntKind.u8 (↑kind % 256))) 5) := ⟨_, rfl⟩
  have hown0 := own_start kind hk w
  rw [← hw0] at hown0 ⊢
  have hb0 : Below w.heap.size w w0 := by rw [hw0]; exact (Below.refl _ _).alloc (Nat.le_refl _) _
  clear hw0 hmk hm0 hm1
  go_loopw [4, 30] (fun v i wr => ∃ k : Nat, k ≤ ps.length ∧ i = .int .i64 k ∧ (∀ p ∈ ps.take k, parLen p ≤ 65528) ∧ wr.ownsRow w.heap.size 5 1 v (8 + (bodyOf (ps.take k)).length) (Lib.byteCells (hd4 kind ++ ([0, 0, 0, 0] ++ bodyOf (ps.take k)))) ∧ Below w.heap.size w wr) (fun _ i _ => ps.length - (intOf i).toNat)
  case atStart => exact ⟨0, Nat.zero_le _, rfl, by simp, by simpa [bodyOf] using hown0, hb0⟩
  case round =>
    obtain ⟨k, hk, rfl, hall, hown, hnx⟩ := hrel
    clear hown0 hb0
    have hbl := bodyOf_length_le _ hall
    have htl : (ps.take k).length = k := by simp; omega
    rw [htl] at hbl
    have hsz := hnx.size
    have hFr : F.answers wr.tape := by rw [hnx.tape]; exact hF
    by_cases hlt : k < ps.length
    · obtain ⟨p, hp⟩ : ∃ p, ps[k]? = some p := ⟨ps[k], by simp [hlt]⟩
      have hpm : p ∈ ps := List.mem_of_getElem? hp
      obtain ⟨g, o, rfl, hc0, va, c, hc1, hbs⟩ := hps k p hp
      have hc0 := cell_below hnx hc0
      have hc1 := cell_below hnx hc1
      have hbs0 := hbs
      have hbs := hbs.below hnx
      have hpt := ht p hpm
      have hpl := hlen p hpm
      obtain ⟨tg, bs⟩ := p
      simp only at hc0 hc1 hbs hbs0 hpt hpl
      have hpd := pad_lt (4 + bs.length)
      by_cases hL : 4 + bs.length ≤ 65528
      · go_wp2_with fail
        -- THE TAG
        refine (append16 w.heap.size (8 + (bodyOf (ps.take k)).length) tg hpt _ _ _ (hown.alloc _) (by omega) (by simp; omega) (by omega)).mono ?_
        rintro e w1 ⟨v1, rfl, hown1, hg1⟩
        have hP1 := grown_block hg1 (heap_alloc_new wr (.cells #[.int .u16 tg, .slice va bs.length c] 46)) (own_ne (hown.alloc _) (heap_alloc_new wr (.cells #[.int .u16 tg, .slice va bs.length c] 46)) (by decide))
        have hn1 : Below w.heap.size w w1 := (hnx.alloc hsz _).grown hg1 (by simp; omega) (own_row_ge hown)
        have hs1 := hn1.size
        have hx1 := cell_of_row w1 wr.heap.size 1 _ _ _ hP1
        simp at hx1
        clear hg1
        go_wp2_with fail
        -- THE LENGTH
        rw [show (4 + (bs.length : Int)) = ((4 + bs.length : Nat) : Int) from by omega]
        refine (append16 w.heap.size (8 + (bodyOf (ps.take k)).length + 2) (4 + bs.length) (by omega) _ _ _ hown1 (by omega) hs1 (by omega)).mono ?_
        rintro e w2 ⟨v2, rfl, hown2, hg2⟩
        have hP2 := grown_block hg2 hP1 (own_ne hown1 hP1 (by decide))
        have hn2 : Below w.heap.size w w2 := hn1.grown hg2 hs1 (own_row_ge hown1)
        have hs2 := hn2.size
        have hx2 := cell_of_row w2 wr.heap.size 1 _ _ _ hP2
        simp at hx2
        have hbs2 := hbs0.below hn2
        clear hg2 hP1 hx1 hown1 hn1 hs1
        -- THE VALUE
        obtain ⟨i5, hi, hz0, hz1, hz2⟩ := info_parts Ybaf.info5
        go_wp2_with (at_builtin; refine wpList_append_src _ rfl (.tmp 59) (.tmp 61) 25 rfl w.heap.size 5 i5 (.int .u8 0) 1 1 Ybaf.underlying25 hi hz0 hz1 hz2 rfl (by decide) _ _ _ rfl hown2 va bs.length c (Lib.byteCells bs) rfl (by rw [byteCells_length]; omega) (fun h => by have := hbs2.1 h; simp [this.1, this.2]) hbs2.2 (byteCells_one _) (by unfold maxLen; omega) (by omega) hs2 ?_)
        intro v3 w3 hown3 hg3
        have hn3 : Below w.heap.size w w3 := hn2.grown hg3 hs2 (own_row_ge hown2)
        have hs3 := hn3.size
        clear hg3 hP2 hx2 hown2 hn2 hs2 hbs2
        -- THE PADDING
        go_wp2_with fail
        try rw [show (4 + (bs.length : Int)) = ((4 + bs.length : Nat) : Int) from by omega]
        refine (padding_any (4 + bs.length) _ (by omega)).mono ?_
        rintro e w3' ⟨rfl, rfl⟩
        go_wp2_with (at_builtin; refine wpList_append_zeros _ rfl (.tmp 63) (.tmp 65) 25 3 rfl w.heap.size 5 i5 (.int .u8 0) 1 .i64 .i64 Ybaf.underlying25 Ybaf.underlying3 hi hz0 hz1 hz2 rfl rfl _ _ _ rfl hown3 (by omega) _ (pad (4 + bs.length)) rfl rfl (by unfold maxLen; omega) (by omega) hs3 ?_)
        intro v4 w4 hown4 hg4
        have hn4 : Below w.heap.size w w4 := hn3.grown hg4 hs3 (own_row_ge hown3)
        clear hg4 hown3 hn3 hs3
        go_wp2
        go_roundw
        case rel => exact ⟨k + 1, by omega, by go_num, step_all hall hp hL, step_own hp (by simpa only [List.append_assoc, List.cons_append, List.nil_append] using hown4), hn4⟩
        case measure => simp [intOf]; omega
      · go_wp2_with fail
        refine (errorf_long F tg bs.length _ _ (by exact hFr) (by simp) (by simp)).mono ?_
        rintro e w1 ⟨⟨x, rfl⟩, hb1⟩
        go_wp2
        go_ret2
        exact ⟨((hnx.alloc hsz _).alloc (by simp; omega) _).trans (hb1.mono (by simp; omega)), Or.inr ⟨fun hf => hL (hf.1 _ hpm), x, rfl⟩⟩
    · have hke : ps.take k = ps := List.take_of_length_le (by omega)
      rw [hke] at hown hall hbl
      obtain ⟨T, hTe⟩ : ∃ T, T = 8 + (bodyOf ps).length := ⟨_, rfl⟩
      rw [← hTe] at hown
      have hT8 : 8 ≤ T := by omega
      have hTb : T ≤ 140737488355328 := by omega
      have HT : Hid (T = 8 + (bodyOf ps).length) := hTe
      obtain ⟨g, cap, rfl, hbg, hnc, hgl⟩ := own_form hown (by omega)
      clear hke htl hTe hbl hps ht
      by_cases hT : T ≤ 65536
      · have q0 : wr.cell? ⟨g, 4, none⟩ = some (.int .u8 0) := (hown.cellAt 4 (by omega)).trans rfl
        have q1 : wr.cell? ⟨g, 4 + 1, none⟩ = some (.int .u8 0) := (hown.cellAt 5 (by omega)).trans rfl
        have q2 : wr.cell? ⟨g, 4 + 2, none⟩ = some (.int .u8 0) := (hown.cellAt 6 (by omega)).trans rfl
        have q3 : wr.cell? ⟨g, 4 + 3, none⟩ = some (.int .u8 0) := (hown.cellAt 7 (by omega)).trans rfl
        have f0 := hown.frozenAt 4
        have f1 : wr.frozen? ⟨g, 4 + 1, none⟩ = false := hown.frozenAt 5
        have f2 : wr.frozen? ⟨g, 4 + 2, none⟩ = false := hown.frozenAt 6
        have f3 : wr.frozen? ⟨g, 4 + 3, none⟩ = false := hown.frozenAt 7
        have i1 : (4 : Int) ≤ (T : Int) := by omega
        have i2 : (T : Int) ≤ (cap : Int) := by omega
        have i3 : (4 : Int) ≤ (cap : Int) := by omega
        have hc4 : ¬ cap = 4 := by omega
        have hwr : IntKind.u32.wrap (T : Int) = T := by rw [IntKind.wrap_u32]; omega
        go_wp2_with fail
        go_region_held3 (fun _ => True) (trivial)
          (first | (go_at_call 17; refine (Ybaf.binary_BE_PutUint32 g 4 (T - 4) (cap - 4) T (by omega) _ _ _ _ _ (by omega) (by exact q0) (by exact q1) (by exact q2) (by exact q3) (by exact f0) (by exact f1) (by exact f2) (by exact f3)).mono ?_; rintro e w1 ⟨rfl, rfl⟩))
        go_wp2
        go_ret2
        refine ⟨?_, Or.inl ⟨⟨hall, by rw [← HT.out]; exact hT⟩, _, rfl, ?_⟩⟩
        · exact (hnx.drew.alloc hsz _).grown (grown_setCells g _ _ _) (by simp; omega) (fun q hq => by simp at hq; omega)
        · rw [← HT.out]
          exact put_own HT.out (own_setCells (Lib.byteCells (Lib.beBytes 4 T)) 4 _ _ (hown.drew.alloc _) (by rw [byteCells_length, byteCells_length, Lib.beBytes_length]; simp [hd4]))
      · go_wp2_with fail
        refine (errorf_whole F (T : Int) 65536 _ _ (by exact hFr) (by simp) (by simp)).mono ?_
        rintro e w1 ⟨⟨x, rfl⟩, hb1⟩
        go_wp2
        go_ret2
        exact ⟨(hnx.alloc hsz _).trans (hb1.mono (by simp; omega)), Or.inr ⟨fun hf => hT (by rw [HT.out]; exact hf.2), x, rfl⟩⟩

theorem encode_hid (F : Interp) (mb mo kind : Nat) (pa : Option Addr) (pc : Nat) (ps : List (Nat × List UInt8)) (w : World) (hF : F.answers w.tape)
    (hk : kind < 65536) (hnp : ps.length ≤ 20000) (ht : ∀ p ∈ ps, p.1 < 65536) (hlen : ∀ p ∈ ps, p.2.length ≤ 140737488355328)
    (hm0 : w.cell? ⟨mb, mo, none⟩ = some (.int .u16 kind)) (hm1 : w.cell? ⟨mb, mo + 1, none⟩ = some (.slice pa ps.length pc)) (hps : ParsAt w pa ps) :
    Hid (Calls Ybaf.prog 8 #[.pointer (some ⟨mb, mo, none⟩)] w fun e w' => Below w.heap.size w w' ∧
      ((Fits ps ∧ ∃ v, e = .returned (.tuple #[v, .nilIface]) ∧ w'.ownsRow w.heap.size 5 1 v (8 + (bodyOf ps).length) (Lib.byteCells (msgBytes kind ps))) ∨
       (¬ Fits ps ∧ ∃ x, e = .returned (.tuple #[.slice none 0 0, .iface 63 x])))) :=
  encode_any F mb mo kind pa pc ps w hF hk hnp ht hlen hm0 hm1 hps
end Go.Proofs.YbulkcrpmFmt
