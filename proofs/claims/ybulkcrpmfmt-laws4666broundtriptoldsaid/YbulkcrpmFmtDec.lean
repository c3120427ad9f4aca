/-
  Decode (function 11) BY ITS CONTRACT, at the octets of a message that fits.
-/
import Derived.Test.YbulkcrpmFmtEnc
import Derived.Test.YbulkcrpmFmtMk
import Derived.Test.YbulkcrpmFmtHead
import Derived.Test.YbulkcrpmFmtEq
import Derived.Laws.BitsAllLaws
namespace Go.Proofs.YbulkcrpmFmt
open Go Go.RowKit

theorem kind_or (kind : Nat) (hk : kind < 65536) : bits BinOp.or IntKind.u16 ((kind : Int) / 256 * 256) ((kind : Int) % 256) = kind := by
  have h := u16_or_nat (kind / 256 * 256) (kind % 256) (by omega) (by omega)
  have h2 : kind / 256 * 256 ||| kind % 256 = kind := by
    have := Nat.two_pow_add_eq_or_of_lt (i := 8) (b := kind % 256) (by omega) (kind / 256)
    rw [Nat.mul_comm] at this
    rw [← this]
    omega
  rw [h2] at h
  rw [show ((kind / 256 * 256 : Nat) : Int) = (kind : Int) / 256 * 256 from by omega, show ((kind % 256 : Nat) : Int) = (kind : Int) % 256 from by omega] at h
  exact h
theorem wrap64_small (T : Nat) (h : T ≤ 65536) : IntKind.i64.wrap (T : Int) = T := by rw [IntKind.wrap_i64]; omega

theorem undrew {B : Nat} {w w' : World} (h : Below B w.drew w') : Below B w w' := ⟨h.os, h.tape, h.output, h.size, h.block⟩
theorem own_kept {w w' : World} {base : Nat} {e : TypeId} {size n : Nat} {v : Value} {xs : List Value} (h : w.ownsRow base e size v n xs) (hb : Below w.heap.size w w') : w'.ownsRow base e size v n xs :=
  h.kept (grown_of_below none hb) (by cases hv : v.ownBlock <;> simp)

theorem dec_val {w : World} {g Q N : Nat} {bs : List UInt8} (hN : N = 4 + bs.length) (h : ∀ (j : Nat) (u : Value), (Lib.byteCells bs)[j]? = some u → w.cell? ⟨g, Q + 4 + j, none⟩ = some u) :
    BytesAt w (if N = 4 then some ⟨g, Q, none⟩ else some ⟨g, Q + 4, none⟩) (N - 4) bs := by
  refine ⟨fun e => by split at e <;> simp at e, fun a ha j u hu => ?_⟩
  have hj := (List.getElem?_eq_some_iff.1 hu).1
  rw [byteCells_length] at hj
  rw [if_neg (by omega)] at ha
  simp only [Option.some.injEq] at ha
  subst ha
  rw [Addr.add_lit]
  exact h j u hu

/-- Where the k-th parameter's octets lie. -/
theorem dec_cells {g T Q k tg : Nat} {bs : List UInt8} {ps : List (Nat × List UInt8)} {w : World} (hTe : T = 8 + (bodyOf ps).length) (hQ : Q = 8 + (bodyOf (ps.take k)).length) (hp : ps[k]? = some (tg, bs))
    (m8 : ∀ (j : Nat) (u : Value), (Lib.byteCells (bodyOf ps))[j]? = some u → w.cell? ⟨g, 8 + j, none⟩ = some u) :
    Q + (4 + bs.length) + pad (4 + bs.length) ≤ T ∧
    (∀ (j : Nat) (u : Value), (Lib.byteCells (Lib.beBytes 2 tg))[j]? = some u → w.cell? ⟨g, Q + j, none⟩ = some u) ∧
    (∀ (j : Nat) (u : Value), (Lib.byteCells (Lib.beBytes 2 (4 + bs.length)))[j]? = some u → w.cell? ⟨g, Q + 2 + j, none⟩ = some u) ∧
    (∀ (j : Nat) (u : Value), (Lib.byteCells bs)[j]? = some u → w.cell? ⟨g, Q + 4 + j, none⟩ = some u) := by
  have hsp : bodyOf ps = bodyOf (ps.take k) ++ (parBytes (tg, bs) ++ bodyOf (ps.drop (k + 1))) := by
    have h1 : bodyOf ps = bodyOf (ps.take (k + 1)) ++ bodyOf (ps.drop (k + 1)) := by
      rw [bodyOf, bodyOf, bodyOf, ← List.flatMap_append, List.take_append_drop]
    rw [h1, take_snoc hp, bodyOf_snoc, List.append_assoc]
  have hl := congrArg List.length hsp
  simp only [List.length_append, parBytes_length, parLen] at hl
  have hcell : ∀ (i : Nat) (u : Value), (Lib.byteCells (parBytes (tg, bs)))[i]? = some u → w.cell? ⟨g, Q + i, none⟩ = some u := by
    intro i u hu
    have hi : i < (parBytes (tg, bs)).length := by have := (List.getElem?_eq_some_iff.1 hu).1; rwa [byteCells_length] at this
    rw [show Q + i = 8 + ((bodyOf (ps.take k)).length + i) from by omega]
    refine m8 _ u ?_
    rw [hsp, byteCells_append, byteCells_append, List.getElem?_append_right (by rw [byteCells_length]; omega), byteCells_length, show (bodyOf (ps.take k)).length + i - (bodyOf (ps.take k)).length = i from by omega, List.getElem?_append_left (by rw [byteCells_length]; exact hi)]
    exact hu
  have e1 : Lib.byteCells (parBytes (tg, bs)) = Lib.byteCells (Lib.beBytes 2 tg) ++ (Lib.byteCells (Lib.beBytes 2 (4 + bs.length)) ++ (Lib.byteCells bs ++ Lib.byteCells (List.replicate (pad (4 + bs.length)) 0))) := by
    simp only [parBytes, parLen, byteCells_append]
  have l1 : (Lib.byteCells (Lib.beBytes 2 tg)).length = 2 := by rw [byteCells_length, Lib.beBytes_length]
  have l2 : (Lib.byteCells (Lib.beBytes 2 (4 + bs.length))).length = 2 := by rw [byteCells_length, Lib.beBytes_length]
  refine ⟨by omega, ?_, ?_, ?_⟩
  · intro j u hu
    have hj := (List.getElem?_eq_some_iff.1 hu).1
    refine hcell j u ?_
    rw [e1, List.getElem?_append_left hj]
    exact hu
  · intro j u hu
    have hj := (List.getElem?_eq_some_iff.1 hu).1
    rw [Nat.add_assoc]
    refine hcell (2 + j) u ?_
    rw [e1, List.getElem?_append_right (by omega), l1, show 2 + j - 2 = j from by omega, List.getElem?_append_left hj]
    exact hu
  · intro j u hu
    have hj := (List.getElem?_eq_some_iff.1 hu).1
    rw [Nat.add_assoc]
    refine hcell (4 + j) u ?_
    rw [e1, List.getElem?_append_right (by omega), l1, List.getElem?_append_right (by omega), l2, show 4 + j - 2 - 2 = j from by omega, List.getElem?_append_left hj]
    exact hu

set_option maxHeartbeats 800000 in
theorem decode_any (g cap T kind : Nat) (ps : List (Nat × List UInt8)) (w : World) (hk : kind < 65536) (hfit : Fits ps) (hTe : T = 8 + (bodyOf ps).length) (hcap : T ≤ cap) (hnp : ps.length ≤ 20000) (ht : ∀ p ∈ ps, p.1 < 65536)
    (m0 : w.cell? ⟨g, 0, none⟩ = some (.int .u8 1)) (m2 : w.cell? ⟨g, 2, none⟩ = some (.int .u8 ((kind : Int) / 256))) (m3 : w.cell? ⟨g, 3, none⟩ = some (.int .u8 ((kind : Int) % 256)))
    (m4 : ∀ (j : Nat) (u : Value), (Lib.byteCells (Lib.beBytes 4 T))[j]? = some u → w.cell? ⟨g, 4 + j, none⟩ = some u)
    (m8 : ∀ (j : Nat) (u : Value), (Lib.byteCells (bodyOf ps))[j]? = some u → w.cell? ⟨g, 8 + j, none⟩ = some u) :
    Calls Ybaf.prog 11 #[.slice (some ⟨g, 0, none⟩) T cap] w fun e w' => ∃ mB, e = .returned (.tuple #[.pointer (some ⟨mB, 0, none⟩), .nilIface]) ∧ Below w.heap.size w w' ∧ w.heap.size ≤ mB ∧ w'.cell? ⟨mB, 0, none⟩ = some (.int .u16 kind) ∧
      ∃ pa pc, w'.cell? ⟨mB, 1, none⟩ = some (.slice pa ps.length pc) ∧ ParsAt w' pa ps := by
  have hTb : T ≤ 65536 := by have := hfit.2; omega
  have hT8 : 8 ≤ T := by omega
  have hg : g < w.heap.size := World.block_lt_of_cell? w _ m0
  have HTE : Hid (T = 8 + (bodyOf ps).length) := hTe
  have HM4 : Hid (∀ (j : Nat) (u : Value), (Lib.byteCells (Lib.beBytes 4 T))[j]? = some u → w.cell? ⟨g, 4 + j, none⟩ = some u) := m4
  have HM8 : Hid (∀ (j : Nat) (u : Value), (Lib.byteCells (bodyOf ps))[j]? = some u → w.cell? ⟨g, 8 + j, none⟩ = some u) := m8
  clear hTe m4 m8
  have i4 : (4 : Int) ≤ (T : Int) := by omega
  have i5 : (T : Int) ≤ (cap : Int) := by omega
  have i6 : (4 : Int) ≤ (cap : Int) := by omega
  have hc4 : ¬ cap = 4 := by omega
  have hwT := wrap64_small T hTb
  have j2 : (2 : Int) < (T : Int) := by omega
  have j3 : (3 : Int) < (T : Int) := by omega
  have j8 : (8 : Int) ≤ (T : Int) := by omega
  have j9 : (8 : Int) ≤ (cap : Int) := by omega
  have hw1 : IntKind.u16.wrap ((kind : Int) / 256) = (kind : Int) / 256 := by rw [IntKind.wrap_u16]; omega
  have hw2 : IntKind.u16.wrap ((kind : Int) / 256 * 256) = (kind : Int) / 256 * 256 := by rw [IntKind.wrap_u16]; omega
  have hw3 : IntKind.u16.wrap ((kind : Int) % 256) = (kind : Int) % 256 := by rw [IntKind.wrap_u16]; omega
  have hor := kind_or kind hk
  by_cases hc8 : cap = 8
  · have hp0 : ps = [] := by
      cases ps with
      | nil => rfl
      | cons p ps =>
        have h1 := HTE.out
        have h2 := parBytes_length p
        simp only [bodyOf, List.flatMap_cons, List.length_append, parLen] at h1 h2
        omega
    subst hp0
    have hT : T = 8 := by omega
    subst hc8 hT
    go_enter Ybaf.func11, Ybaf.ntmps11
    go_wp2_with fail
    go_region_held3 (fun _ => True) (trivial)
      (first | (go_at_call 12; refine (uint32_at g 4 4 4 8 _ (by omega) (by omega) (by exact HM4.out)).mono ?_; rintro e w1 ⟨rfl, hb1⟩))
    all_goals go_wp2_with fail
    have k2 := cell_below hb1 (show w.drew.cell? _ = _ from m2)
    have k3 := cell_below hb1 (show w.drew.cell? _ = _ from m3)
    have hgl : g < w1.heap.size := World.block_lt_of_cell? w1 _ k2
    have hb1' : Below w.heap.size w w1 := (Below.refl _ w).drew.trans hb1
    go_region_held3 (fun w' => w'.cell? ⟨g, 2, none⟩ = some (.int .u8 ((kind : Int) / 256)) ∧ w'.cell? ⟨g, 3, none⟩ = some (.int .u8 ((kind : Int) % 256))) (go_keep) (fail)
    all_goals go_wp2_with fail
    refine wp_loop_rounds 1 ?_
    rw [rounds_succ]
    go_wp2
    go_ret2
    exact ⟨w1.heap.size, rfl, (hb1'.alloc hb1'.size _).drew, hb1'.size, by simp, none, 0, by simp, fun i p hp => by simp at hp⟩
  go_enter Ybaf.func11, Ybaf.ntmps11
  go_wp2_with fail
  go_region_held3 (fun _ => True) (trivial)
    (first | (go_at_call 12; refine (uint32_at g 4 (T - 4) (cap - 4) T _ (by omega) (by omega) (by exact HM4.out)).mono ?_; rintro e w1 ⟨rfl, hb1⟩))
  all_goals go_wp2_with fail
  have k2 := cell_below hb1 (show w.drew.cell? _ = _ from m2)
  have k3 := cell_below hb1 (show w.drew.cell? _ = _ from m3)
  have hgl : g < w1.heap.size := World.block_lt_of_cell? w1 _ k2
  go_region_held3 (fun w' => w'.cell? ⟨g, 2, none⟩ = some (.int .u8 ((kind : Int) / 256)) ∧ w'.cell? ⟨g, 3, none⟩ = some (.int .u8 ((kind : Int) % 256))) (go_keep) (fail)
  all_goals go_wp2_with fail
  obtain ⟨w0, hw0⟩ : ∃ w0, w0 = (w1.alloc (.cells #[.int .u16 kind, .slice none 0 0] 43)).drew := ⟨_, rfl⟩
  rw [← hw0]
  have hM0 : w0.heap[w1.heap.size]? = some (.cells #[.int .u16 kind, .slice none 0 0] 43 (0, 0)) := by rw [hw0]; exact heap_alloc_new w1 _
  have hb1' : Below w.heap.size w w1 := (Below.refl _ w).drew.trans hb1
  have hs1 : w.heap.size ≤ w1.heap.size := hb1'.size
  have hb0 : Below w.heap.size w w0 := by rw [hw0]; exact (hb1'.alloc hs1 _).drew
  clear hw0 k2 k3 hgl hb1 hor hw1 hw2 hw3 m0 m2 m3 hb1' HM4
  obtain ⟨i46, ki, kz0, kz1, kz2⟩ := info_parts (show (Ybaf.prog.info? 46).map (fun i => (i.zero, i.size, i.bytes)) = some (some (.agg #[.int .u16 0, .slice none 0 0]), 2, 32) from by kernel_rfl)
  go_loopw [5] (fun rest wr => ∃ (k : Nat) (xs : List Value) (v : Value) (ra : Option Addr) (R C : Nat), k ≤ ps.length ∧ rest = .slice ra R C ∧ R + (8 + (bodyOf (ps.take k)).length) = T ∧ C + (8 + (bodyOf (ps.take k)).length) = cap ∧ (0 < R → ra = some ⟨g, 8 + (bodyOf (ps.take k)).length, none⟩) ∧
      wr.heap[w1.heap.size]? = some (.cells #[.int .u16 kind, v] 43 (0, 0)) ∧ wr.ownsRow w.heap.size 46 2 v k xs ∧ RowOf w ps k xs ∧ Below w.heap.size w wr) (fun rest _ => sliceLen rest)
  case atStart => exact ⟨0, [], .slice none 0 0, _, _, _, Nat.zero_le _, rfl, by simp [bodyOf]; omega, by simp [bodyOf]; omega, by simp [bodyOf], hM0, World.ownsRow_nil w0 w.heap.size 46 2, fun i p hi => by omega, hb0⟩
  case round =>
    obtain ⟨k, xs, v, ra, R, C, hkl, rfl, hR, hC, hra, hM, hown, hrow, hnx⟩ := hrel
    clear hM0 hb0
    by_cases hlt : k < ps.length
    · obtain ⟨p, hp⟩ : ∃ p, ps[k]? = some p := ⟨ps[k], by simp [hlt]⟩
      have hpm : p ∈ ps := List.mem_of_getElem? hp
      have hpt := ht p hpm
      have hL := hfit.1 p hpm
      obtain ⟨tg, bs⟩ := p
      simp only [parLen] at hpt hL
      obtain ⟨Q, hQ⟩ : ∃ Q, Q = 8 + (bodyOf (ps.take k)).length := ⟨_, rfl⟩
      obtain ⟨d1, d2, d3, d4⟩ := dec_cells HTE.out hQ hp HM8.out
      obtain ⟨N, hN⟩ : ∃ N, N = 4 + bs.length := ⟨_, rfl⟩
      rw [← hN] at d1 d3 hL
      rw [← hQ] at hR hC hra
      have hR4 : N + pad N ≤ R := by omega
      have hra := hra (by omega)
      subst hra
      have HQ : Hid (Q = 8 + (bodyOf (ps.take k)).length) := hQ
      have HB : Hid ((bodyOf (ps.take (k + 1))).length = (bodyOf (ps.take k)).length + (N + pad N)) := by
        rw [take_snoc hp, bodyOf_snoc, List.length_append, parBytes_length, parLen, hN]
        exact rfl
      have HN : Hid (N = 4 + bs.length) := hN
      have HR : Hid (R + Q = T) := hR
      have HC : Hid (C + Q = cap) := hC
      have hN4 : 4 ≤ N := by omega
      have hRC : R ≤ C := by omega
      have c1 : (2 : Int) ≤ (R : Int) := by omega
      have c2 : (R : Int) ≤ (C : Int) := by omega
      have c3 : (2 : Int) ≤ (C : Int) := by omega
      have c4 : ¬ C = 2 := by omega
      have hwN := wrap64_small N (by omega)
      have D3 : Hid (∀ (j : Nat) (u : Value), (Lib.byteCells (Lib.beBytes 2 N))[j]? = some u → wr.cell? ⟨g, Q + 2 + j, none⟩ = some u) := fun j u hu => cell_below hnx (d3 j u hu)
      have hR0 : 0 < R := by omega
      have hRb : R ≤ 65536 := by omega
      clear d3 hR hC hQ hN
      go_wp2_with fail
      go_region_held3 (fun _ => True) (trivial)
        (first | (go_at_call 19; refine (uint16_at g (Q + 2) (R - 2) (C - 2) N _ (by omega) (by omega) (by exact D3.out)).mono ?_; rintro e w2 ⟨rfl, hb2⟩))
      all_goals go_wp2_with fail
      have hn2 : Below w.heap.size w w2 := hnx.drew.trans (hb2.mono hnx.size)
      have hM2 : w2.heap[w1.heap.size]? = some (.cells #[.int .u16 kind, v] 43 (0, 0)) := (hb2.block _ (lt_of_block hM)).trans hM
      have hown2 : w2.ownsRow w.heap.size 46 2 v k xs := own_kept hown (undrew hb2)
      have qM : w2.cell? ⟨w1.heap.size, 1, none⟩ = some v := (cell_of_row w2 w1.heap.size 1 _ _ _ hM2).trans rfl
      have hl2 : w1.heap.size < w2.heap.size := lt_of_block hM2
      have D2 : Hid (∀ (j : Nat) (u : Value), (Lib.byteCells (Lib.beBytes 2 tg))[j]? = some u → w2.cell? ⟨g, Q + j, none⟩ = some u) := fun j u hu => cell_below hn2 (d2 j u hu)
      have b1 : (4 : Int) ≤ (N : Int) := by omega
      have b2 : (N : Int) ≤ (C : Int) := by omega
      clear hM hown hnx hb2 D3 d2
      go_region_law (first | (go_simp; go_at_call 19; refine (uint16_at g Q R C tg _ (by omega) (by omega) (by exact D2.out)).mono ?_; rintro e w3 ⟨rfl, hb3⟩; have hM3 := (hb3.block _ (lt_of_block hM2)).trans hM2; have hown3 := own_kept hown2 (undrew hb3); have qM3 := (cell_of_row w3 w1.heap.size 1 _ _ _ hM3).trans rfl; have hl3 : w1.heap.size < w3.heap.size := lt_of_block hM3; have hs3 := hown3.lt) | (refine step_append_lies _ (by rfl) (.tmp 70) (.tmp 79) 41 (by rfl) w.heap.size 46 i46 (.agg #[.int .u16 0, .slice none 0 0]) 2 32 Ybaf.underlying41 ki kz0 kz1 kz2 rfl (by decide) v k xs (by rfl) (hown3.alloc _) ⟨w3.heap.size, 0, none⟩ 1 1 [.int .u16 tg, .slice (if N = 4 then some ⟨g, Q, none⟩ else some ⟨g, Q + 4, none⟩) (N - 4) (N - 4)] (by rfl) (by rfl) (news_two _ _ (by simp) _ _ _) (two_one rfl rfl) (by omega) (by unfold maxLen; omega) (by omega) (by simp; omega) (w3.heap.size + 1) (by simp) ?_; intro g1 cap1 w4 hown4 hg4 hat hlt4; have hM4 := grown_block hg4 (alloc_block hM3 _) (own_ne hown3 hM3 (by decide)); have qM4 := (cell_of_row w4 w1.heap.size 1 _ _ _ hM4).trans rfl; have fM4 := frozen_of_row w4 w1.heap.size 1 _ _ hM4))
      all_goals
        have R1 := heap_setCell_same w4 w1.heap.size 1 _ 43 (.slice (some ⟨g1, 0, none⟩) (k + 1) cap1) hM4
        have R2 : (w4.setCell ⟨w1.heap.size, 1, none⟩ (.slice (some ⟨g1, 0, none⟩) (k + 1) cap1)).ownsRow w.heap.size 46 2 (.slice (some ⟨g1, 0, none⟩) (k + 1) cap1) (k + 1) _ := ownsRow_setCell_other hown4 (a := ⟨w1.heap.size, 1, none⟩) (fun e => own_ne hown4 hM4 (by decide) e.symm) _
        have R3 := hrow.snoc hown2.1 hp (dec_val (N := N) HN.out d4)
        rw [show bs.length = N - 4 from by have := HN.out; omega] at R3
        have hbA : Below w.heap.size w (w3.alloc (.cells #[.int .u16 tg, .slice (if N = 4 then some ⟨g, Q, none⟩ else some ⟨g, Q + 4, none⟩) (N - 4) (N - 4)] 46)) := (hn2.trans ((undrew hb3).mono hn2.size)).alloc (by omega) _
        have hbB : Below w.heap.size w w4 := hbA.grown hg4 hbA.size (own_row_ge hown3)
        have R4 : Below w.heap.size w (w4.setCell ⟨w1.heap.size, 1, none⟩ (.slice (some ⟨g1, 0, none⟩) (k + 1) cap1)) := hbB.setCell (p := ⟨w1.heap.size, 1, none⟩) hs1 _
        clear hbA hbB hg4 hown4 hown3 hrow hM3 hM4 qM qM3 qM4 fM4 hb3 hM2 hown2 hn2 d4 D2
        go_wp2_with (go_at_call 16; refine (padding_any N _ (by omega)).mono ?_; rintro e w5 ⟨rfl, rfl⟩)
        go_roundw
        case rel =>
          obtain ⟨M, hM⟩ : ∃ M : Nat, M = (min ((N : Int) + (pad N : Int)) (R : Int)).toNat := ⟨_, rfl⟩
          rw [← hM]
          have hMe : M = N + pad N := by omega
          have hb := HB.out
          have hq := HQ.out
          have hr := HR.out
          have hc := HC.out
          exact ⟨k + 1, _, _, _, _, _, by omega, rfl, by omega, by omega, fun h0 => by rw [if_neg (by omega)]; congr 2; omega, R1, R2, R3, R4⟩
        case measure =>
          simp only [sliceLen]
          omega
    · have hke : ps.take k = ps := List.take_of_length_le (by omega)
      rw [hke] at hR
      have hR0 : R = 0 := by have := HTE.out; omega
      subst hR0
      have hkx : k = ps.length := by omega
      subst hkx
      obtain ⟨pa', pc', rfl, hpp⟩ := hrow.pars hnx hown
      go_wp2
      go_ret2
      exact ⟨w1.heap.size, rfl, hnx, hs1, (cell_of_row wr w1.heap.size 0 _ _ _ hM).trans rfl, pa', pc', (cell_of_row wr w1.heap.size 1 _ _ _ hM).trans rfl, hpp⟩

theorem decode_hid (g cap T kind : Nat) (ps : List (Nat × List UInt8)) (w : World) (hk : kind < 65536) (hfit : Fits ps) (hTe : T = 8 + (bodyOf ps).length) (hcap : T ≤ cap) (hnp : ps.length ≤ 20000) (ht : ∀ p ∈ ps, p.1 < 65536)
    (m0 : w.cell? ⟨g, 0, none⟩ = some (.int .u8 1)) (m2 : w.cell? ⟨g, 2, none⟩ = some (.int .u8 ((kind : Int) / 256))) (m3 : w.cell? ⟨g, 3, none⟩ = some (.int .u8 ((kind : Int) % 256)))
    (m4 : ∀ (j : Nat) (u : Value), (Lib.byteCells (Lib.beBytes 4 T))[j]? = some u → w.cell? ⟨g, 4 + j, none⟩ = some u)
    (m8 : ∀ (j : Nat) (u : Value), (Lib.byteCells (bodyOf ps))[j]? = some u → w.cell? ⟨g, 8 + j, none⟩ = some u) :
    Hid (Calls Ybaf.prog 11 #[.slice (some ⟨g, 0, none⟩) T cap] w fun e w' => ∃ mB, e = .returned (.tuple #[.pointer (some ⟨mB, 0, none⟩), .nilIface]) ∧ Below w.heap.size w w' ∧ w.heap.size ≤ mB ∧ w'.cell? ⟨mB, 0, none⟩ = some (.int .u16 kind) ∧
      ∃ pa pc, w'.cell? ⟨mB, 1, none⟩ = some (.slice pa ps.length pc) ∧ ParsAt w' pa ps) :=
  decode_any g cap T kind ps w hk hfit hTe hcap hnp ht m0 m2 m3 m4 m8
end Go.Proofs.YbulkcrpmFmt
