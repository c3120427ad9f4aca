/-
  appendEntries (30).
-/
import Derived.Test.YbulkcrtgFmtDsEn
import Derived.Deep.RegionHeld3
namespace Go.Proofs.YbulkcrtgFmt
open Go Go.RowKit

def enc1 (e : Nat × Nat) : List UInt8 := Lib.uvarint (nm e.1).size ++ (nm e.1).data.toList ++ Lib.uvarint e.2
def encE (es : List (Nat × Nat)) : List UInt8 := es.flatMap enc1
def encAll (es : List (Nat × Nat)) : List UInt8 := Lib.uvarint es.length ++ encE es
theorem encE_snoc (es : List (Nat × Nat)) (e : Nat × Nat) : encE (es ++ [e]) = encE es ++ enc1 e := by simp [encE]
theorem enc1_length (e : Nat × Nat) (h : e.2 < 18446744073709551616) : (enc1 e).length ≤ 22 := by
  obtain ⟨h1, h2, h3⟩ := nm_size e.1
  have h4 := Lib.uvarint_length64 (x := (nm e.1).size) (by omega)
  have h5 := Lib.uvarint_length64 h
  simp only [enc1, List.length_append, ← h3]; omega
theorem encE_length : ∀ (es : List (Nat × Nat)), (∀ e ∈ es, e.2 < 18446744073709551616) → (encE es).length ≤ 22 * es.length
  | [], _ => by simp [encE]
  | e :: es, h => by
    have h1 := encE_length es (fun x hx => h x (by simp [hx]))
    have h2 := enc1_length e (h e (by simp))
    simp only [encE, List.flatMap_cons, List.length_append, List.length_cons] at *
    omega

set_option maxHeartbeats 4000000 in
set_option maxRecDepth 100000 in
theorem append_ents (B n : Nat) (ea : Option Addr) (ec : Nat) (es : List (Nat × Nat)) (sv : Value) (xs : List Value) (w : World) (hown : w.ownsRow B 5 1 sv n xs) (hB : B ≤ w.heap.size) (hn : n ≤ 100000) (hes : es.length ≤ 100) (hc : ∀ e ∈ es, e.2 < 18446744073709551616) (hat : EntAt w ea es) (hne : ∀ g o, ea = some ⟨g, o, none⟩ → sv.ownBlock ≠ some g) :
    Calls Ybaf.prog 30 #[sv, .slice ea es.length ec] w fun e w' => ∃ v', e = .returned v' ∧ w'.ownsRow B 5 1 v' (n + (encAll es).length) (xs ++ Lib.byteCells (encAll es)) ∧ Grew w sv w' v' := by
  obtain ⟨m, hm⟩ : ∃ m, es.length = m := ⟨_, rfl⟩
  have HA : Hid (EntAt w ea es ∧ es.length = m ∧ w.ownsRow B 5 1 sv n xs ∧ (∀ e ∈ es, e.2 < 18446744073709551616) ∧ (∀ g o, ea = some ⟨g, o, none⟩ → sv.ownBlock ≠ some g)) := ⟨hat, hm, hown, hc, hne⟩
  rw [hm] at hes ⊢
  clear hat hm hown hc hne
  go_enter Ybaf.func30, Ybaf.ntmps30
  go_wp2_with fail
  go_at_call 41
  refine (uvlen_any m (by omega) _).mono ?_
  rintro e w1 ⟨⟨u0, hu0, hu0', rfl⟩, rfl⟩
  go_wp2_with fail
  go_loopw [5, 16] (fun vs vx wr => ∃ k sz : Nat, k ≤ m ∧ vx = .int .i64 k ∧ vs = .int .i64 sz ∧ sz ≤ 10 + 30 * k ∧ Below w1.heap.size w1 wr) (fun _ vx _ => m - (intOf vx).toNat)
  case atStart => exact ⟨0, u0, by omega, rfl, rfl, by omega, Below.refl _ _⟩
  case round =>
    obtain ⟨k, sz, hk, rfl, rfl, hsz, hBl⟩ := hrel
    by_cases hlt : k < m
    · obtain ⟨⟨a, c⟩, he⟩ : ∃ e, es[k]? = some e := ⟨es[k]'(by have := HA.out.2.1; omega), List.getElem?_eq_getElem _⟩
      obtain ⟨g, o, rfl, h0, h1⟩ := HA.out.1 k _ he
      have hcl := HA.out.2.2.2.1 _ (List.mem_of_getElem? he)
      dsimp only at hcl
      have q0 : wr.cell? ⟨g, o + k * 2, none⟩ = some (.string (nm a)) := (hBl.cell (p := ⟨g, _, none⟩) (World.block_lt_of_cell? _ _ h0)).trans h0
      have q1 : wr.cell? ⟨g, o + k * 2 + 1, none⟩ = some (.int .u64 c) := (hBl.cell (p := ⟨g, _, none⟩) (World.block_lt_of_cell? _ _ h1)).trans h1
      obtain ⟨hz, hz2, hz3⟩ := nm_size a
      obtain ⟨l0, hl0⟩ : ∃ l0, (nm a).size = l0 := ⟨_, rfl⟩
      rw [hl0] at hz hz2
      have hl0' : ((nm a).size : Int) = (l0 : Int) := by rw [hl0]
      have i1 : (0 : Int) ≤ (k : Int) := by omega
      have i2 : (k : Int) < (m : Int) := by omega
      have hwz : IntKind.u64.wrap (l0 : Int) = (l0 : Int) := by rw [IntKind.wrap_u64]; omega
      clear h0 h1 hz3 he
      go_wp2_with fail
      go_region_held3 (fun w' => w'.cell? ⟨wr.heap.size, 0, none⟩ = some (.string (nm a)) ∧ w'.cell? ⟨wr.heap.size, 1, none⟩ = some (.int .u64 c)) (go_keep) ((go_at_call 41; refine (uvlen_any _ (by omega) _).mono ?_; rintro e w2 ⟨⟨u2, hu2, hu2', rfl⟩, rfl⟩))
      rename_i uA hA1 hA2 _
      have e1 : IntKind.i64.wrap ((uA : Int) + (l0 : Int)) = ((uA + l0 : Nat) : Int) := by rw [IntKind.wrap_i64]; omega
      have e2 : IntKind.i64.wrap (((uA + l0 : Nat) : Int) + (u2 : Int)) = ((uA + l0 + u2 : Nat) : Int) := by rw [IntKind.wrap_i64]; omega
      have e3 : IntKind.i64.wrap ((sz : Int) + ((uA + l0 + u2 : Nat) : Int)) = ((sz + (uA + l0 + u2) : Nat) : Int) := by rw [IntKind.wrap_i64]; omega
      rw [e1, e2, e3]
      obtain ⟨s9, hs9⟩ : ∃ s9, sz + (uA + l0 + u2) = s9 := ⟨_, rfl⟩
      rw [hs9]
      clear e1 e2 e3
      go_wp2
      go_roundw
      case rel => exact ⟨k + 1, s9, by omega, by go_num, rfl, by omega, (hBl.alloc hBl.size _).drew⟩
      case measure => simp [intOf]; omega
    · obtain rfl : k = m := by omega
      have hs1 := hBl.size
      have own0 : wr.ownsRow B 5 1 sv n xs := (KeptB.below (S := fun _ => False) hBl).own HA.out.2.2.1 (fun b e => ⟨(HA.out.2.2.1.lt b e).2, fun h => h⟩)
      have GW := grow_any B n sz sv xs wr own0 (by omega) (by omega) (by omega)
      have HG : Hid _ := GW
      have HBl : Hid (Below w1.heap.size w1 wr) := hBl
      clear GW own0 hBl
      go_wp2_with fail
      go_at_call 42
      refine Calls.mono HG.out ?_
      rintro e w2 ⟨v2, rfl, o2, g2⟩
      have hs2 := g2.kept.size
      have UV := uv_lib B n k (by omega) v2 xs w2 o2 (by omega) (by omega)
      have HU : Hid _ := UV
      have Hg2 : Hid _ := g2
      clear UV o2 g2
      go_wp2_with fail
      go_at_call 43
      refine Calls.mono HU.out ?_
      rintro e w3 ⟨v3, rfl, o3, g3⟩
      have G3 : Grew w1 sv w3 v3 := Grew.pre (KeptB.below HBl.out) (Hg2.out.trans g3) (fun b e => by have := (HA.out.2.2.1.lt b e).2; omega)
      have H3 : Hid (w3.ownsRow B 5 1 v3 (n + (Lib.uvarint k ++ encE (es.take 0)).length) (xs ++ Lib.byteCells (Lib.uvarint k ++ encE (es.take 0))) ∧ Grew w1 sv w3 v3) := ⟨own_cast o3 (by simp [encE]) (by simp [encE]), G3⟩
      have hs3 := G3.kept.size
      clear o3 g3 G3 Hg2
      go_wp2_with fail
      go_loopw [0, 46] (fun vb vx wr' => ∃ j : Nat, j ≤ k ∧ vx = .int .i64 j ∧ wr'.ownsRow B 5 1 vb (n + (Lib.uvarint k ++ encE (es.take j)).length) (xs ++ Lib.byteCells (Lib.uvarint k ++ encE (es.take j))) ∧ Grew w1 sv wr' vb) (fun _ vx _ => k - (intOf vx).toNat)
      case atStart => exact ⟨0, by omega, rfl, H3.out⟩
      case round =>
        obtain ⟨j, hj, rfl, oj, gj⟩ := hrel
        by_cases hjk : j < k
        · obtain ⟨⟨a, c⟩, he⟩ : ∃ e, es[j]? = some e := ⟨es[j]'(by have := HA.out.2.1; omega), List.getElem?_eq_getElem _⟩
          obtain ⟨g, o, rfl, h0, h1⟩ := HA.out.1 j _ he
          have hcl := HA.out.2.2.2.1 _ (List.mem_of_getElem? he)
          dsimp only at hcl
          have hgs : ¬ some g = sv.ownBlock := fun e => HA.out.2.2.2.2 g o rfl e.symm
          have q0 : wr.cell? ⟨g, o + j * 2, none⟩ = some (.string (nm a)) := gj.kept.cell h0 (World.block_lt_of_cell? _ _ h0) hgs
          have q1 : wr.cell? ⟨g, o + j * 2 + 1, none⟩ = some (.int .u64 c) := gj.kept.cell h1 (World.block_lt_of_cell? _ _ h1) hgs
          have i1 : (0 : Int) ≤ (j : Int) := by omega
          have i2 : (j : Int) < (k : Int) := by omega
          have hsj := gj.kept.size
          have hul := Lib.uvarint_length64 (x := k) (by omega)
          have hel := encE_length (es.take j) (fun e he => HA.out.2.2.2.1 e (List.mem_of_mem_take he))
          have htl : (es.take j).length = j := by rw [List.length_take]; have := HA.out.2.1; omega
          have hln : n + (Lib.uvarint k ++ encE (es.take j)).length ≤ 1000000 := by rw [List.length_append]; omega
          have LP := lenpre_any B _ a u0 _ (wr.alloc (.cells #[.string (nm a), .int .u64 c] 39)) (oj.alloc _) (by rw [World.size_alloc]; omega) (by omega)
          have HL : Hid _ := LP
          have Hlt : Hid (∀ b, u0.ownBlock = some b → b < wr.heap.size) := fun b e => (oj.lt b e).2
          have Hgj : Hid _ := gj
          have HE : Hid _ := he
          clear LP oj gj h0 h1 he hgs
          go_wp2_with fail
          go_at_call 44
          refine Calls.mono HL.out ?_
          rintro e w5 ⟨v5, rfl, o5, g5⟩
          have hs5 := g5.kept.size
          rw [World.size_alloc] at hs5
          have bx : w5.heap[wr.heap.size]? = some (.cells #[.string (nm a), .int .u64 c] 39 (0, 0)) := (g5.kept.block _ (by simp) (fun e => by have := Hlt.out _ e.symm; omega)).trans (heap_alloc_new wr _)
          have bc : w5.cell? ⟨wr.heap.size, 1, none⟩ = some (.int .u64 c) := by rw [cell_of_row _ _ _ _ _ _ bx]; rfl
          obtain ⟨hz, hz2, hz3⟩ := nm_size a
          have hul2 := Lib.uvarint_length64 (x := (nm a).size) (by omega)
          have UV := uv_lib B _ c hcl v5 _ w5 o5 (by omega) (by simp only [List.length_append, ← hz3] at hln ⊢; omega)
          have HU : Hid _ := UV
          have G5 : Grew w1 sv w5 v5 := Hgj.out.trans (Grew.pre (KeptB.alloc _ (Nat.le_refl _)) g5 (fun b e => by have := Hlt.out b e; rw [World.size_alloc]; omega))
          have HG5 : Hid _ := G5
          clear UV o5 g5 bx G5
          go_wp2_with fail
          go_at_call 43
          refine Calls.mono HU.out ?_
          rintro e w6 ⟨v6, rfl, o6, g6⟩
          have ET : encE (es.take (j + 1)) = encE (es.take j) ++ enc1 (a, c) := by
            rw [List.take_add_one, HE.out]; exact encE_snoc _ _
          have HF : Hid (w6.ownsRow B 5 1 v6 (n + (Lib.uvarint k ++ encE (es.take (j + 1))).length) (xs ++ Lib.byteCells (Lib.uvarint k ++ encE (es.take (j + 1)))) ∧ Grew w1 sv w6 v6) := ⟨own_cast o6 (by rw [ET]; simp only [enc1, List.length_append]; omega) (by rw [ET]; simp only [enc1, byteCells_append, List.append_assoc]), HG5.out.trans g6⟩
          clear o6 g6 ET
          go_wp2
          go_roundw
          case rel => exact ⟨j + 1, by omega, by go_num, HF.out⟩
          case measure => simp [intOf]; omega
        · obtain rfl : j = k := by omega
          have HF : Hid _ := oj
          clear oj
          go_wp2
          go_ret
          refine ⟨_, rfl, own_cast HF.out ?_ ?_, gj⟩
          · rw [encAll, HA.out.2.1, List.take_of_length_le (by have := HA.out.2.1; omega)]
          · rw [encAll, HA.out.2.1, List.take_of_length_le (by have := HA.out.2.1; omega)]
end Go.Proofs.YbulkcrtgFmt
