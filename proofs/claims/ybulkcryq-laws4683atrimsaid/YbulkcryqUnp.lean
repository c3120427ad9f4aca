/-
  unpackChain (20), lastChain (14), packedChains (12), packFirst (13) BY THEIR CONTRACTS.
-/
import Derived.Test.YbulkcryqApp
import Derived.Deep.RegionHeld3
namespace Go.Proofs.Ybulkcryq
open Go Go.RowKit

/-- The bytes l lie from ⟨g, o⟩ on. -/
def BytesFrom (w : World) (g o : Nat) (l : List UInt8) : Prop := ∀ j (hj : j < l.length), w.cell? ⟨g, o + j, none⟩ = some (.int .u8 (l[j]).toNat)
theorem BytesFrom.drop {w : World} {g o : Nat} {a b : List UInt8} (h : BytesFrom w g o (a ++ b)) : BytesFrom w g (o + a.length) b := fun j hj => by
  have := h (a.length + j) (by simp; omega)
  rw [← Nat.add_assoc] at this
  simpa using this
theorem BytesFrom.take {w : World} {g o : Nat} {a b : List UInt8} (h : BytesFrom w g o (a ++ b)) : BytesFrom w g o a := fun j hj => by
  have := h j (by simp; omega)
  rw [this, List.getElem_append_left hj]
theorem BytesFrom.block {w w' : World} {g o : Nat} {l : List UInt8} (h : BytesFrom w g o l) (hb : w'.heap[g]? = w.heap[g]?) : BytesFrom w' g o l := fun j hj => (World.cell?_of_block (a := ⟨g, o + j, none⟩) hb).trans (h j hj)
theorem i32_wrap (x : Int) (h : I32 x) (p : Int) : wrap32 (p + wrap32 (x - p)) = x := by
  unfold I32 at h
  unfold wrap32
  omega

set_option maxHeartbeats 8000000 in
set_option maxRecDepth 100000 in
theorem unpack_any (g o c : Nat) (p : Int) (ch : Int × Int) (r : List UInt8) (w : World) (hp : I32 p) (hc : Ok ch) (hcap : (packC p ch ++ r).length < c) (hb : BytesFrom w g o (packC p ch ++ r)) :
    Calls Yba.prog 20 #[.slice (some ⟨g, o, none⟩) (packC p ch ++ r).length c, .int .i32 p] w fun e w' =>
      e = .returned (.tuple #[.agg #[.int .i32 ch.1, .int .i32 ch.2], .slice (some ⟨g, o + (packC p ch).length, none⟩) r.length (c - (packC p ch).length)]) ∧ Below w.heap.size w w' := by
  obtain ⟨a, b⟩ := ch
  have ha0 : -2147483648 ≤ a := hc.1.1
  have ha1 : a ≤ 2147483647 := hc.1.2
  have hb0 : -2147483648 ≤ b := hc.2.1
  have hb1 : b ≤ 2147483647 := hc.2.2
  have hp0 : -2147483648 ≤ p := hp.1
  have hp1 : p ≤ 2147483647 := hp.2
  obtain ⟨n1, hn1⟩ : ∃ n1, (vi (a - p)).length = n1 := ⟨_, rfl⟩
  obtain ⟨n2, hn2⟩ : ∃ n2, (vi (b - a)).length = n2 := ⟨_, rfl⟩
  have d1 := dec_vi (x := a - p) (by omega) (vi (b - a) ++ r)
  have d2 := dec_vi (x := b - a) (by omega) r
  rw [hn1] at d1
  rw [hn2] at d2
  have e1 : packC p (a, b) ++ r = vi (a - p) ++ (vi (b - a) ++ r) := by simp [packC]
  have e2 : (packC p (a, b)).length = n1 + n2 := by simp [packC, hn1, hn2]
  have hlen : (packC p (a, b) ++ r).length = n1 + (n2 + r.length) := by rw [List.length_append, e2]; omega
  have hw1 := i32_wrap a hc.1 p
  have hw2 := i32_wrap b hc.2 a
  rw [hlen] at hcap ⊢
  rw [e2]
  rw [e1] at hb
  have hbb := hb.drop
  rw [hn1] at hbb
  have V1 := fun w (hb : BytesFrom w g o (vi (a - p) ++ (vi (b - a) ++ r))) => Yba.binary_Varint g o (n1 + (n2 + r.length)) c _ w (by rw [← e1]; exact hlen) hb
  have V2 := fun w (hb : BytesFrom w g (o + n1) (vi (b - a) ++ r)) => Yba.binary_Varint g (o + n1) (n2 + r.length) (c - n1) _ w (by simp [hn2]) hb
  simp only [d1] at V1
  simp only [d2] at V2
  have hl1 := vi_length_le (x := a - p) (by omega)
  have hl2 := vi_length_le (x := b - a) (by omega)
  rw [hn1] at hl1
  rw [hn2] at hl2
  have HB : Hid (BytesFrom w g o (vi (a - p) ++ (vi (b - a) ++ r)) ∧ BytesFrom w g (o + n1) (vi (b - a) ++ r)) := ⟨hb, hbb⟩
  have hgl : g < w.heap.size := World.block_lt_of_cell? w _ (hb 0 (by simp; have := vi_pos (a - p); omega))
  have hgne : ¬ g = w.heap.size := by omega
  have i1 : (n1 : Int) ≤ (n1 : Int) + ((n2 : Int) + (r.length : Int)) := by omega
  have i2 : (n2 : Int) ≤ (n2 : Int) + (r.length : Int) := by omega
  have i3 : (0 : Int) ≤ (n1 : Int) := by omega
  have i4 : (0 : Int) ≤ (n2 : Int) := by omega
  clear hb hbb hlen e1 e2 d1 d2 hn1 hn2
  go_enter Yba.func20, Yba.ntmps20
  go_wp2_with fail
  go_at_call 19
  refine (V1 _ (HB.out.1.block (Below.heap_alloc _ _ _ hgl))).mono ?_
  rintro e w1 ⟨rfl, rfl⟩
  clear V1
  go_wp2_with fail
  go_at_call 19
  refine (V2 _ (HB.out.2.block (Below.heap_alloc _ _ _ hgl))).mono ?_
  rintro e w1 ⟨rfl, rfl⟩
  clear V2 HB
  go_wp2_with fail
  go_region
  all_goals go_wp2
  refine bodyPost_ret (v := .tuple #[.agg #[.int .i32 a, .int .i32 b], .slice (some ⟨g, o + n1 + n2, none⟩) r.length (c - n1 - n2)]) (by simp [results, Yba.results20, go_sem]) rfl ⟨?_, ?_⟩
  · rw [show o + n1 + n2 = o + (n1 + n2) by omega, show c - n1 - n2 = c - (n1 + n2) by omega]
  · exact (((Below.refl _ w).alloc (Nat.le_refl _) _).alloc (by simp) _).drew

theorem leNat_le32 (x : Int) : ((Lib.leNat (le32 x) : Nat) : Int) = x % 4294967296 := by rw [le32_nat]; omega
theorem four (l : List UInt8) (h : l.length = 4) : l = [l[0], l[1], l[2], l[3]] := by
  match l, h with
  | [a, b, c, d], _ => rfl
theorem uint32_at (g o n c : Nat) (x : Int) (r : List UInt8) (w : World) (hn : 4 ≤ n) (hb : BytesFrom w g o (le32 x ++ r)) :
    Calls Yba.prog 18 #[.agg #[], .slice (some ⟨g, o, none⟩) n c] w fun e w' => e = .returned (.int .u32 (x % 4294967296)) ∧ Below w.heap.size w w' := by
  have hl := le32_length x
  have hx := four (le32 x) hl
  have ht := hb.take
  rw [← leNat_le32, hx]
  exact Yba.binary_LE_Uint32 g o n c _ _ _ _ w hn (ht 0 (by omega)) (ht 1 (by omega)) (ht 2 (by omega)) (ht 3 (by omega))
theorem wrap32_mod (x : Int) (h : I32 x) : wrap32 (x % 4294967296) = x := by
  unfold I32 at h
  unfold wrap32
  omega
theorem undrew {n : Nat} {w w' : World} (h : Below n w.drew w') : Below n w w' := (Below.refl n w).drew.trans h

set_option maxHeartbeats 8000000 in
set_option maxRecDepth 100000 in
/-- lastChain, of a list that holds one. -/
theorem last_any (lb g m cap : Nat) (body : List UInt8) (ch : Int × Int) (w : World) (hc : Ok ch) (hm : body.length = m) (hml : m ≤ 100000) (hcap : m + 8 ≤ cap) (hl : w.cell? ⟨lb, 0, none⟩ = some (.slice (some ⟨g, 0, none⟩) (m + 8) cap)) (hb : BytesFrom w g 0 (body ++ lastB ch)) :
    Calls Yba.prog 14 #[.pointer (some ⟨lb, 0, none⟩)] w fun e w' => e = .returned (.tuple #[.agg #[.int .i32 ch.1, .int .i32 ch.2], .bool true]) ∧ Below w.heap.size w w' := by
  obtain ⟨a, b⟩ := ch
  have hw1 := wrap32_mod a hc.1
  have hw2 := wrap32_mod b hc.2
  have hlb : lb < w.heap.size := World.block_lt_of_cell? w _ hl
  have hlbne : ¬ lb = w.heap.size := by omega
  have h1 : BytesFrom w g m (le32 a ++ le32 b) := by have := hb.drop; rw [hm, Nat.zero_add] at this; exact this
  have h2 : BytesFrom w g (m + 4) (le32 b) := by have := h1.drop; rw [le32_length] at this; exact this
  have hgl : g < w.heap.size := World.block_lt_of_cell? w _ (h1 0 (by simp [le32_length]))
  have HM : Hid (∀ w', Below w.heap.size w w' → BytesFrom w' g m (le32 a ++ le32 b) ∧ BytesFrom w' g (m + 4) (le32 b ++ [])) := fun w' h => by
    have e : w'.heap[g]? = w.heap[g]? := h.block g hgl
    exact ⟨h1.block e, by rw [List.append_nil]; exact h2.block e⟩
  have i1 : ((m : Int) + 8 == 0) = false := by simp; omega
  have i2 : ((m : Int) + 8 - 8) = m := by omega
  have i3 : (0 : Int) ≤ (m : Int) := by omega
  have i4 : (m : Int) ≤ (m : Int) + 8 := by omega
  have hm0 : m + 8 - m = 8 := by omega
  clear hb h1 h2 hc
  go_enter Yba.func14, Yba.ntmps14
  go_wp2_with fail
  go_region
  all_goals go_wp2_with fail
  obtain ⟨W0, hW0⟩ : ∃ W0, W0 = (w.alloc (.cells #[.int .i32 0, .int .i32 0] 28)).drew := ⟨_, rfl⟩
  have hB0 : Below w.heap.size w W0 := by rw [hW0]; exact ((Below.refl _ w).alloc (Nat.le_refl _) _).drew
  have hR0 : W0.heap[w.heap.size]? = some (.cells #[.int .i32 0, .int .i32 0] 28 (0, 0)) := by rw [hW0]; exact heap_alloc_new w _
  rw [← hW0]
  have b1 : (4 : Int) ≤ 8 := by omega
  have b2 : 4 ≤ cap - m := by omega
  have HB0 : Hid (Below w.heap.size w W0 ∧ W0.heap[w.heap.size]? = some (.cells #[.int .i32 0, .int .i32 0] 28 (0, 0))) := ⟨hB0, hR0⟩
  clear hW0 hl hB0 hR0
  go_region_held3 (fun _ => True) (trivial)
    (first
      | (go_at_call 18; have HB0' := HB0; refine (uint32_at g m 8 (cap - m) a _ W0.drew (by omega) (HM.out W0.drew HB0'.out.1.drew).1).mono ?_; rintro e w1 ⟨rfl, hb1⟩
         have HB1 : Hid (Below w.heap.size w w1 ∧ w1.heap[w.heap.size]? = some (.cells #[.int .i32 0, .int .i32 0] 28 (0, 0))) := ⟨HB0.out.1.trans ((undrew hb1).mono HB0.out.1.size), ((undrew hb1).block _ (lt_of_block HB0.out.2)).trans HB0.out.2⟩
         clear hb1 HB0 HB0')
      | (go_at_call 18; have HB1' := HB1; refine (uint32_at g (m + 4) 4 (cap - m - 4) b _ w1 (by omega) (HM.out w1 HB1'.out.1).2).mono ?_; rintro e w2 ⟨rfl, hb2⟩
         have hB2 : Below w.heap.size w w2 := HB1.out.1.trans (hb2.mono HB1.out.1.size)
         have hR2 := (hb2.block _ (lt_of_block HB1.out.2)).trans HB1.out.2
         have hx0 : w2.cell? ⟨w.heap.size, 0, none⟩ = some (.int .i32 0) := by rw [cell_of_row _ _ _ _ _ _ hR2]; rfl
         have hx1 : w2.cell? ⟨w.heap.size, 1, none⟩ = some (.int .i32 0) := by rw [cell_of_row _ _ _ _ _ _ hR2]; rfl
         have hf0 : w2.frozen? ⟨w.heap.size, 0, none⟩ = false := by rw [frozen_of_row _ _ _ _ _ hR2]
         have hf1 : w2.frozen? ⟨w.heap.size, 1, none⟩ = false := by rw [frozen_of_row _ _ _ _ _ hR2]
         clear hb2 HB1 HB1'))
  all_goals go_wp2_with fail
  have r1 := heap_setCell_same w2 w.heap.size 0 _ 28 (.int .i32 (IntKind.i32.wrap (a % 4294967296))) hR2
  have r2 := heap_setCell_same _ w.heap.size 1 _ 28 (.int .i32 (IntKind.i32.wrap (b % 4294967296))) r1
  have y0 := cell_of_row _ w.heap.size 0 _ _ _ r2
  have y1 := cell_of_row _ w.heap.size 1 _ _ _ r2
  rw [show IntKind.i32.wrap (a % 4294967296) = a from (IntWalk.i32_left _).trans hw1, show IntKind.i32.wrap (b % 4294967296) = b from (IntWalk.i32_left _).trans hw2] at y0 y1 ⊢
  refine bodyPost_ret (v := .tuple #[.agg #[.int .i32 a, .int .i32 b], .bool true]) (by simp [results, Yba.results14, go_sem, y0, y1]) rfl ⟨rfl, ?_⟩
  exact (hB2.setCell (p := ⟨w.heap.size, 0, none⟩) (Nat.le_refl _) _).setCell (p := ⟨w.heap.size, 1, none⟩) (Nat.le_refl _) _

/-- packedChains: the iterator's closure over body's box. -/
theorem packed_any (v : Value) (hv : ∃ a n c, v = .slice a n c) (w : World) :
    Calls Yba.prog 12 #[v] w fun e w' => e = .returned (.func (.func 17) #[] #[.pointer (some ⟨w.heap.size, 0, none⟩)]) ∧ w' = w.alloc (.cells #[v] 29) := by
  obtain ⟨a, n, c, rfl⟩ := hv
  go_enter Yba.func12, Yba.ntmps12
  go_wp2
  go_ret
  exact ⟨rfl, rfl⟩


theorem setCells_row (g : Nat) (t : TypeId) : ∀ (vs : List Value) (o : Nat) (w : World) (cur : Array Value), w.heap[g]? = some (.cells cur t (0, 0)) → o + vs.length ≤ cur.size →
    ∃ cur', (w.setCells g o vs).heap[g]? = some (.cells cur' t (0, 0)) ∧ cur'.size = cur.size ∧ (∀ j, j < vs.length → cur'[o + j]? = vs[j]?) ∧ ∀ j, j < o → cur'[j]? = cur[j]?
  | [], o, w, cur, h, _ => ⟨cur, h, rfl, fun j hj => by simp at hj, fun _ _ => rfl⟩
  | v :: vs, o, w, cur, h, hl => by
    simp only [List.length_cons] at hl
    obtain ⟨cur', h1, h2, h3, h4⟩ := setCells_row g t vs (o + 1) (w.setCell ⟨g, o, none⟩ v) (cur.setIfInBounds o v) (heap_setCell_same w g o cur t v h) (by simp; omega)
    refine ⟨cur', h1, by simpa using h2, fun j hj => ?_, fun j hj => ?_⟩
    · cases j with
      | zero => rw [Nat.add_zero, h4 o (by omega), Array.getElem?_setIfInBounds, if_pos rfl, if_pos (by omega)]; rfl
      | succ j => rw [show o + (j + 1) = o + 1 + j by omega, h3 j (by simp at hj; omega)]; simp
    · rw [h4 j (by omega), Array.getElem?_setIfInBounds, if_neg (by omega)]

set_option maxHeartbeats 8000000 in
set_option maxRecDepth 100000 in
/-- packFirst onto the scratch array (block sb, fourteen cells): it stays in the scratch. -/
theorem first_any (sb : Nat) (cur : Array Value) (t : TypeId) (ch : Int × Int) (w : World) (hc : Ok ch) (hs : w.heap[sb]? = some (.cells cur t (0, 0))) (hsz : cur.size = 14) :
    Calls Yba.prog 13 #[.slice (some ⟨sb, 0, none⟩) 0 14, .agg #[.int .i32 ch.1, .int .i32 ch.2]] w fun e w' =>
      e = .returned (.slice (some ⟨sb, 0, none⟩) (packF ch).length 14) ∧ BytesFrom w' sb 0 (packF ch) ∧ w'.os = w.os ∧ w'.output = w.output ∧ w.heap.size ≤ w'.heap.size ∧ (∀ k, k < w.heap.size → k ≠ sb → w'.heap[k]? = w.heap[k]?) := by
  obtain ⟨a, b⟩ := ch
  have hu := u32_of
  have ha0 : -2147483648 ≤ a := hc.1.1
  have ha1 : a ≤ 2147483647 := hc.1.2
  have hb0 : -2147483648 ≤ b := hc.2.1
  have hb1 : b ≤ 2147483647 := hc.2.2
  have hsl : sb < w.heap.size := lt_of_block hs
  have hv : (a % 4294967296).toNat < 4294967296 := by omega
  have hce : (a % 4294967296) = (((a % 4294967296).toNat : Nat) : Int) := by omega
  have A1 := fun (W : World) (h : W.heap[sb]? = some (.cells cur t (0, 0))) => Yba.binary_LE_AppendUint32_arg sb 0 0 14 _ hv [] W rfl (fun j u hj => by simp at hj) (fun _ j hj => by
    rw [cell_of_row W sb _ cur t (0, 0) h, frozen_of_row W sb _ cur t h]
    refine ⟨?_, rfl⟩
    rw [Array.getElem?_eq_getElem (by omega)]; rfl) (by omega)
  rw [← hce] at A1
  have HA : Hid (∀ (W : World), W.heap[sb]? = some (.cells cur t (0, 0)) → _) := A1
  clear A1 hce
  go_enter Yba.func13, Yba.ntmps13
  go_wp2_with fail
  go_at_call 10
  refine (HA.out _ ((Below.heap_alloc _ _ _ hsl).trans hs)).mono ?_
  rintro e w1 (⟨_, rfl, rfl⟩ | ⟨h, _⟩)
  · have hl4 := le32_cells a
    obtain ⟨W1, hW1⟩ : ∃ W1, W1 = (((w.alloc (Obj.cells #[Value.int IntKind.i32 a, Value.int IntKind.i32 b] 28)).alloc (Obj.cells #[] 40)).alloc (Obj.cells (Lib.byteCells (le32 a)).toArray 5)).setCells sb (0 + 0) (Lib.byteCells (le32 a)) := ⟨_, rfl⟩
    have hW0 : (((w.alloc (Obj.cells #[Value.int IntKind.i32 a, Value.int IntKind.i32 b] 28)).alloc (Obj.cells #[] 40)).alloc (Obj.cells (Lib.byteCells (le32 a)).toArray 5)).heap[sb]? = some (.cells cur t (0, 0)) :=
      ((Below.heap_alloc _ _ _ (by simp; omega)).trans ((Below.heap_alloc _ _ _ (by simp; omega)).trans (Below.heap_alloc _ _ _ hsl))).trans hs
    obtain ⟨cur1, k1, k2, k3, _⟩ := setCells_row sb t (Lib.byteCells (le32 a)) (0 + 0) _ cur hW0 (by omega)
    have hg1 := grown_setCells sb (Lib.byteCells (le32 a)) (0 + 0) (((w.alloc (Obj.cells #[Value.int IntKind.i32 a, Value.int IntKind.i32 b] 28)).alloc (Obj.cells #[] 40)).alloc (Obj.cells (Lib.byteCells (le32 a)).toArray 5))
    rw [← hW1] at k1 hg1
    have hg2 : w.grownBy W1 (some sb) := grown_trans (grown_trans (grown_trans (World.grownBy_alloc _ _ _) (World.grownBy_alloc _ _ _)) (World.grownBy_alloc _ _ _)) hg1
    have hbox : W1.heap[w.heap.size]? = some (.cells #[.int .i32 a, .int .i32 b] 28 (0, 0)) :=
      (hg1.block w.heap.size (by simp; omega) (by simp; omega)).trans ((Below.heap_alloc _ _ _ (by simp; omega)).trans ((Below.heap_alloc _ _ _ (by simp)).trans (heap_alloc_new w _)))
    have d0 : W1.cell? ⟨w.heap.size, 0, none⟩ = some (.int .i32 a) := by rw [cell_of_row _ _ _ _ _ _ hbox]; rfl
    have d1 : W1.cell? ⟨w.heap.size, 1, none⟩ = some (.int .i32 b) := by rw [cell_of_row _ _ _ _ _ _ hbox]; rfl
    have hsl1 : sb < W1.heap.size := lt_of_block k1
    have hcame : Came W1 1 (some ⟨sb, 0, none⟩) sb 0 4 14 (Lib.byteCells (le32 a)) :=
      ⟨by omega, fun _ => rfl, fun _ => hsl1, by rw [hl4], fun j u hj => by
        have hj' := (List.getElem?_eq_some_iff.1 hj).1
        rw [cell_of_row _ _ _ _ _ _ k1, k3 j hj', hj], fun j hj => by
        rw [cell_of_row _ _ _ _ _ _ k1, frozen_of_row _ _ _ _ _ k1]
        refine ⟨?_, rfl⟩
        rw [Array.getElem?_eq_getElem (by omega)]; rfl⟩
    have hVL := vi_length_le (x := b - a) (by omega)
    have V := Yba.binary_AppendVarint_arg W1 _ sb 0 4 14 _ hcame (b - a) (by omega) (by omega) _ 0 [] W1 (Onto.start hcame) (by omega)
    have hle : Lib.leBytes 4 (a % 4294967296).toNat = le32 a := rfl
    rw [hle, ← hW1]
    have HV : Hid _ := V
    have HC : Hid _ := hcame
    have HG : Hid _ := hg2
    have e04 : 0 + 4 = 4 := rfl
    clear V hcame hg2 hg1 hW0 hW1 k1 k3 hbox hs hle HA
    go_wp2_with fail
    go_at_call 11
    refine Calls.mono HV.out ?_
    rintro e w2 ⟨v2, rfl, ho⟩
    clear HV d0 d1
    have hL : (Lib.uvarint (Lib.zigzag (b - a))).length ≤ 5 := hVL
    obtain ⟨g', o', cap', hv2, _, _, hcells⟩ := ho.value HC.out (by decide) (.inl (by omega))
    rcases ho.val with ⟨_, rfl⟩ | ⟨h, _⟩
    · simp only [Value.slice.injEq, Option.some.injEq, Addr.mk.injEq, and_true] at hv2
      obtain ⟨⟨rfl, rfl⟩, _, rfl⟩ := hv2
      have HO : Hid (Onto _ _ _ _ _ _ _ _ _ _ _ _ _) := ho
      have HX : Hid _ := hcells
      clear hcells ho
      go_wp2
      go_ret
      have hlen : (packF (a, b)).length = 4 + (Lib.uvarint (Lib.zigzag (b - a))).length := by simp [packF, le32_length, vi]
      have hcl : Lib.byteCells (le32 a) ++ ([] ++ Lib.byteCells (Lib.uvarint (Lib.zigzag (b - a)))) = Lib.byteCells (packF (a, b)) := by rw [List.nil_append, ← byteCells_append]; rfl
      refine ⟨?_, fun j hj => ?_, HO.out.kept.1.trans HG.out.os, HO.out.kept.2.1.trans HG.out.output, Nat.le_trans HG.out.size HO.out.kept.size, fun k hk hne => ?_⟩
      · rw [hlen]; rfl
      · rw [HX.out j (by omega), hcl]
        simp [Lib.byteCells, hj]
      · refine (HO.out.kept.block (by have := HG.out.size; omega) ?_).trans (HG.out.block k hk (by simpa using hne))
        rintro p ⟨j, _, _, rfl⟩
        exact fun e => hne e.symm
    · omega
  · omega
end Go.Proofs.Ybulkcryq
