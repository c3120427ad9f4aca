/-
  Byte appends, more: binary.LittleEndian.AppendUint32, appendLast (15), the packing by hand (4).
-/
import Derived.Test.YbulkcryqMem
namespace Go.Proofs.Ybulkcryq
open Go Go.RowKit

/-- Several stores into an owned row, one behind the other. -/
theorem own_setCells {base : Nat} {e : TypeId} {size n g cap : Nat} : ∀ (vs : List Value) (o : Nat) (w : World) (xs : List Value), w.ownsRow base e size (.slice (some ⟨g, 0, none⟩) n cap) n xs → o + vs.length ≤ xs.length →
    (w.setCells g o vs).ownsRow base e size (.slice (some ⟨g, 0, none⟩) n cap) n (xs.take o ++ vs ++ xs.drop (o + vs.length))
  | [], o, w, xs, h, _ => by simpa [World.setCells] using h
  | v :: vs, o, w, xs, h, hl => by
    have h1 := (h.stored o v).1
    have hl' : o + 1 + vs.length ≤ (xs.set o v).length := by simp at hl ⊢; omega
    have h2 := own_setCells vs (o + 1) (w.setCell ⟨g, o, none⟩ v) (xs.set o v) h1 hl'
    have e1 : (xs.set o v).take (o + 1) ++ vs ++ (xs.set o v).drop (o + 1 + vs.length) = xs.take o ++ v :: vs ++ xs.drop (o + (v :: vs).length) := by
      simp only [List.length_cons] at hl
      rw [List.drop_set_of_lt (by omega), List.take_set, List.take_succ_eq_append_getElem (by omega)]
      rw [List.set_append_right _ _ (by rw [List.length_take]; exact Nat.min_le_left _ _)]
      simp [Nat.min_eq_left (by omega : o ≤ xs.length), Nat.add_comm, Nat.add_left_comm]
    rw [e1] at h2
    exact h2

/-- One store behind an owned row's elements, within its capacity: one element more. -/
theorem own_push {w : World} {base : Nat} {e : TypeId} {n g cap : Nat} {xs : List Value} (h : w.ownsRow base e 1 (.slice (some ⟨g, 0, none⟩) n cap) n xs) (v : Value) (hroom : n + 1 ≤ cap) :
    (w.setCell ⟨g, n, none⟩ v).ownsRow base e 1 (.slice (some ⟨g, 0, none⟩) (n + 1) cap) (n + 1) (xs ++ [v]) := by
  rcases h.2 with ⟨h', _⟩ | ⟨g', cap', cur, h', hb, hg, hnc, hcm, hcs, htake⟩
  · simp at h'
  · simp only [Value.slice.injEq, Option.some.injEq, Addr.mk.injEq, and_true, true_and] at h'
    obtain ⟨rfl, rfl⟩ := h'
    have hl := h.1
    simp only [Nat.mul_one] at hl hcs htake
    refine ⟨by simp [hl], .inr ⟨g, cap, cur.setIfInBounds n v, rfl, hb, heap_setCell_same w g n cur e v hg, hroom, hcm, by simpa using hcs, ?_⟩⟩
    rw [Array.toList_setIfInBounds, Nat.mul_one, List.take_set, List.take_succ_eq_append_getElem (by simp; omega), htake, List.set_append_right _ _ (by omega)]
    simp [hl]

theorem own_spare {base : Nat} {e : TypeId} {g cap : Nat} : ∀ (vs : List Value) (n : Nat) (w : World) (xs : List Value), w.ownsRow base e 1 (.slice (some ⟨g, 0, none⟩) n cap) n xs → n + vs.length ≤ cap →
    (w.setCells g n vs).ownsRow base e 1 (.slice (some ⟨g, 0, none⟩) (n + vs.length) cap) (n + vs.length) (xs ++ vs)
  | [], n, w, xs, h, _ => by simpa [World.setCells] using h
  | v :: vs, n, w, xs, h, hl => by
    simp only [List.length_cons] at hl
    have h2 := own_spare vs (n + 1) (w.setCell ⟨g, n, none⟩ v) (xs ++ [v]) (own_push h v (by omega)) (by omega)
    have e1 : n + 1 + vs.length = n + (v :: vs).length := by simp; omega
    rw [e1, List.append_assoc] at h2
    exact h2

theorem grown_setCells (g : Nat) : ∀ (vs : List Value) (o : Nat) (w : World), w.grownBy (w.setCells g o vs) (some g)
  | [], _, w => World.grownBy.refl w _
  | v :: vs, o, w => by
    have h := grown_setCells g vs (o + 1) (w.setCell ⟨g, o, none⟩ v)
    exact ⟨h.os, h.tape, h.output, by have := h.size; simp only [World.size_setCell] at this; exact this, fun k hk hne => (h.block k (by simpa using hk) hne).trans (heap_setCell_other w ⟨g, o, none⟩ k v (fun e => hne (by simp [e])))⟩

theorem grown_trans {a b c : World} {row : Option Nat} (h : a.grownBy b row) (k : b.grownBy c row) : a.grownBy c row :=
  ⟨k.os.trans h.os, k.tape.trans h.tape, k.output.trans h.output, Nat.le_trans h.size k.size, fun i hi hne => (k.block i (Nat.lt_of_lt_of_le hi h.size) hne).trans (h.block i hi hne)⟩

theorem grown_of_below {a b : World} (row : Option Nat) (h : Below a.heap.size a b) : a.grownBy b row :=
  ⟨h.os, h.tape, h.output, h.size, fun i hi _ => h.block i hi⟩


theorem le32_cells (x : Int) : (Lib.byteCells (le32 x)).length = 4 := by rw [byteCells_length, le32_length]

/-- binary.LittleEndian.AppendUint32 onto a row of the caller's own. -/
theorem append32 (B n : Nat) (x : Int) (sv : Value) (xs : List Value) (w : World) (hown : w.ownsRow B 5 1 sv n xs) (hB : B ≤ w.heap.size) (hlim : n + 4 ≤ 140737488355328) :
    Calls Yba.prog 10 #[.agg #[], sv, .int .u32 (x % 4294967296)] w fun e w' => ∃ v', e = .returned v' ∧ w'.ownsRow B 5 1 v' (n + 4) (xs ++ Lib.byteCells (le32 x)) ∧ Below B w w' ∧ Keeps5 w w' := by
  have hv : (x % 4294967296).toNat < 4294967296 := by omega
  have hc : (x % 4294967296) = (((x % 4294967296).toNat : Nat) : Int) := by omega
  rw [hc]
  rcases hown.2 with ⟨rfl, h0⟩ | ⟨g, cap, cur, rfl, hbg, hg, hnc, hcm, hcs, htake⟩
  · subst h0
    have hx : xs = [] := by have := hown.1; simpa using this
    subst hx
    refine (Yba.binary_LE_AppendUint32 w.heap.size 0 _ hv _ [] w (World.ownsRow_nil _ _ _ _) (Nat.le_refl _) (by omega)).mono ?_
    rintro e w' ⟨v', rfl, ho, hb⟩
    exact ⟨v', rfl, own_le ho hB, hb.mono hB, Keeps5.below hb⟩
  · have hl2 := le32_cells x
    refine (Yba.binary_LE_AppendUint32_arg g 0 n cap _ hv xs w (by simpa using hown.1) ?_ ?_ hlim).mono ?_
    · intro j u hu
      have h := hown.cells (g := g) rfl j u hu
      rwa [Addr.add_lit] at h
    · intro hroom j hj
      rw [cell_of_row w g _ cur 5 (0, 0) hg, frozen_of_row w g _ cur 5 hg]
      refine ⟨?_, rfl⟩
      rw [Array.getElem?_eq_getElem (by omega)]
      rfl
    · rintro e w' (⟨hroom, rfl, rfl⟩ | ⟨_, v', rfl, ho, hb⟩)
      · have h1 := (hown.alloc (.cells #[] 40)).alloc (.cells (Lib.byteCells (le32 x)).toArray 5)
        have h2 := own_spare (Lib.byteCells (le32 x)) n _ xs h1 (by omega)
        rw [hl2] at h2
        have g1 := grown_trans (World.grownBy_alloc w (.cells #[] 40) (some g)) (World.grownBy_alloc _ (.cells (Lib.byteCells (le32 x)).toArray 5) (some g))
        have g2 : w.grownBy (((w.alloc (.cells #[] 40)).alloc (.cells (Lib.byteCells (le32 x)).toArray 5)).setCells g n (Lib.byteCells (le32 x))) (Value.slice (some ⟨g, 0, none⟩) n cap).ownBlock := by
          simpa [Value.ownBlock] using grown_trans g1 (grown_setCells g (Lib.byteCells (le32 x)) n _)
        have e0 : 0 + n = n := Nat.zero_add n
        refine ⟨_, rfl, by rw [e0]; exact h2, ?_, ?_⟩
        · rw [e0]; exact (Below.refl B w).grown g2 hB (fun k hk => by simp only [Value.ownBlock, Option.some.injEq] at hk; omega)
        · rw [e0]; exact Keeps5.grown hown g2
      · exact ⟨v', rfl, own_le ho (by omega), hb.mono hB, Keeps5.below hb⟩

theorem u32_of (x : Int) : IntKind.u32.wrap x = x % 4294967296 := IntKind.wrap_u32 x

/-- appendLast: c's eight bytes behind what the row holds. -/
theorem append_last (B n : Nat) (c : Int × Int) (sv : Value) (xs : List Value) (w : World) (hown : w.ownsRow B 5 1 sv n xs) (hB : B ≤ w.heap.size) (hlim : n + 8 ≤ 140737488355328) :
    Calls Yba.prog 15 #[sv, .agg #[.int .i32 c.1, .int .i32 c.2]] w fun e w' => ∃ v', e = .returned v' ∧ w'.ownsRow B 5 1 v' (n + 8) (xs ++ Lib.byteCells (lastB c)) ∧ Below B w w' ∧ Keeps5 w w' := by
  obtain ⟨a, b⟩ := c
  dsimp only
  have hu := u32_of
  go_enter Yba.func15, Yba.ntmps15
  go_wp2_with fail
  go_at_call 10
  refine (append32 B n a sv xs _ (hown.alloc _) (by simp; omega) (by omega)).mono ?_
  rintro e w1 ⟨v1, rfl, ho1, hb1, hk1⟩
  have hbox : w1.heap[w.heap.size]? = some (.cells #[.int .i32 a, .int .i32 b] 28 (0, 0)) := hk1.cells (heap_alloc_new w _) (by decide)
  have hc0 : w1.cell? ⟨w.heap.size, 0, none⟩ = some (.int .i32 a) := by rw [cell_of_row _ _ _ _ _ _ hbox]; rfl
  have hc1 : w1.cell? ⟨w.heap.size, 1, none⟩ = some (.int .i32 b) := by rw [cell_of_row _ _ _ _ _ _ hbox]; rfl
  have hs1 := hb1.size
  have HK : Hid (Keeps5 w w1) := (Keeps5.alloc _ _).trans hk1
  clear hk1
  go_wp2_with fail
  go_at_call 10
  refine (append32 B (n + 4) b v1 _ w1 ho1 (by simp at hs1; omega) (by omega)).mono ?_
  rintro e w2 ⟨v2, rfl, ho2, hb2, hk2⟩
  go_wp2
  go_ret
  refine ⟨v2, rfl, own_cast ho2 (by omega) (by rw [List.append_assoc, ← byteCells_append]; rfl), (((Below.refl B w).alloc hB _).trans hb1).trans hb2, HK.out.trans hk2⟩

/-- The chains cs lie at sa (a slice's address; two cells an element). -/
def ChainsAt (w : World) (sa : Option Addr) (cs : List (Int × Int)) : Prop :=
  ∀ i c, cs[i]? = some c → ∃ g o, sa = some ⟨g, o, none⟩ ∧ w.cell? ⟨g, o + i * 2, none⟩ = some (.int .i32 c.1) ∧ w.cell? ⟨g, o + i * 2 + 1, none⟩ = some (.int .i32 c.2)
theorem ChainsAt.below {w w' : World} {sa : Option Addr} {cs : List (Int × Int)} (h : ChainsAt w sa cs) (hb : Below w.heap.size w w') : ChainsAt w' sa cs := fun i c hi => by
  obtain ⟨g, o, rfl, h0, h1⟩ := h i c hi
  have hl : g < w.heap.size := World.block_lt_of_cell? w _ h0
  exact ⟨g, o, rfl, (hb.cell (p := ⟨g, _, none⟩) hl).trans h0, (hb.cell (p := ⟨g, _, none⟩) hl).trans h1⟩

theorem packB_next (cs : List (Int × Int)) (k : Nat) (c : Int × Int) (hk : 0 < k) (h : cs[k]? = some c) : packB (cs.take (k + 1)) = packB (cs.take k) ++ packC (lastTo 0 (cs.take k)) c := by
  have hi : k < cs.length := (List.getElem?_eq_some_iff.1 h).1
  rw [List.take_add_one, h]
  cases ht : cs.take k with
  | nil => have := congrArg List.length ht; rw [List.length_take] at this; simp only [List.length_nil] at this; omega
  | cons d ds =>
    show packB (d :: ds ++ [c]) = _
    rw [packB_append]; simp [packR]
theorem lastTo_ok : ∀ (cs : List (Int × Int)) (p : Int), I32 p → (∀ c ∈ cs, Ok c) → I32 (lastTo p cs)
  | [], _, hp, _ => hp
  | c :: cs, _, _, h => lastTo_ok cs c.2 (h c (by simp)).2 (fun d hd => h d (by simp [hd]))
theorem lastTo_take (cs : List (Int × Int)) (k : Nat) (c : Int × Int) (h : cs[k]? = some c) (p : Int) : lastTo p (cs.take (k + 1)) = c.2 := by
  rw [List.take_add_one, h]; exact lastTo_snoc c _ p

set_option maxHeartbeats 8000000 in
set_option maxRecDepth 100000 in
/-- zzs4683aencode: the packing of cs. -/
theorem encode_any (sa : Option Addr) (cap : Nat) (cs : List (Int × Int)) (w : World) (hn : cs.length ≤ 301) (hok : ∀ c ∈ cs, Ok c) (hat : ChainsAt w sa cs) :
    Calls Yba.prog 4 #[.slice sa cs.length cap] w fun e w' => ∃ v', e = .returned v' ∧ w'.ownsRow w.heap.size 5 1 v' (encode cs).length (Lib.byteCells (encode cs)) ∧ Below w.heap.size w w' := by
  cases hcs : cs.length with
  | zero =>
    obtain rfl : cs = [] := List.length_eq_zero_iff.1 hcs
    go_enter Yba.func4, Yba.ntmps4
    go_wp2
    go_ret
    exact ⟨_, rfl, World.ownsRow_nil _ _ _ _, Below.refl _ _⟩
  | succ N =>
    have hN : ((N : Int) + 1 - 1) = N := by omega
    have hNb : N ≤ 300 := by omega
    have hNb' : (N : Int) ≤ 300 := by omega
    have hNz : ((N : Int) + 1 == 0) = false := by simp; omega
    go_enter Yba.func4, Yba.ntmps4
    go_wp2
    go_loopw [3, 5, 6] (fun vb vp vx wr => ∃ k : Nat, k ≤ N ∧ vx = .int .i64 k ∧ vp = .int .i32 (lastTo 0 (cs.take k)) ∧ wr.ownsRow w.heap.size 5 1 vb (packB (cs.take k)).length (Lib.byteCells (packB (cs.take k))) ∧ Below w.heap.size w wr) (fun _ _ vx _ => N - (intOf vx).toNat)
    case atStart => exact ⟨0, by omega, rfl, rfl, World.ownsRow_nil _ _ _ _, Below.refl _ _⟩
    case round =>
      obtain ⟨k, hk, rfl, rfl, hown, hb⟩ := hrel
      have hbs := hb.size
      by_cases hlt : k < N
      · obtain ⟨⟨a, b⟩, hc⟩ : ∃ c, cs[k]? = some c := ⟨cs[k], List.getElem?_eq_getElem (by omega)⟩
        have hokc := hok _ (List.mem_of_getElem? hc)
        have ha0 : -2147483648 ≤ a := hokc.1.1
        have ha1 : a ≤ 2147483647 := hokc.1.2
        have hb0' : -2147483648 ≤ b := hokc.2.1
        have hb1' : b ≤ 2147483647 := hokc.2.2
        obtain ⟨g, o, rfl, h0, h1⟩ := hat k _ hc
        have hgl : g < w.heap.size := World.block_lt_of_cell? w _ h0
        have hc0 : wr.cell? ⟨g, o + k * 2, none⟩ = some (.int .i32 a) := (hb.cell (p := ⟨g, _, none⟩) hgl).trans h0
        have hc1 : wr.cell? ⟨g, o + k * 2 + 1, none⟩ = some (.int .i32 b) := (hb.cell (p := ⟨g, _, none⟩) hgl).trans h1
        have hgne : ¬ g = wr.heap.size := by omega
        have hpl := packB_length_le (cs.take k) (fun c hc => hok c (List.mem_of_mem_take hc))
        have htl : (cs.take k).length ≤ 301 := by rw [List.length_take]; omega
        have hu := u32_of
        have i1 : (0 : Int) ≤ (k : Int) := by omega
        have i2 : (k : Int) < (N : Int) := by omega
        have i3 : (k : Int) < (N : Int) + 1 := by omega
        have hpz := lastTo_ok (cs.take k) 0 ⟨by decide, by decide⟩ (fun c hc => hok c (List.mem_of_mem_take hc))
        have HH : Hid (ChainsAt w (some ⟨g, o, none⟩) cs ∧ (∀ c ∈ cs, Ok c) ∧ cs.length = N + 1 ∧ cs[k]? = some (a, b)) := ⟨hat, hok, hcs, hc⟩
        clear hat hok hcs hc h0 h1
        by_cases hk0 : k = 0
        · have hk0' : ((k : Int) == 0) = true := by simp; omega
          have PK : Hid (packB (cs.take (k + 1)) = packB (cs.take k) ++ packF (a, b)) := by
            obtain ⟨_, _, _, hc⟩ := HH.out
            subst hk0
            show packB (cs.take 1) = packB (cs.take 0) ++ packF (a, b)
            rw [List.take_add_one, hc]; simp [packB, packR]
          subst hk0
          simp only [Nat.zero_mul, Nat.add_zero] at hc0 hc1
          go_wp2_with fail
          go_at_call 10
          refine (append32 w.heap.size _ a u3 _ _ (hown.alloc _) (by simp; omega) (by omega)).mono ?_
          rintro e w1 ⟨v1, rfl, ho1, hb1, hk1⟩
          have hbox : w1.heap[wr.heap.size]? = some (.cells #[.int .i32 a, .int .i32 b] 28 (0, 0)) := hk1.cells (heap_alloc_new wr _) (by decide)
          have hd0 : w1.cell? ⟨wr.heap.size, 0, none⟩ = some (.int .i32 a) := by rw [cell_of_row _ _ _ _ _ _ hbox]; rfl
          have hd1 : w1.cell? ⟨wr.heap.size, 1, none⟩ = some (.int .i32 b) := by rw [cell_of_row _ _ _ _ _ _ hbox]; rfl
          have hs1 : wr.heap.size < w1.heap.size := lt_of_block hbox
          have hB1 : Below w.heap.size w w1 := (hb.alloc hbs _).trans hb1
          have HB : Hid (∀ {w2 : World}, Keeps5 w1 w2 → w2.heap[wr.heap.size]? = some (.cells #[.int .i32 a, .int .i32 b] 28 (0, 0))) := fun h => h.cells hbox (by decide)
          clear hk1 hb hb1 hown hbox hc0 hc1
          go_wp2_with fail
          go_at_call 11
          refine (append_varint w.heap.size _ (b - a) (by omega) (by omega) v1 _ w1 ho1 (by omega) (by omega)).mono ?_
          rintro e w2 ⟨v2, rfl, ho2, hb2, hk2⟩
          have hbox : w2.heap[wr.heap.size]? = some (.cells #[.int .i32 a, .int .i32 b] 28 (0, 0)) := HB.out hk2
          have he1 : w2.cell? ⟨wr.heap.size, 1, none⟩ = some (.int .i32 b) := by rw [cell_of_row _ _ _ _ _ _ hbox]; rfl
          clear hk2 hd0 hd1 HB
          go_wp2
          go_roundw
          case rel =>
            obtain ⟨_, _, _, hc⟩ := HH.out
            refine ⟨0 + 1, by omega, by go_num, ?_, ?_, hB1.trans hb2⟩
            · rw [lastTo_take cs 0 _ hc]
            · exact own_cast ho2 (by rw [PK.out]; simp [packF, le32_length]; omega) (by rw [PK.out]; simp [packF, byteCells_append])
          case measure => simp [intOf]; omega
        · have hk0' : ((k : Int) == 0) = false := by simp; omega
          obtain ⟨pz, hpe⟩ : ∃ pz, lastTo 0 (cs.take k) = pz := ⟨_, rfl⟩
          rw [hpe]
          rw [hpe] at hpz
          have hp0 : -2147483648 ≤ pz := hpz.1
          have hp1 : pz ≤ 2147483647 := hpz.2
          have PK : Hid (packB (cs.take (k + 1)) = packB (cs.take k) ++ packC pz (a, b)) := by
            obtain ⟨_, _, _, hc⟩ := HH.out
            rw [← hpe]
            exact packB_next cs k _ (by omega) hc
          clear hpz hpe
          go_wp2_with fail
          go_at_call 11
          refine (append_varint w.heap.size _ (a - pz) (by omega) (by omega) u3 _ _ (hown.alloc _) (by simp; omega) (by omega)).mono ?_
          rintro e w1 ⟨v1, rfl, ho1, hb1, hk1⟩
          have hvl := vi_length_le (x := a - pz) (by omega)
          have hbox : w1.heap[wr.heap.size]? = some (.cells #[.int .i32 a, .int .i32 b] 28 (0, 0)) := hk1.cells (heap_alloc_new wr _) (by decide)
          have hd0 : w1.cell? ⟨wr.heap.size, 0, none⟩ = some (.int .i32 a) := by rw [cell_of_row _ _ _ _ _ _ hbox]; rfl
          have hd1 : w1.cell? ⟨wr.heap.size, 1, none⟩ = some (.int .i32 b) := by rw [cell_of_row _ _ _ _ _ _ hbox]; rfl
          have hs1 : wr.heap.size < w1.heap.size := lt_of_block hbox
          have hB1 : Below w.heap.size w w1 := (hb.alloc hbs _).trans hb1
          have HB : Hid (∀ {w2 : World}, Keeps5 w1 w2 → w2.heap[wr.heap.size]? = some (.cells #[.int .i32 a, .int .i32 b] 28 (0, 0))) := fun h => h.cells hbox (by decide)
          clear hk1 hb hb1 hown hbox hc0 hc1
          go_wp2_with fail
          go_at_call 11
          refine (append_varint w.heap.size _ (b - a) (by omega) (by omega) v1 _ w1 ho1 (by omega) (by omega)).mono ?_
          rintro e w2 ⟨v2, rfl, ho2, hb2, hk2⟩
          have hbox : w2.heap[wr.heap.size]? = some (.cells #[.int .i32 a, .int .i32 b] 28 (0, 0)) := HB.out hk2
          have he1 : w2.cell? ⟨wr.heap.size, 1, none⟩ = some (.int .i32 b) := by rw [cell_of_row _ _ _ _ _ _ hbox]; rfl
          clear hk2 hd0 hd1 HB
          go_wp2
          go_roundw
          case rel =>
            obtain ⟨_, _, _, hc⟩ := HH.out
            refine ⟨k + 1, by omega, by go_num, ?_, ?_, hB1.trans hb2⟩
            · rw [lastTo_take cs k _ hc]
            · exact own_cast ho2 (by rw [PK.out]; simp [packC]; omega) (by rw [PK.out]; simp [packC, byteCells_append])
          case measure => simp [intOf]; omega
      · obtain rfl : k = N := by omega
        obtain ⟨⟨a, b⟩, hc⟩ : ∃ c, cs[k]? = some c := ⟨cs[k], List.getElem?_eq_getElem (by omega)⟩
        have hokc := hok _ (List.mem_of_getElem? hc)
        obtain ⟨g, o, rfl, h0, h1⟩ := hat k _ hc
        have hgl : g < w.heap.size := World.block_lt_of_cell? w _ h0
        have hc0 : wr.cell? ⟨g, o + k * 2, none⟩ = some (.int .i32 a) := (hb.cell (p := ⟨g, _, none⟩) hgl).trans h0
        have hc1 : wr.cell? ⟨g, o + k * 2 + 1, none⟩ = some (.int .i32 b) := (hb.cell (p := ⟨g, _, none⟩) hgl).trans h1
        have hgne : ¬ g = wr.heap.size := by omega
        have hpl := packB_length_le (cs.take k) (fun c hc => hok c (List.mem_of_mem_take hc))
        have htl : (cs.take k).length ≤ 301 := by rw [List.length_take]; omega
        have hu := u32_of
        have i1 : (0 : Int) ≤ (k : Int) := by omega
        have i3 : (k : Int) < (k : Int) + 1 := by omega
        have EN : Hid (encode cs = packB (cs.take k) ++ lastB (a, b)) := by
          have e : cs = cs.take k ++ [(a, b)] := by
            have h2 : cs.take (k + 1) = cs := List.take_of_length_le (by omega)
            rw [List.take_add_one, hc] at h2
            exact h2.symm
          exact (congrArg encode e).trans (encode_snoc _ _)
        clear hat hok hcs hc h0 h1 hokc
        go_wp2_with fail
        go_at_call 10
        refine (append32 w.heap.size _ a u3 _ _ (hown.alloc _) (by simp; omega) (by omega)).mono ?_
        rintro e w1 ⟨v1, rfl, ho1, hb1, hk1⟩
        have hbox : w1.heap[wr.heap.size]? = some (.cells #[.int .i32 a, .int .i32 b] 28 (0, 0)) := hk1.cells (heap_alloc_new wr _) (by decide)
        have hd1 : w1.cell? ⟨wr.heap.size, 1, none⟩ = some (.int .i32 b) := by rw [cell_of_row _ _ _ _ _ _ hbox]; rfl
        have hs1 : wr.heap.size < w1.heap.size := lt_of_block hbox
        have hB1 : Below w.heap.size w w1 := (hb.alloc hbs _).trans hb1
        clear hk1 hb hb1 hown hbox hc0 hc1
        go_wp2_with fail
        go_at_call 10
        refine (append32 w.heap.size _ b v1 _ w1 ho1 (by omega) (by omega)).mono ?_
        rintro e w2 ⟨v2, rfl, ho2, hb2, hk2⟩
        clear hk2 hd1
        go_wp2
        go_ret
        exact ⟨v2, rfl, own_cast ho2 (by rw [EN.out]; simp [lastB, le32_length]) (by rw [EN.out]; simp [lastB, byteCells_append]), hB1.trans hb2⟩
end Go.Proofs.Ybulkcryq
