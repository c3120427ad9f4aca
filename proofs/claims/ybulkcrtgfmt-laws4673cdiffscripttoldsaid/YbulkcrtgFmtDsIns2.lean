/-
  slices.Insert of one element, more: no room; all ways in one.
-/
import Derived.Test.YbulkcrtgFmtDsIns
namespace Go.Proofs.YbulkcrtgFmt
open Go Go.RowKit

theorem ins_list1 (xs ys news : List Value) (K i n : Nat) (hx : xs.length = n * K) (hl : news.length = K) (hy : ys.length = (n + 1) * K) (h : ys.take (n * K) = xs) (hi : i < n) :
    (ys.take ((i + 1) * K) ++ xs.drop (i * K) ++ ys.drop ((i + 1) * K + (xs.drop (i * K)).length)).take (i * K) ++ news ++ (ys.take ((i + 1) * K) ++ xs.drop (i * K) ++ ys.drop ((i + 1) * K + (xs.drop (i * K)).length)).drop (i * K + news.length) = xs.take (i * K) ++ news ++ xs.drop (i * K) := by
  have e1 : (i + 1) * K = i * K + K := Nat.succ_mul i K
  have e2 : (n + 1) * K = n * K + K := Nat.succ_mul n K
  have e3 : i * K ≤ n * K := Nat.mul_le_mul_right K (by omega)
  have e4 : (i + 1) * K ≤ n * K := Nat.mul_le_mul_right K (by omega)
  have hd : ys.drop ((i + 1) * K + (xs.drop (i * K)).length) = [] := List.drop_eq_nil_of_le (by rw [List.length_drop]; omega)
  have hyt : (ys.take ((i + 1) * K)).length = (i + 1) * K := by rw [List.length_take]; omega
  rw [hd, List.append_nil, hl, ← e1]
  rw [List.take_append_of_le_length (by rw [hyt]; omega), List.take_take, Nat.min_eq_left (by omega)]
  rw [show (ys.take ((i + 1) * K) ++ xs.drop (i * K)).drop ((i + 1) * K) = xs.drop (i * K) by
    have := List.drop_left (l₁ := ys.take ((i + 1) * K)) (l₂ := xs.drop (i * K))
    rwa [hyt] at this]
  have : ys.take (i * K) = xs.take (i * K) := by rw [← h, List.take_take, Nat.min_eq_left e3]
  rw [this]
theorem ins_list2 (xs news zs : List Value) (K i n : Nat) (hx : xs.length = n * K) (hl : news.length = K) (hz : zs.length = (n + 1 - i) * K) (hi : i < n) :
    ((xs.take (i * K) ++ zs).take (i * K) ++ news ++ (xs.take (i * K) ++ zs).drop (i * K + news.length)).take ((i + 1) * K) ++ xs.drop (i * K) ++ ((xs.take (i * K) ++ zs).take (i * K) ++ news ++ (xs.take (i * K) ++ zs).drop (i * K + news.length)).drop ((i + 1) * K + (xs.drop (i * K)).length) = xs.take (i * K) ++ news ++ xs.drop (i * K) := by
  have e1 : (i + 1) * K = i * K + K := Nat.succ_mul i K
  have e3 : i * K ≤ n * K := Nat.mul_le_mul_right K (by omega)
  have e5 : (n + 1 - i) * K = n * K + K - i * K := by rw [Nat.sub_mul, Nat.succ_mul]
  have ht : (xs.take (i * K)).length = i * K := by rw [List.length_take]; omega
  have h1 : (xs.take (i * K) ++ zs).take (i * K) = xs.take (i * K) := by
    have := List.take_left (l₁ := xs.take (i * K)) (l₂ := zs)
    rwa [ht] at this
  rw [h1]
  have h2 : (xs.take (i * K) ++ news).length = (i + 1) * K := by rw [List.length_append, ht, hl, e1]
  have h3 : (xs.take (i * K) ++ news ++ (xs.take (i * K) ++ zs).drop (i * K + news.length)).take ((i + 1) * K) = xs.take (i * K) ++ news := by
    have := List.take_left (l₁ := xs.take (i * K) ++ news) (l₂ := (xs.take (i * K) ++ zs).drop (i * K + news.length))
    rwa [h2] at this
  rw [h3]
  have h4 : (xs.take (i * K) ++ news ++ (xs.take (i * K) ++ zs).drop (i * K + news.length)).drop ((i + 1) * K + (xs.drop (i * K)).length) = [] := by
    refine List.drop_eq_nil_of_le ?_
    rw [List.length_append, h2, List.length_drop, List.length_append, ht, hz, hl, List.length_drop, hx]
    omega
  rw [h4, List.append_nil]
theorem own_ext {w : World} {B e K n c g : Nat} {xs : List Value} (h : w.ownsRow B e K (.slice (some ⟨g, 0, none⟩) n c) n xs) (hc : n + 1 ≤ c) : ∃ ys, w.ownsRow B e K (.slice (some ⟨g, 0, none⟩) (n + 1) c) (n + 1) ys ∧ ys.take (n * K) = xs := by
  rcases h.2 with ⟨h', _⟩ | ⟨g', cap', cur, h', hb, hg, _, hm, hsz, htk⟩
  · cases h'
  · simp only [Value.slice.injEq, Option.some.injEq, Addr.mk.injEq, and_true, true_and] at h'
    obtain ⟨rfl, rfl⟩ := h'
    have e4 : (n + 1) * K ≤ c * K := Nat.mul_le_mul_right K hc
    have e5 : n * K ≤ (n + 1) * K := Nat.mul_le_mul_right K (by omega)
    refine ⟨cur.toList.take ((n + 1) * K), ⟨by rw [List.length_take, Array.length_toList, hsz]; omega, .inr ⟨_, _, cur, rfl, hb, hg, hc, hm, hsz, rfl⟩⟩, ?_⟩
    rw [List.take_take, Nat.min_eq_left e5]
    exact htk

set_option maxHeartbeats 4000000 in
set_option maxRecDepth 100000 in
theorem ins_str_grow (B n i g vb : Nat) (news : List Value) (xs : List Value) (cur : Array Value) (w : World) (hown : w.ownsRow B 9 1 (.slice (some ⟨g, 0, none⟩) n n) n xs) (hB : B ≤ w.heap.size) (hi : i < n) (hn : n ≤ 100000) (hl : news.length = 1) (hvb : w.heap[vb]? = some (.cells cur 9 (0, 0))) (hcur : cur.toList = news) (h1 : ∀ u ∈ news, u.oneCell' = true) (h1x : ∀ u ∈ xs, u.oneCell' = true) :
    Calls Ybaf.prog 10 #[.slice (some ⟨g, 0, none⟩) n n, .int .i64 i, .slice (some ⟨vb, 0, none⟩) 1 1] w fun e w' => ∃ v', e = .returned v' ∧ w'.ownsRow B 9 1 v' (n + 1) (xs.take (i * 1) ++ news ++ xs.drop (i * 1)) ∧ Grew w (.slice (some ⟨g, 0, none⟩) n n) w' v' := by
  obtain ⟨i0, hi0, hz0, hz1, hz2⟩ := info_parts Ybaf.info9
  have hxl := hown.1
  have hgl := (hown.lt g rfl).2
  have hvl := lt_of_block hvb
  have hsz : (Ybaf.prog.info? 9).map (·.size) = some 1 := by kernel_rfl
  have hol : (xs.take (i * 1)).length = i * i0.size := by rw [List.length_take, hxl, hz1]; omega
  have hold : (Builtin.firstCells i0.size i (.slice (some ⟨g, 0, none⟩) i n)).run Ybaf.prog w.drew = .ok (xs.take (i * 1)).toArray w.drew :=
    run_firstCells_some w.drew i0.size i ⟨g, 0, none⟩ i n (xs.take (i * 1)) hol (fun j v hj => by
      rw [Addr.add_lit, Nat.zero_add]
      have hlt : j < i * 1 := by have := (List.getElem?_eq_some_iff.1 hj).1; rw [List.length_take] at this; omega
      rw [List.getElem?_take_of_lt hlt] at hj
      exact (hown.cellAt j (by omega)).trans hj)
  obtain ⟨G, hG⟩ : ∃ G, grownCap w (n + 1) n 9 = G := ⟨_, rfl⟩
  have hGn : n + 1 ≤ G := by rw [← hG]; exact grownCap_ge w _ _ _
  have hGm : G ≤ maxLen := by rw [← hG]; exact grownCap_le_maxLen w _ _ _ (by unfold maxLen; omega)
  have hG63 : G ≤ 9223372036854775807 := by unfold maxLen at hGm; omega
  obtain ⟨W1, hW1⟩ : ∃ W1, w.drew.alloc (.cells ((xs.take (i * 1)).toArray ++ Builtin.zeroCells (Value.cells (.string ⟨#[]⟩)) (n + 1 - i) ++ Builtin.zeroCells (Value.cells (.string ⟨#[]⟩)) (G - (n + 1))) 9) = W1 := ⟨_, rfl⟩
  have hap : ∀ ty, (Builtin.append_ #[31, 3] ty #[.slice (some ⟨g, 0, none⟩) i n, .int .i64 ((n : Int) + 1 - (i : Int))]).run Ybaf.prog w = .ok (.slice (some ⟨w.heap.size, 0, none⟩) (n + 1) G) W1 := fun ty => by
    have h := Lib.run_append_grow_zeros w 31 3 ty 9 i0 _ .i64 .i64 Ybaf.underlying31 Ybaf.underlying3 hi0 hz0 (some ⟨g, 0, none⟩) i n (xs.take (i * 1)) hold (n + 1 - i) (by omega) (by omega) (by omega) (by omega) (by rw [hz2]; omega) (by rw [show i + (n + 1 - i) = n + 1 by omega]; exact growslice_fits (by omega) (by rw [hz2]; omega))
    rw [show i + (n + 1 - i) = n + 1 by omega, hG, hW1] at h
    rw [show (n : Int) + 1 - (i : Int) = ((n + 1 - i : Nat) : Int) by omega]
    exact h
  have hzl : (Value.cells (.string ⟨#[]⟩)).size = 1 := by rfl
  have hcz : ∀ k, (Builtin.zeroCells (Value.cells (.string ⟨#[]⟩)) k).toList.length = k * 1 := fun k => by rw [Array.length_toList, size_zeroCells, hzl]
  obtain ⟨zs, hzs⟩ : ∃ zs, (Builtin.zeroCells (Value.cells (.string ⟨#[]⟩)) (n + 1 - i)).toList = zs := ⟨_, rfl⟩
  have hzsl : zs.length = (n + 1 - i) * 1 := by rw [← hzs]; exact hcz _
  have hol2 : (xs.take (i * 1)).length = i * 1 := by rw [hol, hz1]
  have own1 : W1.ownsRow w.heap.size 9 1 (.slice (some ⟨w.heap.size, 0, none⟩) (n + 1) G) (n + 1) (xs.take (i * 1) ++ zs) := by
    refine ⟨by rw [List.length_append, hol2, hzsl]; omega, .inr ⟨w.heap.size, G, _, rfl, Nat.le_refl _, by rw [← hW1]; exact heap_alloc_new w.drew _, hGn, hGm, ?_, ?_⟩⟩
    · simp only [Array.size_append, List.size_toArray, size_zeroCells, hzl, hol2]; omega
    · rw [Array.toList_append, Array.toList_append, hzs]
      rw [List.take_append_of_le_length (by rw [List.length_append, hol2, hzsl]; omega)]
      exact List.take_of_length_le (by rw [List.length_append, hol2, hzsl]; omega)
  have k1 : KeptB w.heap.size (fun _ => False) w W1 := by rw [← hW1]; exact (KeptB.drew w).trans (KeptB.alloc _ (Nat.le_refl _))
  have hs1 : W1.heap.size = w.heap.size + 1 := by rw [← hW1]; simp
  have row1 : ∀ k, k < (n + 1) * 1 → (W1.cell? ⟨w.heap.size, k, none⟩).isSome = true ∧ W1.frozen? ⟨w.heap.size, k, none⟩ = false := fun k hk =>
    ⟨by rw [own1.cellAt k hk, List.getElem?_eq_getElem (by have := own1.1; omega)]; rfl, own1.frozenAt k⟩
  have hvb1 := (k1.block vb hvl (fun h => h)).trans hvb
  have hcp1 : ∀ ty dc, (Builtin.copy_ #[31, 31] ty #[.slice (some ⟨w.heap.size, i, none⟩) (n + 1 - i) dc, .slice (some ⟨vb, 0, none⟩) 1 1]).run Ybaf.prog W1 = .ok (goInt (Nat.min 1 (n + 1 - i))) (W1.setCells w.heap.size (i) news) := fun ty dc =>
    run_copy_k W1 _ _ ty 9 w.heap.size (i) (n + 1 - i) dc ⟨vb, 0, none⟩ 1 1 1 news Ybaf.underlying31 hsz (by rw [hl]; simp only [Nat.min_def]; split <;> omega)
      (fun j v hj => by rw [Addr.add_lit, Nat.zero_add, cell_of_row _ _ _ _ _ _ hvb1]; rw [← hcur] at hj; simpa using hj)
      (fun j hj => (row1 _ (by omega)).1) (fun j hj => (row1 _ (by omega)).2) h1
  have own2 := own_setCells news (i) W1 _ own1 (by rw [List.length_append, hol2, hzsl]; omega)
  obtain ⟨W2, hW2⟩ : ∃ W2, W1.setCells w.heap.size (i) news = W2 := ⟨_, rfl⟩
  have gr2 := grown_setCells w.heap.size news (i) W1
  rw [hW2] at hcp1 own2 gr2
  have k2 : KeptB w.heap.size (fun _ => False) w W2 := k1.trans (KeptB.grown gr2 (by omega) (fun k e hk => by simp at e; omega))
  have hdl : (xs.drop (i)).length = (n - i) * 1 := by rw [List.length_drop, hxl]; omega
  have hl2 := own2.1
  have row2 : ∀ k, k < (n + 1) * 1 → (W2.cell? ⟨w.heap.size, k, none⟩).isSome = true ∧ W2.frozen? ⟨w.heap.size, k, none⟩ = false := fun k hk =>
    ⟨by rw [own2.cellAt k hk, List.getElem?_eq_getElem (by omega)]; rfl, own2.frozenAt k⟩
  have hcp2 : ∀ ty dc sc, (Builtin.copy_ #[31, 31] ty #[.slice (some ⟨w.heap.size, i + 1, none⟩) (n - i) dc, .slice (some ⟨g, i, none⟩) (n - i) sc]).run Ybaf.prog W2.drew = .ok (goInt (Nat.min (n - i) (n - i))) (W2.drew.setCells w.heap.size (i + 1) (xs.drop (i))) := fun ty dc sc =>
    run_copy_k W2.drew _ _ ty 9 w.heap.size (i + 1) (n - i) dc ⟨g, i, none⟩ (n - i) sc 1 (xs.drop (i)) Ybaf.underlying31 hsz (by rw [hdl]; simp only [Nat.min_def]; split <;> omega)
      (fun j v hj => by
        rw [Addr.add_lit]
        rw [List.getElem?_drop] at hj
        have hlt : i + j < n * 1 := by have := (List.getElem?_eq_some_iff.1 hj).1; omega
        exact (World.cell?_of_block (w := w) (k2.block g hgl (fun h => h))).trans ((hown.cellAt (i + j) hlt).trans hj))
      (fun j hj => (row2 _ (by rw [hdl] at hj; omega)).1) (fun j hj => (row2 _ (by rw [hdl] at hj; omega)).2) (fun v hv => h1x v (List.mem_of_mem_drop hv))
  have own3 := own_setCells (xs.drop (i)) (i + 1) W2.drew _ (show W2.drew.ownsRow _ _ _ _ _ _ from own2) (by rw [hdl]; omega)
  obtain ⟨W3, hW3⟩ : ∃ W3, W2.drew.setCells w.heap.size (i + 1) (xs.drop (i)) = W3 := ⟨_, rfl⟩
  have gr3 := grown_setCells w.heap.size (xs.drop (i)) (i + 1) W2.drew
  rw [hW3] at hcp2 own3 gr3
  have k3 : KeptB w.heap.size (fun _ => False) w W3 := k2.trans ((KeptB.drew W2).trans (KeptB.grown gr3 (by have := gr2.size; show w.heap.size ≤ W2.heap.size; omega) (fun k e hk => by simp at e; omega)))
  have FIN : W3.ownsRow B 9 1 (.slice (some ⟨w.heap.size, 0, none⟩) (n + 1) G) (n + 1) (xs.take (i * 1) ++ news ++ xs.drop (i * 1)) := by
    refine own_le (own_cast own3 rfl ?_) hB
    have hh := ins_list2 xs news zs 1 i n hxl hl hzsl hi; simp only [Nat.mul_one] at hh ⊢; exact hh
  have mixed : Ybaf.prog.follows .mixedOrders = true := by kernel_rfl
  have hz2 : ((i : Int) == (n : Int)) = false := by simp; omega
  have hw1 : IntKind.i64.wrap ((i : Int) + 1) = (i : Int) + 1 := by rw [IntKind.wrap_i64]; omega
  have hw2 : IntKind.i64.wrap ((n : Int) + 1) = (n : Int) + 1 := by rw [IntKind.wrap_i64]; omega
  have hw3 : IntKind.i64.wrap ((n : Int) + 1 - (i : Int)) = (n : Int) + 1 - (i : Int) := by rw [IntKind.wrap_i64]; omega
  have hb1 : (0 : Int) ≤ (i : Int) + 1 := by omega
  have hb0 : (0 : Int) ≤ (i : Int) := by omega
  have hin : (i : Int) ≤ (n : Int) := by omega
  have htn : ((i : Int) + 1).toNat = i + 1 := by omega
  have hb2 : ¬ (G = i + 1) := by omega
  have hb3 : (i : Int) ≤ (n : Int) + 1 := by omega
  have hb4 : ¬ (n = i) := by omega
  have hb5 : (i : Int) + 1 ≤ (n : Int) + 1 := by omega
  have hb6 : (n : Int) + 1 > (n : Int) := by omega
  have hb7 : ¬ (G = i) := by omega
  have HF : Hid (W3.ownsRow B 9 1 (.slice (some ⟨w.heap.size, 0, none⟩) (n + 1) G) (n + 1) (xs.take (i * 1) ++ news ++ xs.drop (i * 1)) ∧ KeptB w.heap.size (fun _ => False) w W3) := ⟨FIN, k3⟩
  clear FIN k3 own1 own2 own3 gr2 gr3 k1 k2 hW1 hW2 hW3 row1 row2 hold hol hown hvb hvb1 hG hGm hz0 hz1 hs1 hcz hzs hzsl hol2 hl2 hdl
  go_enter Ybaf.func10, Ybaf.ntmps10
  go_wp2_with (at_builtin; refine Lib.wpList_append_run _ rfl _ _ _ _ rfl _ _ rfl rfl _ _ (hap _) ?_)
  go_region
  go_wp2
  go_ret
  refine ⟨_, rfl, HF.out.1, HF.out.2.mono (Nat.le_refl _) (fun _ _ h => h.elim), fun k e => ?_⟩
  have e' : w.heap.size = k := by simpa [Value.ownBlock] using e
  exact .inr (by omega)
theorem ins_str_any (B n i vb : Nat) (news : List Value) (sv : Value) (xs : List Value) (cur : Array Value) (w : World) (hown : w.ownsRow B 9 1 sv n xs) (hB : B ≤ w.heap.size) (hi : i ≤ n) (hn : n ≤ 100000) (hl : news.length = 1) (hvb : w.heap[vb]? = some (.cells cur 9 (0, 0))) (hcur : cur.toList = news) (hne : sv.ownBlock ≠ some vb) (h1 : ∀ u ∈ news, u.oneCell' = true) (h1x : ∀ u ∈ xs, u.oneCell' = true) :
    Calls Ybaf.prog 10 #[sv, .int .i64 i, .slice (some ⟨vb, 0, none⟩) 1 1] w fun e w' => ∃ v', e = .returned v' ∧ w'.ownsRow B 9 1 v' (n + 1) (xs.take (i * 1) ++ news ++ xs.drop (i * 1)) ∧ Grew w sv w' v' := by
  have hxl := hown.1
  by_cases hin : i = n
  · subst hin
    refine (ins_str_end B i vb news sv xs w hown hB hn hl (fun j u hj => by rw [cell_of_row _ _ _ _ _ _ hvb]; rw [← hcur] at hj; simpa using hj) h1).mono ?_
    rintro e w' ⟨v', rfl, o, g⟩
    refine ⟨v', rfl, own_cast o rfl ?_, g⟩
    rw [List.take_of_length_le (by omega), List.drop_eq_nil_of_le (by omega), List.append_nil]
  · obtain ⟨g, c, rfl, hbg, hnc, hgl⟩ := own_form hown (by omega)
    by_cases hroom : n + 1 ≤ c
    · refine (ins_str_shift B n i c g vb news xs cur w hown (by omega) hroom hn hl hvb hcur (fun e => hne (by rw [e]; rfl)) h1 h1x).mono ?_
      rintro e w' ⟨rfl, rfl⟩
      obtain ⟨ys, oy, hy⟩ := own_ext hown hroom
      have hdl : (xs.drop (i * 1)).length = (n - i) * 1 := by rw [List.length_drop, hxl]; omega
      have hyl := oy.1
      have o1 := own_setCells (xs.drop (i * 1)) ((i + 1) * 1) w.drew ys (show w.drew.ownsRow _ _ _ _ _ _ from oy) (by rw [hdl]; omega)
      have o2 := own_setCells news (i * 1) _ _ o1 (by have := o1.1; omega)
      have g1 := grown_setCells g (xs.drop (i * 1)) ((i + 1) * 1) w.drew
      have g2 := grown_setCells g news (i * 1) (w.drew.setCells g ((i + 1) * 1) (xs.drop (i * 1)))
      simp only [Nat.mul_one] at o1 o2 g1 g2
      refine ⟨_, rfl, own_cast o2 rfl ?_, (KeptB.drew w).trans (KeptB.grown (grown_trans g1 g2) (Nat.le_refl _) (fun k e _ => e.symm)), fun k e => .inl e⟩
      have hh := ins_list1 xs ys news 1 i n hxl hl hyl hy (by omega); simp only [Nat.mul_one] at hh ⊢; exact hh
    · obtain rfl : c = n := by omega
      exact ins_str_grow B c i g vb news xs cur w hown hB (by omega) hn hl hvb hcur h1 h1x

set_option maxHeartbeats 4000000 in
set_option maxRecDepth 100000 in
theorem ins_u64_grow (B n i g vb : Nat) (news : List Value) (xs : List Value) (cur : Array Value) (w : World) (hown : w.ownsRow B 34 1 (.slice (some ⟨g, 0, none⟩) n n) n xs) (hB : B ≤ w.heap.size) (hi : i < n) (hn : n ≤ 100000) (hl : news.length = 1) (hvb : w.heap[vb]? = some (.cells cur 34 (0, 0))) (hcur : cur.toList = news) (h1 : ∀ u ∈ news, u.oneCell' = true) (h1x : ∀ u ∈ xs, u.oneCell' = true) :
    Calls Ybaf.prog 11 #[.slice (some ⟨g, 0, none⟩) n n, .int .i64 i, .slice (some ⟨vb, 0, none⟩) 1 1] w fun e w' => ∃ v', e = .returned v' ∧ w'.ownsRow B 34 1 v' (n + 1) (xs.take (i * 1) ++ news ++ xs.drop (i * 1)) ∧ Grew w (.slice (some ⟨g, 0, none⟩) n n) w' v' := by
  obtain ⟨i0, hi0, hz0, hz1, hz2⟩ := info_parts Ybaf.info34
  have hxl := hown.1
  have hgl := (hown.lt g rfl).2
  have hvl := lt_of_block hvb
  have hsz : (Ybaf.prog.info? 34).map (·.size) = some 1 := by kernel_rfl
  have hol : (xs.take (i * 1)).length = i * i0.size := by rw [List.length_take, hxl, hz1]; omega
  have hold : (Builtin.firstCells i0.size i (.slice (some ⟨g, 0, none⟩) i n)).run Ybaf.prog w.drew = .ok (xs.take (i * 1)).toArray w.drew :=
    run_firstCells_some w.drew i0.size i ⟨g, 0, none⟩ i n (xs.take (i * 1)) hol (fun j v hj => by
      rw [Addr.add_lit, Nat.zero_add]
      have hlt : j < i * 1 := by have := (List.getElem?_eq_some_iff.1 hj).1; rw [List.length_take] at this; omega
      rw [List.getElem?_take_of_lt hlt] at hj
      exact (hown.cellAt j (by omega)).trans hj)
  obtain ⟨G, hG⟩ : ∃ G, grownCap w (n + 1) n 34 = G := ⟨_, rfl⟩
  have hGn : n + 1 ≤ G := by rw [← hG]; exact grownCap_ge w _ _ _
  have hGm : G ≤ maxLen := by rw [← hG]; exact grownCap_le_maxLen w _ _ _ (by unfold maxLen; omega)
  have hG63 : G ≤ 9223372036854775807 := by unfold maxLen at hGm; omega
  obtain ⟨W1, hW1⟩ : ∃ W1, w.drew.alloc (.cells ((xs.take (i * 1)).toArray ++ Builtin.zeroCells (Value.cells (.int .u64 0)) (n + 1 - i) ++ Builtin.zeroCells (Value.cells (.int .u64 0)) (G - (n + 1))) 34) = W1 := ⟨_, rfl⟩
  have hap : ∀ ty, (Builtin.append_ #[32, 3] ty #[.slice (some ⟨g, 0, none⟩) i n, .int .i64 ((n : Int) + 1 - (i : Int))]).run Ybaf.prog w = .ok (.slice (some ⟨w.heap.size, 0, none⟩) (n + 1) G) W1 := fun ty => by
    have h := Lib.run_append_grow_zeros w 32 3 ty 34 i0 _ .i64 .i64 Ybaf.underlying32 Ybaf.underlying3 hi0 hz0 (some ⟨g, 0, none⟩) i n (xs.take (i * 1)) hold (n + 1 - i) (by omega) (by omega) (by omega) (by omega) (by rw [hz2]; omega) (by rw [show i + (n + 1 - i) = n + 1 by omega]; exact growslice_fits (by omega) (by rw [hz2]; omega))
    rw [show i + (n + 1 - i) = n + 1 by omega, hG, hW1] at h
    rw [show (n : Int) + 1 - (i : Int) = ((n + 1 - i : Nat) : Int) by omega]
    exact h
  have hzl : (Value.cells (.int .u64 0)).size = 1 := by rfl
  have hcz : ∀ k, (Builtin.zeroCells (Value.cells (.int .u64 0)) k).toList.length = k * 1 := fun k => by rw [Array.length_toList, size_zeroCells, hzl]
  obtain ⟨zs, hzs⟩ : ∃ zs, (Builtin.zeroCells (Value.cells (.int .u64 0)) (n + 1 - i)).toList = zs := ⟨_, rfl⟩
  have hzsl : zs.length = (n + 1 - i) * 1 := by rw [← hzs]; exact hcz _
  have hol2 : (xs.take (i * 1)).length = i * 1 := by rw [hol, hz1]
  have own1 : W1.ownsRow w.heap.size 34 1 (.slice (some ⟨w.heap.size, 0, none⟩) (n + 1) G) (n + 1) (xs.take (i * 1) ++ zs) := by
    refine ⟨by rw [List.length_append, hol2, hzsl]; omega, .inr ⟨w.heap.size, G, _, rfl, Nat.le_refl _, by rw [← hW1]; exact heap_alloc_new w.drew _, hGn, hGm, ?_, ?_⟩⟩
    · simp only [Array.size_append, List.size_toArray, size_zeroCells, hzl, hol2]; omega
    · rw [Array.toList_append, Array.toList_append, hzs]
      rw [List.take_append_of_le_length (by rw [List.length_append, hol2, hzsl]; omega)]
      exact List.take_of_length_le (by rw [List.length_append, hol2, hzsl]; omega)
  have k1 : KeptB w.heap.size (fun _ => False) w W1 := by rw [← hW1]; exact (KeptB.drew w).trans (KeptB.alloc _ (Nat.le_refl _))
  have hs1 : W1.heap.size = w.heap.size + 1 := by rw [← hW1]; simp
  have row1 : ∀ k, k < (n + 1) * 1 → (W1.cell? ⟨w.heap.size, k, none⟩).isSome = true ∧ W1.frozen? ⟨w.heap.size, k, none⟩ = false := fun k hk =>
    ⟨by rw [own1.cellAt k hk, List.getElem?_eq_getElem (by have := own1.1; omega)]; rfl, own1.frozenAt k⟩
  have hvb1 := (k1.block vb hvl (fun h => h)).trans hvb
  have hcp1 : ∀ ty dc, (Builtin.copy_ #[32, 32] ty #[.slice (some ⟨w.heap.size, i, none⟩) (n + 1 - i) dc, .slice (some ⟨vb, 0, none⟩) 1 1]).run Ybaf.prog W1 = .ok (goInt (Nat.min 1 (n + 1 - i))) (W1.setCells w.heap.size (i) news) := fun ty dc =>
    run_copy_k W1 _ _ ty 34 w.heap.size (i) (n + 1 - i) dc ⟨vb, 0, none⟩ 1 1 1 news Ybaf.underlying32 hsz (by rw [hl]; simp only [Nat.min_def]; split <;> omega)
      (fun j v hj => by rw [Addr.add_lit, Nat.zero_add, cell_of_row _ _ _ _ _ _ hvb1]; rw [← hcur] at hj; simpa using hj)
      (fun j hj => (row1 _ (by omega)).1) (fun j hj => (row1 _ (by omega)).2) h1
  have own2 := own_setCells news (i) W1 _ own1 (by rw [List.length_append, hol2, hzsl]; omega)
  obtain ⟨W2, hW2⟩ : ∃ W2, W1.setCells w.heap.size (i) news = W2 := ⟨_, rfl⟩
  have gr2 := grown_setCells w.heap.size news (i) W1
  rw [hW2] at hcp1 own2 gr2
  have k2 : KeptB w.heap.size (fun _ => False) w W2 := k1.trans (KeptB.grown gr2 (by omega) (fun k e hk => by simp at e; omega))
  have hdl : (xs.drop (i)).length = (n - i) * 1 := by rw [List.length_drop, hxl]; omega
  have hl2 := own2.1
  have row2 : ∀ k, k < (n + 1) * 1 → (W2.cell? ⟨w.heap.size, k, none⟩).isSome = true ∧ W2.frozen? ⟨w.heap.size, k, none⟩ = false := fun k hk =>
    ⟨by rw [own2.cellAt k hk, List.getElem?_eq_getElem (by omega)]; rfl, own2.frozenAt k⟩
  have hcp2 : ∀ ty dc sc, (Builtin.copy_ #[32, 32] ty #[.slice (some ⟨w.heap.size, i + 1, none⟩) (n - i) dc, .slice (some ⟨g, i, none⟩) (n - i) sc]).run Ybaf.prog W2.drew = .ok (goInt (Nat.min (n - i) (n - i))) (W2.drew.setCells w.heap.size (i + 1) (xs.drop (i))) := fun ty dc sc =>
    run_copy_k W2.drew _ _ ty 34 w.heap.size (i + 1) (n - i) dc ⟨g, i, none⟩ (n - i) sc 1 (xs.drop (i)) Ybaf.underlying32 hsz (by rw [hdl]; simp only [Nat.min_def]; split <;> omega)
      (fun j v hj => by
        rw [Addr.add_lit]
        rw [List.getElem?_drop] at hj
        have hlt : i + j < n * 1 := by have := (List.getElem?_eq_some_iff.1 hj).1; omega
        exact (World.cell?_of_block (w := w) (k2.block g hgl (fun h => h))).trans ((hown.cellAt (i + j) hlt).trans hj))
      (fun j hj => (row2 _ (by rw [hdl] at hj; omega)).1) (fun j hj => (row2 _ (by rw [hdl] at hj; omega)).2) (fun v hv => h1x v (List.mem_of_mem_drop hv))
  have own3 := own_setCells (xs.drop (i)) (i + 1) W2.drew _ (show W2.drew.ownsRow _ _ _ _ _ _ from own2) (by rw [hdl]; omega)
  obtain ⟨W3, hW3⟩ : ∃ W3, W2.drew.setCells w.heap.size (i + 1) (xs.drop (i)) = W3 := ⟨_, rfl⟩
  have gr3 := grown_setCells w.heap.size (xs.drop (i)) (i + 1) W2.drew
  rw [hW3] at hcp2 own3 gr3
  have k3 : KeptB w.heap.size (fun _ => False) w W3 := k2.trans ((KeptB.drew W2).trans (KeptB.grown gr3 (by have := gr2.size; show w.heap.size ≤ W2.heap.size; omega) (fun k e hk => by simp at e; omega)))
  have FIN : W3.ownsRow B 34 1 (.slice (some ⟨w.heap.size, 0, none⟩) (n + 1) G) (n + 1) (xs.take (i * 1) ++ news ++ xs.drop (i * 1)) := by
    refine own_le (own_cast own3 rfl ?_) hB
    have hh := ins_list2 xs news zs 1 i n hxl hl hzsl hi; simp only [Nat.mul_one] at hh ⊢; exact hh
  have mixed : Ybaf.prog.follows .mixedOrders = true := by kernel_rfl
  have hz2 : ((i : Int) == (n : Int)) = false := by simp; omega
  have hw1 : IntKind.i64.wrap ((i : Int) + 1) = (i : Int) + 1 := by rw [IntKind.wrap_i64]; omega
  have hw2 : IntKind.i64.wrap ((n : Int) + 1) = (n : Int) + 1 := by rw [IntKind.wrap_i64]; omega
  have hw3 : IntKind.i64.wrap ((n : Int) + 1 - (i : Int)) = (n : Int) + 1 - (i : Int) := by rw [IntKind.wrap_i64]; omega
  have hb1 : (0 : Int) ≤ (i : Int) + 1 := by omega
  have hb0 : (0 : Int) ≤ (i : Int) := by omega
  have hin : (i : Int) ≤ (n : Int) := by omega
  have htn : ((i : Int) + 1).toNat = i + 1 := by omega
  have hb2 : ¬ (G = i + 1) := by omega
  have hb3 : (i : Int) ≤ (n : Int) + 1 := by omega
  have hb4 : ¬ (n = i) := by omega
  have hb5 : (i : Int) + 1 ≤ (n : Int) + 1 := by omega
  have hb6 : (n : Int) + 1 > (n : Int) := by omega
  have hb7 : ¬ (G = i) := by omega
  have HF : Hid (W3.ownsRow B 34 1 (.slice (some ⟨w.heap.size, 0, none⟩) (n + 1) G) (n + 1) (xs.take (i * 1) ++ news ++ xs.drop (i * 1)) ∧ KeptB w.heap.size (fun _ => False) w W3) := ⟨FIN, k3⟩
  clear FIN k3 own1 own2 own3 gr2 gr3 k1 k2 hW1 hW2 hW3 row1 row2 hold hol hown hvb hvb1 hG hGm hz0 hz1 hs1 hcz hzs hzsl hol2 hl2 hdl
  go_enter Ybaf.func11, Ybaf.ntmps11
  go_wp2_with (at_builtin; refine Lib.wpList_append_run _ rfl _ _ _ _ rfl _ _ rfl rfl _ _ (hap _) ?_)
  go_region
  go_wp2
  go_ret
  refine ⟨_, rfl, HF.out.1, HF.out.2.mono (Nat.le_refl _) (fun _ _ h => h.elim), fun k e => ?_⟩
  have e' : w.heap.size = k := by simpa [Value.ownBlock] using e
  exact .inr (by omega)
theorem ins_u64_any (B n i vb : Nat) (news : List Value) (sv : Value) (xs : List Value) (cur : Array Value) (w : World) (hown : w.ownsRow B 34 1 sv n xs) (hB : B ≤ w.heap.size) (hi : i ≤ n) (hn : n ≤ 100000) (hl : news.length = 1) (hvb : w.heap[vb]? = some (.cells cur 34 (0, 0))) (hcur : cur.toList = news) (hne : sv.ownBlock ≠ some vb) (h1 : ∀ u ∈ news, u.oneCell' = true) (h1x : ∀ u ∈ xs, u.oneCell' = true) :
    Calls Ybaf.prog 11 #[sv, .int .i64 i, .slice (some ⟨vb, 0, none⟩) 1 1] w fun e w' => ∃ v', e = .returned v' ∧ w'.ownsRow B 34 1 v' (n + 1) (xs.take (i * 1) ++ news ++ xs.drop (i * 1)) ∧ Grew w sv w' v' := by
  have hxl := hown.1
  by_cases hin : i = n
  · subst hin
    refine (ins_u64_end B i vb news sv xs w hown hB hn hl (fun j u hj => by rw [cell_of_row _ _ _ _ _ _ hvb]; rw [← hcur] at hj; simpa using hj) h1).mono ?_
    rintro e w' ⟨v', rfl, o, g⟩
    refine ⟨v', rfl, own_cast o rfl ?_, g⟩
    rw [List.take_of_length_le (by omega), List.drop_eq_nil_of_le (by omega), List.append_nil]
  · obtain ⟨g, c, rfl, hbg, hnc, hgl⟩ := own_form hown (by omega)
    by_cases hroom : n + 1 ≤ c
    · refine (ins_u64_shift B n i c g vb news xs cur w hown (by omega) hroom hn hl hvb hcur (fun e => hne (by rw [e]; rfl)) h1 h1x).mono ?_
      rintro e w' ⟨rfl, rfl⟩
      obtain ⟨ys, oy, hy⟩ := own_ext hown hroom
      have hdl : (xs.drop (i * 1)).length = (n - i) * 1 := by rw [List.length_drop, hxl]; omega
      have hyl := oy.1
      have o1 := own_setCells (xs.drop (i * 1)) ((i + 1) * 1) w.drew ys (show w.drew.ownsRow _ _ _ _ _ _ from oy) (by rw [hdl]; omega)
      have o2 := own_setCells news (i * 1) _ _ o1 (by have := o1.1; omega)
      have g1 := grown_setCells g (xs.drop (i * 1)) ((i + 1) * 1) w.drew
      have g2 := grown_setCells g news (i * 1) (w.drew.setCells g ((i + 1) * 1) (xs.drop (i * 1)))
      simp only [Nat.mul_one] at o1 o2 g1 g2
      refine ⟨_, rfl, own_cast o2 rfl ?_, (KeptB.drew w).trans (KeptB.grown (grown_trans g1 g2) (Nat.le_refl _) (fun k e _ => e.symm)), fun k e => .inl e⟩
      have hh := ins_list1 xs ys news 1 i n hxl hl hyl hy (by omega); simp only [Nat.mul_one] at hh ⊢; exact hh
    · obtain rfl : c = n := by omega
      exact ins_u64_grow B c i g vb news xs cur w hown hB (by omega) hn hl hvb hcur h1 h1x

set_option maxHeartbeats 4000000 in
set_option maxRecDepth 100000 in
theorem ins_ent_grow (B n i g vb : Nat) (news : List Value) (xs : List Value) (cur : Array Value) (w : World) (hown : w.ownsRow B 39 2 (.slice (some ⟨g, 0, none⟩) n n) n xs) (hB : B ≤ w.heap.size) (hi : i < n) (hn : n ≤ 100000) (hl : news.length = 2) (hvb : w.heap[vb]? = some (.cells cur 39 (0, 0))) (hcur : cur.toList = news) (h1 : ∀ u ∈ news, u.oneCell' = true) (h1x : ∀ u ∈ xs, u.oneCell' = true) :
    Calls Ybaf.prog 38 #[.slice (some ⟨g, 0, none⟩) n n, .int .i64 i, .slice (some ⟨vb, 0, none⟩) 1 1] w fun e w' => ∃ v', e = .returned v' ∧ w'.ownsRow B 39 2 v' (n + 1) (xs.take (i * 2) ++ news ++ xs.drop (i * 2)) ∧ Grew w (.slice (some ⟨g, 0, none⟩) n n) w' v' := by
  obtain ⟨i0, hi0, hz0, hz1, hz2⟩ := info_parts Ybaf.info39
  have hxl := hown.1
  have hgl := (hown.lt g rfl).2
  have hvl := lt_of_block hvb
  have hsz : (Ybaf.prog.info? 39).map (·.size) = some 2 := by kernel_rfl
  have hol : (xs.take (i * 2)).length = i * i0.size := by rw [List.length_take, hxl, hz1]; omega
  have hold : (Builtin.firstCells i0.size i (.slice (some ⟨g, 0, none⟩) i n)).run Ybaf.prog w.drew = .ok (xs.take (i * 2)).toArray w.drew :=
    run_firstCells_some w.drew i0.size i ⟨g, 0, none⟩ i n (xs.take (i * 2)) hol (fun j v hj => by
      rw [Addr.add_lit, Nat.zero_add]
      have hlt : j < i * 2 := by have := (List.getElem?_eq_some_iff.1 hj).1; rw [List.length_take] at this; omega
      rw [List.getElem?_take_of_lt hlt] at hj
      exact (hown.cellAt j (by omega)).trans hj)
  obtain ⟨G, hG⟩ : ∃ G, grownCap w (n + 1) n 39 = G := ⟨_, rfl⟩
  have hGn : n + 1 ≤ G := by rw [← hG]; exact grownCap_ge w _ _ _
  have hGm : G ≤ maxLen := by rw [← hG]; exact grownCap_le_maxLen w _ _ _ (by unfold maxLen; omega)
  have hG63 : G ≤ 9223372036854775807 := by unfold maxLen at hGm; omega
  obtain ⟨W1, hW1⟩ : ∃ W1, w.drew.alloc (.cells ((xs.take (i * 2)).toArray ++ Builtin.zeroCells (Value.cells (.agg #[.string ⟨#[]⟩, .int .u64 0])) (n + 1 - i) ++ Builtin.zeroCells (Value.cells (.agg #[.string ⟨#[]⟩, .int .u64 0])) (G - (n + 1))) 39) = W1 := ⟨_, rfl⟩
  have hap : ∀ ty, (Builtin.append_ #[37, 3] ty #[.slice (some ⟨g, 0, none⟩) i n, .int .i64 ((n : Int) + 1 - (i : Int))]).run Ybaf.prog w = .ok (.slice (some ⟨w.heap.size, 0, none⟩) (n + 1) G) W1 := fun ty => by
    have h := Lib.run_append_grow_zeros w 37 3 ty 39 i0 _ .i64 .i64 Ybaf.underlying37 Ybaf.underlying3 hi0 hz0 (some ⟨g, 0, none⟩) i n (xs.take (i * 2)) hold (n + 1 - i) (by omega) (by omega) (by omega) (by omega) (by rw [hz2]; omega) (by rw [show i + (n + 1 - i) = n + 1 by omega]; exact growslice_fits (by omega) (by rw [hz2]; omega))
    rw [show i + (n + 1 - i) = n + 1 by omega, hG, hW1] at h
    rw [show (n : Int) + 1 - (i : Int) = ((n + 1 - i : Nat) : Int) by omega]
    exact h
  have hzl : (Value.cells (.agg #[.string ⟨#[]⟩, .int .u64 0])).size = 2 := by rfl
  have hcz : ∀ k, (Builtin.zeroCells (Value.cells (.agg #[.string ⟨#[]⟩, .int .u64 0])) k).toList.length = k * 2 := fun k => by rw [Array.length_toList, size_zeroCells, hzl]
  obtain ⟨zs, hzs⟩ : ∃ zs, (Builtin.zeroCells (Value.cells (.agg #[.string ⟨#[]⟩, .int .u64 0])) (n + 1 - i)).toList = zs := ⟨_, rfl⟩
  have hzsl : zs.length = (n + 1 - i) * 2 := by rw [← hzs]; exact hcz _
  have hol2 : (xs.take (i * 2)).length = i * 2 := by rw [hol, hz1]
  have own1 : W1.ownsRow w.heap.size 39 2 (.slice (some ⟨w.heap.size, 0, none⟩) (n + 1) G) (n + 1) (xs.take (i * 2) ++ zs) := by
    refine ⟨by rw [List.length_append, hol2, hzsl]; omega, .inr ⟨w.heap.size, G, _, rfl, Nat.le_refl _, by rw [← hW1]; exact heap_alloc_new w.drew _, hGn, hGm, ?_, ?_⟩⟩
    · simp only [Array.size_append, List.size_toArray, size_zeroCells, hzl, hol2]; omega
    · rw [Array.toList_append, Array.toList_append, hzs]
      rw [List.take_append_of_le_length (by rw [List.length_append, hol2, hzsl]; omega)]
      exact List.take_of_length_le (by rw [List.length_append, hol2, hzsl]; omega)
  have k1 : KeptB w.heap.size (fun _ => False) w W1 := by rw [← hW1]; exact (KeptB.drew w).trans (KeptB.alloc _ (Nat.le_refl _))
  have hs1 : W1.heap.size = w.heap.size + 1 := by rw [← hW1]; simp
  have row1 : ∀ k, k < (n + 1) * 2 → (W1.cell? ⟨w.heap.size, k, none⟩).isSome = true ∧ W1.frozen? ⟨w.heap.size, k, none⟩ = false := fun k hk =>
    ⟨by rw [own1.cellAt k hk, List.getElem?_eq_getElem (by have := own1.1; omega)]; rfl, own1.frozenAt k⟩
  have hvb1 := (k1.block vb hvl (fun h => h)).trans hvb
  have hcp1 : ∀ ty dc, (Builtin.copy_ #[37, 37] ty #[.slice (some ⟨w.heap.size, i * 2, none⟩) (n + 1 - i) dc, .slice (some ⟨vb, 0, none⟩) 1 1]).run Ybaf.prog W1 = .ok (goInt (Nat.min 1 (n + 1 - i))) (W1.setCells w.heap.size (i * 2) news) := fun ty dc =>
    run_copy_k W1 _ _ ty 39 w.heap.size (i * 2) (n + 1 - i) dc ⟨vb, 0, none⟩ 1 1 2 news Ybaf.underlying37 hsz (by rw [hl]; simp only [Nat.min_def]; split <;> omega)
      (fun j v hj => by rw [Addr.add_lit, Nat.zero_add, cell_of_row _ _ _ _ _ _ hvb1]; rw [← hcur] at hj; simpa using hj)
      (fun j hj => (row1 _ (by omega)).1) (fun j hj => (row1 _ (by omega)).2) h1
  have own2 := own_setCells news (i * 2) W1 _ own1 (by rw [List.length_append, hol2, hzsl]; omega)
  obtain ⟨W2, hW2⟩ : ∃ W2, W1.setCells w.heap.size (i * 2) news = W2 := ⟨_, rfl⟩
  have gr2 := grown_setCells w.heap.size news (i * 2) W1
  rw [hW2] at hcp1 own2 gr2
  have k2 : KeptB w.heap.size (fun _ => False) w W2 := k1.trans (KeptB.grown gr2 (by omega) (fun k e hk => by simp at e; omega))
  have hdl : (xs.drop (i * 2)).length = (n - i) * 2 := by rw [List.length_drop, hxl]; omega
  have hl2 := own2.1
  have row2 : ∀ k, k < (n + 1) * 2 → (W2.cell? ⟨w.heap.size, k, none⟩).isSome = true ∧ W2.frozen? ⟨w.heap.size, k, none⟩ = false := fun k hk =>
    ⟨by rw [own2.cellAt k hk, List.getElem?_eq_getElem (by omega)]; rfl, own2.frozenAt k⟩
  have hcp2 : ∀ ty dc sc, (Builtin.copy_ #[37, 37] ty #[.slice (some ⟨w.heap.size, (i + 1) * 2, none⟩) (n - i) dc, .slice (some ⟨g, i * 2, none⟩) (n - i) sc]).run Ybaf.prog W2.drew = .ok (goInt (Nat.min (n - i) (n - i))) (W2.drew.setCells w.heap.size ((i + 1) * 2) (xs.drop (i * 2))) := fun ty dc sc =>
    run_copy_k W2.drew _ _ ty 39 w.heap.size ((i + 1) * 2) (n - i) dc ⟨g, i * 2, none⟩ (n - i) sc 2 (xs.drop (i * 2)) Ybaf.underlying37 hsz (by rw [hdl]; simp only [Nat.min_def]; split <;> omega)
      (fun j v hj => by
        rw [Addr.add_lit]
        rw [List.getElem?_drop] at hj
        have hlt : i * 2 + j < n * 2 := by have := (List.getElem?_eq_some_iff.1 hj).1; omega
        exact (World.cell?_of_block (w := w) (k2.block g hgl (fun h => h))).trans ((hown.cellAt (i * 2 + j) hlt).trans hj))
      (fun j hj => (row2 _ (by rw [hdl] at hj; omega)).1) (fun j hj => (row2 _ (by rw [hdl] at hj; omega)).2) (fun v hv => h1x v (List.mem_of_mem_drop hv))
  have own3 := own_setCells (xs.drop (i * 2)) ((i + 1) * 2) W2.drew _ (show W2.drew.ownsRow _ _ _ _ _ _ from own2) (by rw [hdl]; omega)
  obtain ⟨W3, hW3⟩ : ∃ W3, W2.drew.setCells w.heap.size ((i + 1) * 2) (xs.drop (i * 2)) = W3 := ⟨_, rfl⟩
  have gr3 := grown_setCells w.heap.size (xs.drop (i * 2)) ((i + 1) * 2) W2.drew
  rw [hW3] at hcp2 own3 gr3
  have k3 : KeptB w.heap.size (fun _ => False) w W3 := k2.trans ((KeptB.drew W2).trans (KeptB.grown gr3 (by have := gr2.size; show w.heap.size ≤ W2.heap.size; omega) (fun k e hk => by simp at e; omega)))
  have FIN : W3.ownsRow B 39 2 (.slice (some ⟨w.heap.size, 0, none⟩) (n + 1) G) (n + 1) (xs.take (i * 2) ++ news ++ xs.drop (i * 2)) := by
    refine own_le (own_cast own3 rfl ?_) hB
    exact ins_list2 xs news zs 2 i n hxl hl hzsl hi
  have mixed : Ybaf.prog.follows .mixedOrders = true := by kernel_rfl
  have hz2 : ((i : Int) == (n : Int)) = false := by simp; omega
  have hw1 : IntKind.i64.wrap ((i : Int) + 1) = (i : Int) + 1 := by rw [IntKind.wrap_i64]; omega
  have hw2 : IntKind.i64.wrap ((n : Int) + 1) = (n : Int) + 1 := by rw [IntKind.wrap_i64]; omega
  have hw3 : IntKind.i64.wrap ((n : Int) + 1 - (i : Int)) = (n : Int) + 1 - (i : Int) := by rw [IntKind.wrap_i64]; omega
  have hb1 : (0 : Int) ≤ (i : Int) + 1 := by omega
  have hb0 : (0 : Int) ≤ (i : Int) := by omega
  have hin : (i : Int) ≤ (n : Int) := by omega
  have htn : ((i : Int) + 1).toNat = i + 1 := by omega
  have hb2 : ¬ (G = i + 1) := by omega
  have hb3 : (i : Int) ≤ (n : Int) + 1 := by omega
  have hb4 : ¬ (n = i) := by omega
  have hb5 : (i : Int) + 1 ≤ (n : Int) + 1 := by omega
  have hb6 : (n : Int) + 1 > (n : Int) := by omega
  have hb7 : ¬ (G = i) := by omega
  have HF : Hid (W3.ownsRow B 39 2 (.slice (some ⟨w.heap.size, 0, none⟩) (n + 1) G) (n + 1) (xs.take (i * 2) ++ news ++ xs.drop (i * 2)) ∧ KeptB w.heap.size (fun _ => False) w W3) := ⟨FIN, k3⟩
  clear FIN k3 own1 own2 own3 gr2 gr3 k1 k2 hW1 hW2 hW3 row1 row2 hold hol hown hvb hvb1 hG hGm hz0 hz1 hs1 hcz hzs hzsl hol2 hl2 hdl
  go_enter Ybaf.func38, Ybaf.ntmps38
  go_wp2_with (at_builtin; refine Lib.wpList_append_run _ rfl _ _ _ _ rfl _ _ rfl rfl _ _ (hap _) ?_)
  go_region
  go_wp2
  go_ret
  refine ⟨_, rfl, HF.out.1, HF.out.2.mono (Nat.le_refl _) (fun _ _ h => h.elim), fun k e => ?_⟩
  have e' : w.heap.size = k := by simpa [Value.ownBlock] using e
  exact .inr (by omega)
theorem ins_ent_any (B n i vb : Nat) (news : List Value) (sv : Value) (xs : List Value) (cur : Array Value) (w : World) (hown : w.ownsRow B 39 2 sv n xs) (hB : B ≤ w.heap.size) (hi : i ≤ n) (hn : n ≤ 100000) (hl : news.length = 2) (hvb : w.heap[vb]? = some (.cells cur 39 (0, 0))) (hcur : cur.toList = news) (hne : sv.ownBlock ≠ some vb) (h1 : ∀ u ∈ news, u.oneCell' = true) (h1x : ∀ u ∈ xs, u.oneCell' = true) :
    Calls Ybaf.prog 38 #[sv, .int .i64 i, .slice (some ⟨vb, 0, none⟩) 1 1] w fun e w' => ∃ v', e = .returned v' ∧ w'.ownsRow B 39 2 v' (n + 1) (xs.take (i * 2) ++ news ++ xs.drop (i * 2)) ∧ Grew w sv w' v' := by
  have hxl := hown.1
  by_cases hin : i = n
  · subst hin
    refine (ins_ent_end B i vb news sv xs w hown hB hn hl (fun j u hj => by rw [cell_of_row _ _ _ _ _ _ hvb]; rw [← hcur] at hj; simpa using hj) h1).mono ?_
    rintro e w' ⟨v', rfl, o, g⟩
    refine ⟨v', rfl, own_cast o rfl ?_, g⟩
    rw [List.take_of_length_le (by omega), List.drop_eq_nil_of_le (by omega), List.append_nil]
  · obtain ⟨g, c, rfl, hbg, hnc, hgl⟩ := own_form hown (by omega)
    by_cases hroom : n + 1 ≤ c
    · refine (ins_ent_shift B n i c g vb news xs cur w hown (by omega) hroom hn hl hvb hcur (fun e => hne (by rw [e]; rfl)) h1 h1x).mono ?_
      rintro e w' ⟨rfl, rfl⟩
      obtain ⟨ys, oy, hy⟩ := own_ext hown hroom
      have hdl : (xs.drop (i * 2)).length = (n - i) * 2 := by rw [List.length_drop, hxl]; omega
      have hyl := oy.1
      have o1 := own_setCells (xs.drop (i * 2)) ((i + 1) * 2) w.drew ys (show w.drew.ownsRow _ _ _ _ _ _ from oy) (by rw [hdl]; omega)
      have o2 := own_setCells news (i * 2) _ _ o1 (by have := o1.1; omega)
      have g1 := grown_setCells g (xs.drop (i * 2)) ((i + 1) * 2) w.drew
      have g2 := grown_setCells g news (i * 2) (w.drew.setCells g ((i + 1) * 2) (xs.drop (i * 2)))
      skip
      refine ⟨_, rfl, own_cast o2 rfl ?_, (KeptB.drew w).trans (KeptB.grown (grown_trans g1 g2) (Nat.le_refl _) (fun k e _ => e.symm)), fun k e => .inl e⟩
      exact ins_list1 xs ys news 2 i n hxl hl hyl hy (by omega)
    · obtain rfl : c = n := by omega
      exact ins_ent_grow B c i g vb news xs cur w hown hB (by omega) hn hl hvb hcur h1 h1x
end Go.Proofs.YbulkcrtgFmt
