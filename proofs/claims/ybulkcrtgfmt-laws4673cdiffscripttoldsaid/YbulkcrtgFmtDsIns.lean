/-
  slices.Insert of one element, at strings (10), at uint64 (11), at entries (38).
-/
import Derived.Test.YbulkcrtgFmtDsUv
import Derived.Lib.AppendZerosOnto
import Derived.Lib.Overlaps
import Derived.Laws.Externs
import Derived.Deep.RegionLaw
namespace Go.Proofs.YbulkcrtgFmt
open Go Go.RowKit

/-- A copy inside a region that draws, by what it is known to do. -/
theorem step_copy_run {P : Program} {ops : Array Oper} {Q : Exit → Act → World → Prop} {o : Oper} {a : Act} {w w' : World} {K : Act → World → Prop} {E : Prop} (hgd : o.guard = none) (d s : Operand) (dT sT : TypeId) (ho : o.op = .call { callee := .builtin .copy, args := #[d, s], argTypes := #[dT, sT] }) (vd vs : Value) {v : Value} (hd : a.eval d = vd) (hs : a.eval s = vs)
    (hr : (Builtin.copy_ #[dT, sT] o.type #[vd, vs]).run P w = .ok v w') (h : K (a.put o.dst v) w') : if Region.wanted o (yielded ops a.tmps) = true then Oper.wp P o a w K Q else E := by
  have hw : Region.wanted o (yielded ops a.tmps) = true := by simp [Region.wanted, hgd]
  rw [if_pos hw]
  unfold Oper.wp execOp
  simp only [ho, resolve, invoke, builtin, Sem.run_bind, Sem.run_pure, Result.andThen_ok, List.map_toArray, List.map_cons, List.map_nil, hd, hs, hr]
  exact h
/-- copy, elements of k cells each. -/
theorem run_copy_k {P : Program} (w : World) (dT sT ty elem : TypeId) (b o dLen dCap : Nat) (a : Addr) (sLen sCap k : Nat) (cs : List Value)
    (hu : P.underlying dT = some (.slice elem)) (hs : (P.info? elem).map (·.size) = some k) (hn : cs.length = Nat.min sLen dLen * k)
    (hsrc : ∀ j v, cs[j]? = some v → w.cell? (a.add j) = some v) (hc : ∀ j, j < cs.length → (w.cell? ⟨b, o + j, none⟩).isSome = true) (hf : ∀ j, j < cs.length → w.frozen? ⟨b, o + j, none⟩ = false) (h1 : ∀ v ∈ cs, v.oneCell' = true) :
    (Builtin.copy_ #[dT, sT] ty #[.slice (some ⟨b, o, none⟩) dLen dCap, .slice (some a) sLen sCap]).run P w = .ok (goInt (Nat.min sLen dLen)) (w.setCells b o cs) := by
  have hl := run_loadCells_list (P := P) w a cs hsrc
  have hst := run_storeCells_cells (P := P) b o cs 0 w (by simpa using hc) (by simpa using hf) h1
  cases hq : P.info? elem with
  | none => simp [hq] at hs
  | some i =>
    have hi : i.size = k := by simpa [hq] using hs
    simp [Builtin.copy_, run_underlying hu, Builtin.lenOf, Builtin.firstCells, sizeOf, typeInfo, hq, hi, ← hn, hl, hst]

theorem setCells_row (g : Nat) (t : TypeId) : ∀ (vs : List Value) (o : Nat) (w : World) (cur : Array Value), w.heap[g]? = some (.cells cur t (0, 0)) → o + vs.length ≤ cur.size →
    ∃ cur', (w.setCells g o vs).heap[g]? = some (.cells cur' t (0, 0)) ∧ cur'.size = cur.size ∧ (∀ j, j < vs.length → cur'[o + j]? = vs[j]?) ∧ ∀ j, j < o → cur'[j]? = cur[j]?
  | [], o, w, cur, h, _ => ⟨cur, h, rfl, fun j hj => by simp at hj, fun _ _ => rfl⟩
  | v :: vs, o, w, cur, h, hl => by
    simp only [List.length_cons] at hl
    obtain ⟨cur', h1, h2, h3, h4⟩ := setCells_row g t vs (o + 1) (w.setCell ⟨g, o, none⟩ v) (cur.setIfInBounds o v) (heap_setCell_same w g o cur t v h) (by simp; omega)
    refine ⟨cur', h1, by simpa using h2, fun j hj => ?_, fun j hj => ?_⟩
    · cases j with
      | zero => rw [Nat.add_zero, h4 o (by omega), Array.getElem?_setIfInBounds, if_pos rfl, if_pos (by omega)]; rfl
      | succ j => rw [show o + (j + 1) = o + 1 + j by omega, h3 j (by simp at hj; omega)]; simp
    · rw [h4 j (by omega), Array.getElem?_setIfInBounds, if_neg (by omega)]

theorem Ybaf.info9 : (Ybaf.prog.info? 9).map (fun i => (i.zero, i.size, i.bytes)) = some (some (.string ⟨#[]⟩), 1, 16) := by kernel_rfl
set_option maxHeartbeats 4000000 in
set_option maxRecDepth 100000 in
theorem ins_str_end (B n : Nat) (vb : Nat) (news : List Value) (sv : Value) (xs : List Value) (w : World) (hown : w.ownsRow B 9 1 sv n xs) (hB : B ≤ w.heap.size) (hn : n ≤ 100000) (hl : news.length = 1) (hnews : ∀ j u, news[j]? = some u → w.cell? ⟨vb, j, none⟩ = some u) (h1 : ∀ u ∈ news, u.oneCell' = true) :
    Calls Ybaf.prog 10 #[sv, .int .i64 n, .slice (some ⟨vb, 0, none⟩) 1 1] w fun e w' => ∃ v', e = .returned v' ∧ w'.ownsRow B 9 1 v' (n + 1) (xs ++ news) ∧ Grew w sv w' v' := by
  obtain ⟨i0, hi0, hz0, hz1, hz2⟩ := info_parts Ybaf.info9
  obtain ⟨sa, sc, rfl, hsc⟩ : ∃ sa sc, sv = .slice sa n sc ∧ n ≤ sc := by
    rcases hown.2 with ⟨rfl, rfl⟩ | ⟨g, cap, cur, rfl, _, _, hnc, _⟩
    · exact ⟨_, _, rfl, Nat.le_refl _⟩
    · exact ⟨_, _, rfl, hnc⟩
  have i1 : (0 : Int) ≤ (n : Int) := by omega
  go_enter Ybaf.func10, Ybaf.ntmps10
  go_wp2_with (at_builtin; refine wpList_append_lies _ rfl _ _ 31 rfl B 9 i0 _ 1 16 Ybaf.underlying31 hi0 hz0 hz1 hz2 rfl (by decide) _ _ _ rfl hown ⟨vb, 0, none⟩ 1 1 news rfl (by simpa using hl) (fun j u hj => by rw [Addr.add_lit, Nat.zero_add]; exact hnews j u hj) h1 (by decide) (by unfold maxLen; omega) (by omega) hB _ rfl ?_)
  all_goals
    intro g cap w1 hown' hgrow hat hlt
    go_wp2
    go_ret
    exact ⟨_, rfl, hown', Grew.of (by cases sa <;> exact hgrow) (by cases sa <;> exact hat)⟩

theorem Ybaf.info34 : (Ybaf.prog.info? 34).map (fun i => (i.zero, i.size, i.bytes)) = some (some (.int .u64 0), 1, 8) := by kernel_rfl
set_option maxHeartbeats 4000000 in
set_option maxRecDepth 100000 in
theorem ins_u64_end (B n : Nat) (vb : Nat) (news : List Value) (sv : Value) (xs : List Value) (w : World) (hown : w.ownsRow B 34 1 sv n xs) (hB : B ≤ w.heap.size) (hn : n ≤ 100000) (hl : news.length = 1) (hnews : ∀ j u, news[j]? = some u → w.cell? ⟨vb, j, none⟩ = some u) (h1 : ∀ u ∈ news, u.oneCell' = true) :
    Calls Ybaf.prog 11 #[sv, .int .i64 n, .slice (some ⟨vb, 0, none⟩) 1 1] w fun e w' => ∃ v', e = .returned v' ∧ w'.ownsRow B 34 1 v' (n + 1) (xs ++ news) ∧ Grew w sv w' v' := by
  obtain ⟨i0, hi0, hz0, hz1, hz2⟩ := info_parts Ybaf.info34
  obtain ⟨sa, sc, rfl, hsc⟩ : ∃ sa sc, sv = .slice sa n sc ∧ n ≤ sc := by
    rcases hown.2 with ⟨rfl, rfl⟩ | ⟨g, cap, cur, rfl, _, _, hnc, _⟩
    · exact ⟨_, _, rfl, Nat.le_refl _⟩
    · exact ⟨_, _, rfl, hnc⟩
  have i1 : (0 : Int) ≤ (n : Int) := by omega
  go_enter Ybaf.func11, Ybaf.ntmps11
  go_wp2_with (at_builtin; refine wpList_append_lies _ rfl _ _ 32 rfl B 34 i0 _ 1 8 Ybaf.underlying32 hi0 hz0 hz1 hz2 rfl (by decide) _ _ _ rfl hown ⟨vb, 0, none⟩ 1 1 news rfl (by simpa using hl) (fun j u hj => by rw [Addr.add_lit, Nat.zero_add]; exact hnews j u hj) h1 (by decide) (by unfold maxLen; omega) (by omega) hB _ rfl ?_)
  all_goals
    intro g cap w1 hown' hgrow hat hlt
    go_wp2
    go_ret
    exact ⟨_, rfl, hown', Grew.of (by cases sa <;> exact hgrow) (by cases sa <;> exact hat)⟩

theorem Ybaf.info39 : (Ybaf.prog.info? 39).map (fun i => (i.zero, i.size, i.bytes)) = some (some (.agg #[.string ⟨#[]⟩, .int .u64 0]), 2, 24) := by kernel_rfl
set_option maxHeartbeats 4000000 in
set_option maxRecDepth 100000 in
theorem ins_ent_end (B n : Nat) (vb : Nat) (news : List Value) (sv : Value) (xs : List Value) (w : World) (hown : w.ownsRow B 39 2 sv n xs) (hB : B ≤ w.heap.size) (hn : n ≤ 100000) (hl : news.length = 2) (hnews : ∀ j u, news[j]? = some u → w.cell? ⟨vb, j, none⟩ = some u) (h1 : ∀ u ∈ news, u.oneCell' = true) :
    Calls Ybaf.prog 38 #[sv, .int .i64 n, .slice (some ⟨vb, 0, none⟩) 1 1] w fun e w' => ∃ v', e = .returned v' ∧ w'.ownsRow B 39 2 v' (n + 1) (xs ++ news) ∧ Grew w sv w' v' := by
  obtain ⟨i0, hi0, hz0, hz1, hz2⟩ := info_parts Ybaf.info39
  obtain ⟨sa, sc, rfl, hsc⟩ : ∃ sa sc, sv = .slice sa n sc ∧ n ≤ sc := by
    rcases hown.2 with ⟨rfl, rfl⟩ | ⟨g, cap, cur, rfl, _, _, hnc, _⟩
    · exact ⟨_, _, rfl, Nat.le_refl _⟩
    · exact ⟨_, _, rfl, hnc⟩
  have i1 : (0 : Int) ≤ (n : Int) := by omega
  go_enter Ybaf.func38, Ybaf.ntmps38
  go_wp2_with (at_builtin; refine wpList_append_lies _ rfl _ _ 37 rfl B 39 i0 _ 2 24 Ybaf.underlying37 hi0 hz0 hz1 hz2 rfl (by decide) _ _ _ rfl hown ⟨vb, 0, none⟩ 1 1 news rfl (by simpa using hl) (fun j u hj => by rw [Addr.add_lit, Nat.zero_add]; exact hnews j u hj) h1 (by decide) (by unfold maxLen; omega) (by omega) hB _ rfl ?_)
  all_goals
    intro g cap w1 hown' hgrow hat hlt
    go_wp2
    go_ret
    exact ⟨_, rfl, hown', Grew.of (by cases sa <;> exact hgrow) (by cases sa <;> exact hat)⟩

set_option maxHeartbeats 4000000 in
set_option maxRecDepth 100000 in
theorem ins_str_shift (B n i c g vb : Nat) (news : List Value) (xs : List Value) (cur : Array Value) (w : World) (hown : w.ownsRow B 9 1 (.slice (some ⟨g, 0, none⟩) n c) n xs) (hi : i < n) (hroom : n + 1 ≤ c) (hn : n ≤ 100000) (hl : news.length = 1) (hvb : w.heap[vb]? = some (.cells cur 9 (0, 0))) (hcur : cur.toList = news) (hne : vb ≠ g) (h1 : ∀ u ∈ news, u.oneCell' = true) (h1x : ∀ u ∈ xs, u.oneCell' = true) :
    Calls Ybaf.prog 10 #[.slice (some ⟨g, 0, none⟩) n c, .int .i64 i, .slice (some ⟨vb, 0, none⟩) 1 1] w fun e w' => e = .returned (.slice (some ⟨g, 0, none⟩) (n + 1) c) ∧ w' = (w.drew.setCells g (i + 1) (xs.drop (i))).setCells g (i) news := by
  have hxl := hown.1
  obtain ⟨rc, hgg, hrs, hrt⟩ : ∃ rc : Array Value, w.heap[g]? = some (.cells rc 9 (0, 0)) ∧ rc.size = c * 1 ∧ rc.toList.take (n * 1) = xs := by
    rcases hown.2 with ⟨h, _⟩ | ⟨g', cap', rc, h, _, hgg, _, _, hsz, htk⟩
    · cases h
    · simp only [Value.slice.injEq, Option.some.injEq, Addr.mk.injEq, and_true, true_and] at h
      obtain ⟨rfl, rfl⟩ := h
      exact ⟨rc, hgg, hsz, htk⟩
  have hc63 : c ≤ 9223372036854775807 := by
    rcases hown.2 with ⟨h, _⟩ | ⟨g', cap', rc, h, _, _, _, hm, _⟩
    · cases h
    · simp only [Value.slice.injEq, Option.some.injEq, Addr.mk.injEq, and_true, true_and] at h
      obtain ⟨rfl, rfl⟩ := h
      unfold maxLen at hm; omega
  have hsz : (Ybaf.prog.info? 9).map (·.size) = some 1 := by kernel_rfl
  have hov : ∀ lb cb, (callFunc 22 #[.slice (some ⟨vb, 0, none⟩) 1 1, .slice (some ⟨g, i + 1, none⟩) lb cb]).run Ybaf.prog w = .ok (.value (.bool false)) w := fun lb cb => by
    rw [run_callFunc_extern Ybaf.func22 (by kernel_rfl) (by kernel_rfl) (by kernel_rfl) (e := Extern.SlicesOverlaps.overlaps #[31, 31] #[4]) (by kernel_rfl),
      Lib.run_overlaps_apart w 31 4 9 Ybaf.underlying31 1 Ybaf.sizeOf9 ⟨vb, 0, none⟩ ⟨g, i + 1, none⟩ 1 1 lb cb hne 9 9 cur.size rc.size (by simp [World.shape?, hvb]) (by simp [World.shape?, hgg]) (by omega) (frozen_of_row _ _ _ _ _ hvb) (frozen_of_row _ _ _ _ _ hvb)]
    rfl
  have hdl : (xs.drop (i)).length = (n - i) * 1 := by rw [List.length_drop, hxl]; omega
  have hcp1 : ∀ ty dc sc, (Builtin.copy_ #[31, 31] ty #[.slice (some ⟨g, i + 1, none⟩) (n - i) dc, .slice (some ⟨g, i, none⟩) (n + 1 - i) sc]).run Ybaf.prog w.drew = .ok (goInt (Nat.min (n + 1 - i) (n - i))) (w.drew.setCells g (i + 1) (xs.drop (i))) := fun ty dc sc =>
    run_copy_k w.drew _ _ ty 9 g (i + 1) (n - i) dc ⟨g, i, none⟩ (n + 1 - i) sc 1 (xs.drop (i)) Ybaf.underlying31 hsz (by rw [hdl]; simp only [Nat.min_def]; split <;> omega)
      (fun j v hj => by
        rw [Addr.add_lit]
        rw [List.getElem?_drop] at hj
        have hlt : i + j < n * 1 := by have := (List.getElem?_eq_some_iff.1 hj).1; omega
        exact (hown.cellAt (i + j) hlt).trans hj)
      (fun j hj => by
        rw [show w.drew.cell? ⟨g, i + 1 + j, none⟩ = w.cell? ⟨g, i + 1 + j, none⟩ from rfl, cell_of_row _ _ _ _ _ _ hgg, Array.getElem?_eq_getElem (by rw [hdl] at hj; omega)]; rfl)
      (fun j _ => frozen_of_row _ _ _ _ _ hgg) (fun v hv => h1x v (List.mem_of_mem_drop hv))
  obtain ⟨W1, hW1⟩ : ∃ W1, W1 = w.drew.setCells g (i + 1) (xs.drop (i)) := ⟨_, rfl⟩
  have hg1 := grown_setCells g (xs.drop (i)) (i + 1) w.drew
  rw [← hW1] at hcp1 hg1
  have hvb1 : W1.heap[vb]? = some (.cells cur 9 (0, 0)) := (hg1.block vb (lt_of_block hvb) (by simpa using hne)).trans hvb
  have hsm1 : ∀ k, k < c * 1 → (W1.cell? ⟨g, k, none⟩).isSome = true ∧ W1.frozen? ⟨g, k, none⟩ = false := fun k hk => by
    obtain ⟨rc', e1, e2, _⟩ := setCells_row g 9 (xs.drop (i)) (i + 1) w.drew rc hgg (by rw [hdl]; omega)
    rw [← hW1] at e1
    rw [cell_of_row _ _ _ _ _ _ e1, frozen_of_row _ _ _ _ _ e1, Array.getElem?_eq_getElem (by omega)]
    exact ⟨rfl, rfl⟩
  have hcp2 : ∀ ty dc, (Builtin.copy_ #[31, 31] ty #[.slice (some ⟨g, i, none⟩) (n + 1 - i) dc, .slice (some ⟨vb, 0, none⟩) 1 1]).run Ybaf.prog W1 = .ok (goInt (Nat.min 1 (n + 1 - i))) (W1.setCells g (i) news) := fun ty dc =>
    run_copy_k W1 _ _ ty 9 g (i) (n + 1 - i) dc ⟨vb, 0, none⟩ 1 1 1 news Ybaf.underlying31 hsz (by rw [hl]; simp only [Nat.min_def]; split <;> omega)
      (fun j v hj => by rw [Addr.add_lit, Nat.zero_add, cell_of_row _ _ _ _ _ _ hvb1]; rw [← hcur] at hj; simpa using hj)
      (fun j hj => (hsm1 _ (by omega)).1) (fun j hj => (hsm1 _ (by omega)).2) h1
  have mixed : Ybaf.prog.follows .mixedOrders = true := by kernel_rfl
  have hz2 : ((i : Int) == (n : Int)) = false := by simp; omega
  have hw1 : IntKind.i64.wrap ((i : Int) + 1) = (i : Int) + 1 := by rw [IntKind.wrap_i64]; omega
  have hw2 : IntKind.i64.wrap ((n : Int) + 1) = (n : Int) + 1 := by rw [IntKind.wrap_i64]; omega
  have hb1 : (0 : Int) ≤ (i : Int) + 1 := by omega
  have hb0 : (0 : Int) ≤ (i : Int) := by omega
  have hin : (i : Int) ≤ (n : Int) := by omega
  have htn : ((i : Int) + 1).toNat = i + 1 := by omega
  have htm : ((n : Int) + 1).toNat = n + 1 := by omega
  have hb2 : ¬ (c = i + 1) := by omega
  have hb3 : (i : Int) ≤ (n : Int) + 1 := by omega
  have hb4 : ¬ (c = i) := by omega
  have hb5 : (i : Int) + 1 ≤ (n : Int) + 1 := by omega
  have hb6 : ¬ ((n : Int) + 1 > (c : Int)) := by omega
  have hb7 : (n : Int) + 1 ≤ (c : Int) := by omega
  have hb8 : (0 : Int) ≤ (n : Int) + 1 := by omega
  have HW1 : Hid _ := hW1
  clear hW1 hgg hrs hrt hown hg1 hsm1 hvb1
  go_enter Ybaf.func10, Ybaf.ntmps10
  go_wp2_with (simp only [hov])
  go_region
  go_wp2
  go_ret
  exact ⟨rfl, by rw [HW1.out]⟩

set_option maxHeartbeats 4000000 in
set_option maxRecDepth 100000 in
theorem ins_u64_shift (B n i c g vb : Nat) (news : List Value) (xs : List Value) (cur : Array Value) (w : World) (hown : w.ownsRow B 34 1 (.slice (some ⟨g, 0, none⟩) n c) n xs) (hi : i < n) (hroom : n + 1 ≤ c) (hn : n ≤ 100000) (hl : news.length = 1) (hvb : w.heap[vb]? = some (.cells cur 34 (0, 0))) (hcur : cur.toList = news) (hne : vb ≠ g) (h1 : ∀ u ∈ news, u.oneCell' = true) (h1x : ∀ u ∈ xs, u.oneCell' = true) :
    Calls Ybaf.prog 11 #[.slice (some ⟨g, 0, none⟩) n c, .int .i64 i, .slice (some ⟨vb, 0, none⟩) 1 1] w fun e w' => e = .returned (.slice (some ⟨g, 0, none⟩) (n + 1) c) ∧ w' = (w.drew.setCells g (i + 1) (xs.drop (i))).setCells g (i) news := by
  have hxl := hown.1
  obtain ⟨rc, hgg, hrs, hrt⟩ : ∃ rc : Array Value, w.heap[g]? = some (.cells rc 34 (0, 0)) ∧ rc.size = c * 1 ∧ rc.toList.take (n * 1) = xs := by
    rcases hown.2 with ⟨h, _⟩ | ⟨g', cap', rc, h, _, hgg, _, _, hsz, htk⟩
    · cases h
    · simp only [Value.slice.injEq, Option.some.injEq, Addr.mk.injEq, and_true, true_and] at h
      obtain ⟨rfl, rfl⟩ := h
      exact ⟨rc, hgg, hsz, htk⟩
  have hc63 : c ≤ 9223372036854775807 := by
    rcases hown.2 with ⟨h, _⟩ | ⟨g', cap', rc, h, _, _, _, hm, _⟩
    · cases h
    · simp only [Value.slice.injEq, Option.some.injEq, Addr.mk.injEq, and_true, true_and] at h
      obtain ⟨rfl, rfl⟩ := h
      unfold maxLen at hm; omega
  have hsz : (Ybaf.prog.info? 34).map (·.size) = some 1 := by kernel_rfl
  have hov : ∀ lb cb, (callFunc 24 #[.slice (some ⟨vb, 0, none⟩) 1 1, .slice (some ⟨g, i + 1, none⟩) lb cb]).run Ybaf.prog w = .ok (.value (.bool false)) w := fun lb cb => by
    rw [run_callFunc_extern Ybaf.func24 (by kernel_rfl) (by kernel_rfl) (by kernel_rfl) (e := Extern.SlicesOverlaps.overlaps #[32, 32] #[4]) (by kernel_rfl),
      Lib.run_overlaps_apart w 32 4 34 Ybaf.underlying32 1 Ybaf.sizeOf34 ⟨vb, 0, none⟩ ⟨g, i + 1, none⟩ 1 1 lb cb hne 34 34 cur.size rc.size (by simp [World.shape?, hvb]) (by simp [World.shape?, hgg]) (by omega) (frozen_of_row _ _ _ _ _ hvb) (frozen_of_row _ _ _ _ _ hvb)]
    rfl
  have hdl : (xs.drop (i)).length = (n - i) * 1 := by rw [List.length_drop, hxl]; omega
  have hcp1 : ∀ ty dc sc, (Builtin.copy_ #[32, 32] ty #[.slice (some ⟨g, i + 1, none⟩) (n - i) dc, .slice (some ⟨g, i, none⟩) (n + 1 - i) sc]).run Ybaf.prog w.drew = .ok (goInt (Nat.min (n + 1 - i) (n - i))) (w.drew.setCells g (i + 1) (xs.drop (i))) := fun ty dc sc =>
    run_copy_k w.drew _ _ ty 34 g (i + 1) (n - i) dc ⟨g, i, none⟩ (n + 1 - i) sc 1 (xs.drop (i)) Ybaf.underlying32 hsz (by rw [hdl]; simp only [Nat.min_def]; split <;> omega)
      (fun j v hj => by
        rw [Addr.add_lit]
        rw [List.getElem?_drop] at hj
        have hlt : i + j < n * 1 := by have := (List.getElem?_eq_some_iff.1 hj).1; omega
        exact (hown.cellAt (i + j) hlt).trans hj)
      (fun j hj => by
        rw [show w.drew.cell? ⟨g, i + 1 + j, none⟩ = w.cell? ⟨g, i + 1 + j, none⟩ from rfl, cell_of_row _ _ _ _ _ _ hgg, Array.getElem?_eq_getElem (by rw [hdl] at hj; omega)]; rfl)
      (fun j _ => frozen_of_row _ _ _ _ _ hgg) (fun v hv => h1x v (List.mem_of_mem_drop hv))
  obtain ⟨W1, hW1⟩ : ∃ W1, W1 = w.drew.setCells g (i + 1) (xs.drop (i)) := ⟨_, rfl⟩
  have hg1 := grown_setCells g (xs.drop (i)) (i + 1) w.drew
  rw [← hW1] at hcp1 hg1
  have hvb1 : W1.heap[vb]? = some (.cells cur 34 (0, 0)) := (hg1.block vb (lt_of_block hvb) (by simpa using hne)).trans hvb
  have hsm1 : ∀ k, k < c * 1 → (W1.cell? ⟨g, k, none⟩).isSome = true ∧ W1.frozen? ⟨g, k, none⟩ = false := fun k hk => by
    obtain ⟨rc', e1, e2, _⟩ := setCells_row g 34 (xs.drop (i)) (i + 1) w.drew rc hgg (by rw [hdl]; omega)
    rw [← hW1] at e1
    rw [cell_of_row _ _ _ _ _ _ e1, frozen_of_row _ _ _ _ _ e1, Array.getElem?_eq_getElem (by omega)]
    exact ⟨rfl, rfl⟩
  have hcp2 : ∀ ty dc, (Builtin.copy_ #[32, 32] ty #[.slice (some ⟨g, i, none⟩) (n + 1 - i) dc, .slice (some ⟨vb, 0, none⟩) 1 1]).run Ybaf.prog W1 = .ok (goInt (Nat.min 1 (n + 1 - i))) (W1.setCells g (i) news) := fun ty dc =>
    run_copy_k W1 _ _ ty 34 g (i) (n + 1 - i) dc ⟨vb, 0, none⟩ 1 1 1 news Ybaf.underlying32 hsz (by rw [hl]; simp only [Nat.min_def]; split <;> omega)
      (fun j v hj => by rw [Addr.add_lit, Nat.zero_add, cell_of_row _ _ _ _ _ _ hvb1]; rw [← hcur] at hj; simpa using hj)
      (fun j hj => (hsm1 _ (by omega)).1) (fun j hj => (hsm1 _ (by omega)).2) h1
  have mixed : Ybaf.prog.follows .mixedOrders = true := by kernel_rfl
  have hz2 : ((i : Int) == (n : Int)) = false := by simp; omega
  have hw1 : IntKind.i64.wrap ((i : Int) + 1) = (i : Int) + 1 := by rw [IntKind.wrap_i64]; omega
  have hw2 : IntKind.i64.wrap ((n : Int) + 1) = (n : Int) + 1 := by rw [IntKind.wrap_i64]; omega
  have hb1 : (0 : Int) ≤ (i : Int) + 1 := by omega
  have hb0 : (0 : Int) ≤ (i : Int) := by omega
  have hin : (i : Int) ≤ (n : Int) := by omega
  have htn : ((i : Int) + 1).toNat = i + 1 := by omega
  have htm : ((n : Int) + 1).toNat = n + 1 := by omega
  have hb2 : ¬ (c = i + 1) := by omega
  have hb3 : (i : Int) ≤ (n : Int) + 1 := by omega
  have hb4 : ¬ (c = i) := by omega
  have hb5 : (i : Int) + 1 ≤ (n : Int) + 1 := by omega
  have hb6 : ¬ ((n : Int) + 1 > (c : Int)) := by omega
  have hb7 : (n : Int) + 1 ≤ (c : Int) := by omega
  have hb8 : (0 : Int) ≤ (n : Int) + 1 := by omega
  have HW1 : Hid _ := hW1
  clear hW1 hgg hrs hrt hown hg1 hsm1 hvb1
  go_enter Ybaf.func11, Ybaf.ntmps11
  go_wp2_with (simp only [hov])
  go_region
  go_wp2
  go_ret
  exact ⟨rfl, by rw [HW1.out]⟩

set_option maxHeartbeats 4000000 in
set_option maxRecDepth 100000 in
theorem ins_ent_shift (B n i c g vb : Nat) (news : List Value) (xs : List Value) (cur : Array Value) (w : World) (hown : w.ownsRow B 39 2 (.slice (some ⟨g, 0, none⟩) n c) n xs) (hi : i < n) (hroom : n + 1 ≤ c) (hn : n ≤ 100000) (hl : news.length = 2) (hvb : w.heap[vb]? = some (.cells cur 39 (0, 0))) (hcur : cur.toList = news) (hne : vb ≠ g) (h1 : ∀ u ∈ news, u.oneCell' = true) (h1x : ∀ u ∈ xs, u.oneCell' = true) :
    Calls Ybaf.prog 38 #[.slice (some ⟨g, 0, none⟩) n c, .int .i64 i, .slice (some ⟨vb, 0, none⟩) 1 1] w fun e w' => e = .returned (.slice (some ⟨g, 0, none⟩) (n + 1) c) ∧ w' = (w.drew.setCells g ((i + 1) * 2) (xs.drop (i * 2))).setCells g (i * 2) news := by
  have hxl := hown.1
  obtain ⟨rc, hgg, hrs, hrt⟩ : ∃ rc : Array Value, w.heap[g]? = some (.cells rc 39 (0, 0)) ∧ rc.size = c * 2 ∧ rc.toList.take (n * 2) = xs := by
    rcases hown.2 with ⟨h, _⟩ | ⟨g', cap', rc, h, _, hgg, _, _, hsz, htk⟩
    · cases h
    · simp only [Value.slice.injEq, Option.some.injEq, Addr.mk.injEq, and_true, true_and] at h
      obtain ⟨rfl, rfl⟩ := h
      exact ⟨rc, hgg, hsz, htk⟩
  have hc63 : c ≤ 9223372036854775807 := by
    rcases hown.2 with ⟨h, _⟩ | ⟨g', cap', rc, h, _, _, _, hm, _⟩
    · cases h
    · simp only [Value.slice.injEq, Option.some.injEq, Addr.mk.injEq, and_true, true_and] at h
      obtain ⟨rfl, rfl⟩ := h
      unfold maxLen at hm; omega
  have hsz : (Ybaf.prog.info? 39).map (·.size) = some 2 := by kernel_rfl
  have hov : ∀ lb cb, (callFunc 58 #[.slice (some ⟨vb, 0, none⟩) 1 1, .slice (some ⟨g, (i + 1) * 2, none⟩) lb cb]).run Ybaf.prog w = .ok (.value (.bool false)) w := fun lb cb => by
    rw [run_callFunc_extern Ybaf.func58 (by kernel_rfl) (by kernel_rfl) (by kernel_rfl) (e := Extern.SlicesOverlaps.overlaps #[37, 37] #[4]) (by kernel_rfl),
      Lib.run_overlaps_apart w 37 4 39 Ybaf.underlying37 2 Ybaf.sizeOf39 ⟨vb, 0, none⟩ ⟨g, (i + 1) * 2, none⟩ 1 1 lb cb hne 39 39 cur.size rc.size (by simp [World.shape?, hvb]) (by simp [World.shape?, hgg]) (by omega) (frozen_of_row _ _ _ _ _ hvb) (frozen_of_row _ _ _ _ _ hvb)]
    rfl
  have hdl : (xs.drop (i * 2)).length = (n - i) * 2 := by rw [List.length_drop, hxl]; omega
  have hcp1 : ∀ ty dc sc, (Builtin.copy_ #[37, 37] ty #[.slice (some ⟨g, (i + 1) * 2, none⟩) (n - i) dc, .slice (some ⟨g, i * 2, none⟩) (n + 1 - i) sc]).run Ybaf.prog w.drew = .ok (goInt (Nat.min (n + 1 - i) (n - i))) (w.drew.setCells g ((i + 1) * 2) (xs.drop (i * 2))) := fun ty dc sc =>
    run_copy_k w.drew _ _ ty 39 g ((i + 1) * 2) (n - i) dc ⟨g, i * 2, none⟩ (n + 1 - i) sc 2 (xs.drop (i * 2)) Ybaf.underlying37 hsz (by rw [hdl]; simp only [Nat.min_def]; split <;> omega)
      (fun j v hj => by
        rw [Addr.add_lit]
        rw [List.getElem?_drop] at hj
        have hlt : i * 2 + j < n * 2 := by have := (List.getElem?_eq_some_iff.1 hj).1; omega
        exact (hown.cellAt (i * 2 + j) hlt).trans hj)
      (fun j hj => by
        rw [show w.drew.cell? ⟨g, (i + 1) * 2 + j, none⟩ = w.cell? ⟨g, (i + 1) * 2 + j, none⟩ from rfl, cell_of_row _ _ _ _ _ _ hgg, Array.getElem?_eq_getElem (by rw [hdl] at hj; omega)]; rfl)
      (fun j _ => frozen_of_row _ _ _ _ _ hgg) (fun v hv => h1x v (List.mem_of_mem_drop hv))
  obtain ⟨W1, hW1⟩ : ∃ W1, W1 = w.drew.setCells g ((i + 1) * 2) (xs.drop (i * 2)) := ⟨_, rfl⟩
  have hg1 := grown_setCells g (xs.drop (i * 2)) ((i + 1) * 2) w.drew
  rw [← hW1] at hcp1 hg1
  have hvb1 : W1.heap[vb]? = some (.cells cur 39 (0, 0)) := (hg1.block vb (lt_of_block hvb) (by simpa using hne)).trans hvb
  have hsm1 : ∀ k, k < c * 2 → (W1.cell? ⟨g, k, none⟩).isSome = true ∧ W1.frozen? ⟨g, k, none⟩ = false := fun k hk => by
    obtain ⟨rc', e1, e2, _⟩ := setCells_row g 39 (xs.drop (i * 2)) ((i + 1) * 2) w.drew rc hgg (by rw [hdl]; omega)
    rw [← hW1] at e1
    rw [cell_of_row _ _ _ _ _ _ e1, frozen_of_row _ _ _ _ _ e1, Array.getElem?_eq_getElem (by omega)]
    exact ⟨rfl, rfl⟩
  have hcp2 : ∀ ty dc, (Builtin.copy_ #[37, 37] ty #[.slice (some ⟨g, i * 2, none⟩) (n + 1 - i) dc, .slice (some ⟨vb, 0, none⟩) 1 1]).run Ybaf.prog W1 = .ok (goInt (Nat.min 1 (n + 1 - i))) (W1.setCells g (i * 2) news) := fun ty dc =>
    run_copy_k W1 _ _ ty 39 g (i * 2) (n + 1 - i) dc ⟨vb, 0, none⟩ 1 1 2 news Ybaf.underlying37 hsz (by rw [hl]; simp only [Nat.min_def]; split <;> omega)
      (fun j v hj => by rw [Addr.add_lit, Nat.zero_add, cell_of_row _ _ _ _ _ _ hvb1]; rw [← hcur] at hj; simpa using hj)
      (fun j hj => (hsm1 _ (by omega)).1) (fun j hj => (hsm1 _ (by omega)).2) h1
  have mixed : Ybaf.prog.follows .mixedOrders = true := by kernel_rfl
  have hz2 : ((i : Int) == (n : Int)) = false := by simp; omega
  have hw1 : IntKind.i64.wrap ((i : Int) + 1) = (i : Int) + 1 := by rw [IntKind.wrap_i64]; omega
  have hw2 : IntKind.i64.wrap ((n : Int) + 1) = (n : Int) + 1 := by rw [IntKind.wrap_i64]; omega
  have hb1 : (0 : Int) ≤ (i : Int) + 1 := by omega
  have hb0 : (0 : Int) ≤ (i : Int) := by omega
  have hin : (i : Int) ≤ (n : Int) := by omega
  have htn : ((i : Int) + 1).toNat = i + 1 := by omega
  have htm : ((n : Int) + 1).toNat = n + 1 := by omega
  have hb2 : ¬ (c = i + 1) := by omega
  have hb3 : (i : Int) ≤ (n : Int) + 1 := by omega
  have hb4 : ¬ (c = i) := by omega
  have hb5 : (i : Int) + 1 ≤ (n : Int) + 1 := by omega
  have hb6 : ¬ ((n : Int) + 1 > (c : Int)) := by omega
  have hb7 : (n : Int) + 1 ≤ (c : Int) := by omega
  have hb8 : (0 : Int) ≤ (n : Int) + 1 := by omega
  have HW1 : Hid _ := hW1
  clear hW1 hgg hrs hrt hown hg1 hsm1 hvb1
  go_enter Ybaf.func38, Ybaf.ntmps38
  go_wp2_with (simp only [hov])
  go_region
  go_wp2
  go_ret
  exact ⟨rfl, by rw [HW1.out]⟩
end Go.Proofs.YbulkcrtgFmt
