/-
  slices.Equal at bytes (16), uvarintLen (41), slices.Grow at bytes (42), appendLengthPrefixed (44).
-/
import Derived.Test.YbulkcrtgFmtDsCl
import Derived.Lib.AppendZerosOnto
import Derived.Lib.AppendStr
namespace Go.Proofs.YbulkcrtgFmt
open Go Go.RowKit

set_option maxHeartbeats 4000000 in
set_option maxRecDepth 100000 in
theorem equal_byt (pa pb : Option Addr) (ca cb : Nat) (l : List UInt8) (w : World) (hn : l.length ≤ 100000) (ha : BytAt w pa l) (hb : BytAt w pb l) :
    Calls Ybaf.prog 16 #[.slice pa l.length ca, .slice pb l.length cb] w fun e w' => e = .returned (.bool true) ∧ Below w.heap.size w w' := by
  have HA : Hid (BytAt w pa l ∧ BytAt w pb l) := ⟨ha, hb⟩
  clear ha hb
  go_enter Ybaf.func16, Ybaf.ntmps16
  go_wp2
  go_loopw [13] (fun vx wr => ∃ k : Nat, k ≤ l.length ∧ vx = .int .i64 k ∧ Below w.heap.size w wr) (fun vx _ => l.length - (intOf vx).toNat)
  case atStart => exact ⟨0, by omega, rfl, Below.refl _ _⟩
  case round =>
    obtain ⟨k, hk, rfl, hbl⟩ := hrel
    by_cases hlt : k < l.length
    · have hne : l ≠ [] := by intro e; rw [e] at hlt; simp at hlt
      obtain ⟨g, o, rfl, h0⟩ := HA.out.1 hne
      obtain ⟨g2, o2, rfl, h2⟩ := HA.out.2 hne
      have h0 := h0 k hlt
      have h2 := h2 k hlt
      obtain ⟨x, hx⟩ : ∃ x : Int, x = (l[k]).toNat := ⟨_, rfl⟩
      rw [← hx] at h0 h2
      have q0 : wr.cell? ⟨g, o + k, none⟩ = some (.int .u8 x) := (hbl.cell (p := ⟨g, _, none⟩) (World.block_lt_of_cell? w _ h0)).trans h0
      have q2 : wr.cell? ⟨g2, o2 + k, none⟩ = some (.int .u8 x) := (hbl.cell (p := ⟨g2, _, none⟩) (World.block_lt_of_cell? w _ h2)).trans h2
      have i1 : (0 : Int) ≤ (k : Int) := by omega
      have i2 : (k : Int) < (l.length : Int) := by omega
      clear h0 h2 hx
      go_wp2_with fail
      go_region
      all_goals go_wp2
      all_goals go_roundw
      all_goals first
        | (refine ⟨k + 1, by omega, by go_num, hbl.drew⟩)
        | (simp [intOf]; omega)
    · obtain rfl : k = l.length := by omega
      go_wp2
      go_ret
      exact ⟨rfl, hbl⟩

theorem bitLenAux_le : ∀ (f x : Nat), Lib.bitLenAux f x ≤ f
  | 0, _ => Nat.le_refl _
  | f + 1, x => by
    have := bitLenAux_le f (x / 2)
    unfold Lib.bitLenAux
    split <;> omega
set_option maxRecDepth 100000 in
theorem uvlen_any (x : Nat) (hx : x < 18446744073709551616) (w : World) :
    Calls Ybaf.prog 41 #[.int .u64 x] w fun e w' => (∃ u : Nat, 1 ≤ u ∧ u ≤ 10 ∧ e = .returned (.int .i64 u)) ∧ w' = w := by
  have hb : Lib.bitLen x ≤ 64 := bitLenAux_le 64 x
  have BL := Ybaf.bits_Len64 (x : Int) w (by omega) (by omega)
  rw [Int.toNat_natCast] at BL
  obtain ⟨m, hm⟩ : ∃ m, Lib.bitLen x = m := ⟨_, rfl⟩
  rw [hm] at BL hb
  have HB : Hid _ := BL
  clear BL hm
  obtain ⟨u, hu⟩ : ∃ u, (m + 6) / 7 = u := ⟨_, rfl⟩
  have hu10 : u ≤ 10 := by omega
  have q1 : ((m : Int) + 6).tdiv 7 = (u : Int) := by
    rw [← hu]
    rw [Int.tdiv_eq_ediv_of_nonneg (by omega)]
    omega
  clear hu
  go_enter Ybaf.func41, Ybaf.ntmps41
  go_wp2_with fail
  go_at_call 60
  refine Calls.mono HB.out ?_
  rintro e w1 ⟨rfl, rfl⟩
  go_wp2
  go_ret
  refine ⟨⟨max 1 u, by omega, by omega, ?_⟩, rfl⟩
  have e : ((max 1 u : Nat) : Int) = max 1 (u : Int) := by omega
  rw [e]; rfl

/-- A string's bytes appended: and where the row lies then. -/
theorem str_append (B n : Nat) (sv : Value) (xs : List Value) (s : ByteArray) (hs : 0 < s.size) (w : World) (hown : w.ownsRow B 5 1 sv n xs) (hB : B ≤ w.heap.size) (hlim : n + s.size ≤ 140737488355328) (ty : TypeId) :
    ∃ v' w', (Builtin.append_ #[22, 9] ty #[sv, .string s]).run Ybaf.prog w = .ok v' w' ∧ w'.ownsRow B 5 1 v' (n + s.size) (xs ++ Lib.byteCells s.data.toList) ∧ Grew w sv w' v' := by
  obtain ⟨i0, hi0, hz0, hz1, hz2⟩ := info_parts Ybaf.info5
  obtain ⟨v', w', hr, o', gr, _⟩ := Lib.run_append_own_string (P := Ybaf.prog) w B 22 9 ty 5 i0 Ybaf.underlying22 Ybaf.underlying9 hi0 hz0 hz1 hz2 sv n xs hown s (by unfold maxLen; omega) hlim hB
  refine ⟨v', w', hr, own_cast o' rfl (by simp [Lib.strCells, Lib.byteCells]), KeptB.grown gr (Nat.le_refl _) (fun k e _ => e.symm), fun k hk => ?_⟩
  rcases hown.2 with ⟨rfl, rfl⟩ | ⟨g, cap, cur, rfl, hbg, hg, hnc, hcm, hcs, htake⟩
  · have h2 := run_append_nil_string (P := Ybaf.prog) w 22 9 ty 5 i0 (.int .u8 0) Ybaf.underlying22 Ybaf.underlying9 hi0 hz0 s (by omega) (by omega) (by rw [hz2]; omega)
    rw [hr] at h2
    simp only [Result.ok.injEq] at h2
    rw [h2.1] at hk
    simp only [Value.ownBlock, Option.some.injEq] at hk
    exact .inr (by omega)
  · by_cases hroom : n + s.size ≤ cap
    · have h2 := Lib.run_append_room_string (P := Ybaf.prog) w 22 9 ty 5 i0 Ybaf.underlying22 Ybaf.underlying9 hi0 hz1 g n cap cur hg s hroom (by omega)
      rw [hr] at h2
      simp only [Result.ok.injEq] at h2
      rw [h2.1] at hk
      exact .inl hk
    · have holds : ∀ j u, xs[j]? = some u → w.cell? ((⟨g, 0, none⟩ : Addr).add j) = some u := hown.cells (g := g) rfl
      have h2 := Lib.run_append_grow_string (P := Ybaf.prog) w 22 9 ty 5 i0 (.int .u8 0) Ybaf.underlying22 Ybaf.underlying9 hi0 hz0 ⟨g, 0, none⟩ n cap xs (by rw [hz1]; simpa using hown.1) holds s (by omega) (by omega) (by rw [hz2]; exact growslice_fits (by omega) (by omega))
      rw [hr] at h2
      simp only [Result.ok.injEq] at h2
      rw [h2.1] at hk
      simp only [Value.ownBlock, Option.some.injEq] at hk
      exact .inr (by omega)

theorem nm_size_fin : ∀ p : Fin 6, 0 < (nm p).size ∧ (nm p).size ≤ 2 ∧ (nm p).size = (nm p).data.toList.length := by decide
theorem nm_size (p : Nat) : 0 < (nm p).size ∧ (nm p).size ≤ 2 ∧ (nm p).size = (nm p).data.toList.length := by
  by_cases h : p < 6
  · exact nm_size_fin ⟨p, h⟩
  · have : nm p = nm 5 := by
      unfold nm
      split <;> first | omega | rfl
    rw [this]; exact nm_size_fin 5

set_option maxHeartbeats 2000000 in
set_option maxRecDepth 100000 in
theorem lenpre_any (B n p : Nat) (sv : Value) (xs : List Value) (w : World) (hown : w.ownsRow B 5 1 sv n xs) (hB : B ≤ w.heap.size) (hlim : n ≤ 10000000) :
    Calls Ybaf.prog 44 #[sv, .string (nm p)] w fun e w' => ∃ v', e = .returned v' ∧ w'.ownsRow B 5 1 v' (n + (Lib.uvarint (nm p).size ++ (nm p).data.toList).length) (xs ++ Lib.byteCells (Lib.uvarint (nm p).size ++ (nm p).data.toList)) ∧ Grew w sv w' v' := by
  obtain ⟨hz, hz2, hz3⟩ := nm_size p
  obtain ⟨sz, hsz⟩ : ∃ sz, (nm p).size = sz := ⟨_, rfl⟩
  have UV := uv_lib B n sz (by omega) sv xs w hown hB (by omega)
  have hul := Lib.uvarint_length64 (x := sz) (by omega)
  have HUV : Hid _ := UV
  have HZ : Hid (0 < (nm p).size ∧ (nm p).size = (nm p).data.toList.length) := ⟨hz, hz3⟩
  rw [hsz] at hz2 ⊢
  have hsz' : ((nm p).size : Int) = (sz : Int) := by rw [hsz]
  clear UV hz hz3
  go_enter Ybaf.func44, Ybaf.ntmps44
  go_wp2_with fail
  go_at_call 43
  refine Calls.mono HUV.out ?_
  rintro e w1 ⟨v1, rfl, o1, g1⟩
  have hs1 := g1.kept.size
  obtain ⟨v2, w2, hr, o2, g2⟩ := str_append B _ v1 _ (nm p) HZ.out.1 w1 o1 (by omega) (by omega) 22
  have HF : Hid (w2.ownsRow B 5 1 v2 (n + (Lib.uvarint sz ++ (nm p).data.toList).length) (xs ++ Lib.byteCells (Lib.uvarint sz ++ (nm p).data.toList)) ∧ Grew w sv w2 v2) := ⟨own_cast o2 (by rw [List.length_append, ← HZ.out.2]; omega) (by rw [byteCells_append, List.append_assoc]), g1.trans g2⟩
  clear o2 g2 o1 g1 hsz
  go_wp2_with (at_builtin; refine Lib.wpList_append_run _ rfl _ _ _ _ rfl _ _ rfl rfl _ _ hr ?_)
  go_ret
  exact ⟨_, rfl, HF.out⟩

set_option maxHeartbeats 2000000 in
set_option maxRecDepth 100000 in
/-- slices.Grow at bytes. -/
theorem grow_any (B l N : Nat) (sv : Value) (xs : List Value) (w : World) (hown : w.ownsRow B 5 1 sv l xs) (hB : B ≤ w.heap.size) (hl : l ≤ 10000000) (hN : N ≤ 10000000) :
    Calls Ybaf.prog 42 #[sv, .int .i64 N] w fun e w' => ∃ v', e = .returned v' ∧ w'.ownsRow B 5 1 v' l xs ∧ Grew w sv w' v' := by
  obtain ⟨i0, hi0, hz0, hz1, hz2⟩ := info_parts Ybaf.info5
  obtain ⟨sa, c, cs, rfl, hlc, hcm, hcl, hct, hnil, hcs, h1⟩ : ∃ (sa : Option Addr) (c : Nat) (cs : List Value), sv = .slice sa l c ∧ l ≤ c ∧ c ≤ maxLen ∧ cs.length = c ∧ cs.take l = xs ∧ (sa = none → c = 0) ∧ (∀ a, sa = some a → ∀ j v, cs[j]? = some v → w.cell? (a.add j) = some v) ∧ True := by
    rcases hown.2 with ⟨rfl, rfl⟩ | ⟨g, cap, cur, rfl, _, hg, hnc, hm, hsz, htk⟩
    · have hx : xs = [] := by have := hown.1; simpa using this
      exact ⟨none, 0, [], rfl, Nat.le_refl _, by unfold maxLen; omega, rfl, by rw [hx]; rfl, fun _ => rfl, (fun a h => by cases h), trivial⟩
    · refine ⟨_, cap, cur.toList, rfl, hnc, hm, by rw [Array.length_toList, hsz]; omega, by simpa using htk, fun h => by (cases h), fun a h j v hv => ?_, trivial⟩
      simp only [Option.some.injEq] at h
      subst h
      rw [Addr.add_lit, Nat.zero_add, cell_of_row _ _ _ _ _ _ hg]
      simpa using hv
  have hc63 : c ≤ 9223372036854775807 := by unfold maxLen at hcm; omega
  have h1 : ¬ ((N : Int) < 0) := by omega
  have h2 : IntKind.i64.wrap ((c : Int) - (l : Int)) = (c : Int) - (l : Int) := by rw [IntKind.wrap_i64]; omega
  have h3 : IntKind.i64.wrap ((N : Int) - ((c : Int) - (l : Int))) = (N : Int) - ((c : Int) - (l : Int)) := by rw [IntKind.wrap_i64]; omega
  by_cases hroom : l + N ≤ c
  · have h4 : ¬ ((N : Int) - ((c : Int) - (l : Int)) > 0) := by omega
    have HO : Hid _ := hown
    clear hown hcs hct hcl
    go_enter Ybaf.func42, Ybaf.ntmps42
    go_wp2
    go_ret
    exact ⟨_, rfl, HO.out, Grew.refl _ _⟩
  · have h4 : (N : Int) - ((c : Int) - (l : Int)) > 0 := by omega
    have hck : c + (l + N - c) = l + N := by omega
    have hold : (Builtin.firstCells i0.size c (.slice sa c c)).run Ybaf.prog w.drew = .ok cs.toArray w.drew := by
      cases sa with
      | none =>
        have h0 := hnil rfl
        subst h0
        have hc0 : cs = [] := List.length_eq_zero_iff.1 hcl
        rw [hc0]
        exact run_firstCells_none w.drew i0.size 0 0 0
      | some a => exact run_firstCells_some w.drew i0.size c a c c cs (by rw [hz1]; omega) (fun j v hj => hcs a rfl j v hj)
    obtain ⟨G, hG⟩ : ∃ G, grownCap w (l + N) c 5 = G := ⟨_, rfl⟩
    have hGn : l + N ≤ G := by rw [← hG]; exact grownCap_ge w _ _ _
    have hGm : G ≤ maxLen := by rw [← hG]; exact grownCap_le_maxLen w _ _ _ (by unfold maxLen; omega)
    have hG63 : G ≤ 9223372036854775807 := by unfold maxLen at hGm; omega
    obtain ⟨W1, hW1⟩ : ∃ W1, w.drew.alloc (.cells (cs.toArray ++ Builtin.zeroCells (Value.cells (.int .u8 0)) (l + N - c) ++ Builtin.zeroCells (Value.cells (.int .u8 0)) (G - (l + N))) 5) = W1 := ⟨_, rfl⟩
    have hap : ∀ ty, (Builtin.append_ #[22, 3] ty #[.slice sa c c, .int .i64 ((N : Int) - ((c : Int) - (l : Int)))]).run Ybaf.prog w = .ok (.slice (some ⟨w.heap.size, 0, none⟩) (l + N) G) W1 := fun ty => by
      have h := Lib.run_append_grow_zeros w 22 3 ty 5 i0 _ .i64 .i64 Ybaf.underlying22 Ybaf.underlying3 hi0 hz0 sa c c cs hold (l + N - c) (by omega) (by omega) (by omega) (by omega) (by rw [hz2]; omega) (by rw [hck]; exact growslice_fits (by omega) (by rw [hz2]; omega))
      rw [hck, hG, hW1] at h
      rw [show (N : Int) - ((c : Int) - (l : Int)) = ((l + N - c : Nat) : Int) by omega]
      exact h
    have FIN : W1.ownsRow B 5 1 (.slice (some ⟨w.heap.size, 0, none⟩) l G) l xs := by
      refine ⟨hown.1, .inr ⟨w.heap.size, G, _, rfl, hB, by rw [← hW1]; exact heap_alloc_new w.drew _, by omega, hGm, ?_, ?_⟩⟩
      · have hzz : (Value.cells (.int .u8 0)).size = 1 := rfl
        simp only [Array.size_append, List.size_toArray, size_zeroCells, hzz, hcl]; omega
      · rw [Array.toList_append, Array.toList_append, List.append_assoc, Nat.mul_one]
        rw [List.take_append_of_le_length (by show l ≤ cs.length; omega)]
        exact hct
    have k1 : KeptB w.heap.size (fun _ => False) w W1 := by rw [← hW1]; exact (KeptB.drew w).trans (KeptB.alloc _ (Nat.le_refl _))
    have HF : Hid (W1.ownsRow B 5 1 (.slice (some ⟨w.heap.size, 0, none⟩) l G) l xs ∧ KeptB w.heap.size (fun _ => False) w W1) := ⟨FIN, k1⟩
    have b1 : (0 : Int) ≤ (c : Int) := by omega
    have b2 : (l : Int) ≤ (G : Int) := by omega
    have b3 : (0 : Int) ≤ (l : Int) := by omega
    clear FIN k1 hW1 hold hown hcs hct hG hGm hz0 hz1 hz2
    go_enter Ybaf.func42, Ybaf.ntmps42
    go_wp2_with (at_builtin; refine Lib.wpList_append_run _ rfl _ _ _ _ rfl _ _ rfl rfl _ _ (hap _) ?_)
    go_ret
    refine ⟨_, rfl, HF.out.1, HF.out.2.mono (Nat.le_refl _) (fun _ _ h => h.elim), fun k e => ?_⟩
    have e' : w.heap.size = k := by simpa [Value.ownBlock] using e
    exact .inr (by omega)
end Go.Proofs.YbulkcrtgFmt
