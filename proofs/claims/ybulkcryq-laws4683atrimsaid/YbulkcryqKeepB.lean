/-
  The first chain kept, packed anew: over the bytes of those before it, or into new memory. The memory's side, no walk.
-/
import Derived.Test.YbulkcryqKeepA
import Derived.Laws.IdiomCopy
import Derived.Laws.MakeOwn
import Derived.Laws.OwnMore
namespace Go.Proofs.Ybulkcryq
open Go Go.RowKit

theorem encode_first (cb : List (Int × Int)) (cl c c' : Int × Int) (i : Nat) (h : cb[i]? = some c) (e : c'.2 = c.2) : encode (c' :: (cb ++ [cl]).drop (i + 1)) = packF c' ++ (packB cb ++ lastB cl).drop (offOf cb i) := by
  have hi : i < cb.length := (List.getElem?_eq_some_iff.1 h).1
  rw [List.drop_append_of_le_length (by omega), ← List.cons_append, encode_snoc, packB, packB_take cb i c h, e]
  unfold offOf
  rw [List.append_assoc (packB _), List.drop_left, List.append_assoc]
theorem byteCells_take (l : List UInt8) (n : Nat) : (Lib.byteCells l).take n = Lib.byteCells (l.take n) := by simp [Lib.byteCells]
theorem byteCells_drop (l : List UInt8) (n : Nat) : (Lib.byteCells l).drop n = Lib.byteCells (l.drop n) := by simp [Lib.byteCells]
theorem byteCells_one (l : List UInt8) : ∀ u ∈ Lib.byteCells l, u.oneCell' = true := by
  intro u hu
  simp only [Lib.byteCells, List.mem_map] at hu
  obtain ⟨x, _, rfl⟩ := hu
  rfl
theorem byteCells_get {l : List UInt8} {j : Nat} {v : Value} (h : (Lib.byteCells l)[j]? = some v) : ∃ hj : j < l.length, v = .int .u8 (l[j]).toNat := by
  have hj : j < l.length := by
    have := (List.getElem?_eq_some_iff.1 h).1
    rwa [byteCells_length] at this
  refine ⟨hj, ?_⟩
  simp only [Lib.byteCells, List.getElem?_map, List.getElem?_eq_getElem hj, Option.map_some, Option.some.injEq] at h
  exact h.symm
theorem bytes_news {w : World} {g o : Nat} {l : List UInt8} (h : BytesFrom w g o l) : ∀ j v, (Lib.byteCells l)[j]? = some v → w.cell? ((⟨g, o, none⟩ : Addr).add j) = some v := fun j v hj => by
  obtain ⟨hl, rfl⟩ := byteCells_get hj
  rw [Addr.add_lit]
  exact h j hl

section
variable {M Lb klb kkb kpb tlb shb g cap : Nat} {ka : Option Addr} {kc : Nat} {ks : List Bool} {sh : Int} {cb : List (Int × Int)} {cl : Int × Int} {w : World}
/-- The packed row as it lay, behind keep and trim. -/
theorem to_row (hin : FrontIn M Lb klb kkb kpb tlb shb g cap ka kc ks sh cb cl w) {N c i : Nat} {W W2 : World} (hi : Inv w.heap.size Lb klb kkb kpb tlb shb g N cap ks cb w c i W) (hl1 : w.heap.size ≤ W.heap.size)
    (to : TrimOut w.heap.size klb kkb tlb cb c i W W2) : W2.ownsRow M 5 1 (.slice (some ⟨g, 0, none⟩) ((packB cb).length + 8) cap) ((packB cb).length + 8) (Lib.byteCells (packB cb ++ lastB cl)) := by
  have ngk : g ≠ klb := fun e => hin.klog.not_row (by decide) hin.row (by rw [← e]; rfl)
  have ngt : g ≠ tlb := fun e => hin.tlog.not_row (by decide) hin.row (by rw [← e]; rfl)
  have ngc : g ≠ kkb := fun e => hin.kcnt.not_row (by decide) hin.row (by rw [← e]; rfl)
  have hk : KeptB w.heap.size (fun k => k = klb ∨ k = kkb ∨ k = tlb) w W2 :=
    ⟨to.os.trans hi.kept.os, to.output.trans hi.kept.output, Nat.le_trans hi.kept.size to.size, fun k hk hs =>
      (to.block k (by omega) (fun e => hs (.inl e)) (fun e => hs (.inr (.inl e))) (fun e => hs (.inr (.inr e))) (.inl (by omega))).trans (hi.kept.block k hk (fun e => by rcases e with e | e; exact hs (.inl e); exact hs (.inr (.inl e))))⟩
  refine hk.own hin.row (fun k e => ?_)
  have hgl := (hin.row.lt g rfl).2
  simp only [Value.ownBlock, Option.some.injEq] at e
  subst e
  exact ⟨hgl, fun s => by rcases s with s | s | s; exact ngk s; exact ngc s; exact ngt s⟩

/-- The copy over the bytes before: that it runs, and what it leaves. -/
theorem copy_end (hin : FrontIn M Lb klb kkb kpb tlb shb g cap ka kc ks sh cb cl w) {N c i : Nat} {W W2 W4 : World} (hN : (packB cb).length = N) (hi : Inv w.heap.size Lb klb kkb kpb tlb shb g N cap ks cb w c i W) (him : i < cb.length) (hl1 : w.heap.size + 7 < W.heap.size) (hf : (ks[i]?).getD false = true)
    (to : TrimOut w.heap.size klb kkb tlb cb c i W W2) {a b t1 : Int} (hxc : chainOf cb i = (a, b)) (ht1 : wrap32 (a + sh) = t1) (h4 : KeptB W2.heap.size (fun _ => False) W2 W4) (cL : Boxed W2 Lb 32 (.slice (some ⟨g, 0, none⟩) (N + 8) cap))
    {sb d fl q : Nat} (hsb : W2.heap.size ≤ sb) (hb : BytesFrom W4 sb 0 (packF (t1, b))) (hfl : (packF (t1, b)).length = fl) (hq : offOf cb i = q) (hqd : q = fl + d) (hqN : q ≤ N) (W5 : World) (hW5 : W5 = W4.drew.setCell ⟨Lb, 0, none⟩ (.slice (some ⟨g, d, none⟩) (N + 8 - d) (cap - d))) (I : World → Prop) :
    (Builtin.copy_ #[29, 29] 3 #[.slice (some ⟨g, d, none⟩) (N + 8 - d) (cap - d), .slice (some ⟨sb, 0, none⟩) fl 14]).run Yba.prog W5 = .ok (goInt fl) (W5.setCells g d (Lib.byteCells (packF (t1, b)))) ∧
    ∀ a0, cellPost (w.heap.size + 6) c I (Ix7 w.heap.size Lb klb kkb tlb g ks sh (cb ++ [cl]) w) W .ret a0 (W5.setCells g d (Lib.byteCells (packF (t1, b)))) := by
  have row2 := to_row hin hi (by omega) to
  rw [hN] at row2
  have hgl := (row2.lt g rfl).2
  have hLl := cL.lt
  have nLg : Lb ≠ g := fun e => cL.not_row (by decide) row2 (by rw [e]; rfl)
  have row5 : W5.ownsRow M 5 1 (.slice (some ⟨g, 0, none⟩) (N + 8) cap) (N + 8) (Lib.byteCells (packB cb ++ lastB cl)) := by
    have k5 : KeptB W2.heap.size (fun k => k = Lb) W2 W5 := by
      rw [hW5]
      exact ((h4.mono (Nat.le_refl _) (fun _ _ h => h.elim)).trans (KeptB.drew _)).trans (KeptB.setCell _ _ _ _ (fun _ => rfl))
    exact k5.own row2 (fun k e => by simp only [Value.ownBlock, Option.some.injEq] at e; subst e; exact ⟨hgl, fun e => nLg e.symm⟩)
  have hlen : (packB cb ++ lastB cl).length = N + 8 := by rw [List.length_append, lastB_length, hN]
  have hb5 : BytesFrom W5 sb 0 (packF (t1, b)) := by
    refine hb.block ?_
    rw [hW5]
    exact Below.heap_setCell _ _ _ _ (by show sb ≠ Lb; omega)
  have hcl := byteCells_length (packF (t1, b))
  have hrow := row5.2
  rcases hrow with ⟨h, _⟩ | ⟨g', cap', cur, h, _, hgg, hnc, _, hsz, htk⟩
  · cases h
  simp only [Value.slice.injEq, Option.some.injEq, Addr.mk.injEq, and_true, true_and] at h
  obtain ⟨rfl, rfl⟩ := h
  refine ⟨?_, fun a0 => ?_⟩
  · have := run_copy_cells (P := Yba.prog) W5 29 29 3 5 g d (N + 8 - d) (cap - d) ⟨sb, 0, none⟩ fl 14 (Lib.byteCells (packF (t1, b))) Yba.underlying29 (by kernel_rfl) (by rw [hcl, hfl]; simp only [Nat.min_def]; split <;> omega) (bytes_news hb5)
      (fun j hj => by rw [cell_of_row _ _ _ _ _ _ hgg, Array.getElem?_eq_getElem (by rw [hcl, hfl] at hj; omega)]; rfl) (fun j hj => by rw [frozen_of_row _ _ _ _ _ hgg]) (byteCells_one _)
    rw [hcl, hfl] at this
    exact this
  · have row6 := own_setCells (Lib.byteCells (packF (t1, b))) d W5 (Lib.byteCells (packB cb ++ lastB cl)) row5 (by rw [hcl, hfl, byteCells_length, hlen]; omega)
    rw [hcl, hfl, byteCells_take, byteCells_drop, ← byteCells_append, ← byteCells_append] at row6
    have hb6 := own_from row6
    rw [List.append_assoc] at hb6
    have hb7 := hb6.drop
    rw [List.length_take, hlen, Nat.min_eq_left (by omega), Nat.zero_add] at hb7
    have hci : cb[i]? = some (a, b) := by rw [← hxc]; simp [chainOf, him]
    have he := encode_first cb cl (a, b) (t1, b) i hci rfl
    rw [hq, hqd, Nat.add_comm fl d] at he
    have hg6 := grown_setCells g (Lib.byteCells (packF (t1, b))) d W5
    have hL5 : Boxed W5 Lb 32 (.slice (some ⟨g, d, none⟩) (N + 8 - d) (cap - d)) := by
      rw [hW5]
      exact Boxed.set _ ((h4.boxed cL hLl (fun h => h)))
    have hL6 := hL5.kept hg6 (fun e => nLg (by simpa using e))
    refine keep_end hin hi him hl1 hf to hxc ht1 ?_ _ rfl ⟨_, cap - d, ?_, fun _ => ⟨g, d, rfl, by rw [he]; exact hb7⟩⟩ I a0
    · refine (((h4.mono (Nat.le_refl _) (fun _ _ h => h.elim)).trans (KeptB.drew _)).trans ?_).trans (KeptB.grown hg6 ?_ (fun k e _ => .inr (by simpa using e.symm)))
      · rw [hW5]; exact KeptB.setCell _ _ _ _ (fun _ => .inl rfl)
      · rw [hW5]; simpa using h4.size
    · have : (encode ((t1, b) :: (cb ++ [cl]).drop (i + 1))).length = N + 8 - d := by rw [he, List.length_append, List.length_drop, hlen, hfl]; omega
      rw [this]
      exact hL6

/-- New memory: that it is made and filled, and what that leaves. -/
theorem new_end (hin : FrontIn M Lb klb kkb kpb tlb shb g cap ka kc ks sh cb cl w) {N c i : Nat} {W W2 W4 : World} (hN : (packB cb).length = N) (hi : Inv w.heap.size Lb klb kkb kpb tlb shb g N cap ks cb w c i W) (him : i < cb.length) (hl1 : w.heap.size + 7 < W.heap.size) (hf : (ks[i]?).getD false = true)
    (to : TrimOut w.heap.size klb kkb tlb cb c i W W2) {a b t1 : Int} (hxc : chainOf cb i = (a, b)) (ht1 : wrap32 (a + sh) = t1) (h4 : KeptB W2.heap.size (fun _ => False) W2 W4) (cL : Boxed W2 Lb 32 (.slice (some ⟨g, 0, none⟩) (N + 8) cap))
    {sb fl q T h : Nat} (hsb4 : sb < W4.heap.size) (hb : BytesFrom W4 sb 0 (packF (t1, b))) (hfl : (packF (t1, b)).length = fl) (hfp : 0 < fl) (hq : offOf cb i = q) (hqN : q ≤ N) (hNb : N ≤ 3000) (hf9 : fl ≤ 9) (hT : T = fl + (N + 8 - q)) (hh : W4.heap.size = h) (I : World → Prop) :
    ∃ W6 W7 W8, (Instr.makeSlice 29 (.int .i64 0) (.int .i64 (T : Int))).run Yba.prog W4.drew = .ok (.slice (some ⟨h, 0, none⟩) 0 T) W6 ∧
    (Builtin.append_ #[29, 29] 29 #[.slice (some ⟨h, 0, none⟩) 0 T, .slice (some ⟨sb, 0, none⟩) fl 14]).run Yba.prog W6 = .ok (.slice (some ⟨h, 0, none⟩) fl T) W7 ∧
    (Builtin.append_ #[29, 29] 29 #[.slice (some ⟨h, 0, none⟩) fl T, .slice (some ⟨g, q, none⟩) (N + 8 - q) (cap - q)]).run Yba.prog W7 = .ok (.slice (some ⟨h, 0, none⟩) T T) W8 ∧
    KeptB W2.heap.size (fun _ => False) W2 W6 ∧ KeptB W2.heap.size (fun _ => False) W2 W7 ∧ KeptB W2.heap.size (fun _ => False) W2 W8 ∧
    ∀ a0, cellPost (w.heap.size + 6) c I (Ix7 w.heap.size Lb klb kkb tlb g ks sh (cb ++ [cl]) w) W .ret a0 (W8.setCell ⟨Lb, 0, none⟩ (.slice (some ⟨h, 0, none⟩) T T)) := by
  have row2 := to_row hin hi (by omega) to
  rw [hN] at row2
  have hgl := (row2.lt g rfl).2
  have hLl := cL.lt
  have hs4 := h4.size
  have hlen : (packB cb ++ lastB cl).length = N + 8 := by rw [List.length_append, lastB_length, hN]
  have hcl := byteCells_length (packF (t1, b))
  have hx := Yba.info5
  obtain ⟨i5, hi5⟩ : ∃ i5, Yba.prog.info? 5 = some i5 := by
    cases h : Yba.prog.info? 5 with
    | none => rw [h] at hx; cases hx
    | some i5 => exact ⟨i5, rfl⟩
  rw [hi5] at hx
  simp only [Option.map_some, Option.some.injEq, Prod.mk.injEq] at hx
  obtain ⟨hz, hsz, hby⟩ := hx
  have hTm : T ≤ 4000 := by omega
  obtain ⟨W6, hmk, own6, gr6⟩ := run_make_own (P := Yba.prog) W4.drew W4.heap.size 29 5 i5 _ 1 Yba.underlying29 hi5 hz hsz .i64 .i64 T (by rw [hby]; omega) (by simp only [maxLen]; omega) (Nat.le_refl _)
  rw [show W4.drew.heap.size = W4.heap.size from rfl, hh] at hmk own6
  have hs6 := gr6.size
  rw [show W4.drew.heap.size = W4.heap.size from rfl] at hs6
  have b6 : ∀ k, k < W4.heap.size → W6.heap[k]? = W4.heap[k]? := fun k hk => gr6.block k hk (by simp)
  obtain ⟨W7, ha1, own7, gr7⟩ := run_append_fits (P := Yba.prog) W6 _ 29 29 5 i5 1 Yba.underlying29 hi5 hsz h 0 T [] own6 ⟨sb, 0, none⟩ fl 14 (Lib.byteCells (packF (t1, b))) (by rw [hcl, hfl]; omega) (bytes_news (hb.block (b6 sb hsb4))) (byteCells_one _) (by omega)
  rw [Nat.zero_add] at ha1 own7
  have b7 : ∀ k, k < W4.heap.size → W7.heap[k]? = W4.heap[k]? := fun k hk => (gr7.block k (by omega) (by simp only [ne_eq, Option.some.injEq]; omega)).trans (b6 k hk)
  have hsrc : BytesFrom W7 g q ((packB cb ++ lastB cl).drop q) := by
    have h0 : BytesFrom W7 g 0 (packB cb ++ lastB cl) := (own_from row2).block ((b7 g (by omega)).trans (h4.block g hgl (fun h => h)))
    rw [← List.take_append_drop q (packB cb ++ lastB cl)] at h0
    have := h0.drop
    rwa [List.length_take, hlen, Nat.min_eq_left (by omega), Nat.zero_add] at this
  have hs7 := gr7.size
  obtain ⟨W8, ha2, own8, gr8⟩ := run_append_fits (P := Yba.prog) W7 _ 29 29 5 i5 1 Yba.underlying29 hi5 hsz h fl T _ own7 ⟨g, q, none⟩ (N + 8 - q) (cap - q) (Lib.byteCells ((packB cb ++ lastB cl).drop q)) (by rw [byteCells_length, List.length_drop, hlen]; omega) (bytes_news hsrc) (byteCells_one _) (by omega)
  rw [← hT] at ha2 own8
  have b8 : ∀ k, k < W4.heap.size → W8.heap[k]? = W4.heap[k]? := fun k hk => (gr8.block k (by omega) (by simp only [ne_eq, Option.some.injEq]; omega)).trans (b7 k hk)
  have hs8 := gr8.size
  have k6 : KeptB W2.heap.size (fun _ => False) W2 W6 := h4.trans ⟨gr6.os, gr6.output, hs6, fun k hk _ => b6 k (by omega)⟩
  have k7 : KeptB W2.heap.size (fun _ => False) W2 W7 := h4.trans ⟨gr7.os.trans gr6.os, gr7.output.trans gr6.output, by omega, fun k hk _ => b7 k (by omega)⟩
  have k8 : KeptB W2.heap.size (fun _ => False) W2 W8 := h4.trans ⟨gr8.os.trans (gr7.os.trans gr6.os), gr8.output.trans (gr7.output.trans gr6.output), by omega, fun k hk _ => b8 k (by omega)⟩
  refine ⟨W6, W7, W8, hmk, ha1, ha2, k6, k7, k8, fun a0 => ?_⟩
  have hci : cb[i]? = some (a, b) := by rw [← hxc]; simp [chainOf, him]
  have he := encode_first cb cl (a, b) (t1, b) i hci rfl
  rw [hq] at he
  rw [List.nil_append, ← byteCells_append] at own8
  have hbb := own_from own8
  have hel : (encode ((t1, b) :: (cb ++ [cl]).drop (i + 1))).length = T := by rw [he, List.length_append, List.length_drop, hlen, hfl]; omega
  refine keep_end hin hi him hl1 hf to hxc ht1 ?_ _ rfl ⟨_, T, ?_, fun _ => ⟨h, 0, rfl, ?_⟩⟩ I a0
  · exact (k8.mono (Nat.le_refl _) (fun _ _ h => h.elim)).trans (KeptB.setCell _ _ _ _ (fun _ => .inl rfl))
  · rw [hel]
    exact Boxed.set _ (k8.boxed cL hLl (fun h => h))
  · rw [he]
    exact hbb.block (Below.heap_setCell _ _ _ _ (by show h ≠ Lb; omega))
end
end Go.Proofs.Ybulkcryq
