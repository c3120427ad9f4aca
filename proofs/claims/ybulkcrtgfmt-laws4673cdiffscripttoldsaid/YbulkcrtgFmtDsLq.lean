/-
  The law's calls, over its state.
-/
import Derived.Test.YbulkcrtgFmtDsLp
namespace Go.Proofs.YbulkcrtgFmt
open Go Go.RowKit

theorem ins0_own {es : List (Nat × Nat)} {p k : Nat} (hk : PosOf es p k) : (ins0 es p k)[k]? = some (p, cntAt es p k) := by
  unfold ins0
  split
  · rename_i h
    unfold isAt at h
    split at h
    · rename_i e he
      have h1 : e.1 = p := by simpa using h
      have h2 : cntAt es p k = e.2 := by simp [cntAt, he, h1]
      rw [he, h2, ← h1]
    · cases h
  · rename_i h
    have h1 := hk.1
    rw [List.append_assoc, List.getElem?_append_right (by rw [List.length_take]; omega), List.length_take, Nat.min_eq_left h1, Nat.sub_self]
    have : cntAt es p k = 0 := by
      unfold isAt at h; unfold cntAt
      split at h
      · rename_i e he
        rw [he]
        have : e.1 ≠ p := by simpa using h
        simp [this]
      · rename_i he; rw [he]
    rw [this]
    rfl
theorem ins0_at {es : List (Nat × Nat)} {p k c : Nat} (he : es[k]? = some (p, c)) : ins0 es p k = es := by
  unfold ins0
  rw [if_pos (by simp [isAt, he])]
theorem ins0_len {es : List (Nat × Nat)} {p k : Nat} (hf : isAt es p k = false) (hk : PosOf es p k) : (ins0 es p k).length = es.length + 1 := by
  have := hk.1
  unfold ins0
  rw [if_neg (by rw [hf]; decide)]
  simp; omega
section
variable {H cb sb p t : Nat} {es : List (Nat × Nat)} {rs : Option (List Nat)} {sx sy : Option Nat} {fn fc : List (Nat × Nat)} {nv cv : Value} {bx by' : Bool} {W0 W W' : World} {k : Nat}
theorem LawSt.len (h : LawSt H cb sb p t es rs sx sy fn fc nv cv bx by' W0 W) : es.length ≤ 6 := srt_len h.srt
theorem ins_names (h : LawSt H cb sb p t es rs sx sy es fc nv cv bx by' W0 W) (hk : PosOf es p k) (hf : isAt es p k = false) :
    Calls Ybaf.prog 10 #[nv, .int .i64 k, .slice (some ⟨W.heap.size, 0, none⟩) 1 1] (W.alloc (.cells #[.string (nm p)] 9)) fun e W' => ∃ nv', e = .returned nv' ∧ LawSt H cb sb p t es rs sx sy (ins0 es p k) fc nv' cv bx by' W0 W' := by
  have h1 := h.still (W' := W.alloc (.cells #[.string (nm p)] 9)) (KeptB.alloc _ (Nat.le_refl _))
  have hlen := h.len
  refine (ins_str_any H es.length k W.heap.size [.string (nm p)] nv (nmCells es) #[.string (nm p)] _ h1.nrow h1.size hk.1 (by omega) rfl (heap_alloc_new W _) rfl (fun e => by have := (h.nrow.lt _ e).2; omega) (fun u hu => by simp at hu; subst hu; rfl) (nmCells_one es)).mono ?_
  rintro e W' ⟨nv', rfl, o', g'⟩
  refine ⟨nv', rfl, h1.names g' (own_cast o' (ins0_len hf hk).symm ?_)⟩
  unfold ins0
  rw [if_neg (by rw [hf]; decide)]
  simp [nmCells, List.map_take, List.map_drop]
theorem ins_counts (h : LawSt H cb sb p t es rs sx sy fn es nv cv bx by' W0 W) (hk : PosOf es p k) (hf : isAt es p k = false) :
    Calls Ybaf.prog 11 #[cv, .int .i64 k, .slice (some ⟨W.heap.size, 0, none⟩) 1 1] (W.alloc (.cells #[.int .u64 0] 34)) fun e W' => ∃ cv', e = .returned cv' ∧ LawSt H cb sb p t es rs sx sy fn (ins0 es p k) nv cv' bx by' W0 W' := by
  have h1 := h.still (W' := W.alloc (.cells #[.int .u64 0] 34)) (KeptB.alloc _ (Nat.le_refl _))
  have hlen := h.len
  refine (ins_u64_any H es.length k W.heap.size [.int .u64 0] cv (cnCells es) #[.int .u64 0] _ h1.crow h1.size hk.1 (by omega) rfl (heap_alloc_new W _) rfl (fun e => by have := (h.crow.lt _ e).2; omega) (fun u hu => by simp at hu; subst hu; rfl) (cnCells_one es)).mono ?_
  rintro e W' ⟨cv', rfl, o', g'⟩
  refine ⟨cv', rfl, h1.counts g' (own_cast o' (ins0_len hf hk).symm ?_)⟩
  unfold ins0
  rw [if_neg (by rw [hf]; decide)]
  simp [cnCells, List.map_take, List.map_drop]
theorem LawSt.bump (h : LawSt H cb sb p t es rs sx sy (ins0 es p k) (ins0 es p k) nv cv bx by' W0 W) (hk : PosOf es p k) {gc n cap : Nat} (hcv : cv = .slice (some ⟨gc, 0, none⟩) n cap) (W' : World) (hW : W' = W.setCell ⟨gc, k, none⟩ (.int .u64 ((cntAt es p k + 1 : Nat) : Int))) : LawSt H cb sb p t es rs sx sy (bump es p k) (bump es p k) nv cv bx by' W0 W' := by
  have h1 := h.count (a := p) hcv W' hW
  have h2 : LawSt H cb sb p t es rs sx sy (ins0 es p k) (YbulkcrtgFmt.bump es p k) nv cv bx by' W0 W' := h1
  refine ⟨h2.clk, h2.inv, h2.srt, h2.bd, own_cast h2.nrow bump_len.symm ?_, h2.crow, h2.box, h2.sbH, h2.kept, h2.size⟩
  have := congrArg (List.map fun a => Value.string (nm a)) (bump_fst hk)
  simp only [List.map_map] at this
  exact this.symm
theorem tick_law (h : LawSt H cb sb p t es rs sx sy (bump es p k) (bump es p k) nv cv bx by' W0 W) (hk : PosOf es p k) (ht : t ≤ 400) (hp : p ≤ 5) :
    Calls Ybaf.prog 12 #[.pointer (some ⟨cb, 0, none⟩)] W fun e W' => (∃ v, e = .returned v) ∧ LawSt H cb sb p (t + 1) (bump es p k) (rs.map fun l => l.set k (cntAt es p k + 1)) sx sy (bump es p k) (bump es p k) nv cv bx by' W0 W' := by
  obtain ⟨ev, rv, mv, dv, nd, xd, hc, ha⟩ := h.clk
  have hlen := h.len
  refine (tickM_any hc h.size h.srt hp (by omega) (h.inv.isAt h.srt)).mono ?_
  rintro e W' ⟨hv, k', ev', hk', hc', kp⟩
  obtain rfl := pos_uniq hk hk'
  refine ⟨hv, h.op hc ha (N := W.heap.size) (S := fun _ => False) (Nat.le_refl _) (kp.mono (Nat.le_refl _) (fun k _ e => .inl e)) (fun _ h => h.elim) (fun k e => (h.nrow.lt k e).2) (fun k e => (h.crow.lt k e).2) (lt_of_block h.box) h.size hc' (fun b e => .inl e) (h.inv.tick h.srt hk) (srt_bump h.srt h.bd (by omega) hp hk) ?_⟩
  have := bump_bd (p := p) (k := k) h.bd
  rwa [Nat.add_assoc] at this
theorem app_law (j : Bool) {Wx : World} (h : LawSt H cb sb p t es rs sx sy (bump es p k) (bump es p k) nv cv bx by' W0 Wx) (hb : KeptB Wx.heap.size (fun _ => False) Wx W) (hk : PosOf es p k) (ht : t ≤ 400) (hp : p ≤ 5) {m : Nat} {sv : Value} {xs : List Value} (hown : W.ownsRow Wx.heap.size 5 1 sv m xs) (hm : m ≤ 10000)
    (pa : Option Addr) (pc : Nat) (pl : List UInt8) (hat : BytAt W0 pa pl) (hlow : ∀ g o, pa = some ⟨g, o, none⟩ → g < H) (hnil : pa = none → pc = 0) (hpl : pl.length ≤ 10000) {B ne : Nat} {ve : Value} {xe : List Value} (hve : Wx.ownsRow B 5 1 ve ne xe) :
    Calls Ybaf.prog 15 #[.pointer (some ⟨cb, 0, none⟩), sv, .string (pr j), .slice pa pl.length pc] W fun e W' => ∃ v', e = .returned v' ∧
      LawSt H cb sb p (t + 1) (bump es p k) (some (mk1 es rs p k)) (if j then sx else some (cntAt es p k + 1)) (if j then some (cntAt es p k + 1) else sy) (bump es p k) (bump es p k) nv cv bx by' W0 W' ∧
      W'.ownsRow Wx.heap.size 5 1 v' (m + (encAll (outS es rs sx sy j p k) ++ pl).length) (xs ++ Lib.byteCells (encAll (outS es rs sx sy j p k) ++ pl)) ∧ W'.ownsRow B 5 1 ve ne xe := by
  have hW := h.still hb
  obtain ⟨ev, rv, mv, dv, nd, xd, hc, ha⟩ := hW.clk
  have hlen := h.len
  have hs := hb.size
  have hH := h.size
  have hatW := hat.keptB hW.kept (fun g o e => ⟨hlow g o e, fun h => h⟩)
  refine (app_any j hc hW.size hW.srt hp (by omega) (hW.inv.isAt hW.srt) (fun k' hk' => srt_bump h.srt h.bd (by omega) hp hk') hown hs hH hm pa pc pl hatW hlow hnil hpl).mono ?_
  rintro e W' ⟨v', rfl, k', ev', rv', mv', dv', hk', hc', ov, kp, lr⟩
  obtain rfl := pos_uniq hk hk'
  have hS : ∀ b, some b = sv.ownBlock → Wx.heap.size ≤ b := fun b e => (own_obj hown e.symm).1
  refine ⟨v', rfl, hW.op hc ha (N := Wx.heap.size) (S := fun b => some b = sv.ownBlock) hs kp hS (fun k e => (h.nrow.lt k e).2) (fun k e => (h.crow.lt k e).2) (lt_of_block h.box) hH hc' lr (h.inv.send j h.srt hk) (srt_bump h.srt h.bd (by omega) hp hk) ?_, ov, ?_⟩
  · have := bump_bd (p := p) (k := k) h.bd
    rwa [Nat.add_assoc] at this
  · have hveW : W.ownsRow B 5 1 ve ne xe := hb.own hve (fun k e => ⟨(hve.lt k e).2, fun h => h⟩)
    refine kp.own hveW (fun b e => ⟨(hveW.lt b e).2, fun hf => hf.elim (own_not_ft hc hveW (by decide) (by decide) (fun h => by cases h) b e).2 (fun h2 => ?_)⟩)
    have := hS b h2
    have := (hve.lt b e).2
    omega
end
end Go.Proofs.YbulkcrtgFmt
