/-
  The awaited message: its row, and what is picked.
-/
import Derived.Test.YbulkcrtgFmtDsLr
namespace Go.Proofs.YbulkcrtgFmt
open Go Go.RowKit

def pick (full : Bool) (k : Nat) (B : List (Nat × Nat)) (i : Nat) : List (Nat × Nat) := if full then B.take i else if k < i then B[k]?.toList else []
theorem pick_zero (full : Bool) (k : Nat) (B : List (Nat × Nat)) : pick full k B 0 = [] := by simp [pick]
theorem pick_take {full : Bool} {k : Nat} {B : List (Nat × Nat)} {i : Nat} {e : Nat × Nat} (he : B[i]? = some e) (h : full = true ∨ i = k) : pick full k B (i + 1) = pick full k B i ++ [e] := by
  unfold pick
  cases full
  · obtain rfl : i = k := by simpa using h
    simp [he]
  · simp only [if_true]
    rw [List.take_add_one, he]; rfl
theorem pick_skip {full : Bool} {k : Nat} {B : List (Nat × Nat)} {i : Nat} (h : ¬ (full = true ∨ i = k)) : pick full k B (i + 1) = pick full k B i := by
  unfold pick
  have h1 : full = false := by cases full <;> simp at h ⊢
  have h2 : i ≠ k := fun e => h (.inr e)
  rw [h1]
  have : (k < i + 1) = (k < i) := by simp only [eq_iff_iff]; omega
  simp [this]
theorem pick_mem {full : Bool} {k : Nat} {B : List (Nat × Nat)} {i : Nat} {e : Nat × Nat} (h : e ∈ pick full k B i) : e ∈ B := by
  unfold pick at h
  split at h
  · exact List.mem_of_mem_take h
  · split at h
    · simp only [Option.mem_toList] at h
      exact List.mem_of_getElem? h
    · simp at h
theorem pick_len {full : Bool} {k : Nat} {B : List (Nat × Nat)} {i : Nat} : (pick full k B i).length ≤ B.length + 1 := by
  unfold pick
  split
  · rw [List.length_take]; omega
  · split
    · cases B[k]? <;> simp
    · simp
/-- What is awaited ahead of the payload, i names in. -/
def expB (dl : List UInt8) (full : Bool) (k : Nat) (B : List (Nat × Nat)) (i : Nat) : List UInt8 := dl ++ Lib.uvarint (if full then B.length else 1) ++ encE (pick full k B i)
theorem expB_zero (dl : List UInt8) (full : Bool) (k : Nat) (B : List (Nat × Nat)) : expB dl full k B 0 = dl ++ Lib.uvarint (if full then B.length else 1) := by simp [expB, pick_zero, encE]
theorem expB_take {dl : List UInt8} {full : Bool} {k : Nat} {B : List (Nat × Nat)} {i a c : Nat} (he : B[i]? = some (a, c)) (h : full = true ∨ i = k) : expB dl full k B (i + 1) = expB dl full k B i ++ Lib.uvarint (nm a).size ++ (nm a).data.toList ++ Lib.uvarint c := by
  simp only [expB, pick_take he h, encE_snoc, enc1, List.append_assoc]
theorem expB_skip {dl : List UInt8} {full : Bool} {k : Nat} {B : List (Nat × Nat)} {i : Nat} (h : ¬ (full = true ∨ i = k)) : expB dl full k B (i + 1) = expB dl full k B i := by
  simp only [expB, pick_skip h]
theorem expB_len {dl : List UInt8} {full : Bool} {k : Nat} {B : List (Nat × Nat)} {i : Nat} (hd : dl.length ≤ 1024) (hB : B.length ≤ 7) (hc : ∀ e ∈ B, e.2 < 18446744073709551616) : (expB dl full k B i).length ≤ 2000 := by
  have h1 := encE_length (pick full k B i) (fun e he => hc e (pick_mem he))
  have h2 := pick_len (full := full) (k := k) (B := B) (i := i)
  have h3 := Lib.uvarint_length64 (x := if full then B.length else 1) (by split <;> omega)
  simp only [expB, List.length_append]
  omega
theorem expB_end {dl : List UInt8} {full : Bool} {k n p c : Nat} {B : List (Nat × Nat)} (hn : B.length = n) (hk : B[k]? = some (p, c)) : expB dl full k B n = dl ++ encAll (if full then B else [(p, c)]) := by
  have hl := (List.getElem?_eq_some_iff.1 hk).1
  have h2 : k < n := by omega
  subst hn
  cases full
  · have hkk : B[k]?.toList = [(p, c)] := by rw [hk]; rfl
    simp only [expB, pick, Bool.false_eq_true, if_false, if_pos h2, hkk, encAll, List.append_assoc]; rfl
  · simp [expB, pick, encAll]

/-- The row of the awaited bytes, made behind Wb. -/
structure XRow (Wb : World) (l : List UInt8) (v : Value) (W : World) : Prop where
  row : W.ownsRow Wb.heap.size 5 1 v l.length (Lib.byteCells l)
  kept : KeptB Wb.heap.size (fun _ => False) Wb W
theorem XRow.grew {Wb W W' : World} {l l' : List UInt8} {v v' : Value} (h : XRow Wb l v W) (g : Grew W v W' v') (ho : W'.ownsRow Wb.heap.size 5 1 v' (l.length + l'.length) (Lib.byteCells l ++ Lib.byteCells l')) : XRow Wb (l ++ l') v' W' :=
  ⟨own_cast ho (by simp) (by rw [byteCells_append]), h.kept.trans (g.kept.mono h.kept.size (fun k hk e => by have := (own_obj h.row e.symm).1; omega))⟩
theorem XRow.uv {Wb W : World} {l : List UInt8} {v : Value} (h : XRow Wb l v W) (hl : l.length ≤ 100000) (x : Nat) (hx : x < 18446744073709551616) : Calls Ybaf.prog 14 #[v, .int .u64 x] W fun e W' => ∃ v', e = .returned v' ∧ XRow Wb (l ++ Lib.uvarint x) v' W' := by
  refine (uv_hand _ _ x hx v _ W h.row h.kept.size (by omega)).mono ?_
  rintro e W' ⟨v', rfl, o, g⟩
  exact ⟨v', rfl, h.grew g o⟩
theorem XRow.str {Wb W : World} {l : List UInt8} {v : Value} (h : XRow Wb l v W) (hl : l.length ≤ 100000) (a : Nat) (ty : TypeId) : ∃ v' W', (Builtin.append_ #[22, 9] ty #[v, .string (nm a)]).run Ybaf.prog W = .ok v' W' ∧ XRow Wb (l ++ (nm a).data.toList) v' W' := by
  obtain ⟨h1, h2, h3⟩ := nm_size a
  obtain ⟨v', W', hr, o, g⟩ := str_append _ _ v _ (nm a) h1 W h.row h.kept.size (by omega) ty
  exact ⟨v', W', hr, h.grew g (own_cast o (by rw [h3]) rfl)⟩
theorem XRow.byt {Wb W : World} {l pl : List UInt8} {v : Value} (h : XRow Wb l v W) (hl : l.length ≤ 100000) {pa : Option Addr} {pc : Nat} (hp : pl.length ≤ 100000) (hat : BytAt W pa pl) (hnil : pa = none → pc = 0) (ty : TypeId) : ∃ v' W', (Builtin.append_ #[22, 22] ty #[v, .slice pa pl.length pc]).run Ybaf.prog W = .ok v' W' ∧ XRow Wb (l ++ pl) v' W' := by
  obtain ⟨v', W', hr, o, g⟩ := byt_append _ _ v _ pa pc pl W h.row h.kept.size (by omega) (by omega) hat hnil ty
  exact ⟨v', W', hr, h.grew g o⟩
theorem XRow.clone {pa : Option Addr} {c : Nat} {l : List UInt8} {W : World} (hl : l.length ≤ 100000) (hat : BytAt W pa l) : Calls Ybaf.prog 13 #[.slice pa l.length c] W fun e W' => ∃ v', e = .returned v' ∧ XRow W l v' W' := by
  refine (clone_bytes pa c l W hl hat).mono ?_
  rintro e W' ⟨v', rfl, o, b⟩
  exact ⟨v', rfl, o, KeptB.below b⟩
theorem XRow.nil_ne {Wb W : World} {l : List UInt8} {v : Value} (h : XRow Wb l v W) : ∃ p cap, v = .slice p l.length cap ∧ BytAt W p l := own_byt h.row
section
variable {H cb sb p t : Nat} {es : List (Nat × Nat)} {rs : Option (List Nat)} {sx sy : Option Nat} {fn fc : List (Nat × Nat)} {nv cv : Value} {bx by' : Bool} {W0 W : World} {k : Nat}
theorem BytAt.low {w : World} {pa : Option Addr} {l : List UInt8} (h : BytAt w pa l) (hne : l ≠ []) : ∀ g o, pa = some ⟨g, o, none⟩ → g < w.heap.size := fun g o e => by
  obtain ⟨g', o', e', hb⟩ := h hne
  rw [e] at e'
  simp only [Option.some.injEq, Addr.mk.injEq] at e'
  obtain ⟨rfl, rfl, _⟩ := e'
  have h0 : 0 < l.length := by cases l <;> simp at hne ⊢
  exact World.block_lt_of_cell? _ _ (hb 0 h0)
theorem LawSt.bytes (h : LawSt H cb sb p t es rs sx sy fn fc nv cv bx by' W0 W) (hH : H = W0.heap.size) {pa : Option Addr} {l : List UInt8} (hat : BytAt W0 pa l) : BytAt W pa l := fun hne => by
  obtain ⟨g, o, e, hb⟩ := hat hne
  have := hat.low hne g o e
  exact ⟨g, o, e, hb.block (h.kept.block g (by omega) (fun h => h))⟩
/-- AppendDiffMessage in the law: the message is the awaited one. -/
theorem send_law (j fu : Bool) (hfu : fu = !(lastOf j sx sy).isSome) {Wb Wx : World} (h : LawSt H cb sb p t es rs sx sy (bump es p k) (bump es p k) nv cv (if j then sx.isSome else true) (if j then true else sy.isSome) W0 Wx) (hk : PosOf es p k) (ht : t ≤ 400) (hp : p ≤ 5)
    (pa : Option Addr) (pc : Nat) (pl dl : List UInt8) (hd : dl.length ≤ 1024) (hat : BytAt W0 pa pl) (hlow : ∀ g o, pa = some ⟨g, o, none⟩ → g < H) (hnil : pa = none → pc = 0) (hpl : pl.length ≤ 1024) {n : Nat} (hn : (bump es p k).length = n) {pe : Option Addr} {ce le : Nat} (hle : (expB dl fu k (bump es p k) n ++ pl).length = le) (hve : XRow Wb (expB dl fu k (bump es p k) n ++ pl) (.slice pe le ce) Wx)
    {sv : Value} (hs : XRow Wx dl sv W) :
    Calls Ybaf.prog 15 #[.pointer (some ⟨cb, 0, none⟩), sv, .string (pr j), .slice pa pl.length pc] W fun e W' => ∃ (pg : Option Addr) (cg : Nat) (L : List UInt8), L.length = le ∧ le ≤ 4000 ∧ e = .returned (.slice pg le cg) ∧ BytAt W' pg L ∧ BytAt W' pe L ∧
      LawSt H cb sb p (t + 1) (bump es p k) (some (mk1 es rs p k)) (if j then sx else some (cntAt es p k + 1)) (if j then some (cntAt es p k + 1) else sy) (bump es p k) (bump es p k) nv cv (if j then sx else some (cntAt es p k + 1)).isSome (if j then some (cntAt es p k + 1) else sy).isSome W0 W' := by
  have hlen := h.len
  have hil := ins0_length es p k
  have hbl : (bump es p k).length ≤ 7 := by omega
  have hbd := bump_bd (p := p) (k := k) h.bd
  have hel := expB_len (dl := dl) (full := fu) (k := k) (B := bump es p k) (i := n) hd hbl (fun e he => by have := hbd e he; omega)
  have hend := expB_end (dl := dl) (full := fu) hn (bump_own hk)
  have hout := out_law j h.inv h.srt hk
  refine (app_law j h hs.kept hk ht hp hs.row (by omega) pa pc pl hat hlow hnil (by omega) hve.row).mono ?_
  rintro e W' ⟨v', rfl, st, ov, oe⟩
  have hL : dl ++ (encAll (outS es rs sx sy j p k) ++ pl) = expB dl fu k (bump es p k) n ++ pl := by
    rw [hend, hout, hfu]
    cases (lastOf j sx sy).isSome <;> simp
  have ov' : W'.ownsRow Wx.heap.size 5 1 v' (expB dl fu k (bump es p k) n ++ pl).length (Lib.byteCells (expB dl fu k (bump es p k) n ++ pl)) := own_cast ov (by rw [← hL]; simp) (by rw [← hL, byteCells_append dl])
  obtain ⟨pg, cg, rfl, hg⟩ := own_byt ov'
  obtain ⟨pe', ce', he', hE⟩ := own_byt oe
  simp only [Value.slice.injEq] at he'
  refine ⟨pg, cg, _, hle, by rw [← hle, List.length_append]; omega, by rw [hle], hg, by rw [he'.1]; exact hE, ?_⟩
  cases j
  · exact st
  · exact st
end
end Go.Proofs.YbulkcrtgFmt
