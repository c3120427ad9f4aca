/-
  sendDiffLocked (29).
-/
import Derived.Test.YbulkcrtgFmtDsDh
namespace Go.Proofs.YbulkcrtgFmt
open Go Go.RowKit

theorem oncePv {P : Program} {c : Code} {Q : Exit → Act → World → Prop} {a : Act} {A : Value → Act} {w : World} (Q0 : Value → World → Prop) (h : c.wp P (fun e a' w' => e = .normal ∧ ∃ v, a' = A v ∧ Q0 v w') a w) (k : ∀ v w', Q0 v w' → Q .normal (A v) w') : c.wp P Q a w :=
  Code.wp_mono (by rintro e a' w' ⟨rfl, v, rfl, hq⟩; exact k v w' hq) h
theorem ins0_length (es : List (Nat × Nat)) (p k : Nat) : (bump es p k).length ≤ es.length + 1 := by
  unfold bump ins0
  rw [List.length_set]
  split <;> simp <;> omega
/-- The marks behind the tick of a differential send. -/
def mk1 (es : List (Nat × Nat)) (rs : Option (List Nat)) (p k : Nat) : List Nat := (rs.map fun l => l.set k (cntAt es p k + 1)).getD (List.replicate (bump es p k).length 0)
/-- What sendDiffLocked leaves. -/
def SendEnd (H cb p : Nat) (es : List (Nat × Nat)) (rs : Option (List Nat)) (sx sy : Option Nat) (st : Int) (ev rv mv dv : Value) (j : Bool) (W : World) (d' : Value) (W' : World) : Prop := ∃ k ev' rv' mv', PosOf es p k ∧
  Clk0 H cb p (bump es p k) (some (mk1 es rs p k)) (if j then sx else some (cntAt es p k + 1)) (if j then some (cntAt es p k + 1) else sy) st ev' rv' mv' dv W' ∧
  W'.ownsRow H 39 2 d' (outOf (bump es p k) (mk1 es rs p k) (lastOf j sx sy)).length (entCells (outOf (bump es p k) (mk1 es rs p k) (lastOf j sx sy))) ∧ KeptB W.heap.size (Ft cb ev rv mv dv) W W' ∧ (∀ b, rv'.ownBlock = some b → rv.ownBlock = some b ∨ W.heap.size ≤ b) ∧ ∀ b, ev'.ownBlock = some b → d'.ownBlock ≠ some b

theorem bump_own {es : List (Nat × Nat)} {p k : Nat} (hk : PosOf es p k) : (bump es p k)[k]? = some (p, cntAt es p k + 1) := by
  unfold bump
  rw [List.getElem?_set_self]
  unfold ins0
  split
  · rename_i h
    unfold isAt at h
    split at h
    · rename_i e he; exact (List.getElem?_eq_some_iff.1 he).1
    · cases h
  · have := hk.1
    simp; omega

set_option maxHeartbeats 4000000 in
set_option maxRecDepth 100000 in
theorem send_any {H cb p : Nat} {es : List (Nat × Nat)} {rs : Option (List Nat)} {sx sy : Option Nat} {st : Int} {ev rv mv dv : Value} {nd : Nat} {xd : List Value} {W : World} (j : Bool) (hk : Clk H cb p es rs sx sy st ev rv mv dv nd xd W) (hH : H ≤ W.heap.size) (hs : Srt es) (hp : p ≤ 5) (hn : es.length ≤ 49)
    (hr : ∀ l, rs = some l → ∀ k, PosOf es p k → isAt es p k = true) (hs' : ∀ k, PosOf es p k → Srt (bump es p k)) :
    Calls Ybaf.prog 29 #[.pointer (some ⟨cb, 0, none⟩), .string (pr j), dv] W fun e W' => ∃ d', e = .returned d' ∧ SendEnd H cb p es rs sx sy st ev rv mv dv j W d' W' := by
  have hmix : Ybaf.prog.follows .mixedOrders = true := by kernel_rfl
  obtain ⟨z0, _⟩ := clk_cells hk.box
  have TK := tick_any (W := W.drew) (hk.still (KeptB.drew W)) hH hs hp (by omega) hr
  have HT := hid TK
  have HS := hid hs'
  have HK := hid hk
  clear TK hk hs' hr
  go_enter Ybaf.func29, Ybaf.ntmps29
  go_wp2_with fail
  apply oncePv (fun _ W1 => ∃ k ev', PosOf es p k ∧ Clk H cb p (bump es p k) (rs.map fun l => l.set k (cntAt es p k + 1)) sx sy st ev' rv mv dv nd xd W1 ∧ KeptB W.heap.size (Ft cb ev rv mv dv) W W1 ∧ ∀ b, ev'.ownBlock = some b → ev.ownBlock = some b ∨ W.heap.size ≤ b)
  case h =>
    apply region_plain (S := fun w' => w'.cell? ⟨cb, 0, none⟩ = some (.string (nm p))) (hm := hmix)
    have hS : W.drew.cell? ⟨cb, 0, none⟩ = some (.string (nm p)) := z0
    refine take_first (i := 0) (v := ?_) rfl (by kernel_rfl) (by kernel_rfl) (by kernel_rfl) (by rfl) ?_ hS ?_
    rotate_left
    · intro w0 q0; go_simp; try rfl
    try simp only [Act.put, List.setIfInBounds_toArray, List.set_cons_zero, List.set_cons_succ]
    refine take_first (i := 1) (v := ?_) rfl (by kernel_rfl) (by kernel_rfl) (by kernel_rfl) (by rfl) ?_ hS ?_
    rotate_left
    · intro w0 q0; go_simp; try rfl
    try simp only [Act.put, List.setIfInBounds_toArray, List.set_cons_zero, List.set_cons_succ]
    refine take_first (i := 2) (v := ?_) rfl (by kernel_rfl) (by kernel_rfl) (by kernel_rfl) (by rfl) ?_ hS ?_
    rotate_left
    · intro w0 q0; go_simp; try rfl
    try simp only [Act.put, List.setIfInBounds_toArray, List.set_cons_zero, List.set_cons_succ]
    refine take_first (i := 3) (v := ?_) rfl (by kernel_rfl) (by kernel_rfl) (by kernel_rfl) (by rfl) ?_ hS ?_
    rotate_left
    · intro w0 q0; go_simp; try rfl
    try simp only [Act.put, List.setIfInBounds_toArray, List.set_cons_zero, List.set_cons_succ]
    refine take_first (i := 4) (v := ?_) rfl (by kernel_rfl) (by kernel_rfl) (by kernel_rfl) (by rfl) ?_ hS ?_
    rotate_left
    · intro w0 q0; go_simp; try rfl
    try simp only [Act.put, List.setIfInBounds_toArray, List.set_cons_zero, List.set_cons_succ]
    refine take_first (i := 5) (v := ?_) rfl (by kernel_rfl) (by kernel_rfl) (by kernel_rfl) (by rfl) ?_ hS ?_
    rotate_left
    · intro w0 q0; go_simp; try rfl
    try simp only [Act.put, List.setIfInBounds_toArray, List.set_cons_zero, List.set_cons_succ]
    refine take_first (i := 6) (v := ?_) rfl (by kernel_rfl) (by kernel_rfl) (by kernel_rfl) (by rfl) ?_ hS ?_
    rotate_left
    · intro w0 q0; go_simp; try rfl
    try simp only [Act.put, List.setIfInBounds_toArray, List.set_cons_zero, List.set_cons_succ]
    refine wpAnyH_ready (rs := [7]) (by kernel_rfl) (by simp) ?_
    refine AllReadyH.cons rfl (fun K hK => ?_) AllReadyH.nil
    go_simp
    go_at_call 28
    refine Calls.mono HT.out ?_
    rintro e V1 ⟨⟨v, rfl⟩, k, ev', hpos, hk1, hkp, hev⟩
    refine hK.out _ _ (clk_cells hk1.box).1 (fun _ => ?_)
    clear hK K
    try simp only [Act.put, List.setIfInBounds_toArray, List.set_cons_zero, List.set_cons_succ]
    exact wpAnyH_done (by kernel_rfl) ⟨rfl, v, rfl, k, ev', hpos, hk1, ⟨hkp.os, hkp.output, hkp.size, hkp.block⟩, hev⟩ _
  rintro v1 W1 ⟨k, ev1, hpos, hk1, hkp, hev⟩
  have hsz := hkp.size
  have DF := diff_any (W := W1.drew) j (hk1.still (KeptB.drew W1)) (Nat.le_trans hH hsz) (HS.out k hpos) hp (by have := ins0_length es p k; omega) k (cntAt es p k + 1) (bump_own hpos) (mk1 es rs p k) rfl
  have HDF := hid DF
  have y0 := (clk_cells hk1.box).1
  have HW := hid (And.intro hpos (And.intro hkp hev))
  clear DF hk1 hpos hkp hev z0
  go_wp2_with fail
  apply oncePv (fun d' W2 => DiffEnd H cb p (bump es p k) (mk1 es rs p k) sx sy st ev1 rv mv dv j (cntAt es p k + 1) W1 d' W2)
  case h =>
    apply region_plain (S := fun w' => w'.cell? ⟨cb, 0, none⟩ = some (.string (nm p))) (hm := hmix)
    have hS : W1.drew.cell? ⟨cb, 0, none⟩ = some (.string (nm p)) := y0
    refine take_first (i := 0) (v := ?_) rfl (by kernel_rfl) (by kernel_rfl) (by kernel_rfl) (by rfl) ?_ hS ?_
    rotate_left
    · intro w0 q0; go_simp; try rfl
    try simp only [Act.put, List.setIfInBounds_toArray, List.set_cons_zero, List.set_cons_succ]
    refine take_first (i := 1) (v := ?_) rfl (by kernel_rfl) (by kernel_rfl) (by kernel_rfl) (by rfl) ?_ hS ?_
    rotate_left
    · intro w0 q0; go_simp; try rfl
    try simp only [Act.put, List.setIfInBounds_toArray, List.set_cons_zero, List.set_cons_succ]
    refine take_first (i := 2) (v := ?_) rfl (by kernel_rfl) (by kernel_rfl) (by kernel_rfl) (by rfl) ?_ hS ?_
    rotate_left
    · intro w0 q0; go_simp; try rfl
    try simp only [Act.put, List.setIfInBounds_toArray, List.set_cons_zero, List.set_cons_succ]
    refine take_first (i := 3) (v := ?_) rfl (by kernel_rfl) (by kernel_rfl) (by kernel_rfl) (by rfl) ?_ hS ?_
    rotate_left
    · intro w0 q0; go_simp; try rfl
    try simp only [Act.put, List.setIfInBounds_toArray, List.set_cons_zero, List.set_cons_succ]
    refine take_first (i := 4) (v := ?_) rfl (by kernel_rfl) (by kernel_rfl) (by kernel_rfl) (by rfl) ?_ hS ?_
    rotate_left
    · intro w0 q0; go_simp; try rfl
    try simp only [Act.put, List.setIfInBounds_toArray, List.set_cons_zero, List.set_cons_succ]
    refine take_first (i := 5) (v := ?_) rfl (by kernel_rfl) (by kernel_rfl) (by kernel_rfl) (by rfl) ?_ hS ?_
    rotate_left
    · intro w0 q0; go_simp; try rfl
    try simp only [Act.put, List.setIfInBounds_toArray, List.set_cons_zero, List.set_cons_succ]
    refine take_first (i := 6) (v := ?_) rfl (by kernel_rfl) (by kernel_rfl) (by kernel_rfl) (by rfl) ?_ hS ?_
    rotate_left
    · intro w0 q0; go_simp; try rfl
    try simp only [Act.put, List.setIfInBounds_toArray, List.set_cons_zero, List.set_cons_succ]
    refine take_first (i := 7) (v := ?_) rfl (by kernel_rfl) (by kernel_rfl) (by kernel_rfl) (by rfl) ?_ hS ?_
    rotate_left
    · intro w0 q0; go_simp; try rfl
    try simp only [Act.put, List.setIfInBounds_toArray, List.set_cons_zero, List.set_cons_succ]
    refine take_first (i := 8) (v := ?_) rfl (by kernel_rfl) (by kernel_rfl) (by kernel_rfl) (by rfl) ?_ hS ?_
    rotate_left
    · intro w0 q0; go_simp; try rfl
    try simp only [Act.put, List.setIfInBounds_toArray, List.set_cons_zero, List.set_cons_succ]
    refine wpAnyH_ready (rs := [9]) (by kernel_rfl) (by simp) ?_
    refine AllReadyH.cons rfl (fun K hK => ?_) AllReadyH.nil
    go_simp
    go_at_call 40
    refine Calls.mono HDF.out ?_
    rintro e V1 ⟨d', rfl, rv', mv', d1, d2, d3, d4⟩
    have hS1 := (clk_cells d1.box).1
    refine hK.out _ _ hS1 (fun _ => ?_)
    clear hK K
    try simp only [Act.put, List.setIfInBounds_toArray, List.set_cons_zero, List.set_cons_succ]
    refine take_first (i := 10) (v := ?_) rfl (by kernel_rfl) (by kernel_rfl) (by kernel_rfl) (by rfl) ?_ hS1 ?_
    rotate_left
    · intro w0 q0; go_simp; try rfl
    try simp only [Act.put, List.setIfInBounds_toArray, List.set_cons_zero, List.set_cons_succ]
    exact wpAnyH_done (by kernel_rfl) ⟨rfl, d', rfl, rv', mv', d1, d2, ⟨d3.os, d3.output, d3.size, d3.block⟩, d4⟩ _
  rintro d' W2 hend
  have HE := hid hend
  clear hend
  go_wp2_with fail
  go_ret
  obtain ⟨rv', mv', d1, d2, d3, d4, d5, d6, d7⟩ := HE.out
  obtain ⟨hpos, hkp, hev⟩ := HW.out
  refine ⟨_, rfl, k, ev1, rv', mv', hpos, d1, d2, hkp.trans (d3.mono hsz ?_), ?_, d7⟩
  · intro b hb e
    rcases e with e | e | e | e | e
    · exact .inl e
    · rcases hev b e.symm with h | h
      · exact .inr (.inl h.symm)
      · omega
    · exact .inr (.inr (.inl e))
    · exact .inr (.inr (.inr (.inl e)))
    · exact .inr (.inr (.inr (.inr e)))
  · intro b e
    rcases d4 b e with h | h
    · exact .inl h
    · exact .inr (by omega)
end Go.Proofs.YbulkcrtgFmt
