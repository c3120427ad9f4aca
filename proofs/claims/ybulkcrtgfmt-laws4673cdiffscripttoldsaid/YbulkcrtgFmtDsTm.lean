/-
  Tick (12), Now (17), the clock's lock.
-/
import Derived.Test.YbulkcrtgFmtDsSd
import Derived.Test.YbulkcrtgFmtLocks
import Derived.Conc.MuLone
import Derived.Defers
namespace Go.Proofs.YbulkcrtgFmt
open Go Go.RowKit Go.MuLone Go.Conc.Locks

theorem row_turn {W W' : World} {cb : Nat} {cs : Array Value} (hb : W.heap[cb]? = some (.cells cs 71 (0, 0))) (g : W.grownBy W' (some cb)) {B e size n : Nat} {v : Value} {xs : List Value} (ne : e ≠ 71) (ho : W.ownsRow B e size v n xs) : W'.ownsRow B e size v n xs := by
  refine ho.kept g (.inr (fun e2 => ?_))
  rcases ho.2 with ⟨h1, _⟩ | ⟨g', cap', cur, h1, _, hg, _⟩
  · rw [h1] at e2; simp [Value.ownBlock] at e2
  · rw [h1] at e2
    simp only [Value.ownBlock, Option.some.injEq] at e2
    rw [e2, hb] at hg
    simp only [Option.some.injEq, Obj.cells.injEq] at hg
    exact ne hg.2.1.symm
theorem Clk0.turn {H cb p : Nat} {es : List (Nat × Nat)} {rs : Option (List Nat)} {sx sy : Option Nat} {st st' : Int} {ev rv mv dv dv' : Value} {W W' : World} (h : Clk0 H cb p es rs sx sy st ev rv mv dv W) (g : W.grownBy W' (some cb)) (hb : W'.heap[cb]? = some (.cells #[.string (nm p), .int .i32 st', .int .u32 0, ev, rv, mv, dv'] 71 (0, 0))) : Clk0 H cb p es rs sx sy st' ev rv mv dv' W' := by
  refine ⟨hb, h.cge, row_turn h.box g (by decide) h.ent, ?_, h.snt.grown g (fun b e e2 => ?_)⟩
  · have hr := h.rai
    cases rs with
    | none => exact hr
    | some l => exact ⟨row_turn h.box g (by decide) hr.1, hr.2⟩
  · obtain ⟨_, _, _, es9, cl9, h1, _⟩ := h.snt.map e
    simp only [Option.some.injEq] at e2
    rw [← e2, h.box] at h1; cases h1
theorem Clk.lock {H cb p : Nat} {es : List (Nat × Nat)} {rs : Option (List Nat)} {sx sy : Option Nat} {st : Int} {ev rv mv dv : Value} {nd : Nat} {xd : List Value} {W : World} (h : Clk H cb p es rs sx sy st ev rv mv dv nd xd W) (st' : Int) (W' : World) (hW : W' = W.setCell ⟨cb, 1, none⟩ (.int .i32 st')) :
    Clk H cb p es rs sx sy st' ev rv mv dv nd xd W' ∧ KeptB W.heap.size (fun k => k = cb) W W' := by
  have g1 := grownBy_setCell_at W cb 1 (.int .i32 st')
  rw [← hW] at g1
  have h0 := h.zero.turn g1 (st' := st') (by rw [hW]; exact heap_setCell_same W cb 1 _ 71 _ h.box)
  exact ⟨⟨h0.box, h0.cge, h0.ent, h0.rai, h0.snt, row_turn h.box g1 (by decide) h.dif, h.one, h.apt⟩, KeptB.grown g1 (Nat.le_refl _) (fun b e _ => by simp only [Option.some.injEq] at e; exact e.symm)⟩

set_option maxHeartbeats 4000000 in
set_option maxRecDepth 100000 in
theorem tickM_any {H cb p : Nat} {es : List (Nat × Nat)} {rs : Option (List Nat)} {sx sy : Option Nat} {ev rv mv dv : Value} {nd : Nat} {xd : List Value} {W : World} (hk : Clk H cb p es rs sx sy 0 ev rv mv dv nd xd W) (hH : H ≤ W.heap.size) (hs : Srt es) (hp : p ≤ 5) (hn : es.length ≤ 50)
    (hr : ∀ l, rs = some l → ∀ k, PosOf es p k → isAt es p k = true) :
    Calls Ybaf.prog 12 #[.pointer (some ⟨cb, 0, none⟩)] W fun e W' => (∃ v, e = .returned v) ∧ ∃ k ev', PosOf es p k ∧ Clk H cb p (bump es p k) (rs.map fun l => l.set k (cntAt es p k + 1)) sx sy 0 ev' rv mv dv nd xd W' ∧
      KeptB W.heap.size (Ft cb ev rv mv dv) W W' := by
  have hmix : Ybaf.prog.follows .mixedOrders = true := by kernel_rfl
  obtain ⟨_, z1, _, _, _, _, zf⟩ := clk_cells hk.box
  have zf1 := zf 1
  obtain ⟨W1, hW1⟩ : ∃ W1, W.setCell ⟨cb, 1, none⟩ (.int .i32 1) = W1 := ⟨_, rfl⟩
  obtain ⟨hk1, kp1⟩ := hk.lock 1 W1 hW1.symm
  obtain ⟨y0, _⟩ := clk_cells hk1.box
  have TK := tick_any (W := W1.drew) (hk1.still (KeptB.drew W1)) (Nat.le_trans hH kp1.size) hs hp hn hr
  have HT := hid TK
  have HK := hid (And.intro hk kp1)
  clear TK hk hk1 kp1 hr zf
  go_enter_defers Ybaf.func12, Ybaf.ntmps12
  go_wp2_with fail
  go_at_call 26
  refine (lock_free Ybaf.muLib ⟨cb, 1, none⟩ _ z1 zf1).mono ?_
  rintro e w' ⟨rfl, rfl⟩
  rw [hW1]
  go_wp2_with fail
  apply oncePv (fun _ W2 => ∃ k ev', PosOf es p k ∧ Clk H cb p (bump es p k) (rs.map fun l => l.set k (cntAt es p k + 1)) sx sy 1 ev' rv mv dv nd xd W2 ∧ KeptB W1.heap.size (Ft cb ev rv mv dv) W1 W2)
  case h =>
    apply region_plain (S := fun w' => w'.cell? ⟨cb, 0, none⟩ = some (.string (nm p))) (hm := hmix)
    have hS : W1.drew.cell? ⟨cb, 0, none⟩ = some (.string (nm p)) := y0
    refine take_first (i := 0) (v := ?_) rfl (by kernel_rfl) (by kernel_rfl) (by kernel_rfl) (by rfl) ?_ hS ?_
    rotate_left
    · intro w0 q0; go_simp; try rfl
    try simp only [Act.put, List.setIfInBounds_toArray, List.set_cons_zero, List.set_cons_succ]
    refine take_first (i := 1) (v := ?_) rfl (by kernel_rfl) (by kernel_rfl) (by kernel_rfl) (by rfl) ?_ hS ?_
    rotate_left
    · intro w0 q0; go_simp; try rfl
    try simp only [Act.put, List.setIfInBounds_toArray, List.set_cons_zero, List.set_cons_succ]
    refine take_first (i := 2) (v := ?_) rfl (by kernel_rfl) (by kernel_rfl) (by kernel_rfl) (by rfl) ?_ hS ?_
    rotate_left
    · intro w0 q0; go_simp; try rfl
    try simp only [Act.put, List.setIfInBounds_toArray, List.set_cons_zero, List.set_cons_succ]
    refine take_first (i := 3) (v := ?_) rfl (by kernel_rfl) (by kernel_rfl) (by kernel_rfl) (by rfl) ?_ hS ?_
    rotate_left
    · intro w0 q0; go_simp; try rfl
    try simp only [Act.put, List.setIfInBounds_toArray, List.set_cons_zero, List.set_cons_succ]
    refine take_first (i := 4) (v := ?_) rfl (by kernel_rfl) (by kernel_rfl) (by kernel_rfl) (by rfl) ?_ hS ?_
    rotate_left
    · intro w0 q0; go_simp; try rfl
    try simp only [Act.put, List.setIfInBounds_toArray, List.set_cons_zero, List.set_cons_succ]
    refine take_first (i := 5) (v := ?_) rfl (by kernel_rfl) (by kernel_rfl) (by kernel_rfl) (by rfl) ?_ hS ?_
    rotate_left
    · intro w0 q0; go_simp; try rfl
    try simp only [Act.put, List.setIfInBounds_toArray, List.set_cons_zero, List.set_cons_succ]
    refine take_first (i := 6) (v := ?_) rfl (by kernel_rfl) (by kernel_rfl) (by kernel_rfl) (by rfl) ?_ hS ?_
    rotate_left
    · intro w0 q0; go_simp; try rfl
    try simp only [Act.put, List.setIfInBounds_toArray, List.set_cons_zero, List.set_cons_succ]
    refine wpAnyH_ready (rs := [7]) (by kernel_rfl) (by simp) ?_
    refine AllReadyH.cons rfl (fun K hK => ?_) AllReadyH.nil
    go_simp
    go_at_call 28
    refine Calls.mono HT.out ?_
    rintro e V1 ⟨⟨v, rfl⟩, k, ev', hpos, hk1, hkp, hev⟩
    refine hK.out _ _ (clk_cells hk1.box).1 (fun _ => ?_)
    clear hK K
    try simp only [Act.put, List.setIfInBounds_toArray, List.set_cons_zero, List.set_cons_succ]
    exact wpAnyH_done (by kernel_rfl) ⟨rfl, v, rfl, k, ev', hpos, hk1, ⟨hkp.os, hkp.output, hkp.size, hkp.block⟩⟩ _
  rintro v1 W2 ⟨k, ev1, hpos, hk2, kp2⟩
  obtain ⟨_, x1, _, _, _, _, xf⟩ := clk_cells hk2.box
  have xf1 := xf 1
  have HE := hid (And.intro hpos (And.intro hk2 kp2))
  clear hpos hk2 kp2 xf
  go_wp2_with fail
  refine leaves_cons (f := 27) (args := #[.pointer (some ⟨cb, 1, none⟩)]) (by simp) (by simp [go_sem]) ?_
  refine (unlock_deferred Ybaf.muLib ⟨cb, 1, none⟩ .returning _ x1 xf1).mono ?_
  rintro e u' w'' ⟨rfl, rfl, rfl⟩
  refine ⟨_, results_none rfl _ _ _, ?_⟩
  obtain ⟨hpos, hk2, kp2⟩ := HE.out
  obtain ⟨hk3, kp3⟩ := hk2.lock 0 _ rfl
  have hs1 := HK.out.2.size
  have hs2 := kp2.size
  exact ⟨⟨_, rfl⟩, k, ev1, hpos, hk3, (HK.out.2.mono (Nat.le_refl _) (fun k _ e => .inl e)).trans ((kp2.mono hs1 (fun _ _ e => e)).trans (kp3.mono (Nat.le_trans hs1 hs2) (fun k _ e => .inl e)))⟩

set_option maxHeartbeats 4000000 in
set_option maxRecDepth 100000 in
theorem now_any {H cb p : Nat} {es : List (Nat × Nat)} {rs : Option (List Nat)} {sx sy : Option Nat} {ev rv mv dv : Value} {nd : Nat} {xd : List Value} {W : World} (hk : Clk H cb p es rs sx sy 0 ev rv mv dv nd xd W) (hn : es.length ≤ 100) :
    Calls Ybaf.prog 17 #[.pointer (some ⟨cb, 0, none⟩)] W fun e W' => ∃ v', e = .returned (.agg #[v']) ∧ W'.ownsRow W.heap.size 39 2 v' es.length (entCells es) ∧ KeptB W.heap.size (fun k => k = cb) W W' := by
  obtain ⟨rb, hrb⟩ : ∃ rb, W.heap.size = rb := ⟨_, rfl⟩
  obtain ⟨W0, hW0⟩ : ∃ W0, W.alloc (.cells #[.slice none 0 0] 44) = W0 := ⟨_, rfl⟩
  have k0 : KeptB W.heap.size (fun _ => False) W W0 := by rw [← hW0]; exact KeptB.alloc _ (Nat.le_refl _)
  have bx0 : Boxed W0 rb 44 (.slice none 0 0) := by rw [← hW0, ← hrb]; exact Boxed.new W 44 (.slice none 0 0)
  have hk0 := hk.still k0
  obtain ⟨_, z1, _, _, _, _, zf⟩ := clk_cells hk0.box
  have zf1 := zf 1
  obtain ⟨W1, hW1⟩ : ∃ W1, W0.setCell ⟨cb, 1, none⟩ (.int .i32 1) = W1 := ⟨_, rfl⟩
  obtain ⟨hk1, kp1⟩ := hk0.lock 1 W1 hW1.symm
  obtain ⟨ea, ec, rfl, hat⟩ := own_ents hk1.ent
  obtain ⟨n, hln⟩ : ∃ n, es.length = n := ⟨_, rfl⟩
  obtain ⟨_, _, y3, _, _, _, _⟩ := clk_cells hk1.box
  have CL := clone_any ea ec es W1 (by omega) hat
  have ncb : rb ≠ cb := by
    rintro rfl
    have := hk0.box
    rw [show W0.heap[rb]? = _ from bx0] at this
    simp at this
  have bx1 : Boxed W1 rb 44 (.slice none 0 0) := kp1.boxed bx0 bx0.lt ncb
  rw [hln] at y3 CL
  have HC := hid CL
  have HK := hid (And.intro hk0 (And.intro hk1 (And.intro k0 (And.intro kp1 (And.intro bx1 hln)))))
  clear CL hk hk0 hk1 kp1 k0 bx0 zf hat hln bx1 hn
  go_enter_defers Ybaf.func17, Ybaf.ntmps17
  go_wp2_with fail
  go_at_call 26
  refine (lock_free Ybaf.muLib ⟨cb, 1, none⟩ _ z1 zf1).mono ?_
  rintro e w' ⟨rfl, rfl⟩
  rw [hW1]
  go_wp2_with fail
  go_at_call 21
  refine Calls.mono HC.out ?_
  rintro e W2 ⟨v', rfl, o2, hb2⟩
  obtain ⟨hk0, hk1, k0, kp1, bx1, hln⟩ := HK.out
  have bx2 : Boxed W2 rb 44 (.slice none 0 0) := (hb2.block rb bx1.lt).trans bx1
  have bc := bx2.cell
  have bf := bx2.frozen
  have hk2 := hk1.still (KeptB.below hb2)
  obtain ⟨pa, cp, hv, _⟩ := own_ents (by rw [hln]; exact o2 : W2.ownsRow W1.heap.size 39 2 v' es.length (entCells es))
  rw [hln] at hv
  subst hv
  obtain ⟨W3, hW3⟩ : ∃ W3, W2.setCell ⟨rb, 0, none⟩ (.slice pa n cp) = W3 := ⟨_, rfl⟩
  have g3 : W2.grownBy W3 (some rb) := by rw [← hW3]; exact grownBy_setCell_at W2 rb 0 _
  have bx3 : Boxed W3 rb 44 (.slice pa n cp) := by rw [← hW3]; exact Boxed.set _ bx2
  have o3 : W3.ownsRow W1.heap.size 39 2 (.slice pa n cp) n (entCells es) := o2.kept g3 (.inr (bx2.not_row (by decide) o2).symm)
  have k3 : KeptB W2.heap.size (fun k => k = rb) W2 W3 := KeptB.grown g3 (Nat.le_refl _) (fun b e _ => by simp only [Option.some.injEq] at e; exact e.symm)
  have box3 := (k3.block cb (lt_of_block hk2.box) ncb.symm).trans hk2.box
  obtain ⟨_, x1, _, _, _, _, xf⟩ := clk_cells box3
  have xf1 := xf 1
  have g4 := grownBy_setCell_at W3 cb 1 (.int .i32 0)
  have o4 := row_turn box3 g4 (by decide) o3
  have bx4 : Boxed (W3.setCell ⟨cb, 1, none⟩ (.int .i32 0)) rb 44 (.slice pa n cp) := (g4.block rb bx3.lt (by simpa using ncb)).trans bx3
  have hsc := bx4.cell
  have hs1 := k0.size
  have hs2 := kp1.size
  have hs3 := hb2.size
  have hs4 := k3.size
  have HE := hid (And.intro o4 (show KeptB W.heap.size (fun k => k = cb) W (W3.setCell ⟨cb, 1, none⟩ (.int .i32 0)) from (k0.mono (Nat.le_refl _) (fun _ _ h => h.elim)).trans ((kp1.mono hs1 (fun _ _ e => e)).trans ((KeptB.below (hb2.mono (by omega))).trans ((k3.mono (by omega) (fun k h e => by omega)).trans (KeptB.grown g4 (by omega) (fun b e _ => by simp only [Option.some.injEq] at e; exact e.symm)))))))
  clear hk0 hk1 k0 kp1 bx1 bx2 hk2 g3 bx3 o3 k3 box3 xf g4 o4 bx4 o2 hb2
  go_wp2_with fail
  refine leaves_cons (f := 27) (args := #[.pointer (some ⟨cb, 1, none⟩)]) (by simp) (by simp [go_sem]) ?_
  refine (unlock_deferred Ybaf.muLib ⟨cb, 1, none⟩ .returning _ x1 xf1).mono ?_
  rintro e u' w'' ⟨rfl, rfl, rfl⟩
  refine ⟨.agg #[.slice pa n cp], by simp [results, Ybaf.f17, go_sem, hsc], ⟨_, rfl, ?_, HE.out.2⟩⟩
  rw [hln]
  exact own_le HE.out.1 (by omega)
end Go.Proofs.YbulkcrtgFmt
