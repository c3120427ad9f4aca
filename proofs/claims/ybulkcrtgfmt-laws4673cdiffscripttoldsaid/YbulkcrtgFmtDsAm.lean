/-
  AppendDiffMessage (15).
-/
import Derived.Test.YbulkcrtgFmtDsFt
namespace Go.Proofs.YbulkcrtgFmt
open Go Go.RowKit Go.MuLone Go.Conc.Locks

/-- The entries of a differential send. -/
def outS (es : List (Nat × Nat)) (rs : Option (List Nat)) (sx sy : Option Nat) (j : Bool) (p k : Nat) : List (Nat × Nat) := outOf (bump es p k) (mk1 es rs p k) (lastOf j sx sy)
/-- What AppendDiffMessage leaves. -/
def MsgEnd (H cb p : Nat) (es : List (Nat × Nat)) (rs : Option (List Nat)) (sx sy : Option Nat) (ev rv mv dv : Value) (j : Bool) (W : World) (B n : Nat) (sv : Value) (xs : List Value) (pl : List UInt8) (v' : Value) (W' : World) : Prop := ∃ k ev' rv' mv' dv', PosOf es p k ∧
  Clk H cb p (bump es p k) (some (mk1 es rs p k)) (if j then sx else some (cntAt es p k + 1)) (if j then some (cntAt es p k + 1) else sy) 0 ev' rv' mv' dv' (outS es rs sx sy j p k).length (entCells (outS es rs sx sy j p k)) W' ∧
  W'.ownsRow B 5 1 v' (n + (encAll (outS es rs sx sy j p k) ++ pl).length) (xs ++ Lib.byteCells (encAll (outS es rs sx sy j p k) ++ pl)) ∧ KeptB W.heap.size (fun k => Ft cb ev rv mv dv k ∨ some k = sv.ownBlock) W W' ∧ ∀ b, rv'.ownBlock = some b → rv.ownBlock = some b ∨ W.heap.size ≤ b
theorem outOf_length (es : List (Nat × Nat)) (l : List Nat) (ls : Option Nat) : (outOf es l ls).length ≤ es.length := by
  unfold outOf
  rw [List.length_map]
  refine Nat.le_trans (List.length_filter_le _ _) ?_
  rw [List.length_zip]; omega
theorem outOf_mem {es : List (Nat × Nat)} {l : List Nat} {ls : Option Nat} {e : Nat × Nat} (h : e ∈ outOf es l ls) : e ∈ es := by
  unfold outOf at h
  simp only [List.mem_map, List.mem_filter] at h
  obtain ⟨x, ⟨hx, _⟩, rfl⟩ := h
  exact (List.of_mem_zip hx).1
theorem encAll_length (es : List (Nat × Nat)) (hn : es.length ≤ 100) (hc : ∀ e ∈ es, e.2 < 18446744073709551616) : (encAll es).length ≤ 10000 := by
  have h1 : (encE es).length ≤ es.length * 22 := by
    clear hn
    induction es with
    | nil => simp [encE]
    | cons e es ih =>
      have h2 := enc1_length e (hc e (by simp))
      have h3 := ih (fun x hx => hc x (by simp [hx]))
      simp only [encE, List.flatMap_cons, List.length_append, List.length_cons] at h3 ⊢
      omega
  have h4 := Lib.uvarint_length64 (x := es.length) (by omega)
  unfold encAll
  rw [List.length_append]
  omega

set_option maxHeartbeats 8000000 in
set_option maxRecDepth 100000 in
theorem app_any {H cb p : Nat} {es : List (Nat × Nat)} {rs : Option (List Nat)} {sx sy : Option Nat} {ev rv mv dv : Value} {nd : Nat} {xd : List Value} {W : World} (j : Bool) (hk : Clk H cb p es rs sx sy 0 ev rv mv dv nd xd W) (hH : H ≤ W.heap.size) (hs : Srt es) (hp : p ≤ 5) (hn : es.length ≤ 49)
    (hr : ∀ l, rs = some l → ∀ k, PosOf es p k → isAt es p k = true) (hs' : ∀ k, PosOf es p k → Srt (bump es p k))
    {B m : Nat} {sv : Value} {xs : List Value} (hown : W.ownsRow B 5 1 sv m xs) (hB : B ≤ W.heap.size) (hHB : H ≤ B) (hm : m ≤ 10000) (pa : Option Addr) (pc : Nat) (pl : List UInt8) (hat : BytAt W pa pl) (hlow : ∀ g o, pa = some ⟨g, o, none⟩ → g < H) (hnil : pa = none → pc = 0) (hpl : pl.length ≤ 10000) :
    Calls Ybaf.prog 15 #[.pointer (some ⟨cb, 0, none⟩), sv, .string (pr j), .slice pa pl.length pc] W fun e W' => ∃ v', e = .returned v' ∧ MsgEnd H cb p es rs sx sy ev rv mv dv j W B m sv xs pl v' W' := by
  obtain ⟨_, z1, _, _, _, _, zf⟩ := clk_cells hk.box
  have zf1 := zf 1
  obtain ⟨W1, hW1⟩ : ∃ W1, W.setCell ⟨cb, 1, none⟩ (.int .i32 1) = W1 := ⟨_, rfl⟩
  obtain ⟨hk1, kp1⟩ := hk.lock 1 W1 hW1.symm
  have g1 : W.grownBy W1 (some cb) := by rw [← hW1]; exact grownBy_setCell_at W cb 1 _
  have own1 := row_turn hk.box g1 (by decide) hown
  obtain ⟨_, _, _, _, _, y6, _⟩ := clk_cells hk1.box
  have SD := send_any j hk1 (Nat.le_trans hH kp1.size) hs hp hn hr hs'
  have HS := hid SD
  have HK := hid (And.intro hk (And.intro hk1 (And.intro kp1 (And.intro own1 (And.intro hat hlow)))))
  have HSS := hid hs'
  clear SD hk hk1 kp1 g1 own1 hown hr hs' hat hlow zf hs
  go_enter Ybaf.func15, Ybaf.ntmps15
  go_wp2_with fail
  go_at_call 26
  refine (lock_free Ybaf.muLib ⟨cb, 1, none⟩ _ z1 zf1).mono ?_
  rintro e w' ⟨rfl, rfl⟩
  rw [hW1]
  go_wp2_with fail
  go_at_call 29
  refine Calls.mono HS.out ?_
  rintro e W2 ⟨d', rfl, k, ev2, rv2, mv2, hpos, c2, od2, kp2, lr2, ap2⟩
  obtain ⟨hk, hk1, kp1, own1, hat, hlow⟩ := HK.out
  have own2 := kp2.own own1 (own_not_ft hk1 own1 (by decide) (by decide) (fun h => by cases h))
  obtain ⟨_, x1, _, _, _, x6, xf⟩ := clk_cells c2.box
  have xf6 := xf 6
  obtain ⟨W3, hW3⟩ : ∃ W3, W2.setCell ⟨cb, 6, none⟩ d' = W3 := ⟨_, rfl⟩
  have g3 : W2.grownBy W3 (some cb) := by rw [← hW3]; exact grownBy_setCell_at W2 cb 6 _
  have k3 : KeptB W2.heap.size (fun k => k = cb) W2 W3 := KeptB.grown g3 (Nat.le_refl _) (fun b e _ => by simp only [Option.some.injEq] at e; exact e.symm)
  have c3 := c2.turn g3 (st' := 1) (dv' := d') (by rw [← hW3]; exact heap_setCell_same W2 cb 6 _ 71 _ c2.box)
  have od3 := row_turn c2.box g3 (by decide) od2
  have own3 := row_turn c2.box g3 (by decide) own2
  have C3 : Clk H cb p (bump es p k) (some (mk1 es rs p k)) (if j then sx else some (cntAt es p k + 1)) (if j then some (cntAt es p k + 1) else sy) 1 ev2 rv2 mv2 d' (outS es rs sx sy j p k).length (entCells (outS es rs sx sy j p k)) W3 := ⟨c3.box, c3.cge, c3.ent, c3.rai, c3.snt, od3, entCells_one _, ap2⟩
  have ho : (outS es rs sx sy j p k).length ≤ 50 := Nat.le_trans (outOf_length _ _ _) (by have := ins0_length es p k; omega)
  have hoc : ∀ e ∈ outS es rs sx sy j p k, e.2 < 18446744073709551616 := fun e he => by
    have := ((HSS.out k hpos).1 e (outOf_mem he)).2; omega
  obtain ⟨no, hno⟩ : ∃ no, (outS es rs sx sy j p k).length = no := ⟨_, rfl⟩
  obtain ⟨da, dc, hd', hda⟩ := own_ents C3.dif
  rw [hno] at hd'
  subst hd'
  have AE := append_ents B m da dc (outS es rs sx sy j p k) sv xs W3 own3 (by have := kp1.size; have := kp2.size; have := k3.size; omega) (by omega) (by omega) hoc hda (fun g o e e2 => by
    obtain ⟨_, cs, hc⟩ := own_obj own3 e2
    rcases C3.dif.2 with ⟨h1, _⟩ | ⟨g', cap', cur, h1, _, hg', _⟩
    · simp only [Value.slice.injEq] at h1; rw [e] at h1; cases h1.1
    · simp only [Value.slice.injEq] at h1
      rw [e] at h1
      simp only [Option.some.injEq, Addr.mk.injEq] at h1
      rw [h1.1.1, hg'] at hc
      simp at hc)
  obtain ⟨_, _, _, _, _, v6, _⟩ := clk_cells C3.box
  rw [hno] at AE
  have HAE := hid AE
  have hel := encAll_length (outS es rs sx sy j p k) (by omega) hoc
  have H3 := hid (And.intro hpos (And.intro C3 (And.intro own3 (And.intro kp2 (And.intro k3 (And.intro lr2 hno))))))
  clear hk hk1 kp1 own1 hat hlow own2 g3 k3 c3 od3 own3 C3 od2 c2 hda AE hno xf kp2 lr2 ap2 hpos y6
  go_wp2_with fail
  go_at_call 30
  refine Calls.mono HAE.out ?_
  rintro e W4 ⟨v4, rfl, own4, gw4⟩
  obtain ⟨hk, hk1, kp1, own1, hat, hlow⟩ := HK.out
  obtain ⟨hpos, C3, own3, kp2, k3, lr2, hno⟩ := H3.out
  have n3 := own_not_ft C3 own3 (by decide) (by decide) (fun h => by cases h)
  have C4 := C3.stay gw4.kept (fun k' hf e => (n3 k' e.symm).2 hf)
  obtain ⟨_, t1, _, _, _, _, tf⟩ := clk_cells C4.box
  have tf1 := tf 1
  obtain ⟨W5, hW5⟩ : ∃ W5, W4.setCell ⟨cb, 1, none⟩ (.int .i32 0) = W5 := ⟨_, rfl⟩
  obtain ⟨C5, kp5⟩ := C4.lock 0 W5 hW5.symm
  have g5 : W4.grownBy W5 (some cb) := by rw [← hW5]; exact grownBy_setCell_at W4 cb 1 _
  have own5 := row_turn C4.box g5 (by decide) own4
  have s1 := kp1.size
  have s2 := kp2.size
  have s3 := k3.size
  have s4 := gw4.kept.size
  have s5 := kp5.size
  have K5 : KeptB W.heap.size (fun k => Ft cb ev rv mv dv k ∨ some k = sv.ownBlock) W W5 :=
    (kp1.mono (Nat.le_refl _) (fun k _ e => .inl (.inl e))).trans ((kp2.mono s1 (fun k _ e => .inl e)).trans ((k3.mono (by omega) (fun k _ e => .inl (.inl e))).trans ((gw4.kept.mono (by omega) (fun k _ e => .inr e)).trans (kp5.mono (by omega) (fun k _ e => .inl (.inl e))))))
  have hat5 := hat.keptB K5 (fun g o e => ⟨by have := hlow g o e; omega, fun h => by
    have h0 := hlow g o e
    rcases h with h | h
    · have := (ft_obj hk h).1; omega
    · have := (own_obj own1 h.symm).1; omega⟩)
  obtain ⟨v6, W6, hr6, own6, gw6⟩ := byt_append B _ v4 _ pa pc pl W5 own5 (by omega) (by omega) (by omega) hat5 hnil 22
  have n5 := own_not_ft C5 own5 (by decide) (by decide) (fun h => by cases h)
  have C6 := C5.stay gw6.kept (fun k' hf e => (n5 k' e.symm).2 hf)
  have HE : Hid (MsgEnd H cb p es rs sx sy ev rv mv dv j W B m sv xs pl v6 W6) := by
    refine ⟨k, ev2, rv2, mv2, _, hpos, C6, own_cast own6 ?_ ?_, K5.trans (gw6.kept.mono (by omega) (fun k' hk' e => ?_)), fun b e => ?_⟩
    · rw [List.length_append]; omega
    · rw [byteCells_append, List.append_assoc]
    · rcases gw4.lies k' e.symm with h | h
      · exact .inr h.symm
      · omega
    · rcases lr2 b e with h | h
      · exact .inl h
      · exact .inr (by omega)
  clear hk hk1 kp1 own1 hat hlow hpos C3 own3 kp2 k3 lr2 hno n3 C4 C5 kp5 g5 own5 K5 hat5 own6 gw6 n5 C6 own4 gw4 tf
  go_wp2_with fail
  go_at_call 27
  refine (unlock_held Ybaf.muLib ⟨cb, 1, none⟩ _ t1 tf1).mono ?_
  rintro e w' ⟨rfl, rfl⟩
  rw [hW5]
  go_wp2_with (at_builtin; refine Lib.wpList_append_run _ rfl _ _ _ _ rfl _ _ rfl rfl _ _ hr6 ?_)
  go_ret
  exact ⟨_, rfl, HE.out⟩
end Go.Proofs.YbulkcrtgFmt
