/-
  diffTo (40): the last parts.
-/
import Derived.Test.YbulkcrtgFmtDsDg
namespace Go.Proofs.YbulkcrtgFmt
open Go Go.RowKit

theorem eq_mnil (m : Option Nat) (w : World) : (binOp .eql 61 (.map m) (.map none)).run Ybaf.prog w = .ok (.bool m.isNone) w := by
  simp only [binOp]
  simp [run_equal_map_nil w 61 9 34 m Ybaf.underlying61]
theorem hid {p : Prop} (h : p) : Hid p := h
theorem own_cut {w : World} {base nd : Nat} {e : TypeId} {size : Nat} {dv : Value} {xs : List Value} (h : w.ownsRow base e size dv nd xs) : ∃ da cd, dv = .slice da nd cd ∧ nd ≤ cd ∧ cd ≤ maxLen ∧ w.ownsRow base e size (.slice da 0 cd) 0 [] ∧ (Value.slice da 0 cd).ownBlock = dv.ownBlock := by
  rcases h.2 with ⟨rfl, rfl⟩ | ⟨g, cap, cur, rfl, hb, hg, hnc, hm, hsz, _⟩
  · exact ⟨none, 0, rfl, Nat.le_refl _, by unfold maxLen; omega, World.ownsRow_nil _ _ _ _, rfl⟩
  · exact ⟨_, cap, rfl, hnc, hm, ⟨by simp, .inr ⟨g, cap, cur, rfl, hb, hg, by omega, hm, hsz, by simp⟩⟩, rfl⟩
theorem oncePa {P : Program} {c : Code} {Q : Exit → Act → World → Prop} {a a0 : Act} {w : World} (Q0 : World → Prop) (h : c.wp P (fun e a' w' => e = .normal ∧ a' = a0 ∧ Q0 w') a w) (k : ∀ w', Q0 w' → Q .normal a0 w') : c.wp P Q a w :=
  Code.wp_mono (by rintro e a' w' ⟨rfl, rfl, hq⟩; exact k w' hq) h
theorem pos_own {es : List (Nat × Nat)} {p k kk c : Nat} (hs : Srt es) (hown : es[kk]? = some (p, c)) (hk : PosOf es p k) : k = kk := by
  rcases Nat.lt_trichotomy k kk with h | h | h
  · have hl := (List.getElem?_eq_some_iff.1 hown).1
    have he : es[k]? = some (es[k]'(by omega)) := List.getElem?_eq_getElem _
    have h1 := hs.2 k kk _ _ h he hown
    have h2 := hk.2.2 k _ (Nat.le_refl _) he
    dsimp only at h1; omega
  · exact h
  · have := hk.2.1 kk _ h hown
    dsimp only at this; omega
theorem get_own (ea : Option Addr) (ec p : Nat) (es : List (Nat × Nat)) (w : World) (hn : es.length ≤ 100) (hs : Srt es) (hp : p ≤ 5) (hat : EntAt w ea es) (kk c : Nat) (hown : es[kk]? = some (p, c)) :
    Calls Ybaf.prog 19 #[.agg #[.slice ea es.length ec], .string (nm p)] w fun e w' => e = .returned (.int .u64 c) ∧ Below w.heap.size w w' := by
  refine (get_any ea ec p es w hn hs hp hat).mono ?_
  rintro e w' ⟨k, hk, rfl, hb⟩
  refine ⟨?_, hb⟩
  rw [pos_own hs hown hk]
  simp [cntAt, hown]
/-- The last count is written into the map. -/
theorem put_end {H cb p : Nat} {es : List (Nat × Nat)} {rs : Option (List Nat)} {sx sy : Option Nat} {st : Int} {ev rv dv d : Value} {b nd : Nat} {xd : List Value} {W V : World} (h : Clk0 H cb p es rs sx sy st ev rv (.map (some b)) dv W) (hd : W.ownsRow H 39 2 d nd xd) (hb : Below W.heap.size W V) (j : Bool) (c : Nat) (hc : c < 18446744073709551616) :
    ∃ W', (Instr.mapUpdate 61 (.map (some b)) (.string (pr j)) (.int .u64 c)).run Ybaf.prog V = .ok () W' ∧ Clk0 H cb p es rs (if j then sx else some c) (if j then some c else sy) st ev rv (.map (some b)) dv W' ∧ W'.ownsRow H 39 2 d nd xd ∧ KeptB W.heap.size (fun k => k = b) W W' := by
  have kb : KeptB W.heap.size (fun _ => False) W V := KeptB.below hb
  have hm := h.snt
  rcases hm with ⟨h0, _⟩ | ⟨b', e, hbH, hm⟩
  · cases h0
  · simp only [Value.map.injEq, Option.some.injEq] at e
    subst e
    obtain ⟨es9, cl9, h1, h2⟩ := hm
    have hbl := lt_of_block h1
    have hmV : V.ownsMap Ybaf.prog 9 (plainElem Ybaf.prog 34) b 2 (sentD sx sy) := ⟨es9, cl9, (kb.block b hbl (fun h => h)).trans h1, h2⟩
    obtain ⟨W', hr, hm', hg⟩ := put_sent hmV j c hc
    have ke : KeptB W.heap.size (fun k => k = b) W W' := (kb.mono (Nat.le_refl _) (fun _ _ h => h.elim)).trans (KeptB.grown hg kb.size (fun k e _ => by simpa using e.symm))
    have nrow : ∀ {e size n : Nat} {v : Value} {xs : List Value}, W.ownsRow H e size v n xs → ∀ k, v.ownBlock = some k → k < W.heap.size ∧ ¬ k = b := fun {e size n v xs} ho k e2 => by
      refine ⟨(ho.lt k e2).2, ?_⟩
      rintro rfl
      rcases ho.2 with ⟨h3, _⟩ | ⟨g', cap', cur, h3, _, hg', _⟩
      · rw [h3] at e2; simp [Value.ownBlock] at e2
      · rw [h3] at e2
        simp only [Value.ownBlock, Option.some.injEq] at e2
        rw [e2, h1] at hg'
        cases hg'
    refine ⟨W', hr, ⟨(ke.block cb (lt_of_block h.box) ?_).trans h.box, h.cge, ke.own h.ent (nrow h.ent), ?_, .inr ⟨b, rfl, hbH, hm'⟩⟩, ke.own hd (nrow hd), ke⟩
    · rintro rfl
      rw [h.box] at h1; cases h1
    · have hr := h.rai
      cases rs with
      | none => exact hr
      | some l => exact ⟨ke.own hr.1 (nrow hr.1), hr.2⟩
end Go.Proofs.YbulkcrtgFmt
