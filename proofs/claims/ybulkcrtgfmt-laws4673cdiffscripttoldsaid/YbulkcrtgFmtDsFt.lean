/-
  What the clock's operations turn, and what they leave; bytes appended.
-/
import Derived.Test.YbulkcrtgFmtDsTm
import Derived.Maps.AppendAt
namespace Go.Proofs.YbulkcrtgFmt
open Go Go.RowKit

theorem own_obj {W : World} {B e size n k : Nat} {v : Value} {xs : List Value} (ho : W.ownsRow B e size v n xs) (hk : v.ownBlock = some k) : B ≤ k ∧ ∃ cs, W.heap[k]? = some (.cells cs e (0, 0)) := by
  rcases ho.2 with ⟨h1, _⟩ | ⟨g', cap', cur, h1, hb, hg, _⟩
  · rw [h1] at hk; simp [Value.ownBlock] at hk
  · rw [h1] at hk
    simp only [Value.ownBlock, Option.some.injEq] at hk
    subst hk
    exact ⟨hb, cur, hg⟩
section
variable {H cb p : Nat} {es : List (Nat × Nat)} {rs : Option (List Nat)} {sx sy : Option Nat} {st : Int} {ev rv mv dv : Value} {nd : Nat} {xd : List Value} {W W' : World}
theorem ft_obj (h : Clk H cb p es rs sx sy st ev rv mv dv nd xd W) {k : Nat} (hf : Ft cb ev rv mv dv k) : H ≤ k ∧ ∃ o, W.heap[k]? = some o ∧ ∀ cs e, o = .cells cs e (0, 0) → e = 71 ∨ e = 39 ∨ (e = 34 ∧ some k = rv.ownBlock) := by
  rcases hf with rfl | e | e | e | e
  · exact ⟨h.cge, _, h.box, fun cs e he => by simp only [Obj.cells.injEq] at he; exact .inl he.2.1.symm⟩
  · obtain ⟨h1, cs, h2⟩ := own_obj h.ent e.symm
    exact ⟨h1, _, h2, fun cs e he => by simp only [Obj.cells.injEq] at he; exact .inr (.inl he.2.1.symm)⟩
  · have hr := h.rai
    cases rs with
    | none => dsimp only at hr; rw [hr] at e; simp [Value.ownBlock] at e
    | some l =>
      obtain ⟨h1, cs, h2⟩ := own_obj hr.1 e.symm
      exact ⟨h1, _, h2, fun cs e' he => by simp only [Obj.cells.injEq] at he; exact .inr (.inr ⟨he.2.1.symm, e⟩)⟩
  · obtain ⟨h1, cs, h2⟩ := own_obj h.dif e.symm
    exact ⟨h1, _, h2, fun cs e he => by simp only [Obj.cells.injEq] at he; exact .inr (.inl he.2.1.symm)⟩
  · rcases h.snt with ⟨h0, _⟩ | ⟨b, h0, hb, es9, cl9, h1, _⟩
    · rw [h0] at e; cases e
    · rw [h0] at e
      simp only [Value.map.injEq, Option.some.injEq] at e
      subst e
      exact ⟨hb, _, h1, fun cs e he => by cases he⟩
theorem own_not_ft (h : Clk H cb p es rs sx sy st ev rv mv dv nd xd W) {B e size n : Nat} {v : Value} {xs : List Value} (ho : W.ownsRow B e size v n xs) (h1 : e ≠ 71) (h2 : e ≠ 39) (h3 : e = 34 → ∀ k, v.ownBlock = some k → rv.ownBlock ≠ some k) : ∀ k, v.ownBlock = some k → k < W.heap.size ∧ ¬ Ft cb ev rv mv dv k := by
  intro k hk
  refine ⟨(ho.lt k hk).2, fun hf => ?_⟩
  obtain ⟨_, cs, hc⟩ := own_obj ho hk
  obtain ⟨_, o, ho', ht⟩ := ft_obj h hf
  rw [hc] at ho'
  simp only [Option.some.injEq] at ho'
  rcases ht cs e ho'.symm with e1 | e1 | ⟨e1, e2⟩
  · exact h1 e1
  · exact h2 e1
  · exact h3 e1 k hk e2.symm
theorem Clk.stay (h : Clk H cb p es rs sx sy st ev rv mv dv nd xd W) {S : Nat → Prop} (hb : KeptB W.heap.size S W W') (hS : ∀ k, Ft cb ev rv mv dv k → ¬ S k) : Clk H cb p es rs sx sy st ev rv mv dv nd xd W' := by
  refine ⟨(hb.block cb (lt_of_block h.box) (hS cb (.inl rfl))).trans h.box, h.cge, hb.own h.ent (fun b e => ⟨(h.ent.lt b e).2, hS b (.inr (.inl e.symm))⟩), ?_, h.snt.block (fun b e => ?_), hb.own h.dif (fun b e => ⟨(h.dif.lt b e).2, hS b (.inr (.inr (.inr (.inl e.symm))))⟩), h.one, h.apt⟩
  · have hr := h.rai
    cases rs with
    | none => exact hr
    | some l => exact ⟨hb.own hr.1 (fun b e => ⟨(hr.1.lt b e).2, hS b (.inr (.inr (.inl e.symm)))⟩), hr.2⟩
  · obtain ⟨_, _, _, es9, cl9, h1, _⟩ := h.snt.map e
    exact hb.block b (lt_of_block h1) (hS b (.inr (.inr (.inr (.inr e)))))
end
/-- append of bytes that lie anywhere. -/
theorem byt_append (B n : Nat) (sv : Value) (xs : List Value) (pa : Option Addr) (pc : Nat) (pl : List UInt8) (w : World) (hown : w.ownsRow B 5 1 sv n xs) (hB : B ≤ w.heap.size) (hn : n ≤ 1000000) (hl : pl.length ≤ 1000000) (hat : BytAt w pa pl) (hnil : pa = none → pc = 0) (ty : TypeId) :
    ∃ v' w', (Builtin.append_ #[22, 22] ty #[sv, .slice pa pl.length pc]).run Ybaf.prog w = .ok v' w' ∧ w'.ownsRow B 5 1 v' (n + pl.length) (xs ++ Lib.byteCells pl) ∧ Grew w sv w' v' := by
  obtain ⟨i0, hi0, hz0, hz1, hz2⟩ := info_parts Ybaf.info5
  cases pa with
  | none =>
    have : pl = [] := by
      cases pl with
      | nil => rfl
      | cons x xs => obtain ⟨g, o, h, _⟩ := hat (by simp); cases h
    subst this
    obtain rfl := hnil rfl
    exact ⟨sv, w, run_append_owned_none (P := Ybaf.prog) w B 22 ty 5 i0 1 Ybaf.underlying22 hi0 sv n xs hown, own_cast hown (by simp) (by simp [Lib.byteCells]), Grew.refl _ _⟩
  | some a =>
    obtain ⟨v', w', hr, o', gr, _, hl'⟩ := run_append_own_at (P := Ybaf.prog) w B 22 ty 5 i0 _ 1 1 Ybaf.underlying22 hi0 hz0 hz1 hz2 rfl (by decide) sv n xs hown a pl.length pc (Lib.byteCells pl) (by rw [byteCells_length]; omega) (fun j u hu => by
      obtain ⟨hj, rfl⟩ := byteCells_get hu
      obtain ⟨g, o, e, hbf⟩ := hat (by intro e; rw [e] at hj; simp at hj)
      simp only [Option.some.injEq] at e
      subst e
      rw [Addr.add_lit]
      exact hbf j hj) (byteCells_one pl) (by unfold maxLen; omega) (by omega) hB
    refine ⟨v', w', hr, o', KeptB.grown gr (Nat.le_refl _) (fun k e _ => e.symm), fun k hk => ?_⟩
    rcases hl' with e | e
    · exact .inl (by rw [← e]; exact hk)
    · rw [e] at hk
      simp only [Option.some.injEq] at hk
      exact .inr (by omega)
theorem BytAt.keptB {w w' : World} {N : Nat} {S : Nat → Prop} {pa : Option Addr} {l : List UInt8} (h : BytAt w pa l) (hb : KeptB N S w w') (hs : ∀ g o, pa = some ⟨g, o, none⟩ → g < N ∧ ¬ S g) : BytAt w' pa l := fun hne => by
  obtain ⟨g, o, rfl, hf⟩ := h hne
  exact ⟨g, o, rfl, hf.block (hb.block g (hs g o rfl).1 (hs g o rfl).2)⟩
end Go.Proofs.YbulkcrtgFmt
