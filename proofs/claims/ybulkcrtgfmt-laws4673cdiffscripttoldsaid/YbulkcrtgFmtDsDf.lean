/-
  diffTo (40).
-/
import Derived.Test.YbulkcrtgFmtDsMp
import Derived.Deep.RegionHeld
namespace Go.Proofs.YbulkcrtgFmt
open Go Go.RowKit

theorem onceP {P : Program} {c : Code} {Q : Exit → Act → World → Prop} {a : Act} {w : World} (T : Act → World → Prop) (h : c.wp P (fun e a' w' => e = .normal ∧ T a' w') a w) (k : ∀ a' w', T a' w' → Q .normal a' w') : c.wp P Q a w :=
  Code.wp_mono (by rintro e a' w' ⟨rfl, hq⟩; exact k a' w' hq) h
theorem region_plain {P : Program} {ops : Array Oper} {S : World → Prop} {id : Nat} {a : Act} {w : World} {T : Act → World → Prop} (hm : P.follows .mixedOrders = true)
    (h : wpAnyH P .any ops (fun e a' w' => e = .normal ∧ T a' w') S ops.size (Array.replicate ops.size false) a w.drew) : (Code.region id ops true).wp P (fun e a' w' => e = .normal ∧ T a' w') a w := wp_region_held hm h
theorem take_first {P : Program} {ops : Array Oper} {S : World → Prop} {md : Region.Mode} {T : Act → World → Prop} {i : Nat} {oi : Oper} {v : Value} {fuel : Nat} {listed : Array Bool} {a : Act} {w : World} (hi : ops.toList[i]? = some oi)
    (hs : Region.noSelect ops = true) (hf : Region.free md ops listed i = true) (hr : (Region.ready md ops listed).contains i = true) (hw : Region.wanted oi (yielded ops a.tmps) = true)
    (hy : ∀ w, S w → (execOp a.eval oi).run P w = .ok (.value v) w) (hS : S w)
    (h : wpAnyH P md ops (fun e a' w' => e = .normal ∧ T a' w') S fuel (listed.setIfInBounds i true) (a.put oi.dst v) w) : wpAnyH P md ops (fun e a' w' => e = .normal ∧ T a' w') S (fuel + 1) listed a w :=
  wpAnyH_take (by rw [← Array.getElem?_toList]; exact hi) hs hf hr (fun _ _ _ h => by cases h.1) (.inl ⟨hw, hy⟩) hS h

/-- The clock but for its diff row. -/
structure Clk0 (H cb p : Nat) (es : List (Nat × Nat)) (rs : Option (List Nat)) (sx sy : Option Nat) (st : Int) (ev rv mv dv : Value) (W : World) : Prop where
  box : W.heap[cb]? = some (.cells #[.string (nm p), .int .i32 st, .int .u32 0, ev, rv, mv, dv] 71 (0, 0))
  cge : H ≤ cb
  ent : W.ownsRow H 39 2 ev es.length (entCells es)
  rai : match rs with | none => rv = .slice none 0 0 | some l => W.ownsRow H 34 1 rv l.length (u64Cells l) ∧ rv ≠ .slice none 0 0 ∧ l.length = es.length
  snt : SentAt H W mv sx sy
theorem Clk.zero {H cb p : Nat} {es : List (Nat × Nat)} {rs : Option (List Nat)} {sx sy : Option Nat} {st : Int} {ev rv mv dv : Value} {nd : Nat} {xd : List Value} {W : World} (h : Clk H cb p es rs sx sy st ev rv mv dv nd xd W) : Clk0 H cb p es rs sx sy st ev rv mv dv W := ⟨h.box, h.cge, h.ent, h.rai, h.snt⟩
/-- What is no row of 39 of another, and not turned, stays. -/
theorem Clk0.still {H cb p : Nat} {es : List (Nat × Nat)} {rs : Option (List Nat)} {sx sy : Option Nat} {st : Int} {ev rv mv dv d : Value} {nd : Nat} {xd : List Value} {W W' : World} (h : Clk0 H cb p es rs sx sy st ev rv mv dv W) (hd : W.ownsRow H 39 2 d nd xd) (ha : ∀ k, ev.ownBlock = some k → d.ownBlock ≠ some k) (hb : KeptB W.heap.size (fun k => some k = d.ownBlock) W W') : Clk0 H cb p es rs sx sy st ev rv mv dv W' := by
  have nd : ∀ (k : Nat) (o : Obj), W.heap[k]? = some o → (∀ cs, o ≠ .cells cs 39 (0, 0)) → ¬ some k = d.ownBlock := fun k o hk ho e => by
    rcases hd.2 with ⟨rfl, _⟩ | ⟨g', cap', cur, rfl, _, hg, _⟩
    · simp [Value.ownBlock] at e
    · simp only [Value.ownBlock, Option.some.injEq] at e
      subst e
      rw [hk] at hg
      exact ho cur (by simpa using hg)
  refine ⟨(hb.block cb (lt_of_block h.box) (nd cb _ h.box (fun cs e => by simp at e))).trans h.box, h.cge, hb.own h.ent (fun b e => ⟨(h.ent.lt b e).2, fun e2 => ha b e e2.symm⟩), ?_, h.snt.block (fun b e => ?_)⟩
  · have hr := h.rai
    cases rs with
    | none => exact hr
    | some l =>
      refine ⟨hb.own hr.1 (fun b e => ⟨(hr.1.lt b e).2, ?_⟩), hr.2⟩
      rcases hr.1.2 with ⟨h1, _⟩ | ⟨g', cap', cur, h1, _, hg, _⟩
      · exact absurd h1 hr.2.1
      · rw [h1] at e
        simp only [Value.ownBlock, Option.some.injEq] at e
        subst e
        exact nd _ _ hg (fun cs e => by simp at e)
  · obtain ⟨_, _, _, es9, cl9, h1, _⟩ := h.snt.map e
    exact hb.block b (lt_of_block h1) (nd b _ h1 (fun cs e => by cases e))
end Go.Proofs.YbulkcrtgFmt
