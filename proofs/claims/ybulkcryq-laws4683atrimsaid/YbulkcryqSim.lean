/-
  A REGION THAT DRAWS ITS ORDER, INSIDE A ROUND: the laws of Derived/OrdersHeld.lean serve there too, where no operation is a defer statement: of no program.
-/
import Derived.AtR
import Derived.OrdersIn
import Derived.OrdersHeld
import Derived.RangeFuncCalls
namespace Go.Proofs.Ybulkcryq
open Go

theorem semAt_plain {o : Oper} (h : ∀ c, o.op ≠ .defer c) (l : Nat) (r : Operand → Value) : o.semAt (some l) r = execOp r o := by
  unfold Oper.semAt
  split
  · rename_i c _ hc; exact absurd hc (h _)
  · rfl

variable {P : Program} {ops : Array Oper} {Q : Exit → Act → World → Prop} {S : World → Prop} {md : Region.Mode}

theorem wp_in_round {o : Oper} (h : ∀ c, o.op ≠ .defer c) (l n : Nat) {a : Act} {w : World} {K : Act → World → Prop} (hw : o.wp P a w K Q) : o.wpIn (Fence.wide.inRound l) n P a w K Q := by
  refine ⟨fun _ _ => trivial, ?_⟩
  show o.uponIn _ _ _ _ _ _ ((o.semAt (some l) a.eval).run P w)
  rw [semAt_plain h]
  unfold Oper.wp at hw
  generalize (execOp a.eval o).run P w = r at *
  cases r with
  | ok x w' =>
    cases x <;> simp only [Oper.upon] at hw <;> simp only [Oper.uponIn] <;>
      first
        | exact hw
        | exact ⟨fun e => by simp [Fence.wide, Fence.inRound] at e, CallsIn.inRound l (callsIn_wide.2 hw)⟩
        | exact ⟨fun e => by simp [Fence.wide, Fence.inRound] at e, fun c cs _ => let ⟨v, w1, h1, h2⟩ := hw c cs; ⟨v, w1, h1, stepsIn_wide.2 h2⟩⟩
        | exact hw.elim
  | halt x w' => cases x <;> simp only [Oper.upon] at hw <;> simp only [Oper.uponIn] <;> exact hw

theorem wpOp_in_round (hops : ∀ (i : Nat) (o : Oper), ops[i]? = some o → ∀ c, o.op ≠ .defer c) (hQ : ¬ LetsOut Q) (l n i : Nat) {a : Act} {w : World} {K : Act → World → Prop} (h : wpOp P ops Q i K a w) : wpOpIn (Fence.wide.inRound l) n P ops Q i K a w := by
  unfold wpOp at h
  unfold wpOpIn
  cases ho : ops[i]? with
  | none => simp only [ho] at h ⊢; exact h
  | some o =>
    simp only [ho] at h ⊢
    by_cases hw : Region.wanted o (yielded ops a.tmps) = true
    · simp only [hw, if_true] at h ⊢
      exact wp_in_round (hops i o ho) l n (h.resolve_right (fun e => hQ e.2))
    · simp only [hw] at h ⊢
      exact ⟨fun _ _ => trivial, h⟩
theorem any_in_round (hops : ∀ (i : Nat) (o : Oper), ops[i]? = some o → ∀ c, o.op ≠ .defer c) (hQ : ¬ LetsOut Q) (l n : Nat) : ∀ (fuel : Nat) (listed : Array Bool) (a : Act) (w : World), wpAny P md ops Q fuel listed a w → wpAnyIn (Fence.wide.inRound l) n P md ops Q fuel listed a w
  | 0, _, _, _, h => h
  | fuel + 1, _, _, _, h => ⟨h.1, fun i hi => wpOpIn_mono (fun a' w' h' => any_in_round hops hQ l n fuel _ a' w' h') (wpOp_in_round hops hQ l n i (h.2 i hi))⟩
/-- **The region in the round**, from the held walk of all its orders outside one. -/
theorem region_round_held {id : Nat} {a : Act} {w : World} (hops : ∀ (i : Nat) (o : Oper), ops[i]? = some o → ∀ c, o.op ≠ .defer c) (hQ : ¬ LetsOut Q) (hm : P.follows .mixedOrders = true) (l n : Nat)
    (h : wpAnyH P .any ops Q S ops.size (Array.replicate ops.size false) a { w with drawn := w.drawn + 1 }) : (Code.region id ops true).wpIn (Fence.wide.inRound l) n P Q a w :=
  wpIn_region_any hm (any_in_round hops hQ l n _ _ _ _ (wpAny_of_held _ _ _ _ h))
/-- No operation of the region is a defer statement. -/
def noDefer (ops : Array Oper) : Bool := ops.all fun o => match o.op with | .defer _ => false | _ => true
theorem noDefer_spec {ops : Array Oper} (h : noDefer ops = true) : ∀ (i : Nat) (o : Oper), ops[i]? = some o → ∀ c, o.op ≠ .defer c := fun i o ho c e => by
  unfold noDefer at h
  rw [Array.all_eq_true'] at h
  have := h o (Array.mem_of_getElem? ho)
  rw [e] at this
  cases this
/-- The same, for a post that speaks of the ordinary end alone. -/
theorem region_round {id : Nat} {a : Act} {w : World} {T : Act → World → Prop} (S : World → Prop) (hd : noDefer ops = true) (hm : P.follows .mixedOrders = true) (l n : Nat)
    (h : wpAnyH P .any ops (fun e a' w' => e = .normal ∧ T a' w') S ops.size (Array.replicate ops.size false) a w.drew) : (Code.region id ops true).wpIn (Fence.wide.inRound l) n P (fun e a' w' => e = .normal ∧ T a' w') a w :=
  region_round_held (noDefer_spec hd) (fun h => by obtain ⟨_, _, h, _⟩ := h; cases h) hm l n h
/-- Take number i first. -/
theorem take_first {T : Act → World → Prop} {i : Nat} {oi : Oper} {v : Value} {fuel : Nat} {listed : Array Bool} {a : Act} {w : World} (hi : ops.toList[i]? = some oi)
    (hs : Region.noSelect ops = true) (hf : Region.free md ops listed i = true) (hr : (Region.ready md ops listed).contains i = true) (hw : Region.wanted oi (yielded ops a.tmps) = true)
    (hy : ∀ w, S w → (execOp a.eval oi).run P w = .ok (.value v) w) (hS : S w)
    (h : wpAnyH P md ops (fun e a' w' => e = .normal ∧ T a' w') S fuel (listed.setIfInBounds i true) (a.put oi.dst v) w) : wpAnyH P md ops (fun e a' w' => e = .normal ∧ T a' w') S (fuel + 1) listed a w :=
  wpAnyH_take (by rw [← Array.getElem?_toList]; exact hi) hs hf hr (fun _ _ _ h => by cases h.1) (.inl ⟨hw, hy⟩) hS h

/-- An append inside a region, by what it is known to do. -/
theorem step_append_run {o : Oper} {a : Act} {w w' : World} {K : Act → World → Prop} {E : Prop} (hgd : o.guard = none) (s x : Operand) (t ty : TypeId) (ho : o.op = .call { callee := .builtin .append, args := #[s, x], argTypes := #[t, t] }) (hty : o.type = ty) (vs vx : Value) {v : Value} (hs : a.eval s = vs) (hx : a.eval x = vx)
    (hr : (Builtin.append_ #[t, t] ty #[vs, vx]).run P w = .ok v w') (h : K (a.put o.dst v) w') : if Region.wanted o (yielded ops a.tmps) = true then Oper.wp P o a w K Q else E := by
  have hw : Region.wanted o (yielded ops a.tmps) = true := by simp [Region.wanted, hgd]
  rw [if_pos hw]
  subst hty
  unfold Oper.wp execOp
  simp only [ho, resolve, invoke, builtin, Sem.run_bind, Sem.run_pure, Result.andThen_ok, List.map_toArray, List.map_cons, List.map_nil, hs, hx, hr]
  exact h
end Go.Proofs.Ybulkcryq
