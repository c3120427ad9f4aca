/-
  trimFront's invariant across the rounds, and what it leaves behind: how each abides the loop's own steps.
-/
import Derived.Test.YbulkcryqIter
namespace Go.Proofs.Ybulkcryq
open Go Go.RowKit

def chainCells (l : List (Int × Int)) : List Value := l.flatMap fun c => [.int .i32 c.1, .int .i32 c.2]
theorem chainCells_snoc (l : List (Int × Int)) (c : Int × Int) : chainCells (l ++ [c]) = chainCells l ++ [.int .i32 c.1, .int .i32 c.2] := by simp [chainCells]
def keepV (klb kkb kpb : Nat) : Value := .func (.func 5) #[] #[.pointer (some ⟨klb, 0, none⟩), .pointer (some ⟨kkb, 0, none⟩), .pointer (some ⟨kpb, 0, none⟩)]
def trimV (tlb shb : Nat) : Value := .func (.func 6) #[] #[.pointer (some ⟨tlb, 0, none⟩), .pointer (some ⟨shb, 0, none⟩)]

/-- trimFront's own boxes that no round turns. -/
structure Boxes (H Lb klb kkb kpb tlb shb g N cap : Nat) (W : World) : Prop where
  b0 : Boxed W H 44 (.pointer (some ⟨Lb, 0, none⟩))
  b1 : Boxed W (H + 1) 33 (keepV klb kkb kpb)
  b2 : Boxed W (H + 2) 34 (trimV tlb shb)
  b3 : Boxed W (H + 3) 29 (.slice (some ⟨g, 0, none⟩) N cap)
  b5 : Boxed W (H + 5) 29 (.slice (some ⟨g, 0, none⟩) N cap)
theorem Boxes.of {H Lb klb kkb kpb tlb shb g N cap : Nat} {W W' : World} (h : Boxes H Lb klb kkb kpb tlb shb g N cap W) (hb : ∀ k, H ≤ k → k < H + 6 → k ≠ H + 4 → W'.heap[k]? = W.heap[k]?) : Boxes H Lb klb kkb kpb tlb shb g N cap W' :=
  ⟨(hb _ (by omega) (by omega) (by omega)).trans h.b0, (hb _ (by omega) (by omega) (by omega)).trans h.b1, (hb _ (by omega) (by omega) (by omega)).trans h.b2, (hb _ (by omega) (by omega) (by omega)).trans h.b3, (hb _ (by omega) (by omega) (by omega)).trans h.b5⟩

/-- Between two rounds: i chains have come, and none was kept. -/
structure Inv (H Lb klb kkb kpb tlb shb g N cap : Nat) (ks : List Bool) (cb : List (Int × Int)) (w : World) (c i : Nat) (W : World) : Prop where
  none : ∀ j, j < i → (ks[j]?).getD false = false
  cge : H + 8 ≤ c
  kept : KeptB H (fun k => k = klb ∨ k = kkb) w W
  box : Boxes H Lb klb kkb kpb tlb shb g N cap W
  drop : Boxed W (H + 4) 3 (.int .i64 i)
  cnt : Boxed W kkb 3 (.int .i64 i)
  log : ∃ klv, Boxed W klb 24 klv ∧ W.ownsRow (H + 8) 28 2 klv i (chainCells (cb.take i)) ∧ klv.ownBlock ≠ some c ∧ (i = 0 → klv = .slice .none 0 0)

section
variable {H Lb klb kkb kpb tlb shb g N cap : Nat} {ks : List Bool} {cb : List (Int × Int)} {w : World} {c i : Nat} {W W' : World}
/-- The invariant abides every step that turns, of the blocks that it speaks of, none. -/
theorem Inv.of (h : Inv H Lb klb kkb kpb tlb shb g N cap ks cb w c i W) (hkl : klb < H) (hkk : kkb < H) (ho : W'.os = W.os) (hu : W'.output = W.output) (hs : W.heap.size ≤ W'.heap.size) (r : Nat)
    (hr : H + 6 ≤ r) (hrow : ∀ klv, Boxed W klb 24 klv → klv.ownBlock ≠ some r) (hb : ∀ k, k < W.heap.size → k ≠ r → W'.heap[k]? = W.heap[k]?) : Inv H Lb klb kkb kpb tlb shb g N cap ks cb w c i W' := by
  have hsz : H + 5 < W.heap.size := h.box.b5.lt
  obtain ⟨klv, l1, l2, l3, l4⟩ := h.log
  refine ⟨h.none, h.cge, h.kept.trans ⟨ho, hu, hs, fun k hk _ => hb k (by omega) (by omega)⟩, h.box.of (fun k h1 h2 _ => hb k (by omega) (by omega)), (hb _ (by omega) (by omega)).trans h.drop, (hb _ (by omega) (by omega)).trans h.cnt,
    klv, (hb _ (by omega) (by omega)).trans l1, ?_, l3, l4⟩
  have hk : KeptB W.heap.size (fun k => k = r) W W' := ⟨ho, hu, hs, fun k hk hne => hb k hk hne⟩
  exact hk.own l2 (fun k e => ⟨(l2.lt k e).2, fun e' => hrow klv l1 (by rw [e, e'])⟩)
theorem Inv.log_unique (h : Inv H Lb klb kkb kpb tlb shb g N cap ks cb w c i W) {u : Value} (hu : Boxed W klb 24 u) : W.ownsRow (H + 8) 28 2 u i (chainCells (cb.take i)) ∧ u.ownBlock ≠ some c ∧ (i = 0 → u = .slice .none 0 0) := by
  obtain ⟨klv, l1, l2, l3, l4⟩ := h.log
  have e : u = klv := by have := (show W.heap[klb]? = _ from hu).symm.trans l1; simpa using this
  rw [e]
  exact ⟨l2, l3, l4⟩
theorem Inv.grow (h : Inv H Lb klb kkb kpb tlb shb g N cap ks cb w c i W) (hkl : klb < H) (hkk : kkb < H) (hg : W.grownBy W' (some c)) : Inv H Lb klb kkb kpb tlb shb g N cap ks cb w c i W' :=
  h.of hkl hkk hg.os hg.output hg.size c (by have := h.cge; omega) (fun _ hu => (h.log_unique hu).2.1) (fun k hk hne => hg.block k hk (fun e => hne (by simpa using e)))
theorem Inv.below (h : Inv H Lb klb kkb kpb tlb shb g N cap ks cb w c i W) (hkl : klb < H) (hkk : kkb < H) (hg : Below W.heap.size W W') : Inv H Lb klb kkb kpb tlb shb g N cap ks cb w c i W' :=
  h.of hkl hkk hg.os hg.output hg.size c (by have := h.cge; omega) (fun _ hu => (h.log_unique hu).2.1) (fun k hk _ => hg.block k hk)
theorem Inv.put (h : Inv H Lb klb kkb kpb tlb shb g N cap ks cb w c i W) (hkl : klb < H) (hkk : kkb < H) {l : Nat} {r : Loop} (hl : W.heap[l]? = some (.loop r)) (hle : H + 6 ≤ l) (o : Obj) : Inv H Lb klb kkb kpb tlb shb g N cap ks cb w c i (W.putObj l o) := by
  have hg := grownBy_putObj' W l o
  refine h.of hkl hkk hg.os hg.output hg.size l hle (fun u hu e => ?_) (fun k hk hne => hg.block k hk (fun e => hne (by simpa using e)))
  rcases (h.log_unique hu).1.2 with ⟨rfl, _⟩ | ⟨g', cap', cur, rfl, _, hgg, _⟩
  · simp [Value.ownBlock] at e
  · simp only [Value.ownBlock, Option.some.injEq] at e
    subst e
    rw [hl] at hgg; cases hgg
end

/-- What trimFront leaves: the two logs, the packed bytes. -/
structure Out (H Lb klb kkb tlb g : Nat) (kl tl : List (Int × Int)) (pk : List UInt8) (w W : World) : Prop where
  kept : KeptB H (fun k => k = Lb ∨ k = klb ∨ k = kkb ∨ k = tlb ∨ k = g) w W
  klog : ∃ klv, Boxed W klb 24 klv ∧ W.ownsRow H 28 2 klv kl.length (chainCells kl)
  tlog : ∃ tlv, Boxed W tlb 24 tlv ∧ W.ownsRow H 28 2 tlv tl.length (chainCells tl)
  pack : ∃ pa cap, Boxed W Lb 32 (.slice pa pk.length cap) ∧ (pk ≠ [] → ∃ g' o', pa = some ⟨g', o', none⟩ ∧ BytesFrom W g' o' pk)

theorem boxed_put {W : World} {k l : Nat} {t : TypeId} {v : Value} {o' : Obj} (h : Boxed W k t v) (hl : W.heap[l]? = some o') (hc : o'.isCells = false) (o : Obj) : Boxed (W.putObj l o) k t v :=
  h.kept (grownBy_putObj' W l o) (fun e => by
    obtain rfl : k = l := by simpa using e
    rw [show W.heap[k]? = _ from h] at hl; cases hl; cases hc)
theorem Out.put {H Lb klb kkb tlb g : Nat} {kl tl : List (Int × Int)} {pk : List UInt8} {w W : World} (h : Out H Lb klb kkb tlb g kl tl pk w W) (hH : H ≤ W.heap.size) {l : Nat} {o' : Obj} (hl : W.heap[l]? = some o') (hc : o'.isCells = false) (hle : H ≤ l) (o : Obj) : Out H Lb klb kkb tlb g kl tl pk w (W.putObj l o) := by
  obtain ⟨klv, k1, k2⟩ := h.klog
  obtain ⟨tlv, t1, t2⟩ := h.tlog
  obtain ⟨pa, cap, p1, p2⟩ := h.pack
  refine ⟨h.kept.trans (KeptB.putObj W l o hH (fun x => by omega)), ⟨klv, boxed_put k1 hl hc o, ownsRow_putObj k2 o hl hc⟩, ⟨tlv, boxed_put t1 hl hc o, ownsRow_putObj t2 o hl hc⟩, pa, cap, boxed_put p1 hl hc o, fun hne => ?_⟩
  obtain ⟨g', o1, rfl, hb⟩ := p2 hne
  refine ⟨g', o1, rfl, hb.block (World.putObj_heap_other (fun e => ?_))⟩
  subst e
  have h0 := hb 0 (by cases pk with | nil => exact absurd rfl hne | cons _ _ => simp)
  simp only [World.cell?, hl] at h0
  cases o' <;> simp_all [Obj.isCells]
end Go.Proofs.Ybulkcryq
