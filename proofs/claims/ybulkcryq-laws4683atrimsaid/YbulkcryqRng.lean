/-
  A RANGE OVER A FUNCTION WHOSE ITERATOR KEEPS STATE OF ITS OWN IN CELLS: the iterator's block c is told to the caller's invariant; of no program.
-/
import Derived.RangeFuncNested
import Derived.RangeFuncBound
import Derived.RangeFuncCalls
import Derived.RangeFuncLeaves
import Derived.Below
namespace Go.Proofs.Ybulkcryq
open Go Go.RowKit

/-- The iterator yields encs 0, encs 1, .. encs (m - 1); block c is its own, an object of which Cb holds; Base: what it reads. -/
def CellSeq (F : Fence) (n : Nat) (P : Program) (gf : Nat) (lb : Array Value) (encs : Nat → Array Value) (m : Nat) (Base : World → Prop) (Cb : Obj → Prop) : Prop :=
  ∀ (l : Nat) (J : Nat → Nat → World → Prop) (Jx : Nat → World → Prop) (W : World),
    Base W →
    (∀ c i W1, J c i W1 → Base W1) →
    (∀ c i W1 W2, J c i W1 → W1.grownBy W2 (some c) → J c i W2) →
    (∀ c W1, Below W.heap.size W W1 → W.heap.size ≤ c → J c 0 W1) →
    (∀ c i W1 o, J c i W1 → W1.heap[c]? = some o → Cb o → i < m → YieldAt F (n - 1) P l (encs i) W1 fun e W' =>
      (e = .returned (.bool true) ∧ J c (i + 1) W' ∧ W'.heap[c]? = W1.heap[c]?) ∨ (e = .returned (.bool false) ∧ Jx (i + 1) W')) →
    CallsIn F n P gf (#[.func (.yield l) #[] #[]] ++ lb) W fun e W' => (∃ v, e = .returned v) ∧ ((∃ c, J c m W') ∨ (∃ i, i < m ∧ Jx (i + 1) W'))

/-- How a round's body may be left: it goes on, or it returns. D: the deferred calls' block; D + 1: the loop's record; c: the iterator's block. -/
def cellPost (D c : Nat) (I Ix : World → Prop) (W : World) : Exit → Act → World → Prop
  | .normal, _, W' => W'.heap[D]? = W.heap[D]? ∧ W'.heap[D + 1]? = W.heap[D + 1]? ∧ W'.heap[c]? = W.heap[c]? ∧ I W'
  | .ret, _, W' => W'.heap[D]? = W.heap[D]? ∧ W'.heap[D + 1]? = W.heap[D + 1]? ∧ Ix W'
  | _, _, _ => False

variable {F : Fence} {n : Nat} {P : Program}

theorem rangeFunc_cell {g : Operand} {ps : Array Tmp} {assign body : Code} {Q : Exit → Act → World → Prop} {a : Act} {w : World}
    (hro : F.round = none) (h1 : 1 ≤ n) {gf : Nat} {lb : Array Value} (hg : a.eval g = .func (.func gf) #[] lb) (hFg : F.fn gf) (eg : ∀ args w, (callFunc gf args).run P w = .ok (.enter gf args) w)
    {encs : Nat → Array Value} {m : Nat} {Base : World → Prop} {Cb : Obj → Prop} (hseq : CellSeq F (n - 1) P gf lb encs m Base Cb) (hps : ∀ i, (encs i).size = ps.size)
    (I : Nat → Nat → World → Prop) (Ix : Nat → World → Prop) (Ax : Nat → Act → World → Prop)
    (hB0 : ∀ W, Below w.heap.size w W → Base W)
    (hIB : ∀ c i W, I c i W → Base W)
    (hIc : ∀ c i W1 W2, I c i W1 → W1.grownBy W2 (some c) → I c i W2)
    (hIl : ∀ c i W1 r o, I c i W1 → W1.heap[w.heap.size + 1]? = some (.loop r) → I c i (W1.putObj (w.heap.size + 1) o))
    (hIxl : ∀ i W1 r o, Ix i W1 → W1.heap[w.heap.size + 1]? = some (.loop r) → Ix i (W1.putObj (w.heap.size + 1) o))
    (hAl : ∀ i a' W1 r o, Ax i a' W1 → W1.heap[w.heap.size + 1]? = some (.loop r) → Ax i a' (W1.putObj (w.heap.size + 1) o))
    (h0 : ∀ c W1, Below w.heap.size w W1 → w.heap.size + 2 ≤ c → I c 0 W1)
    (hassign : ∀ c i W o (K : Act → World → Prop), I c i W → i < m → w.heap.size + 2 ≤ c → W.heap[c]? = some o → Cb o →
      (∀ a' W', Below W.heap.size W W' → Ax i a' W' → K a' W') →
      assign.wpIn (F.inRound (w.heap.size + 1)) (n - 1 - 1) P (Exit.then K (fun _ _ _ => False)) { tmps := (ps.zip (encs i)).foldl (fun t (p, v) => t.setIfInBounds p v) a.tmps, defers := [] } W)
    (hIa : ∀ c i W W', I c i W → Below W.heap.size W W' → I c i W')
    (hbody : ∀ c i a' W o, I c i W → Ax i a' W → i < m → w.heap.size + 2 ≤ c → W.heap[c]? = some o → Cb o →
      body.wpIn (F.inRound (w.heap.size + 1)) (n - 1 - 1) P (cellPost w.heap.size c (I c (i + 1)) (Ix (i + 1)) W) a' W)
    (hdone : ∀ c W, I c m W → W.heap[w.heap.size]? = some (.deferred (some [])) → Q .normal { a with defers := { target := .collected w.heap.size, args := #[] } :: a.defers } W)
    (hstop : ∀ i W, i < m → Ix (i + 1) W → W.heap[w.heap.size]? = some (.deferred (some [])) → Code.ret.wpIn F n P Q { a with defers := { target := .collected w.heap.size, args := #[] } :: a.defers } W) :
    (Code.rangeFunc g ps assign body).wpIn F n P Q a w := by
  refine wpIn_rangeFunc ?_
  intro fn hfn
  rw [hro]
  obtain ⟨D, hD⟩ : ∃ D, w.heap.size = D := ⟨_, rfl⟩
  obtain ⟨rec, hrec⟩ : ∃ rec : LoopState → Option Code → Loop, rec = fun st pe => { state := st, pending := pe, fn, tmps := a.tmps, params := ps, assign, body, defers := D } := ⟨_, rfl⟩
  obtain ⟨W1, hW1⟩ : ∃ W1, (w.alloc (.deferred (some []))).alloc (.loop (rec .ready none)) = W1 := ⟨_, rfl⟩
  have hL1 : W1.heap[D + 1]? = some (.loop (rec .ready none)) := by
    rw [← hW1, ← hD]; have := World.alloc_heap_new (w.alloc (.deferred (some []))) (.loop (rec .ready none)); rwa [World.size_alloc] at this
  have hK1 : W1.heap[D]? = some (.deferred (some [])) := by
    rw [← hW1, ← hD]; exact (Below.heap_alloc _ _ _ (by simp)).trans (World.alloc_heap_new w _)
  have hb1 : Below D w W1 := by rw [← hW1, ← hD]; exact ((Below.refl _ w).alloc (Nat.le_refl _) _).alloc (by simp) _
  have hs1 : W1.heap.size = D + 2 := by rw [← hW1]; simp [hD]
  rw [hD] at hIl hIxl hAl h0 hassign hbody hdone hstop hB0
  refine ⟨D + 1, [{ target := .collected D, args := #[] }], W1, { target := .fn (.func gf) lb, args := #[.func (.yield (D + 1)) #[] #[]] }, W1, gf,
    #[.func (.yield (D + 1)) #[] #[]] ++ lb, W1, ?_, ?_, ?_, ?_, fun _ => h1, ?_⟩
  · rw [← hW1, hrec, ← hD]; exact run_enterLoop_outer _ _ _ _ _
  · simp only [resolve, hg]
    simp [go_sem]
  · intro f' hf'; simp [Target.leads] at hf'; subst hf'; exact hFg
  · simp [invoke, go_sem, eg]
  · have keep : ∀ {A B : World} {c : Nat} {k : Nat} {o : Obj}, A.grownBy B (some c) → D + 2 ≤ c → k < D + 2 → A.heap[k]? = some o → B.heap[k]? = some o :=
      fun hg' hc hk ho => (hg'.block _ (Array.getElem?_eq_some_iff.1 ho).1 (fun e => by cases e; omega)).trans ho
    refine (hseq (D + 1)
      (fun c i W => I c i W ∧ D + 2 ≤ c ∧ W.heap[D + 1]? = some (.loop (rec .ready none)) ∧ W.heap[D]? = some (.deferred (some [])))
      (fun i W => Ix i W ∧ W.heap[D + 1]? = some (.loop (rec .done (some .ret))) ∧ W.heap[D]? = some (.deferred (some [])))
      W1 (hB0 W1 hb1) (fun c i W h => hIB c i W h.1)
      (fun c i A B hs hg' => ⟨hIc c i A B hs.1 hg', hs.2.1, keep hg' hs.2.1 (by omega) hs.2.2.1, keep hg' hs.2.1 (by omega) hs.2.2.2⟩)
      (fun c W2 hb hc => ⟨h0 c W2 (hb1.trans (hb.mono (by omega))) (by omega), by omega, (hb.block _ (by omega)).trans hL1, (hb.block _ (by omega)).trans hK1⟩)
      ?_).mono ?_
    · rintro c i W o ⟨hi, hc, hl, hk⟩ hco hcb him
      have hcl : c < W.heap.size := (Array.getElem?_eq_some_iff.1 hco).1
      have hlt : D + 1 < W.heap.size := (Array.getElem?_eq_some_iff.1 hl).1
      have hy := run_yield (P := P) (args := encs i) hl (by rw [hrec]; exact hps i)
      rw [hrec] at hy
      refine ⟨fn, _, assign, body, hy, roundIn_of_wpIn hfn (hassign c i W o _ hi him hc hco hcb ?_)⟩
      intro a' Wa hba hax
      have hia := hIa c i W Wa hi hba
      have hla : Wa.heap[D + 1]? = some (.loop (rec .ready none)) := (hba.block _ hlt).trans hl
      have hka : Wa.heap[D]? = some (.deferred (some [])) := (hba.block _ (by omega)).trans hk
      have hca : Wa.heap[c]? = W.heap[c]? := hba.block _ hcl
      have hlta : D + 1 < Wa.heap.size := (Array.getElem?_eq_some_iff.1 hla).1
      refine ⟨_, run_beginRound hla (by rw [hrec]), ?_⟩
      obtain ⟨Wb, hWb⟩ : ∃ Wb, Wa.putObj (D + 1) (.loop { rec .ready none with state := .busy }) = Wb := ⟨_, rfl⟩
      rw [hWb]
      have hl2 : Wb.heap[D + 1]? = some (.loop { rec .ready none with state := .busy }) := by rw [← hWb]; exact World.putObj_heap_same hlta
      have hk2 : Wb.heap[D]? = some (.deferred (some [])) := by rw [← hWb]; exact (World.putObj_heap_other (by omega)).trans hka
      have hc2 : Wb.heap[c]? = W.heap[c]? := by rw [← hWb]; exact (World.putObj_heap_other (by omega)).trans hca
      refine wpIn_mono (hbody c i a' Wb o (by rw [← hWb]; exact hIl c i Wa _ _ hia hla) (by rw [← hWb]; exact hAl i a' Wa _ _ hax hla) him hc (hc2.trans hco) hcb) ?_
      rintro e a3 W3 hp
      cases e with
      | normal =>
        obtain ⟨hD3, hL3, hc3, hi3⟩ := hp
        have hl3 := hL3.trans hl2
        have hr := run_endRound (P := P) none hl3
        have hlt3 := (Array.getElem?_eq_some_iff.1 hl3).1
        rw [hrec] at hr
        refine ⟨_, _, hr, .inl ⟨rfl, ⟨hIl c (i + 1) W3 _ _ hi3 hl3, hc, ?_, ?_⟩, ?_⟩⟩
        · rw [hrec]; exact World.putObj_heap_same hlt3
        · exact (World.putObj_heap_other (by omega)).trans (hD3.trans hk2)
        · exact (World.putObj_heap_other (by omega)).trans (hc3.trans hc2)
      | ret =>
        obtain ⟨hD3, hL3, hi3⟩ := hp
        have hl3 := hL3.trans hl2
        have hr := run_endRound (P := P) (some .ret) hl3
        have hlt3 := (Array.getElem?_eq_some_iff.1 hl3).1
        rw [hrec] at hr
        refine ⟨_, _, hr, .inr ⟨rfl, hIxl (i + 1) W3 _ _ hi3 hl3, ?_, ?_⟩⟩
        · rw [hrec]; exact World.putObj_heap_same hlt3
        · exact (World.putObj_heap_other (by omega)).trans (hD3.trans hk2)
      | exit id => exact hp.elim
      | goto t => exact hp.elim
      | panic ch => exact hp.elim
      | outgrown => exact hp.elim
    · rintro e W2 ⟨⟨v, rfl⟩, (⟨c, hi, hc, hl, hk⟩ | ⟨i, him, hi, hl, hk⟩)⟩
      · exact ⟨none, _, by have := run_endLoop (P := P) hl (by rw [hrec]; simp); rw [hrec] at this; exact this, hdone c _ (hIl c m W2 _ _ hi hl) ((World.putObj_heap_other (by omega)).trans hk)⟩
      · exact ⟨some .ret, _, by have := run_endLoop (P := P) hl (by rw [hrec]; simp); rw [hrec] at this; exact this, hstop i _ him (hIxl (i + 1) W2 _ _ hi hl) ((World.putObj_heap_other (by omega)).trans hk)⟩
end Go.Proofs.Ybulkcryq
