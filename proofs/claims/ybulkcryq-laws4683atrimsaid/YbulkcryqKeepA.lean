/-
  The body of trimFront's loop at the first chain kept.
-/
import Derived.Test.YbulkcryqBody
namespace Go.Proofs.Ybulkcryq
open Go Go.RowKit Go.Shelf

attribute [local go_sem] Oper.semAt_some

/-- A region with several orders, all of which end alike: what follows is walked once. -/
theorem once {F : Fence} {n : Nat} {P : Program} {c : Code} {Q : Exit → Act → World → Prop} {a a0 : Act} {w : World} (Q0 : World → Prop) (h : c.wpIn F n P (fun e a' w' => e = .normal ∧ a' = a0 ∧ Q0 w') a w) (k : ∀ w', Q0 w' → Q .normal a0 w') : c.wpIn F n P Q a w :=
  wpIn_mono h (by rintro e a' w' ⟨rfl, rfl, hq⟩; exact k w' hq)

/-- Behind keep and trim, from the round's world W on. -/
structure TrimOut (H klb kkb tlb : Nat) (cb : List (Int × Int)) (c i : Nat) (W W2 : World) : Prop where
  os : W2.os = W.os
  output : W2.output = W.output
  size : W.heap.size ≤ W2.heap.size
  block : ∀ k, k < W.heap.size → k ≠ klb → k ≠ kkb → k ≠ tlb → (k < H + 8 ∨ k = c ∨ ∀ klv, Boxed W klb 24 klv → klv.ownBlock ≠ some k) → W2.heap[k]? = W.heap[k]?
  klog : ∃ klv', Boxed W2 klb 24 klv' ∧ W2.ownsRow (H + 8) 28 2 klv' (i + 1) (chainCells (cb.take (i + 1)))
  tlog : ∃ tlv, Boxed W2 tlb 24 tlv ∧ W2.ownsRow (H + 8) 28 2 tlv 1 (chainCells [chainOf cb i])

section
variable {M Lb klb kkb kpb tlb shb g cap : Nat} {ka : Option Addr} {kc : Nat} {ks : List Bool} {sh : Int} {cb : List (Int × Int)} {cl : Int × Int} {w : World}
theorem trim_step (hin : FrontIn M Lb klb kkb kpb tlb shb g cap ka kc ks sh cb cl w) {N c i : Nat} {W W1 : World} (hi : Inv w.heap.size Lb klb kkb kpb tlb shb g N cap ks cb w c i W) (hsz : w.heap.size + 8 ≤ W.heap.size) (ko : KeepOut w.heap.size klb kkb cb c i W W1) :
    Calls Yba.prog 6 #[.agg #[.int .i32 (chainOf cb i).1, .int .i32 (chainOf cb i).2], .pointer (some ⟨tlb, 0, none⟩), .pointer (some ⟨shb, 0, none⟩)] W1 fun e W2 =>
      e = .returned (.agg #[.int .i32 (wrap32 ((chainOf cb i).1 + sh)), .int .i32 (chainOf cb i).2]) ∧ TrimOut w.heap.size klb kkb tlb cb c i W W2 := by
  have n1 : tlb ≠ kkb := Boxed.ne hin.tlog hin.kcnt (by decide)
  have n2 : shb ≠ klb := Boxed.ne hin.shift hin.klog (by decide)
  have n3 : shb ≠ kkb := Boxed.ne hin.shift hin.kcnt (by decide)
  have ht1 : Boxed W1 tlb 24 (.slice none 0 0) := by
    have hl := hin.tlog.lt
    exact (keep_block hin hi ko tlb (by omega) hin.ne.symm n1 (.inl (by omega))).trans (hi.kept.boxed hin.tlog hl (fun e => by rcases e with e | e; exact hin.ne e.symm; exact n1 e))
  have hs1 : Boxed W1 shb 21 (.int .i32 sh) := by
    have hl := hin.shift.lt
    exact (keep_block hin hi ko shb (by omega) n2 n3 (.inl (by omega))).trans (hi.kept.boxed hin.shift hl (fun e => by rcases e with e | e; exact n2 e; exact n3 e))
  refine (trim_any tlb shb _ _ sh W1 ht1 hs1).mono ?_
  rintro e W2 ⟨rfl, hk, tlv, t1, t2⟩
  obtain ⟨klv, q1, q2⟩ := ko.kept
  obtain ⟨klv', k1, k2, k3⟩ := ko.log
  have hsz1 := q2.size
  have hk1 := k1.lt
  refine ⟨rfl, hk.os.trans q2.os, hk.output.trans q2.output, Nat.le_trans q2.size hk.size, fun k hk0 h1 h2 h3 h4 => ?_, ⟨klv', hk.boxed k1 hk1 hin.ne, hk.own k2 (fun k e => ⟨(k2.lt k e).2, fun e' => ?_⟩)⟩, tlv, t1, own_le t2 (by omega)⟩
  · exact (hk.block k (by omega) h3).trans (keep_block hin hi ko k hk0 h1 h2 h4)
  · have := (k2.lt k e).1
    have := hin.tlog.lt
    omega

/-- The round that keeps a chain ends as it should, whatever way the packed bytes were laid. -/
theorem keep_end (hin : FrontIn M Lb klb kkb kpb tlb shb g cap ka kc ks sh cb cl w) {N c i : Nat} {W W2 W' : World} (hi : Inv w.heap.size Lb klb kkb kpb tlb shb g N cap ks cb w c i W) (him : i < cb.length) (hl1 : w.heap.size + 7 < W.heap.size) (hf : (ks[i]?).getD false = true)
    (to : TrimOut w.heap.size klb kkb tlb cb c i W W2) {a b t1 : Int} (hxc : chainOf cb i = (a, b)) (ht1 : wrap32 (a + sh) = t1) (hk : KeptB W2.heap.size (fun k => k = Lb ∨ k = g) W2 W')
    (pk : List UInt8) (hpk : pk = encode ((t1, b) :: (cb ++ [cl]).drop (i + 1))) (hp : ∃ pa cap', Boxed W' Lb 32 (.slice pa pk.length cap') ∧ (pk ≠ [] → ∃ g' o', pa = some ⟨g', o', none⟩ ∧ BytesFrom W' g' o' pk)) (I : World → Prop) (a0 : Act) :
    cellPost (w.heap.size + 6) c I (Ix7 w.heap.size Lb klb kkb tlb g ks sh (cb ++ [cl]) w) W .ret a0 W' := by
  have hLl := hin.list.lt
  have hgl := (hin.row.lt g rfl).2
  have hkl := hin.klog.lt
  have hkk := hin.kcnt.lt
  have htl := hin.tlog.lt
  have nLk : klb ≠ Lb := Boxed.ne hin.klog hin.list (by decide)
  have nLc : kkb ≠ Lb := Boxed.ne hin.kcnt hin.list (by decide)
  have nLt : tlb ≠ Lb := Boxed.ne hin.tlog hin.list (by decide)
  have ngk : klb ≠ g := fun e => hin.klog.not_row (by decide) hin.row (by rw [e]; rfl)
  have ngt : tlb ≠ g := fun e => hin.tlog.not_row (by decide) hin.row (by rw [e]; rfl)
  have hs2 := to.size
  have B : ∀ k, k < W.heap.size → k ≠ klb → k ≠ kkb → k ≠ tlb → k ≠ Lb → k ≠ g → k < w.heap.size + 8 → W'.heap[k]? = W.heap[k]? := fun k h0 h1 h2 h3 h4 h5 h6 =>
    (hk.block k (by omega) (fun e => by rcases e with e | e; exact h4 e; exact h5 e)).trans (to.block k h0 h1 h2 h3 (.inl h6))
  have hci : cb[i]? = some (a, b) := by rw [← hxc]; simp [chainOf, him]
  obtain ⟨klv, k1, k2⟩ := to.klog
  obtain ⟨tlv, u1, u2⟩ := to.tlog
  have hk1 := k1.lt
  have hu1 := u1.lt
  refine ⟨B _ (by omega) (by omega) (by omega) (by omega) (by omega) (by omega) (by omega), B _ (by omega) (by omega) (by omega) (by omega) (by omega) (by omega) (by omega), ?_, (cb ++ [cl]).take (i + 1), [(a, b)], pk, .inr ⟨i, (a, b), ?_, hi.none, hf, rfl, rfl, ?_⟩, ?_⟩
  · have := hk.size; omega
  · rw [List.getElem?_append_left him]; exact hci
  · rw [hpk, ht1]
  · refine ⟨?_, ⟨klv, hk.boxed k1 hk1 (fun e => by rcases e with e | e; exact nLk e; exact ngk e), ?_⟩, ⟨tlv, hk.boxed u1 hu1 (fun e => by rcases e with e | e; exact nLt e; exact ngt e), ?_⟩, hp⟩
    · refine (hi.kept.mono (Nat.le_refl _) (fun k _ e => by rcases e with e | e; exact .inr (.inl e); exact .inr (.inr (.inl e)))).trans ⟨hk.os.trans to.os, hk.output.trans to.output, Nat.le_trans to.size hk.size, fun k h0 hne => ?_⟩
      exact B k (by omega) (fun e => hne (.inr (.inl e))) (fun e => hne (.inr (.inr (.inl e)))) (fun e => hne (.inr (.inr (.inr (.inl e))))) (fun e => hne (.inl e)) (fun e => hne (.inr (.inr (.inr (.inr e))))) (by omega)
    · have hlen : ((cb ++ [cl]).take (i + 1)).length = i + 1 := by simp; omega
      rw [hlen, List.take_append_of_le_length (by omega)]
      refine own_le (hk.own k2 (fun k e => ⟨(k2.lt k e).2, fun s => ?_⟩)) (by omega)
      have := (k2.lt k e).1
      rcases s with s | s <;> omega
    · rw [← hxc]
      refine own_le (hk.own u2 (fun k e => ⟨(u2.lt k e).2, fun s => ?_⟩)) (by omega)
      have := (u2.lt k e).1
      rcases s with s | s <;> omega

/-- The list as it was packed, seen from its first chain. -/
theorem encode_same (cb : List (Int × Int)) (cl c : Int × Int) (h : cb[0]? = some c) : encode (c :: (cb ++ [cl]).drop 1) = packB cb ++ lastB cl := by
  cases cb with
  | nil => simp at h
  | cons d ds =>
    simp at h; subst h
    rw [show d :: (d :: ds ++ [cl]).drop 1 = d :: ds ++ [cl] by simp, encode_snoc]

end
end Go.Proofs.Ybulkcryq
