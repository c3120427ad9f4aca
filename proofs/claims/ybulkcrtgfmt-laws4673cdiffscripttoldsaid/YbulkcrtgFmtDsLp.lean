/-
  The law's state behind the front.
-/
import Derived.Test.YbulkcrtgFmtDsLo
namespace Go.Proofs.YbulkcrtgFmt
open Go Go.RowKit

theorem Clk.low {H H' cb p : Nat} {es : List (Nat × Nat)} {rs : Option (List Nat)} {sx sy : Option Nat} {st : Int} {ev rv mv dv : Value} {nd : Nat} {xd : List Value} {W : World} (h : Clk H cb p es rs sx sy st ev rv mv dv nd xd W) (hl : H' ≤ H) : Clk H' cb p es rs sx sy st ev rv mv dv nd xd W := by
  refine ⟨h.box, Nat.le_trans hl h.cge, own_le h.ent hl, ?_, ?_, own_le h.dif hl, h.one, h.apt⟩
  · have hr := h.rai
    cases rs with
    | none => exact hr
    | some l => exact ⟨own_le hr.1 hl, hr.2⟩
  · rcases h.snt with h0 | ⟨b, h1, h2, h3⟩
    · exact .inl h0
    · exact .inr ⟨b, h1, Nat.le_trans hl h2, h3⟩
theorem law_start {w Wf Wg W2 : World} {E : List (Nat × Nat)} {n nc cc cb p : Nat} {na ca : Option Addr} {ev : Value} (hs : Srt E) (hb : Bd E (4294967296 + 0)) (hn : E.length = n) (nrow : Wf.ownsRow w.heap.size 9 1 (.slice na n nc) n (nmCells E)) (crow : Wf.ownsRow w.heap.size 34 1 (.slice ca n cc) n (cnCells E)) (hkw : KeptB w.heap.size (fun _ => False) w Wf)
    (ki : KeptB Wf.heap.size (fun _ => False) Wf Wg) (hk : Clk Wg.heap.size cb p E none none none 0 ev (.slice none 0 0) (.map none) (.slice none 0 0) 0 [] W2) (hb2 : Below Wg.heap.size Wg W2) (W3 : World) (hW3 : W3 = W2.alloc (.cells #[.bool false, .bool false] 45)) :
    LawSt w.heap.size cb W2.heap.size p 0 E none none none E E (.slice na n nc) (.slice ca n cc) (none : Option Nat).isSome (none : Option Nat).isSome w W3 := by
  have s1 := hkw.size
  have s2 := ki.size
  have s3 := hb2.size
  have k3 : KeptB W2.heap.size (fun _ => False) W2 W3 := by rw [hW3]; exact KeptB.alloc _ (Nat.le_refl _)
  have s4 := k3.size
  have kk : KeptB Wf.heap.size (fun _ => False) Wf W3 := ki.trans ((KeptB.below (hb2.mono s2)).trans (k3.mono (by omega) (fun _ _ h => h)))
  subst hn
  refine ⟨⟨ev, _, _, _, _, _, (hk.low (by omega)).still k3, fun k e => by simp [Value.ownBlock]⟩, ⟨fun _ => ⟨rfl, rfl⟩, fun l h => by cases h⟩, hs, hb, kk.own nrow (fun k e => ⟨(nrow.lt k e).2, fun h => h⟩), kk.own crow (fun k e => ⟨(crow.lt k e).2, fun h => h⟩), ?_, by omega, hkw.trans (kk.mono s1 (fun _ _ h => h)), by omega⟩
  rw [hW3]
  exact heap_alloc_new W2 _
end Go.Proofs.YbulkcrtgFmt
