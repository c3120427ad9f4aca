/-
  Stamp.Get (19).
-/
import Derived.Test.YbulkcrtgFmtDsSr
namespace Go.Proofs.YbulkcrtgFmt
open Go Go.RowKit
/-- p's count; 0 where it has none. -/
def cntAt (es : List (Nat × Nat)) (p k : Nat) : Nat := match es[k]? with | some e => if e.1 = p then e.2 else 0 | none => 0
set_option maxHeartbeats 2000000 in
set_option maxRecDepth 100000 in
theorem get_any (ea : Option Addr) (ec p : Nat) (es : List (Nat × Nat)) (w : World) (hn : es.length ≤ 100) (hs : Srt es) (hp : p ≤ 5) (hat : EntAt w ea es) :
    Calls Ybaf.prog 19 #[.agg #[.slice ea es.length ec], .string (nm p)] w fun e w' => ∃ k, PosOf es p k ∧ e = .returned (.int .u64 (cntAt es p k)) ∧ Below w.heap.size w w' := by
  have hb0 : Below w.heap.size w (w.alloc (.cells #[.slice ea es.length ec] 44)) := (Below.refl _ w).alloc (Nat.le_refl _) _
  have SR := search_any ea ec p es (w.alloc (.cells #[.slice ea es.length ec] 44)) hn hs hp (hat.below hb0)
  have HS : Hid _ := SR
  have HA : Hid (EntAt (w.alloc (.cells #[.slice ea es.length ec] 44)) ea es) := hat.below hb0
  clear SR hat hs
  go_enter Ybaf.func19, Ybaf.ntmps19
  go_wp2_with fail
  go_at_call 31
  refine Calls.mono HS.out ?_
  rintro e w1 ⟨k, hk, rfl, hb⟩
  have hB1 : Below w.heap.size w w1 := hb0.trans (hb.mono (by simp))
  have bx : Boxed w1 w.heap.size 44 (.slice ea es.length ec) := (hb.block _ (by simp)).trans (Boxed.new w 44 _)
  have bc := bx.cell
  cases hf : isAt es p k with
  | false =>
    go_wp2
    go_ret
    refine ⟨k, hk, ?_, hB1⟩
    have : cntAt es p k = 0 := by
      unfold isAt at hf; unfold cntAt
      split at hf
      · rename_i e he
        simp only [he]
        rw [if_neg (by simpa using hf)]
      · rename_i he; simp only [he]
    rw [this]; rfl
  | true =>
    obtain ⟨⟨a, c⟩, he⟩ : ∃ e, es[k]? = some e := by
      unfold isAt at hf
      split at hf
      · exact ⟨_, by assumption⟩
      · cases hf
    have hap : a = p := by simpa [isAt, he] using hf
    have hcc : cntAt es p k = c := by simp [cntAt, he, hap]
    have hkl := (List.getElem?_eq_some_iff.1 he).1
    obtain ⟨g, o, rfl, h0, h1⟩ := HA.out k _ he
    have q1 : w1.cell? ⟨g, o + k * 2 + 1, none⟩ = some (.int .u64 c) := (hb.cell (p := ⟨g, _, none⟩) (World.block_lt_of_cell? _ _ h1)).trans h1
    have i1 : (0 : Int) ≤ (k : Int) := by omega
    have i2 : (k : Int) < (es.length : Int) := by omega
    have HC : Hid (PosOf es p k ∧ cntAt es p k = c) := ⟨hk, hcc⟩
    clear h0 h1 he hk hcc
    go_wp2
    go_ret
    exact ⟨k, HC.out.1, by rw [HC.out.2]; rfl, hB1⟩
end Go.Proofs.YbulkcrtgFmt
