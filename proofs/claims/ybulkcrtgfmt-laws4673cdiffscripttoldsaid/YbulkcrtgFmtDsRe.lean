/-
  zzs4673cname (8), ResumeVectorClock (9).
-/
import Derived.Test.YbulkcrtgFmtDsAm
namespace Go.Proofs.YbulkcrtgFmt
open Go Go.RowKit

set_option maxRecDepth 100000 in
theorem name_any (i : Nat) (hi : i ≤ 5) (w : World) : Calls Ybaf.prog 8 #[.int .i64 i] w fun e w' => e = .returned (.string (nm i)) ∧ w' = w := by
  obtain rfl | rfl | rfl | rfl | rfl | rfl : i = 0 ∨ i = 1 ∨ i = 2 ∨ i = 3 ∨ i = 4 ∨ i = 5 := by omega
  all_goals
    go_enter Ybaf.func8, Ybaf.ntmps8
    go_wp2
    go_ret
    exact ⟨rfl, rfl⟩

set_option maxHeartbeats 4000000 in
set_option maxRecDepth 100000 in
theorem resume_any (p : Nat) (ea : Option Addr) (ec : Nat) (es : List (Nat × Nat)) (w : World) (hn : es.length ≤ 49) (hs : Srt es) (hp : p ≤ 5) (hat : EntAt w ea es) :
    Calls Ybaf.prog 9 #[.string (nm p), .agg #[.slice ea es.length ec]] w fun e w' => ∃ cb ev, e = .returned (.tuple #[.pointer (some ⟨cb, 0, none⟩), .nilIface]) ∧ Clk w.heap.size cb p es none none none 0 ev (.slice none 0 0) (.map none) (.slice none 0 0) 0 [] w' ∧ Below w.heap.size w w' := by
  obtain ⟨n, hln⟩ : ∃ n, es.length = n := ⟨_, rfl⟩
  obtain ⟨W0, hW0⟩ : ∃ W0, w.alloc (.cells #[.slice ea n ec] 44) = W0 := ⟨_, rfl⟩
  have hb0 : Below w.heap.size w W0 := by rw [← hW0]; exact (Below.refl _ w).alloc (Nat.le_refl _) _
  have bx0 : Boxed W0 w.heap.size 44 (.slice ea n ec) := by rw [← hW0]; exact Boxed.new w 44 _
  have q0 := bx0.cell
  have GA := get_any ea ec p es W0 (by omega) hs hp (hat.below hb0)
  rw [hln] at GA ⊢
  have HG := hid GA
  have HB := hid (And.intro hb0 (And.intro bx0 (And.intro hat (And.intro hln hs))))
  clear GA hb0 bx0 hat hs hln
  go_enter Ybaf.func9, Ybaf.ntmps9
  go_wp2_with fail
  go_at_call 19
  refine Calls.mono HG.out ?_
  rintro e W1 ⟨k, hpos, rfl, hb1⟩
  obtain ⟨hb0, bx0, hat, hln, hs⟩ := HB.out
  have hc : ¬ ((cntAt es p k : Int) > 9223372036854775807) := by
    have : cntAt es p k ≤ 8589934592 := by
      unfold cntAt
      split
      · rename_i e he
        split
        · exact (hs.1 e (List.mem_of_getElem? he)).2
        · omega
      · omega
    omega
  have bx1 : Boxed W1 w.heap.size 44 (.slice ea n ec) := (hb1.block _ bx0.lt).trans bx0
  have q1 := bx1.cell
  have hb1' : Below w.heap.size w W1 := hb0.trans (hb1.mono hb0.size)
  have CA := clone_any ea ec es W1 (by omega) (hat.below hb1')
  rw [hln] at CA
  have HC := hid CA
  have HB1 := hid (And.intro hb1' hln)
  clear CA hb0 bx0 hat hln hs hb1 hpos bx1 hb1' HB HG
  go_wp2_with fail
  go_at_call 21
  refine Calls.mono HC.out ?_
  rintro e W2 ⟨v', rfl, o2, hb2⟩
  have HO := hid (And.intro o2 hb2)
  clear o2 hb2 HC
  go_wp2_with fail
  refine ⟨rfl, _, results_tmp2 rfl _ _ _, ?_⟩
  obtain ⟨hb1, hln⟩ := HB1.out
  obtain ⟨o2, hb2⟩ := HO.out
  have s1 := hb1.size
  have s2 := hb2.size
  have hbN : Below w.heap.size w W2 := hb1.trans (hb2.mono s1)
  refine ⟨W2.heap.size, v', rfl, ⟨heap_alloc_new W2 _, by omega, ?_, rfl, .inl ⟨rfl, rfl, rfl⟩, World.ownsRow_nil _ _ _ _, by simp, by simp [Value.ownBlock]⟩, hbN.alloc (by omega) _⟩
  rw [hln]
  exact own_le (o2.alloc _) (by omega)
end Go.Proofs.YbulkcrtgFmt
