/-
  slices.Equal over chains (8) where both hold the same; trimFront where nothing is packed.
-/
import Derived.Test.YbulkcryqClo
namespace Go.Proofs.Ybulkcryq
open Go Go.RowKit Go.Shelf

set_option maxHeartbeats 4000000 in
set_option maxRecDepth 100000 in
theorem equal_same (sa sb : Option Addr) (ca cb : Nat) (cs : List (Int × Int)) (w : World) (hn : cs.length ≤ 1000) (ha : ChainsAt w sa cs) (hb : ChainsAt w sb cs) :
    Calls Yba.prog 8 #[.slice sa cs.length ca, .slice sb cs.length cb] w fun e w' => e = .returned (.bool true) ∧ Below w.heap.size w w' := by
  have HA : Hid (ChainsAt w sa cs ∧ ChainsAt w sb cs) := ⟨ha, hb⟩
  clear ha hb
  go_enter Yba.func8, Yba.ntmps8
  go_wp2
  go_loopw [13] (fun vx wr => ∃ k : Nat, k ≤ cs.length ∧ vx = .int .i64 k ∧ Below w.heap.size w wr) (fun vx _ => cs.length - (intOf vx).toNat)
  case atStart => exact ⟨0, by omega, rfl, Below.refl _ _⟩
  case round =>
    obtain ⟨k, hk, rfl, hbl⟩ := hrel
    by_cases hlt : k < cs.length
    · obtain ⟨⟨a, b⟩, hc⟩ : ∃ c, cs[k]? = some c := ⟨cs[k], List.getElem?_eq_getElem (by omega)⟩
      obtain ⟨g, o, rfl, h0, h1⟩ := HA.out.1 k _ hc
      obtain ⟨g2, o2, rfl, h2, h3⟩ := HA.out.2 k _ hc
      have q0 : wr.cell? ⟨g, o + k * 2, none⟩ = some (.int .i32 a) := (hbl.cell (p := ⟨g, _, none⟩) (World.block_lt_of_cell? w _ h0)).trans h0
      have q1 : wr.cell? ⟨g, o + k * 2 + 1, none⟩ = some (.int .i32 b) := (hbl.cell (p := ⟨g, _, none⟩) (World.block_lt_of_cell? w _ h1)).trans h1
      have q2 : wr.cell? ⟨g2, o2 + k * 2, none⟩ = some (.int .i32 a) := (hbl.cell (p := ⟨g2, _, none⟩) (World.block_lt_of_cell? w _ h2)).trans h2
      have q3 : wr.cell? ⟨g2, o2 + k * 2 + 1, none⟩ = some (.int .i32 b) := (hbl.cell (p := ⟨g2, _, none⟩) (World.block_lt_of_cell? w _ h3)).trans h3
      have i1 : (0 : Int) ≤ (k : Int) := by omega
      have i2 : (k : Int) < (cs.length : Int) := by omega
      clear h0 h1 h2 h3 hc
      go_wp2_with fail
      go_region
      all_goals go_wp2
      all_goals go_roundw
      all_goals first
        | (refine ⟨k + 1, by omega, by go_num, hbl.drew⟩)
        | (simp [intOf]; omega)
    · obtain rfl : k = cs.length := by omega
      go_wp2
      go_ret
      exact ⟨rfl, hbl⟩

set_option maxHeartbeats 4000000 in
set_option maxRecDepth 100000 in
/-- trimFront where nothing is packed. -/
theorem front_nil (Lb klb kkb kpb tlb shb pc : Nat) (pa : Option Addr) (w : World) (hL : Boxed w Lb 32 (.slice pa 0 pc)) :
    Calls Yba.prog 7 #[.pointer (some ⟨Lb, 0, none⟩), .func (.func 5) #[] #[.pointer (some ⟨klb, 0, none⟩), .pointer (some ⟨kkb, 0, none⟩), .pointer (some ⟨kpb, 0, none⟩)], .func (.func 6) #[] #[.pointer (some ⟨tlb, 0, none⟩), .pointer (some ⟨shb, 0, none⟩)]] w fun e w' => (∃ v, e = .returned v) ∧ Below w.heap.size w w' := by
  have c1 := hL.cell
  have l1 : Lb < w.heap.size := hL.lt
  have n1 : ¬ Lb = w.heap.size := by omega
  have n2 : ¬ Lb = w.heap.size + 1 := by omega
  have n3 : ¬ Lb = w.heap.size + 1 + 1 := by omega
  have c3 : (((w.alloc (.cells #[.pointer (some ⟨Lb, 0, none⟩)] 44)).alloc (.cells #[.func (.func 5) #[] #[.pointer (some ⟨klb, 0, none⟩), .pointer (some ⟨kkb, 0, none⟩), .pointer (some ⟨kpb, 0, none⟩)]] 33)).alloc (.cells #[.func (.func 6) #[] #[.pointer (some ⟨tlb, 0, none⟩), .pointer (some ⟨shb, 0, none⟩)]] 34)).cell? ⟨Lb, 0, none⟩ = some (.slice pa 0 pc) :=
    (World.cell?_of_block (a := ⟨Lb, 0, none⟩) ((Below.heap_alloc _ _ _ (by simp; omega)).trans ((Below.heap_alloc _ _ _ (by simp; omega)).trans (Below.heap_alloc _ _ _ l1)))).trans c1
  clear hL
  go_enter Yba.func7, Yba.ntmps7
  go_wp2
  refine bodyPost_ret (v := .tuple #[]) ?_ rfl ?_
  · simp [results, Yba.f7]
  exact ⟨⟨_, rfl⟩, (((Below.refl _ w).alloc (Nat.le_refl _) _).alloc (by simp) _).alloc (by simp; omega) _⟩
end Go.Proofs.Ybulkcryq
