/-
  'armed' (function 9) BY ITS CONTRACT: an event whose DP is 7 (OAnswer) comes back with leg 0, any other comes back as it went in; nothing that was there has turned.
-/
import Derived.Test.YbulkcrpmRows
import Derived.WalkKit
import Derived.ProofKit
namespace Go.Proofs.Ybulkcrpm
open Go.ChangeShapes Go.WideShapes Go.ChangeAt Go.RowKit
set_option linter.unusedVariables false

theorem grown_trans {a b c : World} (h1 : Grown a b) (h2 : Grown b c) : Grown a c :=
  ⟨World.keptBut_trans h1.1 h2.1, fun x => (h2.2.1 x).trans (h1.2.1 x), Nat.le_trans h1.2.2 h2.2.2⟩

theorem bcell {W w1 : World} (hb : Below W.heap.size W w1) : (∀ b o, b < W.heap.size → w1.cell? ⟨b, o, none⟩ = W.cell? ⟨b, o, none⟩) ∧ (∀ b o, b < W.heap.size → w1.frozen? ⟨b, o, none⟩ = W.frozen? ⟨b, o, none⟩) :=
  ⟨fun b o h => hb.cell (p := ⟨b, o, none⟩) h, fun b o h => hb.frozen (p := ⟨b, o, none⟩) h⟩

theorem armed_yes (l : Int) (w : World) :
    Calls Yba.prog 9 #[.agg #[.int .i64 7, .int .i64 l]] w fun e w' => e = .returned (.agg #[.int .i64 7, .int .i64 0]) ∧ Below w.heap.size w w' ∧ Grown w w' := by
  go_enter Yba.func9, Yba.ntmps9
  go_wp2
  exact bodyPost_ret (v := .agg #[.int .i64 7, .int .i64 0]) (by simp [results, Yba.results9, go_sem]) rfl ⟨rfl, ((Below.refl _ _).alloc (Nat.le_refl _) _).alloc (by simp) _, ((Grown.refl _).alloc _ _).alloc _ _⟩

theorem armed_no (d l : Int) (w : World) (h : (d == 7) = false) :
    Calls Yba.prog 9 #[.agg #[.int .i64 d, .int .i64 l]] w fun e w' => e = .returned (.agg #[.int .i64 d, .int .i64 l]) ∧ Below w.heap.size w w' ∧ Grown w w' := by
  go_enter Yba.func9, Yba.ntmps9
  go_wp2
  exact bodyPost_ret (v := .agg #[.int .i64 d, .int .i64 l]) (by simp [results, Yba.results9, go_sem]) rfl ⟨rfl, ((Below.refl _ _).alloc (Nat.le_refl _) _).alloc (by simp) _, ((Grown.refl _).alloc _ _).alloc _ _⟩
end Go.Proofs.Ybulkcrpm
