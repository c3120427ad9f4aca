/-
  LawS4673CDiffScript (4) where a length is above its bound.
-/
import Derived.Test.YbulkcrtgFmtDsLs
namespace Go.Proofs.YbulkcrtgFmt
open Go Go.RowKit

set_option maxHeartbeats 4000000 in
set_option maxRecDepth 100000 in
theorem law_big (mask proc : Int) (ka oa da pa : Option Addr) (kl kc ol oc dn dc pn pc : Nat) (w : World) (h : 300 < ol ∨ 1024 < dn ∨ 1024 < pn) :
    Calls Ybaf.prog 4 #[.int .u8 mask, .slice ka kl kc, .int .u8 proc, .slice oa ol oc, .slice da dn dc, .slice pa pn pc] w fun e w' => e = .returned (.bool true) ∧ KeptB w.heap.size (fun _ => False) w w' := by
  by_cases h1 : (ol : Int) > 300
  · clear h
    go_enter Ybaf.func4, Ybaf.ntmps4
    go_wp2
    go_ret
    exact ⟨rfl, KeptB.refl _ _ _⟩
  · by_cases h2 : (dn : Int) > 1024
    · clear h
      go_enter Ybaf.func4, Ybaf.ntmps4
      go_wp2
      go_ret
      exact ⟨rfl, KeptB.refl _ _ _⟩
    · have h3 : (pn : Int) > 1024 := by omega
      clear h
      go_enter Ybaf.func4, Ybaf.ntmps4
      go_wp2
      go_ret
      exact ⟨rfl, KeptB.refl _ _ _⟩
end Go.Proofs.YbulkcrtgFmt
