/-
  The names, compared.
-/
import Derived.Test.YbulkcrtgFmtDsLq
namespace Go.Proofs.YbulkcrtgFmt
open Go Go.RowKit

theorem nm_eq_fin : ∀ a p : Fin 6, a ≠ p → ((nm a).toList == (nm p).toList) = false := by decide +kernel
theorem nm_neq {a p : Nat} (ha : a ≤ 5) (hp : p ≤ 5) (h : a ≠ p) : ((nm a).toList == (nm p).toList) = false := nm_eq_fin ⟨a, by omega⟩ ⟨p, by omega⟩ (fun e => h (by simpa using e))
theorem nm_less_fin : ∀ a p : Fin 6, Op.bytesLess (nm a).toList (nm p).toList = decide (a.1 < p.1) := by decide +kernel
theorem nm_less {a p : Nat} (ha : a ≤ 5) (hp : p ≤ 5) : Op.bytesLess (nm a).toList (nm p).toList = decide (a < p) := nm_less_fin ⟨a, by omega⟩ ⟨p, by omega⟩
end Go.Proofs.YbulkcrtgFmt
