/-
  The map of the last sends: read and written.
-/
import Derived.Test.YbulkcrtgFmtDsTk
namespace Go.Proofs.YbulkcrtgFmt
open Go Go.RowKit Go.Maps
open Go.WideMaps (keyOf_string_mk)

/-- The two peers. -/
def pr : Bool → ByteArray | false => ⟨#[120]⟩ | true => ⟨#[121]⟩
def prL : Bool → Lit | false => .string [120] | true => .string [121]
def lastOf (j : Bool) (sx sy : Option Nat) : Option Nat := if j then sy else sx
theorem strKey : Keyed Ybaf.prog 9 := string_keyed Ybaf.underlying9
theorem zero34 (w : World) : (zeroValue 34).run Ybaf.prog w = .ok (.int .u64 0) w := by kernel_rfl
theorem keyPr (j : Bool) : keyOf Ybaf.prog 9 (.string (pr j)) = some (prL j) := by
  cases j
  · exact keyOf_string_mk Ybaf.underlying9 (by decide)
  · exact keyOf_string_mk Ybaf.underlying9 (by decide)
theorem sent_has (j : Bool) (sx sy : Option Nat) : Maps.has (sentD sx sy) (prL j) = (lastOf j sx sy).isSome := by
  cases j <;> cases sx <;> cases sy <;> rfl
theorem sent_at (j : Bool) (sx sy : Option Nat) : (sentD sx sy).atKey (prL j) (.lit (.int .u64 0)) = .lit (.int .u64 ((lastOf j sx sy).getD 0 : Nat)) := by
  cases j <;> cases sx <;> cases sy <;> rfl
theorem sent_put (j : Bool) (sx sy : Option Nat) (c : Nat) : (sentD sx sy).put (prL j) (.lit (.int .u64 c)) = sentD (if j then sx else some c) (if j then some c else sy) := by
  cases j <;> cases sx <;> cases sy <;> rfl
theorem own_two {w : World} {b n : Nat} {sx sy : Option Nat} (h : w.ownsMap Ybaf.prog 9 (plainElem Ybaf.prog 34) b n (sentD sx sy)) : w.ownsMap Ybaf.prog 9 (plainElem Ybaf.prog 34) b 2 (sentD sx sy) := by
  obtain ⟨es, cl, h1, h2, _, h4⟩ := h
  refine ⟨es, cl, h1, h2, ?_, h4⟩
  have e := congrArg Maps.size h4
  have e2 : Maps.size (DataW.map ((es.toList.map (WideElems.rg Ybaf.prog 9 (plainElem (H := Unit) Ybaf.prog 34))).foldr DataW.insert [])) = es.size := by simp [Maps.size, length_read]
  rw [e2] at e
  have e3 : Maps.size (sentD sx sy) ≤ 2 := by cases sx <;> cases sy <;> simp [Maps.size, sentD]
  omega
theorem look_sent {H : Nat} {w : World} {mv : Value} {sx sy : Option Nat} (h : SentAt H w mv sx sy) (j : Bool) : (Instr.lookup 61 mv (.string (pr j)) true).run Ybaf.prog w = .ok (.tuple #[.int .u64 ((lastOf j sx sy).getD 0 : Nat), .bool (lastOf j sx sy).isSome]) w := by
  rcases h with ⟨rfl, rfl, rfl⟩ | ⟨b, rfl, _, hm⟩
  · rw [Maps.look_nil true strKey Ybaf.underlying61 (zero34 w) (keyPr j)]
    cases j <;> rfl
  · obtain ⟨v, ps, hr, hv⟩ := hm.look_ok strKey Ybaf.underlying61 (zero34 w) (plainElem_int Ybaf.underlying34 (by decide)) (keyPr j)
    rw [sent_at] at hv
    obtain ⟨a, rfl, ha, _⟩ := plainElem_int_inv Ybaf.underlying34 hv
    simp only [Prod.mk.injEq, DataW.lit.injEq, Lit.int.injEq, true_and] at ha
    rw [hr, sent_has, ← ha.1]
theorem put_sent {w : World} {b : Nat} {sx sy : Option Nat} (h : w.ownsMap Ybaf.prog 9 (plainElem Ybaf.prog 34) b 2 (sentD sx sy)) (j : Bool) (c : Nat) (hc : c < 18446744073709551616) :
    ∃ w', (Instr.mapUpdate 61 (.map (some b)) (.string (pr j)) (.int .u64 c)).run Ybaf.prog w = .ok () w' ∧ w'.ownsMap Ybaf.prog 9 (plainElem Ybaf.prog 34) b 2 (sentD (if j then sx else some c) (if j then some c else sy)) ∧ w.grownBy w' (some b) := by
  have hwf : (Lit.int .u64 (c : Int)).wf = true := by
    exact WalkArith.wf_u64 ⟨by omega, by omega⟩
  obtain ⟨w', hr, hm, ht⟩ := h.store strKey Ybaf.underlying61 (by unfold maxLen; omega) (keyPr j) (plainElem_int Ybaf.underlying34 hwf)
  rw [sent_put] at hm
  exact ⟨w', hr, own_two hm, ht.grown⟩
theorem made_sent (w : World) : (w.alloc (.map #[] 0)).ownsMap Ybaf.prog 9 (plainElem (H := Unit) Ybaf.prog 34) w.heap.size 2 (sentD none none) := by
  have := World.ownsMap_made (H := Unit) w Ybaf.prog 9 (plainElem Ybaf.prog 34)
  exact this.mono (by omega)
end Go.Proofs.YbulkcrtgFmt
