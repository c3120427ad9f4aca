/-
  THE LAW's CLOSURE (function 6) BY ITS CONTRACT.
-/
import Derived.Test.YbulkcrtgFmtErr
import Derived.Deep.QuietTactic
import Derived.BigQuiet
namespace Go.Proofs.YbulkcrtgFmt
open Go Go.RowKit Go.Extern.Stop Go.Stop Go.Extern

theorem cell_set_other {w : World} {a b : Addr} {u : Value} (h : b.block ≠ a.block) : (w.setCell a u).cell? b = w.cell? b := World.cell?_of_block (Below.heap_setCell w a u b.block h)

/-- The octets zs lie at da. -/
def OctetsAt (w : World) (da : Option Addr) (zs : List Int) : Prop := ∀ (i : Nat) (z : Int), zs[i]? = some z → ∃ g o, da = some ⟨g, o, none⟩ ∧ w.cell? ⟨g, o + i, none⟩ = some (.int .u8 z)

set_option maxHeartbeats 400000 in
theorem closure_any (fl : Bool) (zs : List Int) (da : Option Addr) (cap : Nat) (an nn : Int) (sv : Value) (bc bd bs bf ba bm be : Nat) (w : World) (hn : zs.length ≤ 4096)
    (hc : w.cell? ⟨bc, 0, none⟩ = some (.int .i64 0)) (hcf : w.frozen? ⟨bc, 0, none⟩ = false) (hd : w.cell? ⟨bd, 0, none⟩ = some (.slice da zs.length cap)) (hfl : w.cell? ⟨bf, 0, none⟩ = some (.bool fl))
    (ha : w.cell? ⟨ba, 0, none⟩ = some (.int .i64 an)) (hm : w.cell? ⟨bm, 0, none⟩ = some (.int .i64 nn)) (hs : w.cell? ⟨be, 0, none⟩ = some sv) (hz : OctetsAt w da zs) (nd : bd ≠ bc) (nf : bf ≠ bc) (na : ba ≠ bc) (nm : bm ≠ bc) (ne : be ≠ bc) (hlow : ∀ g o i, da = some ⟨g, o, none⟩ → i < zs.length → g ≠ bc) :
    Calls Ybaf.prog 6 #[.slice da zs.length cap, .pointer (some ⟨bc, 0, none⟩), .pointer (some ⟨bd, 0, none⟩), .pointer (some ⟨bs, 0, none⟩), .pointer (some ⟨bf, 0, none⟩), .pointer (some ⟨ba, 0, none⟩), .pointer (some ⟨bm, 0, none⟩), .pointer (some ⟨be, 0, none⟩)] w
      fun e w' => e = .returned (.tuple #[.int .i64 an, .int .i64 nn, if fl then sv else .nilIface]) ∧ ∃ q, w' = (w.setCell ⟨bc, 0, none⟩ (.int .i64 1)).drewN q := by
  go_enter Ybaf.func6, Ybaf.ntmps6
  go_wp2
  obtain ⟨w0, hw0⟩ : ∃ w0, w0 = w.setCell ⟨bc, 0, none⟩ (.int .i64 1) := ⟨_, rfl⟩
  have hd0 : w0.cell? ⟨bd, 0, none⟩ = some (.slice da zs.length cap) := by rw [hw0, cell_set_other (by exact nd)]; exact hd
  have hfl0 : w0.cell? ⟨bf, 0, none⟩ = some (.bool fl) := by rw [hw0, cell_set_other (by exact nf)]; exact hfl
  have ha0 : w0.cell? ⟨ba, 0, none⟩ = some (.int .i64 an) := by rw [hw0, cell_set_other (by exact na)]; exact ha
  have hm0 : w0.cell? ⟨bm, 0, none⟩ = some (.int .i64 nn) := by rw [hw0, cell_set_other (by exact nm)]; exact hm
  have hs0 : w0.cell? ⟨be, 0, none⟩ = some sv := by rw [hw0, cell_set_other (by exact ne)]; exact hs
  have hz0 : ∀ (i : Nat) (z : Int), zs[i]? = some z → ∃ g o, da = some ⟨g, o, none⟩ ∧ w0.cell? ⟨g, o + i, none⟩ = some (.int .u8 z) := by
    intro i z hi
    obtain ⟨g, o, e, h⟩ := hz i z hi
    have hl := hlow g o i e (List.getElem?_eq_some_iff.1 hi).1
    refine ⟨g, o, e, ?_⟩
    rw [hw0, cell_set_other (by exact hl)]
    exact h
  rw [← hw0]
  have HW : Hid (w0 = w.setCell ⟨bc, 0, none⟩ (.int .i64 1)) := hw0
  clear hw0 hc hcf hd hfl ha hm hs hz hlow nd nf na nm ne
  go_loopw [12] (fun i wr => ∃ k q : Nat, k ≤ zs.length ∧ i = .int .i64 k ∧ wr = w0.drewN q) (fun i _ => zs.length - (intOf i).toNat)
  case atStart => exact ⟨0, 0, Nat.zero_le _, rfl, rfl⟩
  case round =>
    obtain ⟨k, q, hk, rfl, rfl⟩ := hrel
    by_cases hlt : k < zs.length
    · obtain ⟨z, hzk⟩ : ∃ z, zs[k]? = some z := ⟨zs[k], by simp [hlt]⟩
      obtain ⟨g, o, rfl, hcz⟩ := hz0 k z hzk
      have i1 : (0 : Int) ≤ (k : Int) := by omega
      have i2 : (k : Int) < (zs.length : Int) := by omega
      clear hz0
      go_wp2
      go_quiet (fail)
      go_wp2
      go_roundw
      case rel => exact ⟨k + 1, q + nq, by omega, by go_num, by simp⟩
      case measure => simp [intOf]; omega
    · cases fl
      · go_wp2
        go_quiet (fail)
        go_wp2
        go_ret3
        exact ⟨rfl, _, by rw [← HW.out]⟩
      · go_wp2
        go_quiet (fail)
        go_wp2
        go_ret3
        exact ⟨rfl, _, by rw [← HW.out]⟩
end Go.Proofs.YbulkcrtgFmt
