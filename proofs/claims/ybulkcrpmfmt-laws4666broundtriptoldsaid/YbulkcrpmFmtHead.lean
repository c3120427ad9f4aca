/-
  READING A MESSAGE's HEADER: what lies in its first eight cells; Uint16, Uint32 of octets that spell a number.
-/
import Derived.Test.YbulkcrpmFmtShelf
import Derived.Test.YbulkcrpmFmtMem
import Derived.Test.YbulkcrpmFmtPlain
namespace Go.Proofs.YbulkcrpmFmt
open Go Go.RowKit

theorem beNat_four (T : Nat) (hT : T < 4294967296) : Lib.beNat [(T / 256 / 256 / 256 % 256).toUInt8, (T / 256 / 256 % 256).toUInt8, (T / 256 % 256).toUInt8, (T % 256).toUInt8] = T := by
  simp only [Lib.beNat, Lib.beFrom, Lib.toUInt8_mod]
  omega
theorem beNat_two (T : Nat) (hT : T < 65536) : Lib.beNat [(T / 256 % 256).toUInt8, (T % 256).toUInt8] = T := by
  simp only [Lib.beNat, Lib.beFrom, Lib.toUInt8_mod]
  omega

/-- binary.BigEndian.Uint32 of the octets that spell T. -/
theorem uint32_at (g o n c T : Nat) (w : World) (hT : T < 4294967296) (hn : 4 ≤ n) (hc : ∀ (j : Nat) (u : Value), (Lib.byteCells (Lib.beBytes 4 T))[j]? = some u → w.cell? ⟨g, o + j, none⟩ = some u) :
    Calls Ybaf.prog 12 #[.agg #[], .slice (some ⟨g, o, none⟩) n c] w fun e w' => e = .returned (.int .u32 T) ∧ Below w.heap.size w w' := by
  refine (Ybaf.binary_BE_Uint32 g o n c (T / 256 / 256 / 256 % 256).toUInt8 (T / 256 / 256 % 256).toUInt8 (T / 256 % 256).toUInt8 (T % 256).toUInt8 w hn (hc 0 _ rfl) (hc 1 _ rfl) (hc 2 _ rfl) (hc 3 _ rfl)).mono ?_
  rintro e w' ⟨rfl, hb⟩
  rw [beNat_four T hT]
  exact ⟨rfl, hb⟩
theorem uint16_at (g o n c T : Nat) (w : World) (hT : T < 65536) (hn : 2 ≤ n) (hc : ∀ (j : Nat) (u : Value), (Lib.byteCells (Lib.beBytes 2 T))[j]? = some u → w.cell? ⟨g, o + j, none⟩ = some u) :
    Calls Ybaf.prog 19 #[.agg #[], .slice (some ⟨g, o, none⟩) n c] w fun e w' => e = .returned (.int .u16 T) ∧ Below w.heap.size w w' := by
  refine (Ybaf.binary_BE_Uint16 g o n c (T / 256 % 256).toUInt8 (T % 256).toUInt8 w hn (hc 0 _ rfl) (hc 1 _ rfl)).mono ?_
  rintro e w' ⟨rfl, hb⟩
  rw [beNat_two T hT]
  exact ⟨rfl, hb⟩

/-- The header's cells, in the walk's own spelling. -/
theorem msg_cells {kind g T cap B : Nat} {ps : List (Nat × List UInt8)} {w : World} (hk : kind < 65536) (hTe : T = 8 + (bodyOf ps).length) (h : w.ownsRow B 5 1 (.slice (some ⟨g, 0, none⟩) T cap) T (Lib.byteCells (msgBytes kind ps))) :
    w.cell? ⟨g, 0, none⟩ = some (.int .u8 1) ∧ w.cell? ⟨g, 1, none⟩ = some (.int .u8 0) ∧ w.cell? ⟨g, 2, none⟩ = some (.int .u8 ((kind : Int) / 256)) ∧ w.cell? ⟨g, 3, none⟩ = some (.int .u8 ((kind : Int) % 256)) ∧
      (∀ (j : Nat) (u : Value), (Lib.byteCells (Lib.beBytes 4 T))[j]? = some u → w.cell? ⟨g, 4 + j, none⟩ = some u) ∧
      (∀ (j : Nat) (u : Value), (Lib.byteCells (bodyOf ps))[j]? = some u → w.cell? ⟨g, 8 + j, none⟩ = some u) := by
  have e2 : (((kind / 256).toUInt8.toNat : Nat) : Int) = (kind : Int) / 256 := by
    rw [show (kind / 256).toUInt8.toNat = kind / 256 from by simp [Nat.toUInt8, UInt8.toNat_ofNat']; omega]; omega
  have e3 : (((kind % 256).toUInt8.toNat : Nat) : Int) = (kind : Int) % 256 := by
    rw [Lib.toUInt8_mod]; omega
  have hl4 : (Lib.byteCells (Lib.beBytes 4 T)).length = 4 := by rw [byteCells_length, Lib.beBytes_length]
  have hbl : (Lib.byteCells (bodyOf ps)).length = (bodyOf ps).length := byteCells_length _
  have hm : Lib.byteCells (msgBytes kind ps) = Lib.byteCells (hd4 kind) ++ (Lib.byteCells (Lib.beBytes 4 T) ++ Lib.byteCells (bodyOf ps)) := by
    rw [msgBytes, ← hTe, byteCells_append, byteCells_append]
  rw [hm] at h
  have h2 : w.cell? ⟨g, 2, none⟩ = some (.int .u8 (((kind / 256).toUInt8.toNat : Nat) : Int)) := (h.cellAt 2 (by omega)).trans rfl
  have h3 : w.cell? ⟨g, 3, none⟩ = some (.int .u8 (((kind % 256).toUInt8.toNat : Nat) : Int)) := (h.cellAt 3 (by omega)).trans rfl
  rw [e2] at h2
  rw [e3] at h3
  refine ⟨(h.cellAt 0 (by omega)).trans rfl, (h.cellAt 1 (by omega)).trans rfl, h2, h3, ?_, ?_⟩
  · intro j u hj
    have hj4 : j < 4 := by have := (List.getElem?_eq_some_iff.1 hj).1; omega
    rw [h.cellAt (4 + j) (by omega), List.getElem?_append_right (by simp [Lib.byteCells, hd4])]
    rw [show 4 + j - (Lib.byteCells (hd4 kind)).length = j from by simp [Lib.byteCells, hd4], List.getElem?_append_left (by omega)]
    exact hj
  · intro j u hj
    have hj4 : j < (bodyOf ps).length := by have := (List.getElem?_eq_some_iff.1 hj).1; omega
    rw [h.cellAt (8 + j) (by omega), List.getElem?_append_right (by simp [Lib.byteCells, hd4]; omega)]
    rw [show 8 + j - (Lib.byteCells (hd4 kind)).length = 4 + j from by simp [Lib.byteCells, hd4]; omega, List.getElem?_append_right (by omega), hl4]
    rw [show 4 + j - 4 = j from by omega]
    exact hj

end Go.Proofs.YbulkcrpmFmt
