/-
  PLAIN DATA: what a message's octets are; how parameters and octets lie in memory. No walk.
-/
import Derived.WalkKit
import Derived.Lib.Endian
import Derived.Shelf.Bin.BEAppendUint16
namespace Go.Proofs.YbulkcrpmFmt
open Go Go.RowKit Go.Lib

def pad (n : Nat) : Nat := (4 - n % 4) % 4
def parLen (p : Nat × List UInt8) : Nat := 4 + p.2.length
def parBytes (p : Nat × List UInt8) : List UInt8 := beBytes 2 p.1 ++ (beBytes 2 (parLen p) ++ (p.2 ++ List.replicate (pad (parLen p)) 0))
def bodyOf (ps : List (Nat × List UInt8)) : List UInt8 := ps.flatMap parBytes
def hd4 (kind : Nat) : List UInt8 := [1, 0, (kind / 256).toUInt8, (kind % 256).toUInt8]
def msgBytes (kind : Nat) (ps : List (Nat × List UInt8)) : List UInt8 := hd4 kind ++ (beBytes 4 (8 + (bodyOf ps).length) ++ bodyOf ps)
/-- The message encodes: no parameter too long, and the whole within 65536 octets. -/
def Fits (ps : List (Nat × List UInt8)) : Prop := (∀ p ∈ ps, parLen p ≤ 65528) ∧ 8 + (bodyOf ps).length ≤ 65536

theorem pad_lt (n : Nat) : pad n < 4 := by unfold pad; omega
theorem parBytes_length (p : Nat × List UInt8) : (parBytes p).length = parLen p + pad (parLen p) := by
  simp [parBytes, beBytes_length, parLen]; omega
theorem bodyOf_snoc (ps : List (Nat × List UInt8)) (p : Nat × List UInt8) : bodyOf (ps ++ [p]) = bodyOf ps ++ parBytes p := by simp [bodyOf]
theorem bodyOf_length_le (ps : List (Nat × List UInt8)) (h : ∀ p ∈ ps, parLen p ≤ 65528) : (bodyOf ps).length ≤ ps.length * 65532 := by
  induction ps with
  | nil => simp [bodyOf]
  | cons p ps ih =>
    have h1 := ih (fun q hq => h q (List.mem_cons_of_mem _ hq))
    have h2 := h p List.mem_cons_self
    have h3 := parBytes_length p
    have h4 := pad_lt (parLen p)
    simp only [bodyOf, List.flatMap_cons, List.length_append, List.length_cons] at h1 ⊢
    omega
theorem bodyOf_take_le (ps : List (Nat × List UInt8)) (k : Nat) : (bodyOf (ps.take k)).length ≤ (bodyOf ps).length := by
  have h : bodyOf ps = bodyOf (ps.take k) ++ bodyOf (ps.drop k) := by
    rw [bodyOf, bodyOf, bodyOf, ← List.flatMap_append, List.take_append_drop]
  rw [h, List.length_append]
  omega

/-- The octets bs lie at va (a slice's address, its capacity c). -/
def BytesAt (w : World) (va : Option Addr) (c : Nat) (bs : List UInt8) : Prop :=
  (va = none → bs = [] ∧ c = 0) ∧ ∀ a, va = some a → ∀ j u, (byteCells bs)[j]? = some u → w.cell? (a.add j) = some u
/-- The parameters ps lie at pa (a slice's address; two cells an element). -/
def ParsAt (w : World) (pa : Option Addr) (ps : List (Nat × List UInt8)) : Prop :=
  ∀ i p, ps[i]? = some p → ∃ g o, pa = some ⟨g, o, none⟩ ∧ w.cell? ⟨g, o + i * 2, none⟩ = some (.int .u16 p.1) ∧
    ∃ va c, w.cell? ⟨g, o + i * 2 + 1, none⟩ = some (.slice va p.2.length c) ∧ BytesAt w va c p.2

theorem cell_below {w w' : World} (hb : Below w.heap.size w w') {a : Addr} {v : Value} (h : w.cell? a = some v) : w'.cell? a = some v :=
  (hb.cell (World.block_lt_of_cell? w a h)).trans h
theorem BytesAt.below {w w' : World} (hb : Below w.heap.size w w') {va : Option Addr} {c : Nat} {bs : List UInt8} (h : BytesAt w va c bs) : BytesAt w' va c bs :=
  ⟨h.1, fun a ha j u hu => cell_below hb (h.2 a ha j u hu)⟩
theorem ParsAt.below {w w' : World} (hb : Below w.heap.size w w') {pa : Option Addr} {ps : List (Nat × List UInt8)} (h : ParsAt w pa ps) : ParsAt w' pa ps := by
  intro i p hp
  obtain ⟨g, o, e, h0, va, c, h1, h2⟩ := h i p hp
  exact ⟨g, o, e, cell_below hb h0, va, c, cell_below hb h1, h2.below hb⟩
theorem byteCells_length (l : List UInt8) : (byteCells l).length = l.length := by simp [byteCells]
theorem byteCells_append (a b : List UInt8) : byteCells (a ++ b) = byteCells a ++ byteCells b := by simp [byteCells]
theorem byteCells_one (l : List UInt8) : ∀ u ∈ byteCells l, u.oneCell' = true := by
  intro u hu
  simp only [byteCells, List.mem_map] at hu
  obtain ⟨b, _, rfl⟩ := hu
  rfl
theorem byteCells_zeros (n : Nat) : byteCells (List.replicate n 0) = List.replicate n (.int .u8 0) := by simp [byteCells]
theorem take_snoc {α : Type} {ps : List α} {k : Nat} {p : α} (hp : ps[k]? = some p) : ps.take (k + 1) = ps.take k ++ [p] := by
  rw [List.take_add_one, hp]; rfl
end Go.Proofs.YbulkcrpmFmt
