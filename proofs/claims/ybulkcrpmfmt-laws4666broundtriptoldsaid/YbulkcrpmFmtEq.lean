/-
  bytes.Equal at octets that are known.
-/
import Derived.Test.YbulkcrpmFmtShelf
import Derived.Test.YbulkcrpmFmtPlain
import Derived.Test.YbulkcrpmFmtMem
namespace Go.Proofs.YbulkcrpmFmt
open Go Go.RowKit

def nums8 (l : List UInt8) : List Int := l.map fun b => (b.toNat : Int)
theorem bytesOf_nums8 (l : List UInt8) : Lib.bytesOf (nums8 l) = l := by
  induction l with
  | nil => rfl
  | cons b l ih =>
    simp only [Lib.bytesOf, nums8, List.map_cons, List.map_map] at ih ⊢
    rw [ih]
    simp

/-- A slice's address that leads to a cell is a plain one. -/
theorem addr_plain {w : World} {a : Addr} {v : Value} (h : w.cell? (a.add 0) = some v) : ∃ b o, a = ⟨b, o, none⟩ := by
  obtain ⟨b, o, spot⟩ := a
  have hs : spot = none := by simpa [Addr.add] using World.cell?_spot h
  subst hs
  exact ⟨b, o, rfl⟩

theorem BytesAt.inn {w : World} {p : Option Addr} {c : Nat} {l : List UInt8} (h : BytesAt w p c l) : Lib.BytesIn w p l.length (nums8 l) := by
  intro h0
  cases p with
  | none => have := (h.1 rfl).1; subst this; simp at h0
  | some a =>
    have hc := h.2 a rfl
    have hb0 := hc 0 _ (show (Lib.byteCells l)[0]? = some (.int .u8 (l[0].toNat : Int)) from by simp [Lib.byteCells, h0])
    obtain ⟨b, o, rfl⟩ := addr_plain hb0
    refine ⟨b, o, rfl, fun i hi => ?_⟩
    have := hc i _ (show (Lib.byteCells l)[i]? = some (.int .u8 (l[i].toNat : Int)) from by simp [Lib.byteCells, hi])
    rw [Addr.add_lit] at this
    rw [this]
    simp [nums8, hi]

/-- bytes.Equal, both arguments' octets known. -/
theorem equal_at (p1 p2 : Option Addr) (c d : Nat) (l1 l2 : List UInt8) (w : World) (h1 : BytesAt w p1 c l1) (h2 : BytesAt w p2 d l2) :
    Calls Ybaf.prog 10 #[.slice p1 l1.length c, .slice p2 l2.length d] w fun e w' => e = .returned (.bool (l1 == l2)) ∧ w' = w := by
  have h := Ybaf.bytes_Equal_all p1 p2 l1.length c l2.length d (nums8 l1) (nums8 l2) w (by simp [nums8]) (by simp [nums8]) h1.inn h2.inn
  rw [bytesOf_nums8, bytesOf_nums8] at h
  exact h

/-- An owned row of octets, as they lie. -/
theorem own_bytes {w : World} {B g n cap : Nat} {l : List UInt8} (h : w.ownsRow B 5 1 (.slice (some ⟨g, 0, none⟩) n cap) n (Lib.byteCells l)) : BytesAt w (some ⟨g, 0, none⟩) cap l :=
  ⟨fun e => by simp at e, fun a ha j u hu => by
    simp only [Option.some.injEq] at ha
    subst ha
    have hj := (List.getElem?_eq_some_iff.1 hu).1
    have hn := h.1
    rw [Addr.add_lit, Nat.zero_add, h.cellAt j (by omega)]
    exact hu⟩
end Go.Proofs.YbulkcrpmFmt
