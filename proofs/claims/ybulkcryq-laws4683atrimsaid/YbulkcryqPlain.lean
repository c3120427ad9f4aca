/-
  The plain side of LawS4683ATrim: chains, their packing, the varint's way back. No Go in sight.
-/
import Derived.Lib.VarintDec
import Derived.Lib.Varint
import Derived.Lib.VarintMem
import Derived.Lib.Zigzag
import Derived.Lib.Endian
import Derived.WalkKit
namespace Go.Proofs.Ybulkcryq
open Go.Lib

/-- An int32. -/
def I32 (x : Int) : Prop := -2147483648 ≤ x ∧ x ≤ 2147483647
/-- Both ends of a chain are int32. -/
def Ok (c : Int × Int) : Prop := I32 c.1 ∧ I32 c.2

def le32 (x : Int) : List UInt8 := leBytes 4 (x % 4294967296).toNat
def vi (x : Int) : List UInt8 := uvarint (zigzag x)
def packF (c : Int × Int) : List UInt8 := le32 c.1 ++ vi (c.2 - c.1)
def packC (prev : Int) (c : Int × Int) : List UInt8 := vi (c.1 - prev) ++ vi (c.2 - c.1)
/-- The chains behind one whose to is prev. -/
def packR (prev : Int) : List (Int × Int) → List UInt8
  | [] => []
  | c :: cs => packC prev c ++ packR c.2 cs
/-- The packed chains: all but the last. -/
def packB : List (Int × Int) → List UInt8
  | [] => []
  | c :: cs => packF c ++ packR c.2 cs
def lastB (c : Int × Int) : List UInt8 := le32 c.1 ++ le32 c.2
def encode (cs : List (Int × Int)) : List UInt8 := match cs.getLast? with | none => [] | some c => packB cs.dropLast ++ lastB c

theorem le32_length (x : Int) : (le32 x).length = 4 := Lib.leBytes_length 4 _
theorem le32_nat (x : Int) : leNat (le32 x) = (x % 4294967296).toNat := Lib.leNat_leBytes 4 _ (by rw [show (256 : Nat) ^ 4 = 4294967296 by decide]; omega)
theorem zigzag_small {x : Int} (h : -4294967296 ≤ x ∧ x ≤ 4294967296) : zigzag x < 34359738368 := by
  unfold zigzag; split <;> omega
theorem vi_length_le {x : Int} (h : -4294967296 ≤ x ∧ x ≤ 4294967296) : (vi x).length ≤ 5 :=
  uvarint_length 4 _ (Nat.lt_of_lt_of_le (zigzag_small h) (by decide))
theorem vi_pos (x : Int) : 1 ≤ (vi x).length := uvarint_pos _
theorem lastB_length (c : Int × Int) : (lastB c).length = 8 := by simp [lastB, le32_length]

theorem dec_from : ∀ (k x i acc : Nat) (r : List UInt8), x < 128 ^ (k + 1) → i + k + 1 ≤ 9 → uvarintFrom i acc (uvarint x ++ r) = (acc + x * 2 ^ (7 * i), ((i + (uvarint x).length : Nat) : Int))
  | k, x, i, acc, r, hx, hi => by
    by_cases h : x < 128
    · have ht : (x.toUInt8).toNat = x := toUInt8_toNat (by omega)
      rw [uvarint_small h, List.cons_append, List.nil_append]
      simp only [uvarintFrom, ht]
      rw [if_neg (by omega), if_pos h, if_neg (by omega)]
      simp
    · rw [uvarint_big (by omega), List.cons_append]
      have ht : ((x % 128 + 128).toUInt8).toNat = x % 128 + 128 := toUInt8_toNat (by omega)
      simp only [uvarintFrom, ht]
      rw [if_neg (by omega), if_neg (by omega)]
      cases k with
      | zero => simp at hx; omega
      | succ k =>
        rw [dec_from k (x / 128) (i + 1) _ r (by rw [Nat.pow_succ] at hx; exact Nat.div_lt_of_lt_mul (by rw [Nat.mul_comm]; exact hx)) (by omega)]
        have hp : (2 : Nat) ^ (7 * (i + 1)) = 128 * 2 ^ (7 * i) := by rw [show 7 * (i + 1) = 7 * i + 7 by omega, Nat.pow_add]; omega
        rw [hp]
        have hm : (x % 128 + 128) % 128 = x % 128 := by omega
        rw [hm]
        refine Prod.ext ?_ ?_
        · show acc + x % 128 * 2 ^ (7 * i) + x / 128 * (128 * 2 ^ (7 * i)) = acc + x * 2 ^ (7 * i)
          rw [← Nat.mul_assoc, Nat.add_assoc, ← Nat.add_mul]
          congr 2
          omega
        · show ((i + 1 + (uvarint (x / 128)).length : Nat) : Int) = ((i + ((x % 128 + 128).toUInt8 :: uvarint (x / 128)).length : Nat) : Int)
          simp only [List.length_cons]; omega

theorem dec_vi {x : Int} (h : -4294967296 ≤ x ∧ x ≤ 4294967296) (r : List UInt8) : varintDec (vi x ++ r) = (x, ((vi x).length : Int)) := by
  have hz := zigzag_small h
  unfold varintDec uvarintDec vi
  rw [dec_from 4 _ 0 0 r (Nat.lt_of_lt_of_le hz (by decide)) (by omega)]
  simp only [Nat.zero_add, Nat.mul_zero, Nat.pow_zero, Nat.mul_one]
  refine Prod.ext ?_ rfl
  show unzigzag (zigzag x) = x
  unfold unzigzag zigzag
  split <;> split <;> omega

/-! ### The packing, piece by piece -/
/-- The to of the last chain; p where there is none. -/
def lastTo (p : Int) : List (Int × Int) → Int
  | [] => p
  | c :: cs => lastTo c.2 cs
theorem lastTo_snoc (c : Int × Int) : ∀ (a : List (Int × Int)) (p : Int), lastTo p (a ++ [c]) = c.2
  | [], _ => rfl
  | d :: a, _ => lastTo_snoc c a d.2
theorem packR_append (b : List (Int × Int)) : ∀ (a : List (Int × Int)) (p : Int), packR p (a ++ b) = packR p a ++ packR (lastTo p a) b
  | [], p => by simp [packR, lastTo]
  | c :: a, p => by rw [List.cons_append, packR, packR, packR_append b a c.2, List.append_assoc]; rfl
theorem packB_append (c : Int × Int) (a b : List (Int × Int)) : packB (c :: a ++ b) = packB (c :: a) ++ packR (lastTo 0 (c :: a)) b := by
  rw [List.cons_append, packB, packB, packR_append b a c.2, List.append_assoc]; rfl
/-- Through chain i, then the rest: the rest is packed behind chain i's to. -/
theorem packB_take (cs : List (Int × Int)) (i : Nat) (c : Int × Int) (h : cs[i]? = some c) : packB cs = packB (cs.take (i + 1)) ++ packR c.2 (cs.drop (i + 1)) := by
  have hi : i < cs.length := (List.getElem?_eq_some_iff.1 h).1
  cases cs with
  | nil => simp at hi
  | cons d ds =>
    have e : (d :: ds) = d :: ds.take i ++ ds.drop i := by simp
    rw [show (d :: ds).take (i + 1) = d :: ds.take i by simp, show (d :: ds).drop (i + 1) = ds.drop i by simp]
    conv => lhs; rw [e]
    rw [packB_append]
    congr 2
    obtain ⟨t, ht⟩ : ∃ t, d :: ds.take i = t ++ [c] := by
      refine ⟨(d :: ds).take i, ?_⟩
      rw [show d :: ds.take i = (d :: ds).take (i + 1) by simp, List.take_add_one, h]; rfl
    rw [ht, lastTo_snoc]
theorem packR_drop (cs : List (Int × Int)) (i : Nat) (c : Int × Int) (h : cs[i]? = some c) (p : Int) : packR p (cs.drop i) = packC p c ++ packR c.2 (cs.drop (i + 1)) := by
  have hi : i < cs.length := (List.getElem?_eq_some_iff.1 h).1
  rw [List.drop_eq_getElem_cons hi, packR]
  rw [List.getElem?_eq_getElem hi] at h
  cases h; rfl
theorem packR_length_le : ∀ (cs : List (Int × Int)) (p : Int), I32 p → (∀ c ∈ cs, Ok c) → (packR p cs).length ≤ 10 * cs.length
  | [], _, _, _ => by simp [packR]
  | c :: cs, p, hp, h => by
    have hc := h c (by simp)
    have := packR_length_le cs c.2 hc.2 (fun d hd => h d (by simp [hd]))
    have h1 := vi_length_le (x := c.1 - p) (by have := hc.1; unfold I32 at *; omega)
    have h2 := vi_length_le (x := c.2 - c.1) (by have := hc.1; have := hc.2; unfold I32 at *; omega)
    simp only [packR, packC, List.length_append, List.length_cons]; omega
theorem packB_length_le (cs : List (Int × Int)) (h : ∀ c ∈ cs, Ok c) : (packB cs).length ≤ 10 * cs.length := by
  cases cs with
  | nil => simp [packB]
  | cons c cs =>
    have hc := h c (by simp)
    have := packR_length_le cs c.2 hc.2 (fun d hd => h d (by simp [hd]))
    have h2 := vi_length_le (x := c.2 - c.1) (by have := hc.1; have := hc.2; unfold I32 at *; omega)
    simp only [packB, packF, List.length_append, List.length_cons, le32_length]; omega
theorem packR_eq_nil (p : Int) (cs : List (Int × Int)) : (packR p cs).length = 0 ↔ cs = [] := by
  cases cs with
  | nil => simp [packR]
  | cons c cs => have := vi_pos (c.1 - p); simp [packR, packC]; intro h; simp [h] at this
theorem packB_eq_nil (cs : List (Int × Int)) : (packB cs).length = 0 ↔ cs = [] := by
  cases cs with
  | nil => simp [packB]
  | cons c cs => have := le32_length c.1; simp [packB, packF]; intro h; simp [h] at this
theorem encode_snoc (cs : List (Int × Int)) (c : Int × Int) : encode (cs ++ [c]) = packB cs ++ lastB c := by simp [encode]
theorem packB_snoc (cs : List (Int × Int)) (p c : Int × Int) : packB (cs ++ [p] ++ [c]) = packB (cs ++ [p]) ++ packC p.2 c := by
  cases cs with
  | nil => simp [packB, packR]
  | cons d ds =>
    rw [show d :: ds ++ [p] ++ [c] = d :: (ds ++ [p]) ++ [c] by simp, packB_append, ← List.cons_append, lastTo_snoc]
    simp [packR]
end Go.Proofs.Ybulkcryq
