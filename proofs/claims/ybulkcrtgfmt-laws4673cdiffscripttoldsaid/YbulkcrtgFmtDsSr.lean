/-
  The names, the entries, and the search for a name among them.
-/
import Derived.Test.YbulkcrtgFmtDsIns2
namespace Go.Proofs.YbulkcrtgFmt
open Go Go.RowKit

/-- The six names, in byte order. -/
def nm : Nat → ByteArray
  | 0 => ⟨#[97]⟩
  | 1 => ⟨#[98, 98]⟩
  | 2 => ⟨#[99]⟩
  | 3 => ⟨#[100, 100]⟩
  | 4 => ⟨#[101]⟩
  | _ => ⟨#[112]⟩
def cmpI (a p : Nat) : Int := if a < p then -1 else if a = p then 0 else 1
theorem cmp_nm_fin : ∀ a p : Fin 6, Lib.compareBytes (nm a).data.toList (nm p).data.toList = cmpI a p := by decide
theorem cmp_nm {a p : Nat} (ha : a ≤ 5) (hp : p ≤ 5) : Lib.compareBytes (nm a).data.toList (nm p).data.toList = cmpI a p := cmp_nm_fin ⟨a, by omega⟩ ⟨p, by omega⟩

/-- The entries es lie at ea: name and count, two cells each. -/
def EntAt (w : World) (ea : Option Addr) (es : List (Nat × Nat)) : Prop :=
  ∀ i e, es[i]? = some e → ∃ g o, ea = some ⟨g, o, none⟩ ∧ w.cell? ⟨g, o + i * 2, none⟩ = some (.string (nm e.1)) ∧ w.cell? ⟨g, o + i * 2 + 1, none⟩ = some (.int .u64 e.2)
theorem EntAt.below {w w' : World} {ea : Option Addr} {es : List (Nat × Nat)} (h : EntAt w ea es) (hb : Below w.heap.size w w') : EntAt w' ea es := fun i c hi => by
  obtain ⟨g, o, rfl, h0, h1⟩ := h i c hi
  have hl : g < w.heap.size := World.block_lt_of_cell? w _ h0
  exact ⟨g, o, rfl, (hb.cell (p := ⟨g, _, none⟩) hl).trans h0, (hb.cell (p := ⟨g, _, none⟩) hl).trans h1⟩
/-- In name order, each name of the six. -/
def Srt (es : List (Nat × Nat)) : Prop := (∀ e ∈ es, e.1 ≤ 5 ∧ e.2 ≤ 8589934592) ∧ ∀ (i j : Nat) (a b : Nat × Nat), i < j → es[i]? = some a → es[j]? = some b → a.1 < b.1
/-- Where p's entry stands, or would stand. -/
def PosOf (es : List (Nat × Nat)) (p k : Nat) : Prop := k ≤ es.length ∧ (∀ i e, i < k → es[i]? = some e → e.1 < p) ∧ (∀ i e, k ≤ i → es[i]? = some e → p ≤ e.1)
def isAt (es : List (Nat × Nat)) (p k : Nat) : Bool := match es[k]? with | some e => e.1 == p | none => false

theorem cmp_any (a c p : Nat) (ha : a ≤ 5) (hp : p ≤ 5) (w : World) :
    Calls Ybaf.prog 46 #[.agg #[.string (nm a), .int .u64 c], .string (nm p)] w fun e w' => e = .returned (.int .i64 (cmpI a p)) ∧ Below w.heap.size w w' := by
  have hc := cmp_nm ha hp
  go_enter Ybaf.func46, Ybaf.ntmps46
  go_wp2_with fail
  go_at_call 47
  refine (Ybaf.strings_Compare (nm a) (nm p) _).mono ?_
  rintro e w1 ⟨rfl, rfl⟩
  rw [hc]
  go_wp2
  go_ret
  exact ⟨rfl, (Below.refl _ w).alloc (Nat.le_refl _) _⟩

set_option maxHeartbeats 4000000 in
set_option maxRecDepth 100000 in
theorem bsearch_any (ea : Option Addr) (ec p : Nat) (es : List (Nat × Nat)) (w : World) (hn : es.length ≤ 100) (hs : Srt es) (hp : p ≤ 5) (hat : EntAt w ea es) :
    Calls Ybaf.prog 45 #[.slice ea es.length ec, .string (nm p), .func (.func 46) #[] #[]] w fun e w' => ∃ k, PosOf es p k ∧ e = .returned (.tuple #[.int .i64 k, .bool (isAt es p k)]) ∧ Below w.heap.size w w' := by
  have HA : Hid (EntAt w ea es ∧ Srt es) := ⟨hat, hs⟩
  obtain ⟨n, hcn⟩ : ∃ n, es.length = n := ⟨_, rfl⟩
  rw [hcn]
  have HN : Hid _ := hcn
  clear hat hs
  rw [hcn] at hn
  clear hcn
  go_enter Ybaf.func45, Ybaf.ntmps45
  go_wp2
  go_loopw [9, 10] (fun vi vj wr => ∃ i j : Nat, vi = .int .i64 i ∧ vj = .int .i64 j ∧ i ≤ j ∧ j ≤ n ∧ (∀ k e, k < i → es[k]? = some e → e.1 < p) ∧ (∀ k e, j ≤ k → es[k]? = some e → p ≤ e.1) ∧ Below w.heap.size w wr) (fun vi vj _ => (intOf vj).toNat - (intOf vi).toNat)
  case atStart => exact ⟨0, n, rfl, rfl, by omega, by omega, fun k e h => by omega, fun k e h he => by have := (List.getElem?_eq_some_iff.1 he).1; have := HN.out; omega, Below.refl _ _⟩
  case round =>
    obtain ⟨i, j, rfl, rfl, hij, hjn, hlo, hhi, hB⟩ := hrel
    by_cases hlt : i < j
    · obtain ⟨h, hh⟩ : ∃ h, h = (i + j) / 2 := ⟨_, rfl⟩
      have b1 : i ≤ h := by omega
      have b2 : h < j := by omega
      have i1 : (0 : Int) ≤ (h : Int) := by omega
      have i2 : (h : Int) < (n : Int) := by omega
      obtain ⟨⟨a, c⟩, he⟩ : ∃ e, es[h]? = some e := ⟨es[h]'(by have := HN.out; omega), List.getElem?_eq_getElem _⟩
      obtain ⟨g, o, rfl, h0, h1⟩ := HA.out.1 h _ he
      have q0 : wr.cell? ⟨g, o + h * 2, none⟩ = some (.string (nm a)) := (hB.cell (p := ⟨g, _, none⟩) (World.block_lt_of_cell? w _ h0)).trans h0
      have q1 : wr.cell? ⟨g, o + h * 2 + 1, none⟩ = some (.int .u64 c) := (hB.cell (p := ⟨g, _, none⟩) (World.block_lt_of_cell? w _ h1)).trans h1
      obtain ⟨t, ht⟩ : ∃ t, i + j = t := ⟨_, rfl⟩
      have w0 : (i : Int) + (j : Int) = (t : Int) := by omega
      have w2 : (t : Int) / 2 = (h : Int) := by omega
      have w3 : IntKind.i64.wrap (h : Int) = (h : Int) := by rw [IntKind.wrap_i64]; omega
      have w4 : t ≤ 200 := by omega
      clear hh ht
      have hok := (HA.out.2.1 _ (List.mem_of_getElem? he)).1
      clear h0 h1
      have HS : Hid (∀ k e, k < i → es[k]? = some e → e.1 < p) := hlo
      have HT : Hid (∀ k e, j ≤ k → es[k]? = some e → p ≤ e.1) := hhi
      have HE : Hid _ := he
      have HB : Hid _ := hB
      clear hlo hhi he hB
      go_wp2_with fail
      go_at_call 46
      refine (cmp_any a c p hok hp _).mono ?_
      rintro e w1 ⟨rfl, hb1⟩
      have hB1 : Below w.heap.size w w1 := HB.out.trans (hb1.mono HB.out.size)
      clear hb1 q0 q1
      by_cases hap : a < p
      · have hc : cmpI a p = -1 := by unfold cmpI; rw [if_pos hap]
        rw [hc]
        go_wp2
        go_roundw
        case rel =>
          refine ⟨h + 1, j, by go_num, rfl, by omega, hjn, fun k e hk hke => ?_, HT.out, hB1⟩
          by_cases hkh : k = h
          · subst hkh; rw [HE.out] at hke; cases hke; exact hap
          · have := HA.out.2.2 k h e (a, c) (by omega) hke HE.out
            show e.1 < p
            dsimp only at this; omega
        case measure => simp [intOf]; omega
      · have hc : ¬ cmpI a p < 0 := by unfold cmpI; rw [if_neg hap]; split <;> decide
        go_wp2
        go_roundw
        case rel =>
          refine ⟨i, h, rfl, by go_num, by omega, by omega, HS.out, fun k e hk hke => ?_, hB1⟩
          by_cases hkh : k = h
          · subst hkh; rw [HE.out] at hke; cases hke; show p ≤ a; omega
          · have := HA.out.2.2 h k (a, c) e (by omega) HE.out hke
            show p ≤ e.1
            dsimp only at this; omega
        case measure => simp [intOf]; omega
    · obtain rfl : i = j := by omega
      have PP : PosOf es p i := ⟨by have := HN.out; omega, hlo, hhi⟩
      have HP : Hid _ := PP
      clear PP hlo hhi
      by_cases hin : i < n
      · obtain ⟨⟨a, c⟩, he⟩ : ∃ e, es[i]? = some e := ⟨es[i]'(by have := HN.out; omega), List.getElem?_eq_getElem _⟩
        obtain ⟨g, o, rfl, h0, h1⟩ := HA.out.1 i _ he
        have q0 : wr.cell? ⟨g, o + i * 2, none⟩ = some (.string (nm a)) := (hB.cell (p := ⟨g, _, none⟩) (World.block_lt_of_cell? w _ h0)).trans h0
        have q1 : wr.cell? ⟨g, o + i * 2 + 1, none⟩ = some (.int .u64 c) := (hB.cell (p := ⟨g, _, none⟩) (World.block_lt_of_cell? w _ h1)).trans h1
        have hok := (HA.out.2.1 _ (List.mem_of_getElem? he)).1
        have i1 : (0 : Int) ≤ (i : Int) := by omega
        have i2 : (i : Int) < (n : Int) := by omega
        have hb : isAt es p i = (a == p) := by simp only [isAt, he]
        have HB : Hid (Below w.heap.size w wr ∧ isAt es p i = (a == p)) := ⟨hB, hb⟩
        clear h0 h1 he hB hb
        go_wp2_with fail
        go_at_call 46
        refine (cmp_any a c p hok hp _).mono ?_
        rintro e w1 ⟨rfl, hb1⟩
        have hB1 : Below w.heap.size w w1 := HB.out.1.trans (hb1.mono HB.out.1.size)
        have he0 : (cmpI a p == 0) = (a == p) := by
          unfold cmpI
          by_cases h1 : a < p
          · rw [if_pos h1]; simp; omega
          · rw [if_neg h1]
            by_cases h2 : a = p
            · rw [if_pos h2]; simp [h2]
            · rw [if_neg h2]; simp [h2]
        clear hb1 q0 q1
        go_wp2
        go_ret2
        exact ⟨i, HP.out, by rw [HB.out.2]; rfl, hB1⟩
      · have i2 : ¬ (i : Int) < (n : Int) := by omega
        have hb : isAt es p i = false := by
          simp only [isAt, List.getElem?_eq_none (show es.length ≤ i by have := HN.out; omega)]
        go_wp2_with fail
        go_ret2
        exact ⟨i, HP.out, by rw [hb]; rfl, hB⟩

set_option maxHeartbeats 2000000 in
set_option maxRecDepth 100000 in
theorem search_any (ea : Option Addr) (ec p : Nat) (es : List (Nat × Nat)) (w : World) (hn : es.length ≤ 100) (hs : Srt es) (hp : p ≤ 5) (hat : EntAt w ea es) :
    Calls Ybaf.prog 31 #[.agg #[.slice ea es.length ec], .string (nm p)] w fun e w' => ∃ k, PosOf es p k ∧ e = .returned (.tuple #[.int .i64 k, .bool (isAt es p k)]) ∧ Below w.heap.size w w' := by
  have BS := bsearch_any ea ec p es (w.alloc (.cells #[.slice ea es.length ec] 44)) hn hs hp (hat.below ((Below.refl _ w).alloc (Nat.le_refl _) _))
  have HBS : Hid _ := BS
  clear BS hat hs
  go_enter Ybaf.func31, Ybaf.ntmps31
  go_wp2_with fail
  go_at_call 45
  refine Calls.mono HBS.out ?_
  rintro e w1 ⟨k, hk, rfl, hb⟩
  go_wp2
  go_ret2
  exact ⟨k, hk, rfl, ((Below.refl _ w).alloc (Nat.le_refl _) _).trans (hb.mono (by simp))⟩

end Go.Proofs.YbulkcrtgFmt
