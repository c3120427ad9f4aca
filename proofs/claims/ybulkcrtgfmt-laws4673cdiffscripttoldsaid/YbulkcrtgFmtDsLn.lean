/-
  The law's front: the stamp that mask and counts spell.
-/
import Derived.Test.YbulkcrtgFmtDsLm
namespace Go.Proofs.YbulkcrtgFmt
open Go Go.RowKit

def mbit (mask : Int) (i : Nat) : Bool := bits .and .u8 mask (((2 ^ i : Nat) : Nat) : Int) != 0
def cnOf (cs : List Int) (i : Nat) : Nat := ((cs[i]?).getD 0).toNat + 1
def entsOf (mask : Int) (cs : List Int) : Nat → List (Nat × Nat)
  | 0 => []
  | i + 1 => entsOf mask cs i ++ if mbit mask i then [(i, cnOf cs i)] else []
theorem entsOf_get (mask : Int) (cs : List Int) (hc : ∀ z ∈ cs, 0 ≤ z ∧ z < 4294967296) : ∀ i, ∀ e ∈ entsOf mask cs i, e.1 < i ∧ e.2 ≤ 4294967296
  | 0, e, h => by simp [entsOf] at h
  | i + 1, e, h => by
    simp only [entsOf, List.mem_append] at h
    rcases h with h | h
    · have := entsOf_get mask cs hc i e h; omega
    · split at h
      · simp only [List.mem_singleton] at h
        subst h
        refine ⟨by simp, ?_⟩
        unfold cnOf
        cases he : cs[i]? with
        | none => simp
        | some z =>
          have := hc z (List.mem_of_getElem? he)
          simp only [Option.getD_some]; omega
      · simp at h
theorem entsOf_srt (mask : Int) (cs : List Int) (hc : ∀ z ∈ cs, 0 ≤ z ∧ z < 4294967296) : Srt (entsOf mask cs 5) ∧ Bd (entsOf mask cs 5) (4294967296 + 0) := by
  refine ⟨⟨fun e he => ?_, ?_⟩, fun e he => ?_⟩
  · have := entsOf_get mask cs hc 5 e he; omega
  · rw [srt_fst]
    have key : ∀ i, ((entsOf mask cs i).map (·.1)).Pairwise (· < ·) := by
      intro i
      induction i with
      | zero => simp [entsOf]
      | succ i ih =>
        simp only [entsOf, List.map_append, List.pairwise_append]
        refine ⟨ih, by split <;> simp, fun a ha b hb => ?_⟩
        simp only [List.mem_map] at ha hb
        obtain ⟨e, he, rfl⟩ := ha
        obtain ⟨e', he', rfl⟩ := hb
        split at he'
        · simp only [List.mem_singleton] at he'
          subst he'
          exact (entsOf_get mask cs hc i e he).1
        · simp at he'
    exact key 5
  · have := entsOf_get mask cs hc 5 e he; omega
theorem entsOf_len (mask : Int) (cs : List Int) : ∀ i, (entsOf mask cs i).length ≤ i
  | 0 => by simp [entsOf]
  | i + 1 => by
    have := entsOf_len mask cs i
    simp only [entsOf, List.length_append]
    split <;> simp <;> omega
theorem grew_of_run {w w' : World} {B e n : Nat} {v v' : Value} {xs : List Value} {o : Obj} (hown : w.ownsRow B e 1 v n xs) (gr : (w.alloc o).grownBy w' v.ownBlock) (hl : v'.ownBlock = v.ownBlock ∨ v'.ownBlock = some (w.alloc o).heap.size) : Grew w v w' v' :=
  Grew.pre (KeptB.alloc _ (Nat.le_refl _)) ⟨KeptB.grown gr (Nat.le_refl _) (fun k e _ => e.symm), fun k hk => by
    rcases hl with e | e
    · exact .inl (by rw [← e]; exact hk)
    · rw [e] at hk
      simp only [Option.some.injEq] at hk
      exact .inr (by omega)⟩ (fun b e => by have := (hown.lt b e).2; simp; omega)
/-- append of one string, of one count. -/
theorem app_name (B n : Nat) (v : Value) (xs : List Value) (s : ByteArray) (w : World) (hown : w.ownsRow B 9 1 v n xs) (hB : B ≤ w.heap.size) (hn : n ≤ 1000) (ty : TypeId) :
    ∃ v' w', (Builtin.append_ #[31, 31] ty #[v, .slice (some ⟨w.heap.size, 0, none⟩) 1 1]).run Ybaf.prog (w.alloc (.cells #[.string s] 9)) = .ok v' w' ∧ w'.ownsRow B 9 1 v' (n + 1) (xs ++ [.string s]) ∧ Grew w v w' v' := by
  obtain ⟨i0, hi0, hz0, hz1, hz2⟩ := info_parts Ybaf.info9
  obtain ⟨v', w', hr, o', gr, _, hl⟩ := run_append_own_at (P := Ybaf.prog) (w.alloc (.cells #[.string s] 9)) B 31 ty 9 i0 _ 1 16 Ybaf.underlying31 hi0 hz0 hz1 hz2 rfl (by decide) v n xs (hown.alloc _) ⟨w.heap.size, 0, none⟩ 1 1 [.string s] rfl (fun j u hu => by
    rw [Addr.add_lit, Nat.zero_add, cell_of_row _ _ _ _ _ _ (heap_alloc_new w _)]; simpa using hu) (fun u hu => by simp at hu; subst hu; rfl) (by unfold maxLen; omega) (by omega) (by simp; omega)
  exact ⟨v', w', hr, o', grew_of_run hown gr hl⟩
theorem app_count (B n : Nat) (v : Value) (xs : List Value) (c : Int) (w : World) (hown : w.ownsRow B 34 1 v n xs) (hB : B ≤ w.heap.size) (hn : n ≤ 1000) (ty : TypeId) :
    ∃ v' w', (Builtin.append_ #[32, 32] ty #[v, .slice (some ⟨w.heap.size, 0, none⟩) 1 1]).run Ybaf.prog (w.alloc (.cells #[.int .u64 c] 34)) = .ok v' w' ∧ w'.ownsRow B 34 1 v' (n + 1) (xs ++ [.int .u64 c]) ∧ Grew w v w' v' := by
  obtain ⟨i0, hi0, hz0, hz1, hz2⟩ := info_parts Ybaf.info34
  obtain ⟨v', w', hr, o', gr, _, hl⟩ := run_append_own_at (P := Ybaf.prog) (w.alloc (.cells #[.int .u64 c] 34)) B 32 ty 34 i0 _ 1 8 Ybaf.underlying32 hi0 hz0 hz1 hz2 rfl (by decide) v n xs (hown.alloc _) ⟨w.heap.size, 0, none⟩ 1 1 [.int .u64 c] rfl (fun j u hu => by
    rw [Addr.add_lit, Nat.zero_add, cell_of_row _ _ _ _ _ _ (heap_alloc_new w _)]; simpa using hu) (fun u hu => by simp at hu; subst hu; rfl) (by unfold maxLen; omega) (by omega) (by simp; omega)
  exact ⟨v', w', hr, o', grew_of_run hown gr hl⟩
/-- The two rows of the front's first loop. -/
structure Fr1 (w : World) (mask : Int) (cs : List Int) (i : Nat) (nv cv : Value) (W : World) : Prop where
  nrow : W.ownsRow w.heap.size 9 1 nv (entsOf mask cs i).length (nmCells (entsOf mask cs i))
  crow : W.ownsRow w.heap.size 34 1 cv (entsOf mask cs i).length (cnCells (entsOf mask cs i))
  kept : KeptB w.heap.size (fun _ => False) w W
theorem Fr1.skip {w W : World} {mask : Int} {cs : List Int} {i : Nat} {nv cv : Value} (h : Fr1 w mask cs i nv cv W) (hb : mbit mask i = false) : Fr1 w mask cs (i + 1) nv cv W := by
  have e : entsOf mask cs (i + 1) = entsOf mask cs i := by simp [entsOf, hb]
  exact ⟨by rw [e]; exact h.nrow, by rw [e]; exact h.crow, h.kept⟩
/-- A round that takes the name: what it leaves. -/
theorem Fr1.take {w W : World} {mask : Int} {cs : List Int} {i : Nat} {nv cv : Value} (h : Fr1 w mask cs i nv cv W) (hi : i ≤ 5) (hb : mbit mask i = true) : ∃ nv' W1 cv' W2, (Builtin.append_ #[31, 31] 31 #[nv, .slice (some ⟨W.heap.size, 0, none⟩) 1 1]).run Ybaf.prog (W.alloc (.cells #[.string (nm i)] 9)) = .ok nv' W1 ∧
    (Builtin.append_ #[32, 32] 32 #[cv, .slice (some ⟨W1.heap.size, 0, none⟩) 1 1]).run Ybaf.prog (W1.alloc (.cells #[.int .u64 (cnOf cs i)] 34)) = .ok cv' W2 ∧ Fr1 w mask cs (i + 1) nv' cv' W2 := by
  have hl := entsOf_len mask cs i
  have hs := h.kept.size
  obtain ⟨nv', W1, hr1, o1, g1⟩ := app_name _ _ _ _ (nm i) W h.nrow hs (by omega) 31
  have c1 := g1.kept.own h.crow (fun k e => ⟨(h.crow.lt k e).2, own_ne h.crow h.nrow (by decide) e⟩)
  have hs1 := g1.kept.size
  obtain ⟨cv', W2, hr2, o2, g2⟩ := app_count _ _ _ _ (cnOf cs i : Nat) W1 c1 (by omega) (by omega) 32
  have n2 := g2.kept.own o1 (fun k e => ⟨(o1.lt k e).2, own_ne o1 c1 (by decide) e⟩)
  have e : entsOf mask cs (i + 1) = entsOf mask cs i ++ [(i, cnOf cs i)] := by simp [entsOf, hb]
  refine ⟨nv', W1, cv', W2, hr1, hr2, ⟨?_, ?_, ?_⟩⟩
  · rw [e]; exact own_cast n2 (by simp) (by simp [nmCells])
  · rw [e]; exact own_cast o2 (by simp) (by simp [cnCells])
  · refine h.kept.trans ((g1.kept.mono hs (fun k hk e => ?_)).trans (g2.kept.mono (by omega) (fun k hk e => ?_)))
    · have := (own_obj h.nrow e.symm).1; omega
    · have := (own_obj c1 e.symm).1; omega
end Go.Proofs.YbulkcrtgFmt
