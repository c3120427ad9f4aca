/-
  The clock's plain laws: what a script of ticks and sends comes to.
-/
import Derived.Test.YbulkcrtgFmtDsRe
namespace Go.Proofs.YbulkcrtgFmt
open Go Go.RowKit

theorem pos_uniq {es : List (Nat × Nat)} {p k k' : Nat} (h : PosOf es p k) (h' : PosOf es p k') : k = k' := by
  rcases Nat.lt_trichotomy k k' with hl | he | hl
  · have he : es[k]? = some (es[k]'(by have := h'.1; omega)) := List.getElem?_eq_getElem _
    have h1 := h'.2.1 k _ hl he
    have h2 := h.2.2 k _ (Nat.le_refl _) he
    omega
  · exact he
  · have he : es[k']? = some (es[k']'(by have := h.1; omega)) := List.getElem?_eq_getElem _
    have h1 := h.2.1 k' _ hl he
    have h2 := h'.2.2 k' _ (Nat.le_refl _) he
    omega
theorem srt_len {es : List (Nat × Nat)} (hs : Srt es) : es.length ≤ 6 := by
  have key : ∀ (i : Nat) (e : Nat × Nat), es[i]? = some e → i ≤ e.1 := by
    intro i
    induction i with
    | zero => intro e _; omega
    | succ i ih =>
      intro e he
      have hl := (List.getElem?_eq_some_iff.1 he).1
      have he0 : es[i]? = some (es[i]'(by omega)) := List.getElem?_eq_getElem _
      have h1 := ih _ he0
      have h2 := hs.2 i (i + 1) _ _ (by omega) he0 he
      omega
  rcases Nat.lt_or_ge 6 es.length with h | h
  · have he : es[6]? = some es[6] := List.getElem?_eq_getElem _
    have h1 := key 6 _ he
    have h2 := (hs.1 _ (List.mem_of_getElem? he)).1
    omega
  · exact h
def Bd (es : List (Nat × Nat)) (M : Nat) : Prop := ∀ e ∈ es, e.2 ≤ M
theorem cnt_bd {es : List (Nat × Nat)} {M p k : Nat} (h : Bd es M) : cntAt es p k ≤ M := by
  unfold cntAt
  split
  · rename_i e he
    split
    · exact h e (List.mem_of_getElem? he)
    · omega
  · omega
theorem ins0_mem {es : List (Nat × Nat)} {p k : Nat} {e : Nat × Nat} (h : e ∈ ins0 es p k) : e ∈ es ∨ e = (p, 0) := by
  unfold ins0 at h
  split at h
  · exact .inl h
  · simp only [List.append_assoc, List.mem_append, List.mem_singleton] at h
    rcases h with h | h | h
    · exact .inl (List.mem_of_mem_take h)
    · exact .inr h
    · exact .inl (List.mem_of_mem_drop h)
theorem bump_mem {es : List (Nat × Nat)} {p k : Nat} {e : Nat × Nat} (h : e ∈ bump es p k) : e ∈ es ∨ e.1 = p ∧ e.2 ≤ cntAt es p k + 1 := by
  unfold bump at h
  rcases List.mem_or_eq_of_mem_set h with h | h
  · rcases ins0_mem h with h | h
    · exact .inl h
    · exact .inr (by rw [h]; simp)
  · exact .inr (by rw [h]; simp)
theorem bump_bd {es : List (Nat × Nat)} {M p k : Nat} (h : Bd es M) : Bd (bump es p k) (M + 1) := fun e he => by
  have := cnt_bd (p := p) (k := k) h
  rcases bump_mem he with h1 | h1
  · have := h e h1; omega
  · omega
/-- The names of the entries behind the tick: as those of ins0. -/
theorem bump_fst {es : List (Nat × Nat)} {p k : Nat} (hk : PosOf es p k) : (bump es p k).map (·.1) = (ins0 es p k).map (·.1) := by
  unfold bump
  rw [List.map_set]
  have : ((ins0 es p k).map (·.1))[k]? = some p := by
    rw [List.getElem?_map]
    unfold ins0
    split
    · rename_i h
      unfold isAt at h
      split at h
      · rename_i e he; rw [he]; simpa using h
      · cases h
    · have h1 := hk.1
      rw [List.append_assoc, List.getElem?_append_right (by rw [List.length_take]; omega), List.length_take, Nat.min_eq_left h1, Nat.sub_self]
      rfl
  obtain ⟨hl, he⟩ := List.getElem?_eq_some_iff.1 this
  have h2 := List.set_getElem_self hl
  rw [he] at h2
  exact h2
theorem srt_fst {es : List (Nat × Nat)} : (∀ (i j : Nat) (a b : Nat × Nat), i < j → es[i]? = some a → es[j]? = some b → a.1 < b.1) ↔ (es.map (·.1)).Pairwise (· < ·) := by
  rw [List.pairwise_iff_getElem]
  constructor
  · intro h i j hi hj hlt
    simp only [List.length_map] at hi hj
    simp only [List.getElem_map]
    exact h i j _ _ hlt (List.getElem?_eq_getElem _) (List.getElem?_eq_getElem _)
  · intro h i j a b hlt ha hb
    obtain ⟨hi, rfl⟩ := List.getElem?_eq_some_iff.1 ha
    obtain ⟨hj, rfl⟩ := List.getElem?_eq_some_iff.1 hb
    have := h i j (by simpa using hi) (by simpa using hj) hlt
    simpa using this
theorem srt_bump {es : List (Nat × Nat)} {M p k : Nat} (hs : Srt es) (hb : Bd es M) (hM : M + 1 ≤ 8589934592) (hp : p ≤ 5) (hk : PosOf es p k) : Srt (bump es p k) := by
  refine ⟨fun e he => ?_, ?_⟩
  · have h2 := bump_bd hb e he
    rcases bump_mem he with h1 | h1
    · exact ⟨(hs.1 e h1).1, by omega⟩
    · exact ⟨by omega, by omega⟩
  · rw [srt_fst, bump_fst hk]
    have h0 := srt_fst.1 hs.2
    unfold ins0
    split
    · exact h0
    · rename_i hf
      rw [List.append_assoc, List.map_append, List.map_take, List.pairwise_append]
      refine ⟨h0.sublist (List.take_sublist _ _), ?_, ?_⟩
      · rw [List.map_append, List.map_drop, List.map_singleton, List.singleton_append, List.pairwise_cons]
        refine ⟨fun b hb => ?_, h0.sublist (List.drop_sublist _ _)⟩
        rw [← List.map_drop] at hb
        simp only [List.mem_map] at hb
        obtain ⟨e, he, rfl⟩ := hb
        obtain ⟨i, hi⟩ := List.getElem?_of_mem he
        rw [List.getElem?_drop] at hi
        have h1 := hk.2.2 _ _ (Nat.le_add_right k i) hi
        rcases Nat.lt_or_eq_of_le h1 with h2 | h2
        · exact h2
        · exfalso
          cases i with
          | zero =>
            simp only [isAt, Nat.add_zero] at hf hi
            rw [hi] at hf
            simp at hf; omega
          | succ i =>
            have hl := (List.getElem?_eq_some_iff.1 hi).1
            have hek : es[k]? = some (es[k]'(by omega)) := List.getElem?_eq_getElem _
            have h3 := hs.2 k _ _ _ (by omega) hek hi
            have h4 := hk.2.2 k _ (Nat.le_refl _) hek
            omega
      · intro a ha b hb
        rw [← List.map_take] at ha
        simp only [List.mem_map] at ha
        obtain ⟨e, he, rfl⟩ := ha
        obtain ⟨i, hi⟩ := List.getElem?_of_mem he
        rw [List.getElem?_take] at hi
        split at hi
        · rename_i hik
          have h1 := hk.2.1 i _ hik hi
          rw [List.map_append, List.map_singleton, List.singleton_append, List.mem_cons] at hb
          rcases hb with rfl | hb
          · exact h1
          · simp only [List.mem_map] at hb
            obtain ⟨e', he', rfl⟩ := hb
            obtain ⟨i', hi'⟩ := List.getElem?_of_mem he'
            rw [List.getElem?_drop] at hi'
            have := hk.2.2 _ _ (Nat.le_add_right k i') hi'
            omega
        · cases hi

/-- The marks: those of the others stay 0; the own one's is the own count of an event behind the first send. -/
structure CInv (p : Nat) (es : List (Nat × Nat)) (rs : Option (List Nat)) (sx sy : Option Nat) : Prop where
  no : rs = none → sx = none ∧ sy = none
  so : ∀ l, rs = some l → ∃ kk c : Nat, es[kk]? = some (p, c) ∧ l.length = es.length ∧ (∀ i m : Nat, i ≠ kk → l[i]? = some m → m = 0) ∧ (∀ m : Nat, l[kk]? = some m → m ≤ c) ∧ (∀ a, sx = some a → 1 ≤ a ∧ a ≤ c) ∧ ∀ a, sy = some a → 1 ≤ a ∧ a ≤ c
section
variable {p : Nat} {es : List (Nat × Nat)} {rs : Option (List Nat)} {sx sy : Option Nat} {k : Nat}
theorem CInv.isAt (h : CInv p es rs sx sy) (hs : Srt es) : ∀ l, rs = some l → ∀ k, PosOf es p k → isAt es p k = true := fun l hl k hk => by
  obtain ⟨kk, c, he, _⟩ := h.so l hl
  rw [pos_own hs he hk]
  simp [YbulkcrtgFmt.isAt, he]
/-- Where the entry is there. -/
theorem bump_at {c : Nat} (he : es[k]? = some (p, c)) : bump es p k = es.set k (p, c + 1) ∧ cntAt es p k = c := by
  have h1 : isAt es p k = true := by simp [isAt, he]
  have h2 : cntAt es p k = c := by simp [cntAt, he]
  refine ⟨?_, h2⟩
  unfold bump ins0
  rw [if_pos h1, h2]
theorem CInv.set {kk c : Nat} {l : List Nat} {sx' sy' : Option Nat} (he : es[kk]? = some (p, c)) (hl : l.length = es.length) (h0 : ∀ i m : Nat, i ≠ kk → l[i]? = some m → m = 0) (hx : ∀ a, sx' = some a → 1 ≤ a ∧ a ≤ c + 1) (hy : ∀ a, sy' = some a → 1 ≤ a ∧ a ≤ c + 1) : CInv p (es.set kk (p, c + 1)) (some (l.set kk (c + 1))) sx' sy' := by
  have hlt := (List.getElem?_eq_some_iff.1 he).1
  refine ⟨fun h => (by cases h), fun l' hl' => ?_⟩
  simp only [Option.some.injEq] at hl'
  subst hl'
  refine ⟨kk, c + 1, by rw [List.getElem?_set_self hlt], by simp [hl], fun i m hne hm => ?_, fun m hm => ?_, hx, hy⟩
  · rw [List.getElem?_set_ne (fun e => hne e.symm)] at hm
    exact h0 i m hne hm
  · rw [List.getElem?_set_self (by omega)] at hm
    simp only [Option.some.injEq] at hm
    omega
theorem CInv.tick (h : CInv p es rs sx sy) (hs : Srt es) (hk : PosOf es p k) : CInv p (bump es p k) (rs.map fun l => l.set k (cntAt es p k + 1)) sx sy := by
  cases rs with
  | none => exact ⟨fun _ => h.no rfl, fun l hl => by cases hl⟩
  | some l =>
    obtain ⟨kk, c, he, hl, h0, _, hx, hy⟩ := h.so l rfl
    obtain rfl := pos_own hs he hk
    obtain ⟨e1, e2⟩ := bump_at he
    rw [e1, e2]
    exact CInv.set he hl h0 (fun a ha => ⟨(hx a ha).1, by have := (hx a ha).2; omega⟩) (fun a ha => ⟨(hy a ha).1, by have := (hy a ha).2; omega⟩)
theorem CInv.send (j : Bool) (h : CInv p es rs sx sy) (hs : Srt es) (hk : PosOf es p k) : CInv p (bump es p k) (some (mk1 es rs p k)) (if j then sx else some (cntAt es p k + 1)) (if j then some (cntAt es p k + 1) else sy) := by
  cases rs with
  | none =>
    obtain ⟨rfl, rfl⟩ := h.no rfl
    refine ⟨fun h => (by cases h), fun l hl => ?_⟩
    simp only [mk1, Option.map_none, Option.getD_none, Option.some.injEq] at hl
    subst hl
    refine ⟨k, cntAt es p k + 1, bump_own hk, by simp, fun i m _ hm => ?_, fun m hm => ?_, fun a ha => ?_, fun a ha => ?_⟩
    · exact List.eq_of_mem_replicate (List.mem_of_getElem? hm)
    · have := List.eq_of_mem_replicate (List.mem_of_getElem? hm); omega
    · cases j <;> simp at ha; omega
    · cases j <;> simp at ha; omega
  | some l =>
    obtain ⟨kk, c, he, hl, h0, _, hx, hy⟩ := h.so l rfl
    obtain rfl := pos_own hs he hk
    obtain ⟨e1, e2⟩ := bump_at he
    simp only [mk1, Option.map_some, Option.getD_some]
    rw [e1, e2]
    refine CInv.set he hl h0 (fun a ha => ?_) (fun a ha => ?_)
    · cases j
      · simp at ha; omega
      · exact ⟨(hx a ha).1, by have := (hx a ha).2; omega⟩
    · cases j
      · exact ⟨(hy a ha).1, by have := (hy a ha).2; omega⟩
      · simp at ha; omega
theorem out_all (es : List (Nat × Nat)) (l : List Nat) (h : es.length ≤ l.length) : outOf es l none = es := by
  unfold outOf
  rw [List.filter_eq_self.2 (by simp), List.map_fst_zip h]
theorem out_one {es : List (Nat × Nat)} {l : List Nat} {a k m : Nat} {e : Nat × Nat} (hl : l.length = es.length) (he : es[k]? = some e) (hm : l[k]? = some m) (ham : a < m) (ho : ∀ i m' : Nat, i ≠ k → l[i]? = some m' → ¬ a < m') : outOf es l (some a) = [e] := by
  have hk := (List.getElem?_eq_some_iff.1 he).1
  have key : ∀ i, i ≤ es.length → outOf (es.take i) (l.take i) (some a) = if k < i then [e] else [] := by
    intro i
    induction i with
    | zero => intro _; simp [outOf]
    | succ i ih =>
      intro hi
      have he' : es[i]? = some (es[i]'(by omega)) := List.getElem?_eq_getElem _
      have hm' : l[i]? = some (l[i]'(by omega)) := List.getElem?_eq_getElem _
      rw [out_next es l (some a) i _ _ he' hm', ih (by omega)]
      rcases Nat.lt_trichotomy k i with h | h | h
      · have := ho i _ (by omega) hm'
        have hp : pickAt l (some a) i = false := by simp only [pickAt, hm']; simpa using this
        rw [hp, if_pos h, if_pos (show k < i + 1 by omega)]
        simp
      · subst h
        have hp : pickAt l (some a) k = true := by simp only [pickAt, hm]; simpa using ham
        rw [hp, if_neg (show ¬ k < k by omega), if_pos (show k < k + 1 by omega)]
        rw [he] at he'
        simp only [Option.some.injEq] at he'
        simp [← he']
      · have := ho i _ (by omega) hm'
        have hp : pickAt l (some a) i = false := by simp only [pickAt, hm']; simpa using this
        rw [hp, if_neg (show ¬ k < i by omega), if_neg (show ¬ k < i + 1 by omega)]
        simp
  have := key es.length (Nat.le_refl _)
  rw [if_pos hk, List.take_length, List.take_of_length_le (by omega)] at this
  exact this
/-- What a differential send carries: all at the first one to this peer, later the own entry. -/
theorem out_law (j : Bool) (h : CInv p es rs sx sy) (hs : Srt es) (hk : PosOf es p k) : outS es rs sx sy j p k = if (lastOf j sx sy).isSome then [(p, cntAt es p k + 1)] else bump es p k := by
  unfold outS
  cases hls : lastOf j sx sy with
  | none =>
    simp only [Option.isSome_none, Bool.false_eq_true, if_false]
    refine out_all _ _ ?_
    cases rs with
    | none => simp [mk1]
    | some l =>
      obtain ⟨kk, c, he, hl, _⟩ := h.so l rfl
      obtain rfl := pos_own hs he hk
      rw [(bump_at he).1]
      simp [mk1, hl]
  | some a =>
    simp only [Option.isSome_some, if_true]
    cases rs with
    | none =>
      obtain ⟨rfl, rfl⟩ := h.no rfl
      cases j <;> cases hls
    | some l =>
      obtain ⟨kk, c, he, hl, h0, _, hx, hy⟩ := h.so l rfl
      obtain rfl := pos_own hs he hk
      obtain ⟨e1, e2⟩ := bump_at he
      have ha : 1 ≤ a ∧ a ≤ c := by
        cases j
        · exact hx a hls
        · exact hy a hls
      have hlt := (List.getElem?_eq_some_iff.1 he).1
      refine out_one (m := c + 1) (k := k) ?_ (bump_own hk) ?_ (by omega) (fun i m' hne hm' => ?_)
      · rw [e1]; simp [mk1, hl]
      · simp only [mk1, Option.map_some, Option.getD_some, e2]
        rw [List.getElem?_set_self (by omega)]
      · simp only [mk1, Option.map_some, Option.getD_some, e2] at hm'
        rw [List.getElem?_set_ne (fun e => hne e.symm)] at hm'
        have := h0 i m' hne hm'
        omega
end
end Go.Proofs.YbulkcrtgFmt
