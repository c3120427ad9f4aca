/-
  LAWS OF NO PROGRAM: appends onto a row of the call's own, whatever the source (nil or not), and gc's append-of-make; what a store does to an owned row.
-/
import Derived.WalkKit
import Derived.Laws.AppendOwnNone
import Derived.Lib.AppendZerosOnto
import Derived.Shelf.Bin.BEAppendUint16
import Derived.Lib.EndianMore
namespace Go.Proofs.YbulkcrpmFmt
open Go Go.RowKit

section
variable {P : Program} (w : World)

/-- append(v, src...), v the call's own, src nil or at an address whose cells are known. -/
theorem run_append_src (base : Nat) (t ty e : TypeId) (i : TypeInfo) (z : Value) (size bytes : Nat) (ht : P.underlying t = some (.slice e)) (hi : P.info? e = some i) (hz : i.zero = some z)
    (hsize : i.size = size) (hby : i.bytes = bytes) (hzs : z.cells.size = size) (hsz : 0 < size)
    (v : Value) (n : Nat) (xs : List Value) (hown : w.ownsRow base e size v n xs)
    (va : Option Addr) (m c : Nat) (news : List Value) (hl : news.length = m * size) (hnil : va = none → m = 0 ∧ c = 0) (hnews : ∀ a, va = some a → ∀ j u, news[j]? = some u → w.cell? (a.add j) = some u) (h1 : ∀ u ∈ news, u.oneCell' = true)
    (h63 : n + m ≤ maxLen) (hbytes : (n + m) * bytes ≤ 140737488355328) (hbase : base ≤ w.heap.size) :
    ∃ v' w', (Builtin.append_ #[t, t] ty #[v, .slice va m c]).run P w = .ok v' w' ∧ w'.ownsRow base e size v' (n + m) (xs ++ news) ∧ w.grownBy w' v.ownBlock := by
  cases va with
  | none =>
    obtain ⟨rfl, rfl⟩ := hnil rfl
    have hn : news = [] := List.eq_nil_of_length_eq_zero (by simpa using hl)
    subst hn
    refine ⟨v, w, run_append_owned_none (P := P) w base t ty e i size ht hi v n xs hown, by simpa using hown, World.grownBy.refl _ _⟩
  | some a =>
    obtain ⟨v', w', hr, h2, h3, _⟩ := run_append_own (P := P) w base t ty e i z size bytes ht hi hz hsize hby hzs hsz v n xs hown a m c news hl (hnews a rfl) h1 h63 hbytes hbase
    exact ⟨v', w', hr, h2, h3⟩

theorem wpList_append_src {ops : Array Oper} {rest : List Oper} {o : Oper} {a : Act} {Q : Exit → Act → World → Prop} (hgd : o.guard = none) (s x : Operand) (t : TypeId)
    (ho : o.op = .call { callee := .builtin .append, args := #[s, x], argTypes := #[t, t] })
    (base : Nat) (e : TypeId) (i : TypeInfo) (z : Value) (size bytes : Nat) (ht : P.underlying t = some (.slice e)) (hi : P.info? e = some i) (hz : i.zero = some z)
    (hsize : i.size = size) (hby : i.bytes = bytes) (hzs : z.cells.size = size) (hsz : 0 < size)
    (v : Value) (n : Nat) (xs : List Value) (hs : a.eval s = v) (hown : w.ownsRow base e size v n xs)
    (va : Option Addr) (m c : Nat) (news : List Value) (hx : a.eval x = .slice va m c) (hl : news.length = m * size) (hnil : va = none → m = 0 ∧ c = 0) (hnews : ∀ a, va = some a → ∀ j u, news[j]? = some u → w.cell? (a.add j) = some u) (h1 : ∀ u ∈ news, u.oneCell' = true)
    (h63 : n + m ≤ maxLen) (hbytes : (n + m) * bytes ≤ 140737488355328) (hbase : base ≤ w.heap.size)
    (h : ∀ v' w', w'.ownsRow base e size v' (n + m) (xs ++ news) → w.grownBy w' v.ownBlock → wpList P ops Q rest (a.put o.dst v') w') : wpList P ops Q (o :: rest) a w := by
  obtain ⟨v', w', hr, h2, h3⟩ := run_append_src (P := P) w base t o.type e i z size bytes ht hi hz hsize hby hzs hsz v n xs hown va m c news hl hnil hnews h1 h63 hbytes hbase
  exact Lib.wpList_append_run w hgd s x t t ho v (.slice va m c) hs hx v' w' hr (h v' w' h2 h3)

theorem toList_zeroCells_one (z : Value) (hz : z.cells = #[z]) (m : Nat) : (Builtin.zeroCells z.cells m).toList = List.replicate m z := by
  apply List.ext_getElem?
  intro j
  rw [hz]
  by_cases hj : j < m
  · simp [Builtin.zeroCells, hj, Nat.mod_one]
  · simp [Builtin.zeroCells, hj]

/-- append(v, make([]T, m)...), T of one cell, v a row of the call's own that is not nil. -/
theorem run_append_zeros (base : Nat) (t tn ty e : TypeId) (i : TypeInfo) (z : Value) (bytes : Nat) (k kn : IntKind) (ht : P.underlying t = some (.slice e)) (htn : P.underlying tn = some (.int kn)) (hi : P.info? e = some i) (hz : i.zero = some z)
    (hsize : i.size = 1) (hby : i.bytes = bytes) (hzs : z.cells = #[z]) (hz1 : z.oneCell' = true)
    (g cap n : Nat) (xs : List Value) (hown : w.ownsRow base e 1 (.slice (some ⟨g, 0, none⟩) n cap) n xs)
    (m : Nat) (h63 : n + m ≤ maxLen) (hbytes : (n + m) * bytes ≤ 140737488355328) (hbase : base ≤ w.heap.size) :
    ∃ v' w', (Builtin.append_ #[t, tn] ty #[.slice (some ⟨g, 0, none⟩) n cap, .int k m]).run P w = .ok v' w' ∧ w'.ownsRow base e 1 v' (n + m) (xs ++ List.replicate m z) ∧ w.grownBy w' (some g) := by
  have hsmall : n + m ≤ 9223372036854775807 := by simp only [maxLen] at h63; omega
  have hlen : (xs ++ List.replicate m z).length = (n + m) * 1 := by rw [List.length_append, hown.1, List.length_replicate]; omega
  have hw : IntKind.i64.wrap (m : Int) = m := by rw [IntKind.wrap_i64]; omega
  have hneg : ¬ ((m : Int) < 0) := by omega
  have hmb : m * i.bytes ≤ 140737488355328 := by
    rw [hby]; exact Nat.le_trans (Nat.mul_le_mul_right _ (Nat.le_add_left m n)) hbytes
  have h48i : ¬ (281474976710656 < (m : Int) * (i.bytes : Int)) := by
    rw [← Int.natCast_mul]
    omega
  have hzl := toList_zeroCells_one z hzs m
  rcases hown.2 with ⟨h', _⟩ | ⟨g', cap', cur, h', hbg, hg, hnc, hcm, hcs, htake⟩
  · simp at h'
  · simp only [Value.slice.injEq, Option.some.injEq, Addr.mk.injEq, and_true, true_and] at h'
    obtain ⟨rfl, rfl⟩ := h'
    simp only [Nat.mul_one] at hcs htake
    by_cases hroom : n + m ≤ cap
    · have hst := run_storeCells_at P g n e (List.replicate m z) 0 cur w hg (by simp; omega) (by intro u hu; rw [List.mem_replicate] at hu; rw [hu.2]; exact hz1)
      simp only [Nat.add_zero] at hst
      refine ⟨.slice (some ⟨g, 0, none⟩) (n + m) cap, w.setRow g (cur.toList.take n ++ List.replicate m z ++ cur.toList.drop (n + (List.replicate m z).length)).toArray, ?_, ⟨hlen, .inr ⟨g, cap, _, rfl, hbg, setRow_heap w g cur _ e _ hg, hroom, hcm, ?_, ?_⟩⟩, ⟨rfl, rfl, rfl, by simp, fun k _ hk => setRow_other w g k _ (fun e => hk (by simp [e]))⟩⟩
      · by_cases hm : m = 0
        · subst hm
          simp only [List.replicate_zero] at hst
          simp [Builtin.append_, run_underlying ht, run_underlying htn, sizeOf, typeInfo, hi, asInt, asIntOf, IntKind.wrap_i64, hnc, Addr.add_lit, hsize, hst]
        · simp [Builtin.append_, run_underlying ht, run_underlying htn, sizeOf, typeInfo, zeroValue, hi, hz, asInt, asIntOf, hw, hneg, h48i, hm, hroom, Addr.add_lit, hsize, hzl, hst]
      · simp only [List.size_toArray, List.length_append, List.length_take, List.length_drop, Array.length_toList, List.length_replicate]
        omega
      · rw [htake, ← hlen]
        exact List.take_left
    · have hm0 : 0 < m := by omega
      have holds : ∀ j u, xs[j]? = some u → w.drew.cell? ((⟨g, 0, none⟩ : Addr).add j) = some u := hown.cells (g := g) rfl
      have hold := run_firstCells_some (P := P) w.drew i.size n ⟨g, 0, none⟩ n cap xs (by rw [hsize]; exact hown.1) holds
      have hr := Lib.run_append_grow_zeros (P := P) w t tn ty e i z k kn ht htn hi hz (some ⟨g, 0, none⟩) n cap xs hold m hm0 (by omega) (by omega) (by omega) (by omega) (growslice_fits (by omega) (by rw [hby]; exact hbytes))
      have hge := grownCap_ge w (n + m) cap e
      have hcm2 : grownCap w (n + m) cap e ≤ maxLen := grownCap_le_maxLen w (n + m) cap e h63
      refine ⟨_, _, hr, ⟨hlen, .inr ⟨w.heap.size, _, _, rfl, hbase, heap_alloc_new w.drew _, hge, hcm2, ?_, ?_⟩⟩, ⟨rfl, rfl, rfl, by simp, fun k hk _ => Below.heap_alloc w.drew _ k hk⟩⟩
      · simp only [Array.size_append, List.size_toArray, size_zeroCells, hzs, hown.1]
        simp
        omega
      · simp only [Array.toList_append, hzl, ← hlen, List.append_assoc]
        rw [← List.append_assoc]
        exact List.take_left

theorem wpList_append_zeros {ops : Array Oper} {rest : List Oper} {o : Oper} {a : Act} {Q : Exit → Act → World → Prop} (hgd : o.guard = none) (s x : Operand) (t tn : TypeId)
    (ho : o.op = .call { callee := .builtin .append, args := #[s, x], argTypes := #[t, tn] })
    (base : Nat) (e : TypeId) (i : TypeInfo) (z : Value) (bytes : Nat) (k kn : IntKind) (ht : P.underlying t = some (.slice e)) (htn : P.underlying tn = some (.int kn)) (hi : P.info? e = some i) (hz : i.zero = some z)
    (hsize : i.size = 1) (hby : i.bytes = bytes) (hzs : z.cells = #[z]) (hz1 : z.oneCell' = true)
    (v : Value) (n : Nat) (xs : List Value) (hs : a.eval s = v) (hown : w.ownsRow base e 1 v n xs) (hn : 0 < n)
    (q : Int) (m : Nat) (hq : q = m) (hx : a.eval x = .int k q) (h63 : n + m ≤ maxLen) (hbytes : (n + m) * bytes ≤ 140737488355328) (hbase : base ≤ w.heap.size)
    (h : ∀ v' w', w'.ownsRow base e 1 v' (n + m) (xs ++ List.replicate m z) → w.grownBy w' v.ownBlock → wpList P ops Q rest (a.put o.dst v') w') : wpList P ops Q (o :: rest) a w := by
  subst hq
  have hf : ∃ g cap, v = .slice (some ⟨g, 0, none⟩) n cap := by
    rcases hown.2 with ⟨_, h0⟩ | ⟨g, cap, _, h', _⟩
    · omega
    · exact ⟨g, cap, h'⟩
  obtain ⟨g, cap, rfl⟩ := hf
  obtain ⟨v', w', hr, h2, h3⟩ := run_append_zeros (P := P) w base t tn o.type e i z bytes k kn ht htn hi hz hsize hby hzs hz1 g cap n xs hown m h63 hbytes hbase
  exact Lib.wpList_append_run w hgd s x t tn ho _ (.int k m) hs hx v' w' hr (h v' w' h2 h3)
end

/-- The shape of what owns at least one element. -/
theorem own_form {w : World} {base : Nat} {e : TypeId} {size n : Nat} {v : Value} {xs : List Value} (h : w.ownsRow base e size v n xs) (hn : 0 < n) :
    ∃ g cap, v = .slice (some ⟨g, 0, none⟩) n cap ∧ base ≤ g ∧ n ≤ cap ∧ g < w.heap.size := by
  rcases h.2 with ⟨_, h0⟩ | ⟨g, cap, cur, h', hb, hg, hnc, _⟩
  · omega
  · exact ⟨g, cap, h', hb, hnc, (Array.getElem?_eq_some_iff.1 hg).1⟩

/-- Several stores into an owned row, one behind the other. -/
theorem own_setCells {base : Nat} {e : TypeId} {size n g cap : Nat} : ∀ (vs : List Value) (o : Nat) (w : World) (xs : List Value), w.ownsRow base e size (.slice (some ⟨g, 0, none⟩) n cap) n xs → o + vs.length ≤ xs.length →
    (w.setCells g o vs).ownsRow base e size (.slice (some ⟨g, 0, none⟩) n cap) n (xs.take o ++ vs ++ xs.drop (o + vs.length))
  | [], o, w, xs, h, _ => by simpa [World.setCells] using h
  | v :: vs, o, w, xs, h, hl => by
    have h1 := (h.stored o v).1
    have hl' : o + 1 + vs.length ≤ (xs.set o v).length := by simp at hl ⊢; omega
    have h2 := own_setCells vs (o + 1) (w.setCell ⟨g, o, none⟩ v) (xs.set o v) h1 hl'
    have e1 : (xs.set o v).take (o + 1) ++ vs ++ (xs.set o v).drop (o + 1 + vs.length) = xs.take o ++ v :: vs ++ xs.drop (o + (v :: vs).length) := by
      simp only [List.length_cons] at hl
      rw [List.drop_set_of_lt (by omega), List.take_set, List.take_succ_eq_append_getElem (by omega)]
      rw [List.set_append_right _ _ (by rw [List.length_take]; exact Nat.min_le_left _ _)]
      simp [Nat.min_eq_left (by omega : o ≤ xs.length), Nat.add_comm, Nat.add_left_comm]
    rw [e1] at h2
    exact h2

/-- One store behind an owned row's elements, within its capacity: one element more. -/
theorem own_push {w : World} {base : Nat} {e : TypeId} {n g cap : Nat} {xs : List Value} (h : w.ownsRow base e 1 (.slice (some ⟨g, 0, none⟩) n cap) n xs) (v : Value) (hroom : n + 1 ≤ cap) :
    (w.setCell ⟨g, n, none⟩ v).ownsRow base e 1 (.slice (some ⟨g, 0, none⟩) (n + 1) cap) (n + 1) (xs ++ [v]) := by
  rcases h.2 with ⟨h', _⟩ | ⟨g', cap', cur, h', hb, hg, hnc, hcm, hcs, htake⟩
  · simp at h'
  · simp only [Value.slice.injEq, Option.some.injEq, Addr.mk.injEq, and_true, true_and] at h'
    obtain ⟨rfl, rfl⟩ := h'
    have hl := h.1
    simp only [Nat.mul_one] at hl hcs htake
    refine ⟨by simp [hl], .inr ⟨g, cap, cur.setIfInBounds n v, rfl, hb, heap_setCell_same w g n cur e v hg, hroom, hcm, by simpa using hcs, ?_⟩⟩
    rw [Array.toList_setIfInBounds, Nat.mul_one, List.take_set, List.take_succ_eq_append_getElem (by simp; omega), htake, List.set_append_right _ _ (by omega)]
    simp [hl]

theorem own_spare {base : Nat} {e : TypeId} {g cap : Nat} : ∀ (vs : List Value) (n : Nat) (w : World) (xs : List Value), w.ownsRow base e 1 (.slice (some ⟨g, 0, none⟩) n cap) n xs → n + vs.length ≤ cap →
    (w.setCells g n vs).ownsRow base e 1 (.slice (some ⟨g, 0, none⟩) (n + vs.length) cap) (n + vs.length) (xs ++ vs)
  | [], n, w, xs, h, _ => by simpa [World.setCells] using h
  | v :: vs, n, w, xs, h, hl => by
    simp only [List.length_cons] at hl
    have h2 := own_spare vs (n + 1) (w.setCell ⟨g, n, none⟩ v) (xs ++ [v]) (own_push h v (by omega)) (by omega)
    have e1 : n + 1 + vs.length = n + (v :: vs).length := by simp; omega
    rw [e1, List.append_assoc] at h2
    exact h2

theorem grown_setCells (g : Nat) : ∀ (vs : List Value) (o : Nat) (w : World), w.grownBy (w.setCells g o vs) (some g)
  | [], _, w => World.grownBy.refl w _
  | v :: vs, o, w => by
    have h := grown_setCells g vs (o + 1) (w.setCell ⟨g, o, none⟩ v)
    exact ⟨h.os, h.tape, h.output, by have := h.size; simp only [World.size_setCell] at this; exact this, fun k hk hne => (h.block k (by simpa using hk) hne).trans (heap_setCell_other w ⟨g, o, none⟩ k v (fun e => hne (by simp [e])))⟩

theorem grown_trans {a b c : World} {row : Option Nat} (h : a.grownBy b row) (k : b.grownBy c row) : a.grownBy c row :=
  ⟨k.os.trans h.os, k.tape.trans h.tape, k.output.trans h.output, Nat.le_trans h.size k.size, fun i hi hne => (k.block i (Nat.lt_of_lt_of_le hi h.size) hne).trans (h.block i hi hne)⟩

theorem grown_of_below {a b : World} (row : Option Nat) (h : Below a.heap.size a b) : a.grownBy b row :=
  ⟨h.os, h.tape, h.output, h.size, fun i hi _ => h.block i hi⟩

/-- A block of another element type is not the row. -/
theorem own_ne {w : World} {base : Nat} {e : TypeId} {size n : Nat} {v : Value} {xs : List Value} (h : w.ownsRow base e size v n xs) {b : Nat} {cs : Array Value} {t : TypeId} {fr : Nat × Nat} (hb : w.heap[b]? = some (.cells cs t fr)) (hne : t ≠ e) : some b ≠ v.ownBlock := by
  intro hc
  rcases h.2 with ⟨rfl, _⟩ | ⟨g, cap, cur, rfl, _, hg, _⟩
  · simp [Value.ownBlock] at hc
  · simp only [Value.ownBlock, Option.some.injEq] at hc
    subst hc
    rw [hb] at hg
    simp at hg
    exact hne hg.2.1

theorem grown_block {w w' : World} {row : Option Nat} (hg : w.grownBy w' row) {b : Nat} {o : Obj} (hb : w.heap[b]? = some o) (hne : some b ≠ row) : w'.heap[b]? = some o :=
  (hg.block b (lt_of_block hb) hne).trans hb

theorem own_row_ge {w : World} {base : Nat} {e : TypeId} {size n : Nat} {v : Value} {xs : List Value} (h : w.ownsRow base e size v n xs) : ∀ k, v.ownBlock = some k → base ≤ k := fun k hk => (h.lt k hk).1
theorem own_le {w : World} {base base' size n : Nat} {e : TypeId} {v : Value} {xs : List Value} (h : w.ownsRow base e size v n xs) (hb : base' ≤ base) : w.ownsRow base' e size v n xs :=
  ⟨h.1, h.2.elim Or.inl (fun ⟨g, cap, cur, hv, hg, r⟩ => Or.inr ⟨g, cap, cur, hv, Nat.le_trans hb hg, r⟩)⟩
theorem news_two (w : World) (H : Nat) (hH : w.heap.size = H) (a b : Value) (t : TypeId) : ∀ (j : Nat) (u : Value), [a, b][j]? = some u → (w.alloc (.cells #[a, b] t)).cell? ((⟨H, 0, none⟩ : Addr).add j) = some u := by
  subst hH
  intro j u hj
  rw [Addr.add_lit, Nat.zero_add, cell_of_row _ w.heap.size j _ t (0, 0) (heap_alloc_new w _)]
  simpa using hj
theorem two_one {a b : Value} (ha : a.oneCell' = true) (hb : b.oneCell' = true) : ∀ u ∈ [a, b], u.oneCell' = true := by
  intro u hu
  simp at hu
  rcases hu with rfl | rfl
  · exact ha
  · exact hb
theorem alloc_block {w : World} {b : Nat} {ob : Obj} (h : w.heap[b]? = some ob) (o : Obj) : (w.alloc o).heap[b]? = some ob := (Below.heap_alloc w o b (lt_of_block h)).trans h
/-- A block that was laid ahead of the append (and of one block more) stands behind it. -/
theorem kept_new2 {w w1 : World} {base : Nat} {e : TypeId} {size n : Nat} {v : Value} {xs : List Value} (h : w.ownsRow base e size v n xs) {ob o : Obj} (hg : ((w.alloc ob).alloc o).grownBy w1 v.ownBlock) : w1.heap[w.heap.size]? = some ob :=
  grown_block hg (alloc_block (heap_alloc_new w ob) o) (fun e => by have := (h.lt _ e.symm).2; omega)
end Go.Proofs.YbulkcrpmFmt
