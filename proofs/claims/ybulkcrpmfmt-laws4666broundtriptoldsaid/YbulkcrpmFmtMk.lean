/-
  zzs4666bmsg (7) BY ITS CONTRACT: a new message; its parameters' values lie where the argument's lie.
-/
import Derived.Test.YbulkcrpmFmtMsg
namespace Go.Proofs.YbulkcrpmFmt
open Go Go.RowKit

/-- The cells xs of the first k parameters: tag and slice, the values' octets in w. -/
def RowOf (w : World) (ps : List (Nat × List UInt8)) (k : Nat) (xs : List Value) : Prop :=
  ∀ (i : Nat) (p : Nat × List UInt8), i < k → ps[i]? = some p → xs[i * 2]? = some (.int .u16 p.1) ∧ ∃ va c, xs[i * 2 + 1]? = some (.slice va p.2.length c) ∧ BytesAt w va c p.2

theorem RowOf.snoc {w : World} {ps : List (Nat × List UInt8)} {k tg c : Nat} {bs : List UInt8} {va : Option Addr} {xs : List Value} (h : RowOf w ps k xs) (hl : xs.length = k * 2) (hp : ps[k]? = some (tg, bs)) (hb : BytesAt w va c bs) :
    RowOf w ps (k + 1) (xs ++ [.int .u16 tg, .slice va bs.length c]) := by
  intro i p hi hip
  rcases Nat.lt_or_ge i k with h1 | h1
  · obtain ⟨a1, va', c', a2, a3⟩ := h i p h1 hip
    exact ⟨by rw [List.getElem?_append_left (by omega)]; exact a1, va', c', by rw [List.getElem?_append_left (by omega)]; exact a2, a3⟩
  · have : i = k := by omega
    subst this
    rw [hp] at hip
    simp only [Option.some.injEq] at hip
    subst hip
    refine ⟨?_, va, c, ?_, hb⟩
    · rw [List.getElem?_append_right (by omega), show i * 2 - xs.length = 0 from by omega]; rfl
    · rw [List.getElem?_append_right (by omega), show i * 2 + 1 - xs.length = 1 from by omega]; rfl

theorem RowOf.pars {w wr : World} {base : Nat} {v : Value} {ps : List (Nat × List UInt8)} {xs : List Value} (h : RowOf w ps ps.length xs) (hb : Below w.heap.size w wr) (ho : wr.ownsRow base 46 2 v ps.length xs) :
    ∃ pa pc, v = .slice pa ps.length pc ∧ ParsAt wr pa ps := by
  rcases ho.2 with ⟨hv, h0⟩ | ⟨g, cap, cur, hv, _⟩
  · refine ⟨none, 0, by rw [hv, h0], fun i p hp => ?_⟩
    have : ps = [] := List.eq_nil_of_length_eq_zero h0
    subst this
    simp at hp
  · subst hv
    refine ⟨_, cap, rfl, fun i p hp => ?_⟩
    have hi : i < ps.length := (List.getElem?_eq_some_iff.1 hp).1
    obtain ⟨a1, va, c, a2, a3⟩ := h i p hi hp
    exact ⟨g, 0, rfl, by rw [Nat.zero_add, ho.cellAt (i * 2) (by omega)]; exact a1, va, c, by rw [Nat.zero_add, ho.cellAt (i * 2 + 1) (by omega)]; exact a2, a3.below hb⟩

set_option maxHeartbeats 800000 in
theorem msg_any (kind : Nat) (pa : Option Addr) (pc : Nat) (ps : List (Nat × List UInt8)) (w : World) (hnp : ps.length ≤ 20000) (hps : ParsAt w pa ps) :
    Calls Ybaf.prog 7 #[.int .u16 kind, .slice pa ps.length pc] w fun e w' => e = .returned (.pointer (some ⟨w.heap.size, 0, none⟩)) ∧ Below w.heap.size w w' ∧ w.heap.size + 1 ≤ w'.heap.size ∧
      w'.cell? ⟨w.heap.size, 0, none⟩ = some (.int .u16 kind) ∧ ∃ pa' pc', w'.cell? ⟨w.heap.size, 0 + 1, none⟩ = some (.slice pa' ps.length pc') ∧ ParsAt w' pa' ps := by
  obtain ⟨i46, ki, kz0, kz1, kz2⟩ := info_parts (show (Ybaf.prog.info? 46).map (fun i => (i.zero, i.size, i.bytes)) = some (some (.agg #[.int .u16 0, .slice none 0 0]), 2, 32) from by kernel_rfl)
  go_enter Ybaf.func7, Ybaf.ntmps7
  go_wp2
  obtain ⟨w0, hw0⟩ : ∃ w0, w0 = w.alloc (.cells #[.int .u16 kind, .slice none 0 0] 43) := ⟨_, rfl⟩
  rw [← hw0]
  have hM0 : w0.heap[w.heap.size]? = some (.cells #[.int .u16 kind, .slice none 0 0] 43 (0, 0)) := by rw [hw0]; exact heap_alloc_new w _
  have hb0 : Below w.heap.size w w0 := by rw [hw0]; exact (Below.refl _ _).alloc (Nat.le_refl _) _
  have hs0 : w.heap.size + 1 ≤ w0.heap.size := by rw [hw0]; simp
  clear hw0
  go_loopw [12] (fun i wr => ∃ (k : Nat) (xs : List Value) (v : Value), k ≤ ps.length ∧ i = .int .i64 k ∧ wr.heap[w.heap.size]? = some (.cells #[.int .u16 kind, v] 43 (0, 0)) ∧ wr.ownsRow (w.heap.size + 1) 46 2 v k xs ∧ RowOf w ps k xs ∧ Below w.heap.size w wr ∧ w.heap.size + 1 ≤ wr.heap.size) (fun i _ => ps.length - (intOf i).toNat)
  case atStart => exact ⟨0, [], .slice none 0 0, Nat.zero_le _, rfl, hM0, World.ownsRow_nil w0 (w.heap.size + 1) 46 2, fun i p hi => by omega, hb0, hs0⟩
  case round =>
    obtain ⟨k, xs, v, hk, rfl, hM, hown, hrow, hnx, hsz⟩ := hrel
    clear hM0 hb0 hs0
    by_cases hlt : k < ps.length
    · obtain ⟨p, hp⟩ : ∃ p, ps[k]? = some p := ⟨ps[k], by simp [hlt]⟩
      obtain ⟨g, o, rfl, hc0, va, c, hc1, hbs⟩ := hps k p hp
      obtain ⟨tg, bs⟩ := p
      simp only at hc0 hc1 hbs
      have hg : g < w.heap.size := World.block_lt_of_cell? w _ hc0
      have hc0 := cell_below hnx hc0
      have hc1 := cell_below hnx hc1
      have qM : wr.cell? ⟨w.heap.size, 1, none⟩ = some v := (cell_of_row wr w.heap.size 1 _ _ _ hM).trans rfl
      have i1 : (0 : Int) ≤ (k : Int) := by omega
      have i2 : (k : Int) < (ps.length : Int) := by omega
      have hb1 : w.heap.size < wr.heap.size := by omega
      have hb2 : g < wr.heap.size := by omega
      go_wp2
      go_region_law (refine step_append_lies _ (by rfl) (.tmp 19) (.tmp 31) 41 (by rfl) (w.heap.size + 1) 46 i46 (.agg #[.int .u16 0, .slice none 0 0]) 2 32 Ybaf.underlying41 ki kz0 kz1 kz2 rfl (by decide) v k xs (by rfl) (hown.drew.alloc _) ⟨wr.heap.size, 0, none⟩ 1 1 [.int .u16 tg, .slice va bs.length c] (by rfl) (by rfl) (news_two _ _ (by simp) _ _ _) (two_one rfl rfl) (by omega) (by unfold maxLen; omega) (by omega) (by simp; omega) (wr.heap.size + 1) (by simp) ?_; intro g1 cap1 w1 hown1 hg1 hat hlt1; have hM1 := grown_block hg1 (alloc_block (w := wr.drew) hM _) (own_ne hown hM (by decide)); have qM1 := (cell_of_row w1 w.heap.size 1 _ _ _ hM1).trans rfl; have fM1 := frozen_of_row w1 w.heap.size 1 _ _ hM1)
      all_goals
        have R1 := heap_setCell_same w1 w.heap.size 1 _ 43 (.slice (some ⟨g1, 0, none⟩) (k + 1) cap1) hM1
        have R2 := ownsRow_setCell_below hown1 (a := ⟨w.heap.size, 1, none⟩) (by show w.heap.size < w.heap.size + 1; omega) (.slice (some ⟨g1, 0, none⟩) (k + 1) cap1)
        have R3 := hrow.snoc hown.1 hp hbs
        have hbA : Below w.heap.size w (wr.drew.alloc (.cells #[.int .u16 tg, .slice va bs.length c] 46)) := hnx.drew.alloc (by show w.heap.size ≤ wr.heap.size; omega) _
        have hbB : Below w.heap.size w w1 := hbA.grown hg1 hbA.size (fun q hq => by have := own_row_ge hown q hq; omega)
        have R4 : Below w.heap.size w (w1.setCell ⟨w.heap.size, 1, none⟩ (.slice (some ⟨g1, 0, none⟩) (k + 1) cap1)) := hbB.setCell (p := ⟨w.heap.size, 1, none⟩) (Nat.le_refl _) _
        have R5 := lt_of_block R1
        clear hbA hbB hg1 hown1 hown hrow hM hM1 qM qM1 fM1 hc0 hc1 hnx
        go_wp2
        go_roundw
        case rel => exact ⟨k + 1, _, _, by omega, by go_num, R1, R2, R3, R4, R5⟩
        case measure => simp [intOf]; omega
    · have hke : k = ps.length := by omega
      subst hke
      obtain ⟨pa', pc', rfl, hpp⟩ := hrow.pars hnx hown
      go_wp2
      go_ret
      exact ⟨rfl, hnx, hsz, (cell_of_row wr w.heap.size 0 _ _ _ hM).trans rfl, pa', pc', (cell_of_row wr w.heap.size 1 _ _ _ hM).trans rfl, hpp⟩
end Go.Proofs.YbulkcrpmFmt
