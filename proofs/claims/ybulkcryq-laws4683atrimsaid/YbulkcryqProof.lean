/-
  THE LAW 'Trim': the row.
-/
import Derived.Test.YbulkcryqLaw
import Derived.Deep.SlicePairs
import Derived.Deep.Grids
import Derived.Carry
import Derived.ProofKit
import Derived.OpenShut
import Derived.WideKeyArgs
namespace Go.Proofs.Ybulkcryq.lawS4683ATrim
open Go Go.ChangeShapes Go.WideShapes Go.ChangeAt Go.RowKit Go.Deep

theorem Yba.own : ownKnob Yba.prog.godebug = none := by kernel_rfl
theorem Yba.laidOut : laidOutB Yba.prog = true := by kernel_rfl
theorem Yba.cells26 : Yba.prog.cellsOf 26 = 2 := by kernel_rfl
theorem Yba.cells4 : Yba.prog.cellsOf 4 = 1 := by kernel_rfl

theorem addr_plain {w : World} {a : Addr} {v : Value} (h : w.cell? (a.add 0) = some v) : ∃ b o, a = ⟨b, o, none⟩ := by
  obtain ⟨b, o, s⟩ := a
  obtain rfl : s = none := by simpa [Addr.add] using World.cell?_spot h
  exact ⟨b, o, rfl⟩
theorem kept_frame {W W' : World} (h : KeptB W.heap.size (fun _ => False) W W') (may : MemPlace → Prop) : W.keptBut W' may := by
  refine ⟨h.os, h.output, fun i hi => ?_⟩
  rw [h.block i hi (fun h => h)]
  split <;> simp_all
theorem kept_trod {H : Type} {enc : TypeId × Value → H} {t : TypeId} (hr : Yba.prog.readableRec t = true) (hrow : t < Yba.prog.types.size) {W W' : World} {v : Value} {d : DataW H} {ps : List MemPlace}
    (h : DataW.Trod enc Yba.prog W 0 (fun _ => true) true t v d ps) (hb : KeptB W.heap.size (fun _ => False) W W') (hlt : ∀ x ∈ ps, x.block < W.heap.size) :
    DataW.Trod enc Yba.prog W' 0 (fun b => decide (b < W.heap.size)) true t v d ps :=
  WideElems.Trod_stays Yba.laidOut hr hrow h (fun x hx => by
    have hx := hlt x hx
    cases x with
    | cell b o => exact World.cell?_of_block (w := W) (hb.block b hx (fun h => h))
    | map b => exact hb.block b hx (fun h => h)) (fun x hx => by simpa using hlt x hx)

set_option maxRecDepth 100000 in
theorem open_chains {H : Type} {enc : TypeId × Value → H} {W : World} {fuel : Nat} {pa : Option Addr} {n c : Nat} {d : DataW H} {p : List MemPlace}
    (hf : DataW.trod enc Yba.prog W 0 (fun _ => true) true fuel 22 [.slice pa n c] = some (d, p)) :
    ∃ cs : List (Int × Int), cs.length = n ∧ ChainsAt W pa cs ∧ (∀ c ∈ cs, Ok c) := by
  rcases open_slice_pairs Yba.underlying22 Yba.underlying26 Yba.cells26 rfl rfl (by kernel_rfl) (by kernel_rfl) hf with ⟨hcs, hx⟩ | ⟨a, len, cap, m, n', V0, V1, D0, D1, P0, P1, hcs, _, hl, hm, hmm, hx, hcell⟩
  · simp at hcs
    obtain ⟨rfl, rfl, rfl⟩ := hcs
    exact ⟨[], rfl, ChainsAt.nil _ _, by simp⟩
  · simp at hcs
    obtain ⟨rfl, rfl, rfl⟩ := hcs
    simp only [if_true] at hmm
    have each : ∀ i, i < n → ∃ q : Int × Int, Ok q ∧ W.cell? (a.add (i * 2)) = some (.int .i32 q.1) ∧ W.cell? (a.add (i * 2 + 1)) = some (.int .i32 q.2) := by
      intro i hi
      obtain ⟨h0, h1, t0, t1⟩ := hcell i (by omega)
      obtain ⟨z, e0, _, wz⟩ := DataW.trod_int Yba.underlying21 t0
      obtain ⟨y, e1, _, wy⟩ := DataW.trod_int Yba.underlying21 t1
      simp at e0 e1
      rw [e0] at h0
      rw [e1] at h1
      exact ⟨(z, y), ⟨bounds_i32 wz, bounds_i32 wy⟩, h0, h1⟩
    obtain ⟨f, hfq⟩ := choose_lt each
    refine ⟨(List.range n).map f, by simp, ?_, ?_⟩
    · intro i p hp
      have hi : i < n := by have := (List.getElem?_eq_some_iff.1 hp).1; simpa using this
      have hpf : p = f i := by simp [hi] at hp; exact hp.symm
      subst hpf
      obtain ⟨_, q0, q1⟩ := hfq i hi
      have hn0 : 0 < n := by omega
      obtain ⟨_, z0, _⟩ := hfq 0 hn0
      rw [Nat.zero_mul] at z0
      obtain ⟨b, o, rfl⟩ := addr_plain z0
      rw [Addr.add_lit] at q0 q1
      exact ⟨b, o, rfl, q0, by rw [Nat.add_assoc]; exact q1⟩
    · intro p hp
      obtain ⟨i, hi, rfl⟩ := List.mem_map.1 hp
      exact (hfq i (List.mem_range.1 hi)).1

set_option maxRecDepth 100000 in
theorem open_keeps {H : Type} {enc : TypeId × Value → H} {W : World} {fuel : Nat} {pa : Option Addr} {n c : Nat} {d : DataW H} {p : List MemPlace}
    (hf : DataW.trod enc Yba.prog W 0 (fun _ => true) true fuel 23 [.slice pa n c] = some (d, p)) :
    ∃ ks : List Bool, ks.length = n ∧ BoolsAt W.heap.size W pa ks := by
  rcases open_bools Yba.underlying23 Yba.underlying4 Yba.cells4 hf with ⟨hcs, _⟩ | ⟨a, len, cap, B, hcs, _, hl, _, _, hcell⟩
  · simp at hcs
    obtain ⟨rfl, rfl, rfl⟩ := hcs
    exact ⟨[], rfl, fun i b hi => by simp at hi⟩
  · simp at hcs
    obtain ⟨rfl, rfl, rfl⟩ := hcs
    refine ⟨(List.range n).map B, by simp, fun i b hi => ?_⟩
    have hin : i < n := by have := (List.getElem?_eq_some_iff.1 hi).1; simpa using this
    have hb : b = B i := by simp [hin] at hi; exact hi.symm
    subst hb
    have h0 := hcell 0 (by omega)
    have h1 := hcell i (by omega)
    obtain ⟨g, o, rfl⟩ := addr_plain h0
    rw [Addr.add_lit] at h1
    exact ⟨g, o, rfl, World.block_lt_of_cell? W _ h1, h1⟩

set_option maxRecDepth 100000 in
theorem lifted (os : Os) (started : os.Started) (H : Type) (enc : TypeId × Value → H) :
    ReturnsInHanded {} Yba.checked os 3 .any (Rows.lawS4683ATrimSpec.pre6 enc Yba.prog Yba.f3 Rows.lawS4683ATrimRow.domain false) (Rows.lawS4683ATrimSpec.post enc Yba.prog Yba.f3 false true false false) := by
  refine returnsInHanded_of_change (C := Yba.checked) Yba.own started (by kernel_rfl) Yba.func3
    (ChangeSpec.witness6 (enc := enc) (C := Yba.checked) false ⟨#[], #[.slice none 0 0, .slice none 0 0, .int .i32 0], []⟩ 8 (by kernel_rfl) (by kernel_rfl) (by kernel_rfl) (by kernel_rfl)) ?_
  intro W base args ds gs before hval0 hW hcnd _
  have hval : ∀ (j : Nat) t v, Yba.f3.params[j]? = some t → args[j]? = some v → Value.okWide Yba.prog W .any base t v := hval0
  have hW' := hW
  obtain ⟨p, q, hA0, hV, rfl, hfz, hnd⟩ := hW
  have hA : DataW.TrodAll enc Yba.prog W 0 (fun _ => true) true Yba.f3.params.toList args.toList ds p := hA0
  rw [Yba.params3] at hA hval
  obtain ⟨v0, vs0, d0, ds0, p0, q0, hargs0, rfl, rfl, h0, r0⟩ := trodAll_cons hA
  obtain ⟨v1, vs1, d1, ds1, p1, q1, rfl, rfl, rfl, h1, r1⟩ := trodAll_cons r0
  obtain ⟨v2, vs2, d2, ds2, p2, q2, rfl, rfl, rfl, h2, r2⟩ := trodAll_cons r1
  obtain ⟨rfl, rfl, rfl⟩ := trodAll_nil r2
  obtain rfl : args = #[v0, v1, v2] := by cases args; simp_all
  obtain ⟨rfl, rfl⟩ := trodVars_none hV
  obtain ⟨sa, n, cap, rfl⟩ := okWide_slice Yba.underlying22 (hval 0 22 v0 rfl rfl)
  obtain ⟨ka, m, kc, rfl⟩ := okWide_slice Yba.underlying23 (hval 1 23 v1 rfl rfl)
  obtain ⟨sh, rfl, rfl, rfl, w2⟩ := open_int Yba.underlying21 (hval 2 21 v2 rfl rfl) h2
  have h0k := h0
  have h1k := h1
  obtain ⟨fuel0, hf0⟩ := h0
  obtain ⟨fuel1, hf1⟩ := h1
  clear hA0 hval0
  simp only [List.append_nil] at hW'
  have hlt0 : ∀ x ∈ p0, x.block < W.heap.size := fun x hx => by simpa using hW'.lt x (by simp [hx])
  have hlt1 : ∀ x ∈ p1, x.block < W.heap.size := fun x hx => by simpa using hW'.lt x (by simp [hx])
  obtain ⟨cs, rfl, hcs, hok⟩ := open_chains (by simpa [Value.cells] using hf0)
  obtain ⟨ks, rfl, hks⟩ := open_keeps (by simpa [Value.cells] using hf1)
  have hx : Calls Yba.prog 3 #[.slice sa cs.length cap, .slice ka ks.length kc, .int .i32 sh] W (fun e W' => e = .returned (.bool true) ∧ KeptB W.heap.size (fun _ => False) W W') := by
    by_cases hn : cs.length ≤ 300
    · exact law_any sa ka cap kc cs ks sh W hn hok (bounds_i32 w2) hcs hks
    · exact law_big sa ka cs.length cap ks.length kc sh W (by omega)
  refine hx.mono fun e W' ⟨he, hnx⟩ => ?_
  subst he
  refine ⟨_, rfl, _, _, _, [], p0 ++ p1, [], hW', trodAll_mk1 (shut_bool Yba.underlying4 _), ?_, rfl, kept_frame hnx _, fun h => by cases h⟩
  have hall := trodAll_cons_mk (kept_trod (by kernel_rfl) (of_decide_eq_true (by kernel_rfl)) h0k hnx hlt0) (trodAll_cons_mk (kept_trod (by kernel_rfl) (of_decide_eq_true (by kernel_rfl)) h1k hnx hlt1) (trodAll_cons_mk (p := []) (shut_int Yba.underlying21 w2) trodAll_mk0))
  simp only [List.append_nil] at hall
  exact hall

theorem over : Rows.lawS4683ATrimRow.holds Yba.pinned (OpenSpec.ofChange Rows.lawS4683ATrimSpec) :=
  OpenClaim.holds_of_wide 3 Yba.f3 rfl rfl rfl rfl rfl rfl rfl ⟨rfl, rfl, rfl, rfl, rfl⟩ rfl rfl rfl rfl rfl (by kernel_rfl) Yba.func3 (by kernel_rfl)
    (of_decide_eq_true (by kernel_rfl)) (by unfold Func.isWrapper; first | (rw [if_pos (by decide +kernel)]; kernel_rfl) | (rw [if_neg (by decide +kernel)]; exact ⟨rfl, rfl⟩))
    (fun os started H enc _ => lifted os started H enc)

/-- THE STATEMENT. -/
theorem proved : Rows.LawS4683ATrimSaid :=
  over
end Go.Proofs.Ybulkcryq.lawS4683ATrim
