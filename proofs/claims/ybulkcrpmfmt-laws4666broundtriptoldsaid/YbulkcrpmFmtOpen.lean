/-
  THE ARGUMENT 'params []ZzS4666BParam' OPENED: the parameters as plain data, and how they lie in memory.
-/
import Derived.Test.YbulkcrpmFmtFacts
import Derived.Test.YbulkcrpmFmtPlain
import Derived.Test.YbulkcrpmFmtEq
import Derived.Deep.SlicePairs
namespace Go.Proofs.YbulkcrpmFmt
open Go Go.ChangeShapes Go.WideShapes Go.ChangeAt Go.RowKit Go.Deep

theorem Ybaf.cells34 : Ybaf.prog.cellsOf 34 = 2 := by kernel_rfl
theorem Ybaf.cells25 : Ybaf.prog.cellsOf 25 = 1 := by kernel_rfl
theorem Ybaf.bytes34 : Ybaf.prog.bytesOf 34 = 32 := by kernel_rfl
theorem Ybaf.bytes5 : Ybaf.prog.bytesOf 5 = 1 := by kernel_rfl

theorem weightsAll_mem {H : Type} {P : Program} {e : TypeId} : ∀ {l : List (DataW H)} {d : DataW H}, d ∈ l → ∀ n ∈ d.weights P e, n ∈ DataW.weightsAll P e l
  | x :: l, d, hd, n, hn => by
    simp only [DataW.weightsAll, List.mem_append]
    rcases List.mem_cons.1 hd with rfl | h
    · exact Or.inl hn
    · exact Or.inr (weightsAll_mem h n hn)

theorem u8_of {z : Int} (h : (Lit.int .u8 z).wf = true) : ((UInt8.ofNat z.toNat).toNat : Int) = z := by
  have := bounds_u8 h
  rw [UInt8.toNat_ofNat']
  omega

set_option maxRecDepth 100000 in
theorem open_pars {H : Type} {enc : TypeId × Value → H} {W : World} {fuel : Nat} {pa : Option Addr} {n c : Nat} {d : DataW H} {p : List MemPlace}
    (hf : DataW.trod enc Ybaf.prog W 0 (fun _ => true) true fuel 23 [.slice pa n c] = some (d, p)) (hsz : ∀ x ∈ d.weights Ybaf.prog 23, x ≤ reachBytes) :
    ∃ ps : List (Nat × List UInt8), ps.length = n ∧ ParsAt W pa ps ∧ (∀ p ∈ ps, p.1 < 65536) ∧ (∀ p ∈ ps, p.2.length ≤ 140737488355328) ∧ n ≤ 140737488355328 := by
  have hr := reachBytes_lt
  rcases open_slice_pairs Ybaf.underlying23 Ybaf.underlying34 Ybaf.cells34 rfl rfl (by kernel_rfl) (by kernel_rfl) hf with ⟨hcs, hx⟩ | ⟨a, len, cap, m, n', V0, V1, D0, D1, P0, P1, hcs, _, hl, hm, hmm, hx, hcell⟩
  · simp at hcs
    obtain ⟨rfl, rfl, rfl⟩ := hcs
    exact ⟨[], rfl, fun i p hp => by simp at hp, by simp, by simp, by omega⟩
  · simp at hcs
    obtain ⟨rfl, rfl, rfl⟩ := hcs
    simp only [if_true] at hmm
    simp only [Prod.mk.injEq] at hx
    obtain ⟨rfl, rfl⟩ := hx
    have hn : n ≤ 140737488355328 := by
      have h1 := hsz _ (show (((List.range n).map fun i => DataW.agg [D0 i, D1 i]).length + ((List.range (m - n)).map fun j => DataW.agg [D0 (n + j), D1 (n + j)]).length) * Ybaf.prog.bytesOf 34 ∈ _ from by simp [DataW.weights, Ybaf.underlying23])
      rw [Ybaf.bytes34] at h1
      simp at h1
      omega
    have each : ∀ i, i < n → ∃ q : Nat × List UInt8, q.1 < 65536 ∧ q.2.length ≤ 140737488355328 ∧ W.cell? (a.add (i * 2)) = some (.int .u16 q.1) ∧ ∃ va c', W.cell? (a.add (i * 2 + 1)) = some (.slice va q.2.length c') ∧ BytesAt W va c' q.2 := by
      intro i hi
      obtain ⟨h0, h1, t0, t1⟩ := hcell i (by omega)
      obtain ⟨z, e0, x0, wz⟩ := DataW.trod_int Ybaf.underlying22 t0
      simp at e0
      have bz := bounds_u16 wz
      rw [e0] at h0
      rcases open_ints Ybaf.underlying25 Ybaf.underlying5 Ybaf.cells5 t1 with ⟨e1, x1⟩ | ⟨b, len, cp, zs, e1, _, hlc, hcm, hz, x1, hb, hwz⟩
      · simp at e1
        rw [e1] at h1
        refine ⟨(z.toNat, []), by show z.toNat < 65536; omega, by simp, ?_, none, 0, h1, by simp, by simp⟩
        rw [h0]
        exact congrArg some (congrArg _ (by show z = (z.toNat : Int); omega))
      · simp at e1
        rw [e1] at h1
        simp only [if_true] at hz
        simp only [Prod.mk.injEq] at x1
        have hw := hsz _ (show len + (zs.length - len) ∈ _ from by
          have hel : DataW.agg [D0 i, D1 i] ∈ (List.range n).map fun i => DataW.agg [D0 i, D1 i] := List.mem_map.2 ⟨i, List.mem_range.2 hi, rfl⟩
          have hw1 : len + (zs.length - len) ∈ (DataW.agg [D0 i, D1 i]).weights Ybaf.prog 34 := by
            have h5 := Ybaf.bytes5
            rw [x1.1]
            simp [DataW.weights, DataW.weightsEach, Ybaf.underlying34, Ybaf.underlying25, h5, lits]
            omega
          have := weightsAll_mem hel _ hw1
          simp only [DataW.weights, Ybaf.underlying23, List.mem_cons, List.mem_append]
          exact Or.inr (Or.inl this))
        have hlen : ((zs.take len).map fun z => UInt8.ofNat z.toNat).length = len := by simp; omega
        refine ⟨(z.toNat, (zs.take len).map fun z => UInt8.ofNat z.toNat), by show z.toNat < 65536; omega, by rw [hlen]; omega, ?_, some b, cp, by rw [hlen]; exact h1, fun e => by simp at e, ?_⟩
        · rw [h0]
          exact congrArg some (congrArg _ (by show z = (z.toNat : Int); omega))
        · intro a' ha' j u hu
          simp only [Option.some.injEq] at ha'
          subst ha'
          simp only [Lib.byteCells, List.map_map, List.getElem?_map] at hu
          obtain ⟨y, hy, rfl⟩ := Option.map_eq_some_iff.1 hu
          have hj : j < len := by have := (List.getElem?_eq_some_iff.1 hy).1; simp at this; omega
          rw [List.getElem?_take_of_lt hj] at hy
          rw [hb j (by omega)]
          simp only [List.getD, hy, Option.getD_some, Function.comp]
          rw [u8_of (hwz y (List.mem_of_getElem? hy))]
    obtain ⟨f, hfq⟩ := choose_lt each
    refine ⟨(List.range n).map f, by simp, ?_, ?_, ?_, hn⟩
    · intro i p hp
      have hi : i < n := by have := (List.getElem?_eq_some_iff.1 hp).1; simpa using this
      have hpf : p = f i := by simp [hi] at hp; exact hp.symm
      subst hpf
      obtain ⟨_, _, q0, va, c', q1, q2⟩ := hfq i hi
      have hn0 : 0 < n := by omega
      obtain ⟨_, _, z0, _⟩ := hfq 0 hn0
      rw [Nat.zero_mul] at z0
      obtain ⟨b, o, rfl⟩ := addr_plain z0
      rw [Addr.add_lit] at q0 q1
      exact ⟨b, o, rfl, q0, va, c', by rw [Nat.add_assoc]; exact q1, q2⟩
    · intro p hp
      obtain ⟨i, hi, rfl⟩ := List.mem_map.1 hp
      exact (hfq i (List.mem_range.1 hi)).1
    · intro p hp
      obtain ⟨i, hi, rfl⟩ := List.mem_map.1 hp
      exact (hfq i (List.mem_range.1 hi)).2.1
end Go.Proofs.YbulkcrpmFmt
