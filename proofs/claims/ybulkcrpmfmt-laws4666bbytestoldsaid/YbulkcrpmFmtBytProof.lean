/-
  THE LAW 'Bytes': the told card.
-/
import Derived.Test.YbulkcrpmFmtBytWalk
import Derived.Test.YbulkcrpmFmtOpen
namespace Go.Proofs.YbulkcrpmFmt.bytes
open Go Go.ChangeShapes Go.WideShapes Go.ChangeAt Go.RowKit
open Go.Extern.Stop Go.Stop Go.Extern

set_option maxRecDepth 100000 in
theorem lifted (os : Os) (started : os.Started) (H : Type) (enc : TypeId × Value → H) :
    ReturnsInTold none {} Ybaf.checked os 3 .any Input.okWide ((OpenSpec.ofChange Rows.lawS4666BBytesSpec).preRow enc Ybaf.prog Ybaf.f3 Rows.lawS4666BBytesRow.domain false []) (fun F => ((OpenSpec.ofChange Rows.lawS4666BBytesSpec).at F).post enc Ybaf.prog Ybaf.f3 false true false false) (aloneAtReturn Ybaf.prog) nothingAlways := by
  refine returnsInTold_of_row (C := Ybaf.checked) (s := OpenSpec.ofChange Rows.lawS4666BBytesSpec) (by kernel_rfl) Ybaf.own started (by kernel_rfl) Ybaf.func3
    (OpenSpec.witness_stopped (enc := enc) (C := Ybaf.checked) false ⟨#[], #[.int .u16 0, .slice none 0 0], []⟩ 8 (by kernel_rfl) (by kernel_rfl) (by kernel_rfl) (by kernel_rfl)) ?_
  intro F W base args ds gs before _ hF hval0 hW _ _ hsz _ _
  have hval : ∀ (j : Nat) t v, Ybaf.f3.params[j]? = some t → args[j]? = some v → Value.okWide Ybaf.prog W .any base t v := hval0
  have hW' := hW
  obtain ⟨p, q, hA0, hV, rfl, hfz, hnd⟩ := hW
  have hA : DataW.TrodAll enc Ybaf.prog W 0 (fun _ => true) true Ybaf.f3.params.toList args.toList ds p := hA0
  rw [Ybaf.params3] at hA hval
  obtain ⟨v0, v1, d0, d1, p0, p1, rfl, rfl, rfl, h0, h1⟩ := trodAll_two hA
  obtain ⟨rfl, rfl⟩ := trodVars_none hV
  obtain ⟨a0, rfl, rfl, rfl, w0⟩ := open_int Ybaf.underlying22 (hval 0 22 v0 rfl rfl) h0
  obtain ⟨sa, len, cap, rfl⟩ := okWide_slice Ybaf.underlying23 (hval 1 23 v1 rfl rfl)
  have h1k := h1
  obtain ⟨fuel, hf⟩ := h1
  clear hA0 hval0
  simp only [List.append_nil, List.nil_append] at hW'
  have hlt : ∀ x ∈ p1, x.block < W.heap.size := fun x hx => by simpa using hW'.lt x (by simpa using hx)
  have hargs : ∀ (W' : World), Below W.heap.size W W' → DataW.Trod enc Ybaf.prog W' 0 (fun b => decide (b < W.heap.size)) true 23 (.slice sa len cap) d1 p1 :=
    fun W' hn => Below.trod Ybaf.laidOut (by kernel_rfl) (of_decide_eq_true (by kernel_rfl)) h1k hn hlt
  suffices hx : Calls Ybaf.prog 3 #[.int .u16 a0, .slice sa len cap] W (fun e W' => e = .returned (.bool true) ∧ Below W.heap.size W W') by
    refine hx.mono fun e W' ⟨he, hnx⟩ => ?_
    subst he
    exact ⟨_, rfl, _, _, _, [], p1, [], hW', trodAll_mk1 (shut_bool Ybaf.underlying4 _), trodAll_mk2 (p := []) (shut_int Ybaf.underlying22 w0) (hargs _ hnx), rfl, hnx.frame _, fun h => by cases h⟩
  have hb0 := bounds_u16 w0
  obtain ⟨kind, rfl⟩ : ∃ kind : Nat, a0 = kind := ⟨a0.toNat, by omega⟩
  have hws : ∀ x ∈ d1.weights Ybaf.prog 23, x ≤ reachBytes := fun x hx => by
    have := List.all_eq_true.1 hsz x (DataW.weights_mem_each (j := 1) (t := 23) (d := d1) rfl rfl x hx)
    simpa using this
  obtain ⟨ps, hpl, hps, ht, hlen, hn⟩ := open_pars (by simpa [Value.cells] using hf) hws
  subst hpl
  by_cases hlong : 20000 < ps.length
  · exact (bytes_long kind sa ps.length cap W hlong hn).mono fun e W' ⟨he, hw⟩ => ⟨he, by rw [hw]; exact Below.refl _ _⟩
  · exact bytes_short F.told kind sa cap ps W hF (by omega) (by omega) ht hlen hps

theorem proved : Rows.LawS4666BBytesToldSaid :=
  Claim7.holds_of_told_any 3 Ybaf.f3 "fmt.errorf" [] [] _ _ _ (by kernel_rfl) rfl rfl rfl Ybaf.laidOut (by kernel_rfl) rfl ⟨rfl, rfl, rfl, rfl, rfl, rfl, rfl⟩ rfl rfl (by kernel_rfl) (by kernel_rfl) Ybaf.func3 (by kernel_rfl)
    (of_decide_eq_true (by kernel_rfl)) (of_decide_eq_true (by kernel_rfl)) Ybaf.stops.symm rfl Ybaf.stopKnobs.symm (by kernel_rfl)
    (by kernel_rfl) (by kernel_rfl) (by kernel_rfl) (by kernel_rfl) (by kernel_rfl) (by kernel_rfl) (by kernel_rfl) (by kernel_rfl) (by kernel_rfl) rfl (by kernel_rfl) rfl rfl
    rfl rfl
    rfl (by kernel_rfl) (by kernel_rfl) (by kernel_rfl) (by decide) (by kernel_rfl)
    (OpenClaim.moreEntering_of (by kernel_rfl) (by kernel_rfl) (by kernel_rfl) (by kernel_rfl) (by kernel_rfl) (by kernel_rfl) (by kernel_rfl) (by kernel_rfl) (by kernel_rfl) (by kernel_rfl))
    ⟨_, WideRow.started_initial, Ybaf.quiet _⟩
    (fun os started _ H enc _ => lifted os started H enc)
end Go.Proofs.YbulkcrpmFmt.bytes
