/-
  THE LAW 'RoundTrip': the told and tied card.
-/
import Derived.Test.YbulkcrpmFmtRtWalk
import Derived.Test.YbulkcrpmFmtOpen
import Derived.Test.YbulkcrpmFmtTie
import Derived.SevenTiedAt
import Derived.OpenVars
import Derived.Stop.LaidErr
namespace Go.Proofs.YbulkcrpmFmt.roundTrip
open Go Go.ChangeShapes Go.WideShapes Go.ChangeAt Go.RowKit
open Go.Extern.Stop Go.Stop Go.Extern

/-- ErrVersion's text, as its initialiser lays it. -/
def errS : ByteArray := { data := #[109, 51, 117, 97, 58, 32, 118, 101, 114, 115, 105, 111, 110, 32, 111, 116, 104, 101, 114, 32, 116, 104, 97, 110, 32, 49] }
def putErr : Obj → Obj
  | .cells _ t frozen => .cells #[.iface 63 (.pointer (some ⟨7, 0, none⟩))] t frozen
  | o => o
/-- A world whose variable number 1 points to block 7. -/
def laidOf (w0 : World) : World := { w0 with heap := w0.heap.modify 1 putErr }
theorem low : (World.holding Ybaf.prog default ⟨#[], #[], []⟩).heap.size = 7 := by kernel_rfl
theorem laid_met (os : Os) (args : Array Value) : laidMet Ybaf.prog Rows.lawS4666BRoundTripRow.laid ((laidOf (World.holding Ybaf.prog os ⟨#[.cells #[.string errS] 65], #[], []⟩)).forCall (fun _ _ => 0) ⟨#[], args, []⟩).memory :=
  laidMet_of_run (ps := [.cell 1 0, .cell 7 0]) 8 (by kernel_rfl) (by kernel_rfl) (by kernel_rfl)

set_option maxRecDepth 100000 in
theorem lifted (os : Os) (started : os.Started) (H : Type) (enc : TypeId × Value → H) :
    ReturnsInTold none {} Ybaf.checked os 4 .any Input.okWide ((OpenSpec.ofChange Rows.lawS4666BRoundTripSpec).preRow enc Ybaf.prog Ybaf.f4 Rows.lawS4666BRoundTripRow.domain false Rows.lawS4666BRoundTripRow.laid) (fun F => ((OpenSpec.ofChange Rows.lawS4666BRoundTripSpec).at F).post enc Ybaf.prog Ybaf.f4 false true false false) (aloneAtReturn Ybaf.prog) nothingAlways := by
  refine returnsInTold_of_row (C := Ybaf.checked) (s := OpenSpec.ofChange Rows.lawS4666BRoundTripSpec) (by kernel_rfl) Ybaf.own started (by kernel_rfl) Ybaf.func4
    (OpenSpec.witness_stopped_at (enc := enc) (C := Ybaf.checked) false (laidOf (World.holding Ybaf.prog os ⟨#[.cells #[.string errS] 65], #[], []⟩)) #[.int .u16 0, .slice none 0 0] rfl (by kernel_rfl) (by kernel_rfl) (by kernel_rfl)
      (OpenSpec.preRow_of_B rfl 8 (by kernel_rfl) (by kernel_rfl) (laid_met os _))) ?_
  intro F W base args ds gs before _ hF hval0 hW _ _ hsz _ _
  have hval : ∀ (j : Nat) t v, Ybaf.f4.params[j]? = some t → args[j]? = some v → Value.okWide Ybaf.prog W .any base t v := hval0
  have hW' := hW
  obtain ⟨p, q, hA0, hV, rfl, hfz, hnd⟩ := hW
  have hA : DataW.TrodAll enc Ybaf.prog W 0 (fun _ => true) true Ybaf.f4.params.toList args.toList ds p := hA0
  rw [Ybaf.params4] at hA hval
  obtain ⟨v0, v1, d0, d1, p0, p1, rfl, rfl, rfl, h0, h1⟩ := trodAll_two hA
  obtain ⟨a0, rfl, rfl, rfl, w0⟩ := open_int Ybaf.underlying22 (hval 0 22 v0 rfl rfl) h0
  obtain ⟨sa, len, cap, rfl⟩ := okWide_slice Ybaf.underlying23 (hval 1 23 v1 rfl rfl)
  have h1k := h1
  obtain ⟨fuel, hf⟩ := h1
  obtain ⟨g1, rfl⟩ : ∃ g1, gs = [g1] := by
    match gs, hV with
    | [g1], _ => exact ⟨g1, rfl⟩
    | [], h => exact h.elim
    | _ :: _ :: _, ⟨_, _, _, _, _, _, _, _, _, _, h, _⟩ => exact h.elim
  clear hA0 hval0
  simp only [List.nil_append] at hW'
  have hlt : ∀ x ∈ p1, x.block < W.heap.size := fun x hx => by simpa using hW'.lt x (by simp [hx])
  have hargs : ∀ (W' : World), Below W.heap.size W W' → DataW.Trod enc Ybaf.prog W' 0 (fun b => decide (b < W.heap.size)) true 23 (.slice sa len cap) d1 p1 :=
    fun W' hn => Below.trod Ybaf.laidOut (by kernel_rfl) (of_decide_eq_true (by kernel_rfl)) h1k hn hlt
  suffices hx : Calls Ybaf.prog 4 #[.int .u16 a0, .slice sa len cap] W (fun e W' => e = .returned (.bool true) ∧ Below W.heap.size W W') by
    refine hx.mono fun e W' ⟨he, hnx⟩ => ?_
    subst he
    exact ⟨_, rfl, _, _, _, [], p1, q, hW', trodAll_mk1 (shut_bool Ybaf.underlying4 _), trodAll_mk2 (p := []) (shut_int Ybaf.underlying22 w0) (hargs _ hnx), Below.trodVars Ybaf.laidOut hnx (by kernel_rfl) hV, hnx.frame _, fun h => by cases h⟩
  have hb0 := bounds_u16 w0
  obtain ⟨kind, rfl⟩ : ∃ kind : Nat, a0 = kind := ⟨a0.toNat, by omega⟩
  have hws : ∀ x ∈ d1.weights Ybaf.prog 23, x ≤ reachBytes := fun x hx => by
    have := List.all_eq_true.1 hsz x (DataW.weights_mem_each (j := 1) (t := 23) (d := d1) rfl rfl x hx)
    simpa using this
  obtain ⟨ps, hpl, hps, ht, hlen, hn⟩ := open_pars (by simpa [Value.cells] using hf) hws
  subst hpl
  by_cases hlong : 20000 < ps.length
  · exact (rt_long kind sa ps.length cap W hlong hn).mono fun e W' ⟨he, hw⟩ => ⟨he, by rw [hw]; exact Below.refl _ _⟩
  · exact rt_short F.told kind sa cap ps W hF (by omega) (by omega) ht hlen hps

theorem proved : Rows.LawS4666BRoundTripToldSaid :=
  Claim7.holds_of_told_tied_any_at .later 4 Ybaf.f4 "fmt.errorf" [] [] _ _ _ _ _ (by kernel_rfl) rfl rfl rfl Ybaf.laidOut (by kernel_rfl) rfl ⟨rfl, rfl, rfl, rfl, rfl, rfl, rfl⟩ rfl rfl (by kernel_rfl) (by kernel_rfl) Ybaf.func4 (by kernel_rfl)
    (of_decide_eq_true (by kernel_rfl)) (of_decide_eq_true (by kernel_rfl)) Ybaf.stops.symm rfl Ybaf.stopKnobs.symm (by kernel_rfl)
    (by kernel_rfl) (by kernel_rfl) (by kernel_rfl) (by kernel_rfl) (by kernel_rfl) (by kernel_rfl) (by kernel_rfl) (by kernel_rfl) (by kernel_rfl) rfl (by kernel_rfl) rfl rfl
    rfl rfl
    rfl (by kernel_rfl) (by kernel_rfl) (by kernel_rfl) (by decide) (by kernel_rfl) lawS4666BRoundTrip_row_tie
    (OpenClaim.moreEntering_of (by kernel_rfl) (by kernel_rfl) (by kernel_rfl) (by kernel_rfl) (by kernel_rfl) (by kernel_rfl) (by kernel_rfl) (by kernel_rfl) (by kernel_rfl) (by kernel_rfl))
    ⟨_, WideRow.started_initial, Ybaf.quiet _⟩
    (fun os started _ H enc _ => lifted os started H enc)
end Go.Proofs.YbulkcrpmFmt.roundTrip
