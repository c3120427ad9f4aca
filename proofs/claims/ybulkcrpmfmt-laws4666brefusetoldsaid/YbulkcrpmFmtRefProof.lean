/-
  THE LAW 'Refuse': the told card.
-/
import Derived.Test.YbulkcrpmFmtRefWalk
import Derived.Test.YbulkcrpmFmtFacts
namespace Go.Proofs.YbulkcrpmFmt.refuse
open Go Go.ChangeShapes Go.WideShapes Go.ChangeAt Go.RowKit
open Go.Extern.Stop Go.Stop Go.Extern

set_option maxRecDepth 100000 in
theorem lifted (os : Os) (started : os.Started) (H : Type) (enc : TypeId × Value → H) :
    ReturnsInTold none {} Ybaf.checked os 5 .any Input.okWide ((OpenSpec.ofChange Rows.lawS4666BRefuseSpec).preRow enc Ybaf.prog Ybaf.f5 Rows.lawS4666BRefuseRow.domain false []) (fun F => ((OpenSpec.ofChange Rows.lawS4666BRefuseSpec).at F).post enc Ybaf.prog Ybaf.f5 false true false false) (aloneAtReturn Ybaf.prog) nothingAlways := by
  refine returnsInTold_of_row (C := Ybaf.checked) (s := OpenSpec.ofChange Rows.lawS4666BRefuseSpec) (by kernel_rfl) Ybaf.own started (by kernel_rfl) Ybaf.func5
    (OpenSpec.witness_stopped (enc := enc) (C := Ybaf.checked) false ⟨#[], #[.int .u16 0, .slice none 0 0], []⟩ 8 (by kernel_rfl) (by kernel_rfl) (by kernel_rfl) (by kernel_rfl)) ?_
  intro F W base args ds gs before _ hF hval0 hW _ _ hsz _ _
  have hval : ∀ (j : Nat) t v, Ybaf.f5.params[j]? = some t → args[j]? = some v → Value.okWide Ybaf.prog W .any base t v := hval0
  have hW' := hW
  obtain ⟨p, q, hA0, hV, rfl, hfz, hnd⟩ := hW
  have hA : DataW.TrodAll enc Ybaf.prog W 0 (fun _ => true) true Ybaf.f5.params.toList args.toList ds p := hA0
  rw [Ybaf.params5] at hA hval
  obtain ⟨v0, v1, d0, d1, p0, p1, rfl, rfl, rfl, h0, h1⟩ := trodAll_two hA
  obtain ⟨rfl, rfl⟩ := trodVars_none hV
  obtain ⟨a0, rfl, rfl, rfl, w0⟩ := open_int Ybaf.underlying22 (hval 0 22 v0 rfl rfl) h0
  obtain ⟨sa, len, cap, rfl⟩ := okWide_slice Ybaf.underlying47 (hval 1 47 v1 rfl rfl)
  have h1k := h1
  obtain ⟨fuel, hf⟩ := h1
  clear hA0 hval0
  simp only [List.append_nil, List.nil_append] at hW'
  have hlt : ∀ x ∈ p1, x.block < W.heap.size := fun x hx => by simpa using hW'.lt x (by simpa using hx)
  have hargs : ∀ (W' : World), Below W.heap.size W W' → DataW.Trod enc Ybaf.prog W' 0 (fun b => decide (b < W.heap.size)) true 47 (.slice sa len cap) d1 p1 :=
    fun W' hn => Below.trod Ybaf.laidOut (by kernel_rfl) (of_decide_eq_true (by kernel_rfl)) h1k hn hlt
  suffices hx : Calls Ybaf.prog 5 #[.int .u16 a0, .slice sa len cap] W (fun e W' => e = .returned (.bool true) ∧ Below W.heap.size W W') by
    refine hx.mono fun e W' ⟨he, hnx⟩ => ?_
    subst he
    exact ⟨_, rfl, _, _, _, [], p1, [], hW', trodAll_mk1 (shut_bool Ybaf.underlying4 _), trodAll_mk2 (p := []) (shut_int Ybaf.underlying22 w0) (hargs _ hnx), rfl, hnx.frame _, fun h => by cases h⟩
  have hb0 := bounds_u16 w0
  obtain ⟨kind, rfl⟩ : ∃ kind : Nat, a0 = kind := ⟨a0.toNat, by omega⟩
  rcases open_ints Ybaf.underlying47 Ybaf.underlying22 Ybaf.cells22 hf with ⟨hcs, hx⟩ | ⟨a, len', cap', zs, hcs, _, hl, hm, hz, hx, hcell, hwz⟩
  · simp [Value.cells] at hcs
    obtain ⟨rfl, rfl, rfl⟩ := hcs
    exact refuse_short F.told kind none 0 [] W hF (by omega) (by simp) (by simp) (by simp)
  · simp [Value.cells] at hcs
    obtain ⟨rfl, rfl, rfl⟩ := hcs
    simp only [Prod.mk.injEq] at hx
    obtain ⟨rfl, rfl⟩ := hx
    have hsl := sized_slice hsz (j := 1) (t := 47) (e := 22) rfl rfl Ybaf.underlying47
    rw [Ybaf.bytes22] at hsl
    simp only [if_true] at hz
    simp only [lits, List.length_map, List.length_take, List.length_drop, reachBytes] at hsl
    by_cases hlong : 16 < len
    · exact (refuse_long kind (some a) len cap W hlong (by omega)).mono fun e W' ⟨he, hw⟩ => ⟨he, by rw [hw]; exact Below.refl _ _⟩
    · have hwx : ∀ z ∈ zs, 0 ≤ z ∧ z < 65536 := fun z hz => by have := bounds_u16 (hwz z hz); omega
      have hlen : ((zs.take len).map Int.toNat).length = len := by simp; omega
      have hgo := refuse_short F.told kind (some a) cap ((zs.take len).map Int.toNat) W hF (by omega) (by omega) (fun x hx => by
        obtain ⟨z, hz1, rfl⟩ := List.mem_map.1 hx
        have := hwx z (List.mem_of_mem_take hz1)
        omega) (fun i x hx => by
        rw [List.getElem?_map] at hx
        obtain ⟨z, hz1, rfl⟩ := Option.map_eq_some_iff.1 hx
        have hil : i < len := by have := (List.getElem?_eq_some_iff.1 hz1).1; simp at this; omega
        rw [List.getElem?_take_of_lt hil] at hz1
        obtain ⟨b, off, rfl, hcb⟩ := ints_at hcell (by omega)
        refine ⟨b, off, rfl, ?_⟩
        have hzb := hwx z (List.mem_of_getElem? hz1)
        have hc := hcb i (by omega)
        rw [hc]
        simp only [List.getD, hz1, Option.getD_some]
        congr 2
        omega)
      rw [hlen] at hgo
      exact hgo

theorem proved : Rows.LawS4666BRefuseToldSaid :=
  Claim7.holds_of_told_any 5 Ybaf.f5 "fmt.errorf" [] [] _ _ _ (by kernel_rfl) rfl rfl rfl Ybaf.laidOut (by kernel_rfl) rfl ⟨rfl, rfl, rfl, rfl, rfl, rfl, rfl⟩ rfl rfl (by kernel_rfl) (by kernel_rfl) Ybaf.func5 (by kernel_rfl)
    (of_decide_eq_true (by kernel_rfl)) (of_decide_eq_true (by kernel_rfl)) Ybaf.stops.symm rfl Ybaf.stopKnobs.symm (by kernel_rfl)
    (by kernel_rfl) (by kernel_rfl) (by kernel_rfl) (by kernel_rfl) (by kernel_rfl) (by kernel_rfl) (by kernel_rfl) (by kernel_rfl) (by kernel_rfl) rfl (by kernel_rfl) rfl rfl
    rfl rfl
    rfl (by kernel_rfl) (by kernel_rfl) (by kernel_rfl) (by decide) (by kernel_rfl)
    (OpenClaim.moreEntering_of (by kernel_rfl) (by kernel_rfl) (by kernel_rfl) (by kernel_rfl) (by kernel_rfl) (by kernel_rfl) (by kernel_rfl) (by kernel_rfl) (by kernel_rfl) (by kernel_rfl))
    ⟨_, WideRow.started_initial, Ybaf.quiet _⟩
    (fun os started _ H enc _ => lifted os started H enc)
end Go.Proofs.YbulkcrpmFmt.refuse
