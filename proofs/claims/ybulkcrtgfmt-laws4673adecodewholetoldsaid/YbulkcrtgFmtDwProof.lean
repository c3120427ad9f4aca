/-
  THE LAW 'DecodeWhole': the told card.
-/
import Derived.Test.YbulkcrtgFmtDwWalk
import Derived.Test.YbulkcrtgFmtFacts
namespace Go.Proofs.YbulkcrtgFmt.decodeWhole
open Go Go.ChangeShapes Go.WideShapes Go.ChangeAt Go.RowKit
open Go.ChangeMaps (open_string shut_string)
open Go.Extern.Stop Go.Stop Go.Extern

set_option maxRecDepth 100000 in
theorem lifted (os : Os) (started : os.Started) (H : Type) (enc : TypeId × Value → H) :
    ReturnsInTold none {} Ybaf.checked os 3 .any Input.okWide ((OpenSpec.ofChange Rows.lawS4673ADecodeWholeSpec).preRow enc Ybaf.prog Ybaf.f3 Rows.lawS4673ADecodeWholeRow.domain false []) (fun F => ((OpenSpec.ofChange Rows.lawS4673ADecodeWholeSpec).at F).post enc Ybaf.prog Ybaf.f3 false true false false) (aloneAtReturn Ybaf.prog) nothingAlways := by
  refine returnsInTold_of_row (C := Ybaf.checked) (s := OpenSpec.ofChange Rows.lawS4673ADecodeWholeSpec) (by kernel_rfl) Ybaf.own started (by kernel_rfl) Ybaf.func3
    (OpenSpec.witness_stopped (enc := enc) (C := Ybaf.checked) false ⟨#[], #[.slice none 0 0, .int .i64 0, .int .i64 0, .int .u8 0, .bool false, .int .i64 0, .string ⟨#[]⟩], []⟩ 8 (by kernel_rfl) (by kernel_rfl) (by kernel_rfl) (by kernel_rfl)) ?_
  intro F W base args ds gs before _ hF hval0 hW _ _ hsz _ _
  have hval : ∀ (j : Nat) t v, Ybaf.f3.params[j]? = some t → args[j]? = some v → Value.okWide Ybaf.prog W .any base t v := hval0
  have hW' := hW
  obtain ⟨p, q, hA0, hV, rfl, hfz, hnd⟩ := hW
  have hA : DataW.TrodAll enc Ybaf.prog W 0 (fun _ => true) true Ybaf.f3.params.toList args.toList ds p := hA0
  rw [Ybaf.params3] at hA hval
  obtain ⟨v0, vs0, d0, ds0, p0, q0, hargs0, rfl, rfl, h0, r0⟩ := trodAll_cons hA
  obtain ⟨v1, vs1, d1, ds1, p1, q1, rfl, rfl, rfl, h1, r1⟩ := trodAll_cons r0
  obtain ⟨v2, vs2, d2, ds2, p2, q2, rfl, rfl, rfl, h2, r2⟩ := trodAll_cons r1
  obtain ⟨v3, vs3, d3, ds3, p3, q3, rfl, rfl, rfl, h3, r3⟩ := trodAll_cons r2
  obtain ⟨v4, vs4, d4, ds4, p4, q4, rfl, rfl, rfl, h4, r4⟩ := trodAll_cons r3
  obtain ⟨v5, vs5, d5, ds5, p5, q5, rfl, rfl, rfl, h5, r5⟩ := trodAll_cons r4
  obtain ⟨v6, vs6, d6, ds6, p6, q6, rfl, rfl, rfl, h6, r6⟩ := trodAll_cons r5
  obtain ⟨rfl, rfl, rfl⟩ := trodAll_nil r6
  obtain rfl : args = #[v0, v1, v2, v3, v4, v5, v6] := by cases args; simp_all
  obtain ⟨rfl, rfl⟩ := trodVars_none hV
  obtain ⟨da, len, cap, rfl⟩ := okWide_slice Ybaf.underlying22 (hval 0 22 v0 rfl rfl)
  obtain ⟨an, rfl, rfl, rfl, w1⟩ := open_int Ybaf.underlying3 (hval 1 3 v1 rfl rfl) h1
  obtain ⟨nn, rfl, rfl, rfl, w2⟩ := open_int Ybaf.underlying3 (hval 2 3 v2 rfl rfl) h2
  obtain ⟨md, rfl, rfl, rfl, w3⟩ := open_int Ybaf.underlying5 (hval 3 5 v3 rfl rfl) h3
  obtain ⟨fl, rfl, rfl, rfl⟩ := open_bool Ybaf.underlying4 (hval 4 4 v4 rfl rfl) h4
  obtain ⟨old, rfl, rfl, rfl, w5⟩ := open_int Ybaf.underlying3 (hval 5 3 v5 rfl rfl) h5
  obtain ⟨what, rfl, rfl, rfl, w6⟩ := open_string Ybaf.underlying9 (hval 6 9 v6 rfl rfl) h6
  have h0k := h0
  obtain ⟨fuel, hf⟩ := h0
  clear hA0 hval0
  simp only [List.append_nil] at hW'
  have hlt : ∀ x ∈ p0, x.block < W.heap.size := fun x hx => by simpa using hW'.lt x (by simpa using hx)
  have hargs : ∀ (W' : World), Below W.heap.size W W' → DataW.Trod enc Ybaf.prog W' 0 (fun b => decide (b < W.heap.size)) true 22 (.slice da len cap) d0 p0 :=
    fun W' hn => Below.trod Ybaf.laidOut (by kernel_rfl) (of_decide_eq_true (by kernel_rfl)) h0k hn hlt
  suffices hx : Calls Ybaf.prog 3 #[.slice da len cap, .int .i64 an, .int .i64 nn, .int .u8 md, .bool fl, .int .i64 old, .string what] W (fun e W' => e = .returned (.bool true) ∧ Below W.heap.size W W') by
    refine hx.mono fun e W' ⟨he, hnx⟩ => ?_
    subst he
    refine ⟨_, rfl, _, _, _, [], p0, [], hW', trodAll_mk1 (shut_bool Ybaf.underlying4 _), ?_, rfl, hnx.frame _, fun h => by cases h⟩
    have hall := trodAll_cons_mk (hargs _ hnx) (trodAll_cons_mk (p := []) (shut_int Ybaf.underlying3 w1) (trodAll_cons_mk (p := []) (shut_int Ybaf.underlying3 w2) (trodAll_cons_mk (p := []) (shut_int Ybaf.underlying5 w3) (trodAll_cons_mk (p := []) (shut_bool Ybaf.underlying4 fl) (trodAll_cons_mk (p := []) (shut_int Ybaf.underlying3 w5) (trodAll_cons_mk (p := []) (shut_string Ybaf.underlying9 w6) trodAll_mk0))))))
    simp only [List.append_nil] at hall
    exact hall
  have hb3 := bounds_u8 w3
  rcases open_ints Ybaf.underlying22 Ybaf.underlying5 Ybaf.cells5 hf with ⟨hcs, hx⟩ | ⟨a, len', cap', zs, hcs, _, hl, hm, hz, hx, hcell, hwz⟩
  · simp [Value.cells] at hcs
    obtain ⟨rfl, rfl, rfl⟩ := hcs
    exact dw_short F.told [] none 0 an nn md fl old what W hF (by simp) (fun i z hi => by simp at hi) hb3
  · simp [Value.cells] at hcs
    obtain ⟨rfl, rfl, rfl⟩ := hcs
    simp only [Prod.mk.injEq] at hx
    obtain ⟨rfl, rfl⟩ := hx
    have hsl := sized_slice hsz (j := 0) (t := 22) (e := 5) rfl rfl Ybaf.underlying22
    rw [Ybaf.bytes5] at hsl
    simp only [if_true] at hz
    simp only [lits, List.length_map, List.length_take, List.length_drop, reachBytes] at hsl
    by_cases hlong : 4096 < len
    · exact dw_long (some a) len cap an nn md fl old what W hlong (by omega)
    · have hlen : (zs.take len).length = len := by simp; omega
      have hgo := dw_short F.told (zs.take len) (some a) cap an nn md fl old what W hF (by omega) (fun i z hi => by
        have hil : i < len := by have := (List.getElem?_eq_some_iff.1 hi).1; omega
        rw [List.getElem?_take_of_lt hil] at hi
        obtain ⟨b, off, rfl, hcb⟩ := ints_at hcell (by omega)
        refine ⟨b, off, rfl, ?_⟩
        have hc := hcb i (by omega)
        rw [hc]
        simp only [List.getD, hi, Option.getD_some]) hb3
      rw [hlen] at hgo
      exact hgo

theorem proved : Rows.LawS4673ADecodeWholeToldSaid :=
  Claim7.holds_of_told_any 3 Ybaf.f3 "fmt.errorf" [] [] _ _ _ (by kernel_rfl) rfl rfl rfl Ybaf.laidOut (by kernel_rfl) rfl ⟨rfl, rfl, rfl, rfl, rfl, rfl, rfl⟩ rfl rfl (by kernel_rfl) (by kernel_rfl) Ybaf.func3 (by kernel_rfl)
    (of_decide_eq_true (by kernel_rfl)) (of_decide_eq_true (by kernel_rfl)) Ybaf.stops.symm rfl Ybaf.stopKnobs.symm (by kernel_rfl)
    (by kernel_rfl) (by kernel_rfl) (by kernel_rfl) (by kernel_rfl) (by kernel_rfl) (by kernel_rfl) (by kernel_rfl) (by kernel_rfl) (by kernel_rfl) rfl (by kernel_rfl) rfl rfl
    rfl rfl
    rfl (by kernel_rfl) (by kernel_rfl) (by kernel_rfl) (by decide) (by kernel_rfl)
    (OpenClaim.moreEntering_of (by kernel_rfl) (by kernel_rfl) (by kernel_rfl) (by kernel_rfl) (by kernel_rfl) (by kernel_rfl) (by kernel_rfl) (by kernel_rfl) (by kernel_rfl) (by kernel_rfl))
    ⟨_, WideRow.started_initial, Ybaf.quiet _⟩
    (fun os started _ H enc _ => lifted os started H enc)
end Go.Proofs.YbulkcrtgFmt.decodeWhole
