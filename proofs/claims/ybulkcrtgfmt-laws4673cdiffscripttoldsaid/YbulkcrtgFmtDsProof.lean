/-
  THE LAW 'DiffScript': the told card.
-/
import Derived.Test.YbulkcrtgFmtDsLw
import Derived.Test.YbulkcrtgFmtDsBig
import Derived.Test.YbulkcrtgFmtFacts
import Derived.WideKeyArgs
namespace Go.Proofs.YbulkcrtgFmt.diffScript
open Go Go.ChangeShapes Go.WideShapes Go.ChangeAt Go.RowKit
open Go.ChangeMaps (open_string shut_string)
open Go.Extern.Stop Go.Stop Go.Extern
set_option maxRecDepth 100000

theorem cells35 : Ybaf.prog.cellsOf 35 = 1 := by kernel_rfl
theorem addr_plain {w : World} {a : Addr} {v : Value} (h : w.cell? (a.add 0) = some v) : ∃ b o, a = ⟨b, o, none⟩ := by
  obtain ⟨b, o, s⟩ := a
  obtain rfl : s = none := by simpa [Addr.add] using World.cell?_spot h
  exact ⟨b, o, rfl⟩
theorem kept_frame {W W' : World} (h : KeptB W.heap.size (fun _ => False) W W') (may : MemPlace → Prop) : W.keptBut W' may := by
  refine ⟨h.os, h.output, fun i hi => ?_⟩
  rw [h.block i hi (fun h => h)]
  split <;> simp_all
theorem kept_trod {H : Type} {enc : TypeId × Value → H} {t : TypeId} (hr : Ybaf.prog.readableRec t = true) (hrow : t < Ybaf.prog.types.size) {W W' : World} {v : Value} {d : DataW H} {ps : List MemPlace}
    (h : DataW.Trod enc Ybaf.prog W 0 (fun _ => true) true t v d ps) (hb : KeptB W.heap.size (fun _ => False) W W') (hlt : ∀ x ∈ ps, x.block < W.heap.size) :
    DataW.Trod enc Ybaf.prog W' 0 (fun b => decide (b < W.heap.size)) true t v d ps :=
  WideElems.Trod_stays Ybaf.laidOut hr hrow h (fun x hx => by
    have hx := hlt x hx
    cases x with
    | cell b o => exact World.cell?_of_block (w := W) (hb.block b hx (fun h => h))
    | map b => exact hb.block b hx (fun h => h)) (fun x hx => by simpa using hlt x hx)
/-- A slice of integers that came in. -/
theorem open_at {H : Type} {enc : TypeId × Value → H} {W : World} {t e : TypeId} {k : IntKind} {fuel : Nat} {pa : Option Addr} {n c : Nat} {x : DataW H × List MemPlace} (ht : Ybaf.prog.underlying t = some (.slice e)) (he : Ybaf.prog.underlying e = some (.int k)) (hc : Ybaf.prog.cellsOf e = 1)
    (hf : DataW.trod enc Ybaf.prog W 0 (fun _ => true) true fuel t [.slice pa n c] = some x) :
    ∃ zs : List Int, zs.length = n ∧ (∀ z ∈ zs, (Lit.int k z).wf = true) ∧ (∀ i z, zs[i]? = some z → ∃ g o, pa = some ⟨g, o, none⟩ ∧ W.cell? ⟨g, o + i, none⟩ = some (.int k z)) ∧ (pa = none → c = 0) := by
  rcases open_ints ht he hc hf with ⟨hcs, _⟩ | ⟨a, len', cap', zs, hcs, _, hl, hm, hz, _, hcell, hwz⟩
  · simp at hcs
    obtain ⟨rfl, rfl, rfl⟩ := hcs
    exact ⟨[], rfl, by simp, fun i z hi => by simp at hi, fun _ => rfl⟩
  · simp at hcs
    obtain ⟨rfl, rfl, rfl⟩ := hcs
    simp only [if_true] at hz
    refine ⟨zs.take n, by rw [List.length_take]; omega, fun z hz => hwz z (List.mem_of_mem_take hz), fun i z hi => ?_, fun h => by cases h⟩
    have hil : i < n := by have := (List.getElem?_eq_some_iff.1 hi).1; rw [List.length_take] at this; omega
    rw [List.getElem?_take_of_lt hil] at hi
    obtain ⟨g, o, rfl⟩ := addr_plain (hcell 0 (by omega))
    refine ⟨g, o, rfl, ?_⟩
    have h1 := hcell i (by omega)
    rw [Addr.add_lit] at h1
    rw [h1]
    simp only [List.getD, hi, Option.getD_some]
theorem byts {W : World} {pa : Option Addr} {n : Nat} {zs : List Int} (hn : zs.length = n) (hw : ∀ z ∈ zs, (Lit.int .u8 z).wf = true) (hat : ∀ i z, zs[i]? = some z → ∃ g o, pa = some ⟨g, o, none⟩ ∧ W.cell? ⟨g, o + i, none⟩ = some (.int .u8 z)) : ∃ l : List UInt8, l.length = n ∧ BytAt W pa l := by
  refine ⟨zs.map fun z => UInt8.ofNat z.toNat, by simpa using hn, fun hne => ?_⟩
  have h0 : 0 < zs.length := by cases zs <;> simp at hne ⊢
  obtain ⟨g, o, rfl, _⟩ := hat 0 zs[0] (List.getElem?_eq_getElem h0)
  refine ⟨g, o, rfl, fun j hj => ?_⟩
  have hj' : j < zs.length := by simpa using hj
  obtain ⟨g', o', e, hc⟩ := hat j zs[j] (List.getElem?_eq_getElem hj')
  simp only [Option.some.injEq, Addr.mk.injEq] at e
  obtain ⟨rfl, rfl, _⟩ := e
  rw [hc]
  have hb := bounds_u8 (hw zs[j] (List.getElem_mem _))
  simp only [List.getElem_map, Option.some.injEq, Value.int.injEq, true_and]
  have : (UInt8.ofNat (zs[j]).toNat).toNat = (zs[j]).toNat := by
    rw [UInt8.toNat_ofNat']
    omega
  rw [this]
  omega
theorem low {W : World} {base : Nat} {pa : Option Addr} {n c : Nat} (h : Value.okWide Ybaf.prog W .any base 22 (.slice pa n c)) : ∀ g o, pa = some ⟨g, o, none⟩ → g < W.heap.size := by
  rintro g o rfl
  simp only [Value.okWide, Ybaf.underlying22, Cell.okWide, Cell.ok, World.has] at h
  obtain ⟨_, _, _, _, row, cells, hs, _⟩ := h
  simp only [World.shape?] at hs
  cases hh : W.heap[g]? with
  | none => rw [hh] at hs; cases hs
  | some x => exact lt_of_block hh

theorem lifted (os : Os) (started : os.Started) (H : Type) (enc : TypeId × Value → H) :
    ReturnsInTold none {} Ybaf.checked os 4 .any Input.okWide ((OpenSpec.ofChange Rows.lawS4673CDiffScriptSpec).preRow enc Ybaf.prog Ybaf.f4 Rows.lawS4673CDiffScriptRow.domain false []) (fun F => ((OpenSpec.ofChange Rows.lawS4673CDiffScriptSpec).at F).post enc Ybaf.prog Ybaf.f4 false true false false) (aloneAtReturn Ybaf.prog) nothingAlways := by
  refine returnsInTold_of_row (C := Ybaf.checked) (s := OpenSpec.ofChange Rows.lawS4673CDiffScriptSpec) (by kernel_rfl) Ybaf.own started (by kernel_rfl) Ybaf.func4
    (OpenSpec.witness_stopped (enc := enc) (C := Ybaf.checked) false ⟨#[], #[.int .u8 0, .slice none 0 0, .int .u8 0, .slice none 0 0, .slice none 0 0, .slice none 0 0], []⟩ 8 (by kernel_rfl) (by kernel_rfl) (by kernel_rfl) (by kernel_rfl)) ?_
  intro F W base args ds gs before _ _ hval0 hW _ _ _ _ _
  have hval : ∀ (j : Nat) t v, Ybaf.f4.params[j]? = some t → args[j]? = some v → Value.okWide Ybaf.prog W .any base t v := hval0
  have hW' := hW
  obtain ⟨p, q, hA0, hV, rfl, hfz, hnd⟩ := hW
  have hA : DataW.TrodAll enc Ybaf.prog W 0 (fun _ => true) true Ybaf.f4.params.toList args.toList ds p := hA0
  rw [Ybaf.params4] at hA hval
  obtain ⟨v0, vs0, d0, ds0, p0, q0, hargs0, rfl, rfl, h0, r0⟩ := trodAll_cons hA
  obtain ⟨v1, vs1, d1, ds1, p1, q1, rfl, rfl, rfl, h1, r1⟩ := trodAll_cons r0
  obtain ⟨v2, vs2, d2, ds2, p2, q2, rfl, rfl, rfl, h2, r2⟩ := trodAll_cons r1
  obtain ⟨v3, vs3, d3, ds3, p3, q3, rfl, rfl, rfl, h3, r3⟩ := trodAll_cons r2
  obtain ⟨v4, vs4, d4, ds4, p4, q4, rfl, rfl, rfl, h4, r4⟩ := trodAll_cons r3
  obtain ⟨v5, vs5, d5, ds5, p5, q5, rfl, rfl, rfl, h5, r5⟩ := trodAll_cons r4
  obtain ⟨rfl, rfl, rfl⟩ := trodAll_nil r5
  obtain rfl : args = #[v0, v1, v2, v3, v4, v5] := by cases args; simp_all
  obtain ⟨rfl, rfl⟩ := trodVars_none hV
  obtain ⟨mask, rfl, rfl, rfl, w0⟩ := open_int Ybaf.underlying5 (hval 0 5 v0 rfl rfl) h0
  obtain ⟨ka, kl, kc, rfl⟩ := okWide_slice Ybaf.underlying30 (hval 1 30 v1 rfl rfl)
  obtain ⟨proc, rfl, rfl, rfl, w2⟩ := open_int Ybaf.underlying5 (hval 2 5 v2 rfl rfl) h2
  obtain ⟨oa, ol, oc, rfl⟩ := okWide_slice Ybaf.underlying22 (hval 3 22 v3 rfl rfl)
  obtain ⟨da, dn, dc, rfl⟩ := okWide_slice Ybaf.underlying22 (hval 4 22 v4 rfl rfl)
  obtain ⟨pa, pn, pc, rfl⟩ := okWide_slice Ybaf.underlying22 (hval 5 22 v5 rfl rfl)
  have hpl := low (hval 5 22 _ rfl rfl)
  have h1k := h1
  have h3k := h3
  have h4k := h4
  have h5k := h5
  obtain ⟨fuel1, hf1⟩ := h1
  obtain ⟨fuel3, hf3⟩ := h3
  obtain ⟨fuel4, hf4⟩ := h4
  obtain ⟨fuel5, hf5⟩ := h5
  clear hA0 hval0
  simp only [List.append_nil, List.nil_append] at hW'
  have hlt1 : ∀ x ∈ p1, x.block < W.heap.size := fun x hx => by simpa using hW'.lt x (by simp [hx])
  have hlt3 : ∀ x ∈ p3, x.block < W.heap.size := fun x hx => by simpa using hW'.lt x (by simp [hx])
  have hlt4 : ∀ x ∈ p4, x.block < W.heap.size := fun x hx => by simpa using hW'.lt x (by simp [hx])
  have hlt5 : ∀ x ∈ p5, x.block < W.heap.size := fun x hx => by simpa using hW'.lt x (by simp [hx])
  obtain ⟨cs, rfl, hcw, hcs, _⟩ := open_at Ybaf.underlying30 Ybaf.underlying35 cells35 (by simpa [Value.cells] using hf1)
  obtain ⟨os', rfl, how, hos, _⟩ := open_at Ybaf.underlying22 Ybaf.underlying5 Ybaf.cells5 (by simpa [Value.cells] using hf3)
  obtain ⟨dz, hdz, hdw, hds, _⟩ := open_at Ybaf.underlying22 Ybaf.underlying5 Ybaf.cells5 (by simpa [Value.cells] using hf4)
  obtain ⟨pz, hpz, hpw, hps, hpnil⟩ := open_at Ybaf.underlying22 Ybaf.underlying5 Ybaf.cells5 (by simpa [Value.cells] using hf5)
  obtain ⟨dl, hdl, hdb⟩ := byts hdz hdw hds
  obtain ⟨pl, hpl', hpb⟩ := byts hpz hpw hps
  have hx : Calls Ybaf.prog 4 #[.int .u8 mask, .slice ka cs.length kc, .int .u8 proc, .slice oa os'.length oc, .slice da dn dc, .slice pa pn pc] W (fun e W' => e = .returned (.bool true) ∧ KeptB W.heap.size (fun _ => False) W W') := by
    by_cases hb : 300 < os'.length ∨ 1024 < dn ∨ 1024 < pn
    · exact law_big mask proc ka oa da pa _ kc _ oc dn dc pn pc W hb
    · exact law_any mask proc ka oa da pa cs.length kc oc dc pc cs os' dl pl os'.length dn pn W ⟨rfl, fun z hz => by have := bounds_u32 (hcw z hz); omega, hcs⟩ (by have := bounds_u8 w2; omega) ⟨rfl, fun z hz => by have := bounds_u8 (how z hz); omega, hos⟩ (by omega) ⟨hdl, hdb⟩ (by omega) ⟨hpl', hpb, hpnil, hpl⟩ (by omega)
  refine hx.mono fun e W' ⟨he, hnx⟩ => ?_
  subst he
  refine ⟨_, rfl, _, _, _, [], p1 ++ (p3 ++ (p4 ++ p5)), [], hW', trodAll_mk1 (shut_bool Ybaf.underlying4 _), ?_, rfl, kept_frame hnx _, fun h => by cases h⟩
  have hall := trodAll_cons_mk (p := []) (shut_int Ybaf.underlying5 w0) (trodAll_cons_mk (kept_trod (by kernel_rfl) (of_decide_eq_true (by kernel_rfl)) h1k hnx hlt1) (trodAll_cons_mk (p := []) (shut_int Ybaf.underlying5 w2) (trodAll_cons_mk (kept_trod (by kernel_rfl) (of_decide_eq_true (by kernel_rfl)) h3k hnx hlt3) (trodAll_cons_mk (kept_trod (by kernel_rfl) (of_decide_eq_true (by kernel_rfl)) h4k hnx hlt4) (trodAll_cons_mk (kept_trod (by kernel_rfl) (of_decide_eq_true (by kernel_rfl)) h5k hnx hlt5) trodAll_mk0)))))
  simp only [List.append_nil, List.nil_append] at hall
  exact hall

theorem proved : Rows.LawS4673CDiffScriptToldSaid :=
  Claim7.holds_of_told_any 4 Ybaf.f4 "fmt.errorf" [] [] _ _ _ (by kernel_rfl) rfl rfl rfl Ybaf.laidOut (by kernel_rfl) rfl ⟨rfl, rfl, rfl, rfl, rfl, rfl, rfl⟩ rfl rfl (by kernel_rfl) (by kernel_rfl) Ybaf.func4 (by kernel_rfl)
    (of_decide_eq_true (by kernel_rfl)) (of_decide_eq_true (by kernel_rfl)) Ybaf.stops.symm rfl Ybaf.stopKnobs.symm (by kernel_rfl)
    (by kernel_rfl) (by kernel_rfl) (by kernel_rfl) (by kernel_rfl) (by kernel_rfl) (by kernel_rfl) (by kernel_rfl) (by kernel_rfl) (by kernel_rfl) rfl (by kernel_rfl) rfl rfl
    rfl rfl
    rfl (by kernel_rfl) (by kernel_rfl) (by kernel_rfl) (by decide) (by kernel_rfl)
    (OpenClaim.moreEntering_of (by kernel_rfl) (by kernel_rfl) (by kernel_rfl) (by kernel_rfl) (by kernel_rfl) (by kernel_rfl) (by kernel_rfl) (by kernel_rfl) (by kernel_rfl) (by kernel_rfl))
    ⟨_, WideRow.started_initial, Ybaf.quiet _⟩
    (fun os started _ H enc _ => lifted os started H enc)
end Go.Proofs.YbulkcrtgFmt.diffScript
