/-
  THE LAW 'Idem' over 'armed': its walk and its row, on the frame that the kit's tool wrote for this statement.
-/
import Derived.Test.YbulkcrpmRows
import Derived.Test.YbulkcrpmArmed
import Derived.RegionTactic
import Derived.Deep.RegionWith
import Derived.Deep.RegionHeld3
import Derived.WalkKit
import Derived.ProofKit
import Derived.OpenShut
import Derived.ShutString
namespace Go.Proofs.Ybulkcrpm.lawS4666CIdem
open Go.ChangeShapes Go.WideShapes Go.ChangeAt Go.RowKit
open Go.ChangeMaps (open_string shut_string)
set_option linter.unusedVariables false      -- a walk need not use every 'w<i>' (that an integer argument fits its kind)

theorem own : ownKnob Yba.prog.godebug = none := by kernel_rfl

/-! ### STEP 1: THE WALK: the Go text returns true. 'Grown w w'': the world has at most new blocks (Derived/RowKit3.lean). Part the cases AHEAD of 'go_enter' where a test parts the walk; take each callee by a contract of your own. -/
theorem walk (a0 : Int) (a1 : Int) (a2 : Int) (w0 : (Lit.int .u8 a0).wf = true) (w1 : (Lit.int .i64 a1).wf = true) (w2 : (Lit.int .i64 a2).wf = true) (w : World) :
    Calls Yba.prog 5 #[.int .u8 a0, .int .i64 a1, .int .i64 a2] w fun e w' => e = .returned (.bool true) ∧ Grown w w' := by
  have hb0 := bounds_u8 w0
  rcases (show a0 % 3 = 0 ∨ a0 % 3 = 1 ∨ a0 % 3 = 2 from by omega) with hm | hm | hm
  · go_enter Yba.func5, Yba.ntmps5
    go_wp2_with (go_at_call 9; refine (armed_yes _ _).mono ?_; rintro e w1 ⟨rfl, hb, hg⟩; obtain ⟨hc, hf⟩ := bcell hb; have hz : w.heap.size < w1.heap.size := (by have := hb.size; simp at this; omega); have hz1 : w.heap.size < w1.heap.size + 1 := by omega)
    go_region_held3 (fun w' => w'.cell? ⟨w1.heap.size, 0, none⟩ = some (.int .i64 7) ∧ w'.cell? ⟨w1.heap.size, 1, none⟩ = some (.int .i64 0) ∧ w'.cell? ⟨w.heap.size, 0, none⟩ = some (.int .i64 7) ∧ w'.cell? ⟨w.heap.size, 1, none⟩ = some (.int .i64 a1)) (go_keep)
      (first | (go_at_call 9; refine (armed_yes _ _).mono ?_; rintro e w2 ⟨rfl, hb2, hg2⟩; obtain ⟨hc2, hf2⟩ := bcell hb2; have hz2 : w1.heap.size < w2.heap.size := by have := hb2.size; simp at this; omega))
    all_goals go_wp2
    all_goals go_ret
    all_goals exact ⟨rfl, grown_trans ((grown_trans ((Grown.refl _).alloc _ _) hg).alloc _ _) hg2⟩
  · have h9 : ((9 : Int) == 7) = false := rfl
    go_enter Yba.func5, Yba.ntmps5
    go_wp2_with (go_at_call 9; refine (armed_no _ _ _ rfl).mono ?_; rintro e w1 ⟨rfl, hb, hg⟩; obtain ⟨hc, hf⟩ := bcell hb; have hz : w.heap.size < w1.heap.size := (by have := hb.size; simp at this; omega); have hz1 : w.heap.size < w1.heap.size + 1 := by omega)
    go_region_held3 (fun w' => w'.cell? ⟨w1.heap.size, 0, none⟩ = some (.int .i64 9) ∧ w'.cell? ⟨w1.heap.size, 1, none⟩ = some (.int .i64 a1) ∧ w'.cell? ⟨w.heap.size, 0, none⟩ = some (.int .i64 9) ∧ w'.cell? ⟨w.heap.size, 1, none⟩ = some (.int .i64 a1)) (go_keep)
      (first | (go_at_call 9; refine (armed_no _ _ _ rfl).mono ?_; rintro e w2 ⟨rfl, hb2, hg2⟩; obtain ⟨hc2, hf2⟩ := bcell hb2; have hz2 : w1.heap.size < w2.heap.size := by have := hb2.size; simp at this; omega))
    all_goals go_wp2
    all_goals go_ret
    all_goals exact ⟨rfl, grown_trans ((grown_trans ((Grown.refl _).alloc _ _) hg).alloc _ _) hg2⟩
  · by_cases h : a2 = 7
    · subst h
      go_enter Yba.func5, Yba.ntmps5
      go_wp2_with (go_at_call 9; refine (armed_yes _ _).mono ?_; rintro e w1 ⟨rfl, hb, hg⟩; obtain ⟨hc, hf⟩ := bcell hb; have hz : w.heap.size < w1.heap.size := (by have := hb.size; simp at this; omega); have hz1 : w.heap.size < w1.heap.size + 1 := by omega)
      go_region_held3 (fun w' => w'.cell? ⟨w1.heap.size, 0, none⟩ = some (.int .i64 7) ∧ w'.cell? ⟨w1.heap.size, 1, none⟩ = some (.int .i64 0) ∧ w'.cell? ⟨w.heap.size, 0, none⟩ = some (.int .i64 7) ∧ w'.cell? ⟨w.heap.size, 1, none⟩ = some (.int .i64 a1)) (go_keep)
        (first | (go_at_call 9; refine (armed_yes _ _).mono ?_; rintro e w2 ⟨rfl, hb2, hg2⟩; obtain ⟨hc2, hf2⟩ := bcell hb2; have hz2 : w1.heap.size < w2.heap.size := by have := hb2.size; simp at this; omega))
      all_goals go_wp2
      all_goals go_ret
      all_goals exact ⟨rfl, grown_trans ((grown_trans ((Grown.refl _).alloc _ _) hg).alloc _ _) hg2⟩
    · have h7 : (a2 == 7) = false := by simpa using h
      go_enter Yba.func5, Yba.ntmps5
      go_wp2_with (go_at_call 9; refine (armed_no _ _ _ h7).mono ?_; rintro e w1 ⟨rfl, hb, hg⟩; obtain ⟨hc, hf⟩ := bcell hb; have hz : w.heap.size < w1.heap.size := (by have := hb.size; simp at this; omega); have hz1 : w.heap.size < w1.heap.size + 1 := by omega)
      go_region_held3 (fun w' => w'.cell? ⟨w1.heap.size, 0, none⟩ = some (.int .i64 a2) ∧ w'.cell? ⟨w1.heap.size, 1, none⟩ = some (.int .i64 a1) ∧ w'.cell? ⟨w.heap.size, 0, none⟩ = some (.int .i64 a2) ∧ w'.cell? ⟨w.heap.size, 1, none⟩ = some (.int .i64 a1)) (go_keep)
        (first | (go_at_call 9; refine (armed_no _ _ _ h7).mono ?_; rintro e w2 ⟨rfl, hb2, hg2⟩; obtain ⟨hc2, hf2⟩ := bcell hb2; have hz2 : w1.heap.size < w2.heap.size := by have := hb2.size; simp at this; omega))
      all_goals go_wp2
      all_goals go_ret
      all_goals exact ⟨rfl, grown_trans ((grown_trans ((Grown.refl _).alloc _ _) hg).alloc _ _) hg2⟩

/-! ### THE ROW's STEP: WRITTEN OUT: LEAVE IT -/
set_option maxRecDepth 100000 in
theorem lifted (os : Os) (started : os.Started) (H : Type) (enc : TypeId × Value → H) :
    ReturnsInHanded {} Yba.checked os 5 .any (Rows.lawS4666CIdemSpec.pre6 enc Yba.prog Yba.f5 Rows.lawS4666CIdemRow.domain false) (Rows.lawS4666CIdemSpec.post enc Yba.prog Yba.f5 false true false false) := by
  refine returnsInHanded_of_change (C := Yba.checked) own started (by kernel_rfl) Yba.func5
    (ChangeSpec.witness6 (enc := enc) (C := Yba.checked) false ⟨#[], #[.int .u8 0, .int .i64 0, .int .i64 0], []⟩ 8 (by kernel_rfl) (by kernel_rfl) (by kernel_rfl) (by kernel_rfl)) ?_
  intro W base args ds gs before hval0 hW hcnd _
  have hval : ∀ (j : Nat) t v, Yba.f5.params[j]? = some t → args[j]? = some v → Value.okWide Yba.prog W .any base t v := hval0
  have hW' := hW
  obtain ⟨p, q, hA0, hV, rfl, hfz, hnd⟩ := hW
  have hA : DataW.TrodAll enc Yba.prog W 0 (fun _ => true) true Yba.f5.params.toList args.toList ds p := hA0
  rw [Yba.params5] at hA hval
  obtain ⟨v0, vs0, d0, ds0, p0, q0, hargs, rfl, rfl, h0, r0⟩ := trodAll_cons hA
  obtain ⟨v1, vs1, d1, ds1, p1, q1, rfl, rfl, rfl, h1, r1⟩ := trodAll_cons r0
  obtain ⟨v2, vs2, d2, ds2, p2, q2, rfl, rfl, rfl, h2, r2⟩ := trodAll_cons r1
  obtain ⟨rfl, rfl, rfl⟩ := trodAll_nil r2
  obtain rfl : args = #[v0, v1, v2] := by cases args; simp_all
  obtain ⟨rfl, rfl⟩ := trodVars_none hV
  obtain ⟨a0, rfl, rfl, rfl, w0⟩ := open_int Yba.underlying5 (hval 0 5 v0 rfl rfl) h0
  obtain ⟨a1, rfl, rfl, rfl, w1⟩ := open_int Yba.underlying3 (hval 1 3 v1 rfl rfl) h1
  obtain ⟨a2, rfl, rfl, rfl, w2⟩ := open_int Yba.underlying3 (hval 2 3 v2 rfl rfl) h2
  clear hA0 hval0
  simp only [List.append_nil] at hW'
  refine (walk a0 a1 a2 w0 w1 w2 W).mono fun e W' ⟨he, hg⟩ => ?_
  subst he
  exact ⟨_, rfl, post_of_same (pa := []) (pv := []) hW' (fun _ _ _ => (trodAll_cons_mk (shut_bool Yba.underlying4 _) trodAll_mk0)) (fun sp _ => (trodAll_cons_mk (shut_int Yba.underlying5 w0) (trodAll_cons_mk (shut_int Yba.underlying3 w1) (trodAll_cons_mk (shut_int Yba.underlying3 w2) trodAll_mk0)))) (fun _ _ => rfl) rfl
    (hg.frame _) hg.2.1 (ok_one (by kernel_rfl) rfl (okWide_bool_mk Yba.underlying4 _))⟩

theorem over : Rows.lawS4666CIdemRow.holds Yba.pinned (OpenSpec.ofChange Rows.lawS4666CIdemSpec) :=
  OpenClaim.holds_of_wide 5 Yba.f5 rfl rfl rfl rfl rfl rfl rfl ⟨rfl, rfl, rfl, rfl, rfl⟩ rfl rfl rfl rfl rfl (by kernel_rfl) Yba.func5 (by kernel_rfl)
    (of_decide_eq_true (by kernel_rfl)) (by unfold Func.isWrapper; first | (rw [if_pos (by decide +kernel)]; kernel_rfl) | (rw [if_neg (by decide +kernel)]; exact ⟨rfl, rfl⟩))
    (fun os started H enc _ => lifted os started H enc)

/-- ████ THE STATEMENT ████ -/
theorem proved : Rows.LawS4666CIdemSaid :=
  over
end Go.Proofs.Ybulkcrpm.lawS4666CIdem
