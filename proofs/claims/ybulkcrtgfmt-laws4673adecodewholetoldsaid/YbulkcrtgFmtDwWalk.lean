/-
  THE LAW 'DecodeWhole' (function 3): its walk.
-/
import Derived.Test.YbulkcrtgFmtClo
import Derived.LaidEql
namespace Go.Proofs.YbulkcrtgFmt
open Go Go.RowKit Go.Extern.Stop Go.Stop Go.Extern

set_option maxHeartbeats 400000 in
theorem dw_long (da : Option Addr) (n c : Nat) (an nn : Int) (md : Int) (fl : Bool) (old : Int) (what : ByteArray) (w : World) (hn : 4096 < n) (hn' : n ≤ 140737488355328) :
    Calls Ybaf.prog 3 #[.slice da n c, .int .i64 an, .int .i64 nn, .int .u8 md, .bool fl, .int .i64 old, .string what] w fun e w' => e = .returned (.bool true) ∧ Below w.heap.size w w' := by
  go_enter Ybaf.func3, Ybaf.ntmps3
  go_wp2
  go_ret
  exact ⟨rfl, ((((Below.refl _ _).alloc (Nat.le_refl _) _).alloc (by simp) _).alloc (by simp; omega) _).alloc (by simp; omega) _⟩

theorem OctetsAt.below {w w' : World} (hb : Below w.heap.size w w') {da : Option Addr} {zs : List Int} (h : OctetsAt w da zs) : OctetsAt w' da zs := by
  intro i z hi
  obtain ⟨g, o, e, hc⟩ := h i z hi
  exact ⟨g, o, e, (hb.cell (World.block_lt_of_cell? w _ hc)).trans hc⟩
theorem below_drewN {B : Nat} {a w : World} (h : Below B a w) (n : Nat) : Below B a (w.drewN n) := ⟨h.os, h.tape, h.output, h.size, h.block⟩
theorem run_neq_iface_ptr_other {P : Program} (w : World) {ti tp te : TypeId} {ms : Array (String × TypeId)} {i j : TypeInfo} {a b : Addr} {ca cb : Array Value} {ta tb : TypeId}
    (hi : P.underlying ti = some (.interface ms)) (hp : P.underlying tp = some (.pointer te)) (hinfo : P.info? tp = some i) (hcomp : i.comparable = true) (hte : P.info? te = some j) (hsz : j.size ≠ 0)
    (hne : a ≠ b) (ha : w.heap[a.block]? = some (.cells ca ta (0, 0))) (hb : w.heap[b.block]? = some (.cells cb tb (0, 0))) :
    (binOp .neq ti (.iface tp (.pointer (some a))) (.iface tp (.pointer (some b)))).run P w = .ok (.bool true) w := by
  simp only [binOp]
  simp [Op.equal, Op.maxDepth, run_equalIn_iface_ptr_other w 9998 hi hp hinfo hcomp hte hsz hne ha hb]
theorem Ybaf.comp54 : (Ybaf.prog.info? 54).map (·.comparable) = some true := by kernel_rfl
theorem Ybaf.size56 : (Ybaf.prog.info? 56).map (·.size) = some 1 := by kernel_rfl
theorem Ybaf.infoE : ∃ i j, Ybaf.prog.info? 54 = some i ∧ i.comparable = true ∧ Ybaf.prog.info? 56 = some j ∧ j.size ≠ 0 := by
  obtain ⟨i, hi, h1⟩ := Option.map_eq_some_iff.1 Ybaf.comp54
  obtain ⟨j, hj, h2⟩ := Option.map_eq_some_iff.1 Ybaf.size56
  exact ⟨i, j, hi, h1, hj, by omega⟩
theorem Ybaf.eq_same (w : World) (a : Addr) : (binOp .eql 24 (.iface 54 (.pointer (some a))) (.iface 54 (.pointer (some a)))).run Ybaf.prog w = .ok (.bool true) w := by
  obtain ⟨iP, iE, e1, e2, e3, _⟩ := Ybaf.infoE
  exact run_eql_iface_ptr_same (P := Ybaf.prog) w (ti := 24) (tp := 54) (te := 56) a Ybaf.underlying24 Ybaf.underlying54 e1 e2 e3
theorem Ybaf.neq_other (w : World) {a b : Addr} {ca cb : Array Value} {ta tb : TypeId} (hne : a ≠ b) (ha : w.heap[a.block]? = some (.cells ca ta (0, 0))) (hb : w.heap[b.block]? = some (.cells cb tb (0, 0))) :
    (binOp .neq 24 (.iface 54 (.pointer (some a))) (.iface 54 (.pointer (some b)))).run Ybaf.prog w = .ok (.bool true) w := by
  obtain ⟨iP, iE, e1, e2, e3, e4⟩ := Ybaf.infoE
  exact run_neq_iface_ptr_other (P := Ybaf.prog) w Ybaf.underlying24 Ybaf.underlying54 e1 e2 e3 e4 hne ha hb

theorem fifth_new (w : World) (a b c d o e f g h : Obj) (q : Nat) : ((((((((((w.alloc a).alloc b).alloc c).alloc d).alloc o).alloc e).alloc f).alloc g).alloc h).drewN q).heap[w.heap.size + 1 + 1 + 1 + 1]? = some o := by
  have h0 : (((((w.alloc a).alloc b).alloc c).alloc d).alloc o).heap[w.heap.size + 1 + 1 + 1 + 1]? = some o := by
    have := heap_alloc_new ((((w.alloc a).alloc b).alloc c).alloc d) o
    simpa using this
  have step : ∀ {x : World} {y : Obj}, x.heap[w.heap.size + 1 + 1 + 1 + 1]? = some o → (x.alloc y).heap[w.heap.size + 1 + 1 + 1 + 1]? = some o := fun hx => (Below.heap_alloc _ _ _ (lt_of_block hx)).trans hx
  exact step (step (step (step h0)))

set_option maxHeartbeats 1600000 in
theorem dw_short (F : Interp) (zs : List Int) (da : Option Addr) (cap : Nat) (an nn : Int) (md : Int) (fl : Bool) (old : Int) (what : ByteArray) (w : World) (hF : F.answers w.tape) (hn : zs.length ≤ 4096) (hz : OctetsAt w da zs) (hmd : 0 ≤ md ∧ md ≤ 255) :
    Calls Ybaf.prog 3 #[.slice da zs.length cap, .int .i64 an, .int .i64 nn, .int .u8 md, .bool fl, .int .i64 old, .string what] w fun e w' => e = .returned (.bool true) ∧ Below w.heap.size w w' := by
  have ksame := Ybaf.eq_same
  have hzA : ∀ g o i, da = some ⟨g, o, none⟩ → i < zs.length → g < w.heap.size := by
    intro g o i e hi
    obtain ⟨g', o', e', hc⟩ := hz i zs[i] (by simp [hi])
    rw [e] at e'
    simp at e'
    have := World.block_lt_of_cell? w _ hc
    simp at this
    omega
  by_cases hm : md % 2 = 0
  · cases fl
    · go_enter Ybaf.func3, Ybaf.ntmps3
      go_wp2_with (first | (go_at_call 5; go_in) | (go_at_call 7; go_in))
      refine (closure_any false zs da cap an zs.length (.iface 54 (.pointer (some ⟨w.heap.size + 1 + 1 + 1 + 1, 0, none⟩))) (w.heap.size + 1 + 1 + 1 + 1 + 1 + 1) w.heap.size (w.heap.size + 1 + 1 + 1 + 1 + 1 + 1 + 1) (w.heap.size + 1 + 1 + 1) (w.heap.size + 1) (w.heap.size + 1 + 1) (w.heap.size + 1 + 1 + 1 + 1 + 1) _ hn (by go_simp) (by go_simp) (by go_simp) (by go_simp) (by go_simp) (by go_simp) (by go_simp) ?hz (by omega) (by omega) (by omega) (by omega) (by omega) (fun g o i e hi => by have := hzA g o i e hi; omega)).mono ?_
      case hz => exact hz.below (by repeat (first | exact Below.refl _ _ | (refine Below.alloc ?_ (by simp; try omega) _)))
      rintro e w1 ⟨rfl, q, rfl⟩
      go_wp2_with (first | (go_at_call 5; go_in) | (go_at_call 7; go_in))
      go_ret
      exact ⟨rfl, by repeat (first | exact Below.refl _ _ | refine below_drewN ?_ _ | (refine Below.setCell ?_ (by simp; try omega) _) | (refine Below.alloc ?_ (by simp; try omega) _))⟩
    · go_enter Ybaf.func3, Ybaf.ntmps3
      go_wp2_with (first | (go_at_call 5; go_in) | (go_at_call 7; go_in))
      refine (closure_any true zs da cap an zs.length (.iface 54 (.pointer (some ⟨w.heap.size + 1 + 1 + 1 + 1, 0, none⟩))) (w.heap.size + 1 + 1 + 1 + 1 + 1 + 1) w.heap.size (w.heap.size + 1 + 1 + 1 + 1 + 1 + 1 + 1) (w.heap.size + 1 + 1 + 1) (w.heap.size + 1) (w.heap.size + 1 + 1) (w.heap.size + 1 + 1 + 1 + 1 + 1) _ hn (by go_simp) (by go_simp) (by go_simp) (by go_simp) (by go_simp) (by go_simp) (by go_simp) ?hz (by omega) (by omega) (by omega) (by omega) (by omega) (fun g o i e hi => by have := hzA g o i e hi; omega)).mono ?_
      case hz => exact hz.below (by repeat (first | exact Below.refl _ _ | (refine Below.alloc ?_ (by simp; try omega) _)))
      rintro e w1 ⟨rfl, q, rfl⟩
      go_wp2_with (first | (go_at_call 5; go_in) | (go_at_call 7; go_in))
      go_ret
      exact ⟨rfl, by repeat (first | exact Below.refl _ _ | refine below_drewN ?_ _ | (refine Below.setCell ?_ (by simp; try omega) _) | (refine Below.alloc ?_ (by simp; try omega) _))⟩
  · by_cases hq : nn = zs.length
    · subst hq
      cases fl
      · go_enter Ybaf.func3, Ybaf.ntmps3
        go_wp2_with (first | (go_at_call 5; go_in) | (go_at_call 7; go_in))
        refine (closure_any false zs da cap an zs.length (.iface 54 (.pointer (some ⟨w.heap.size + 1 + 1 + 1 + 1, 0, none⟩))) (w.heap.size + 1 + 1 + 1 + 1 + 1 + 1) w.heap.size (w.heap.size + 1 + 1 + 1 + 1 + 1 + 1 + 1) (w.heap.size + 1 + 1 + 1) (w.heap.size + 1) (w.heap.size + 1 + 1) (w.heap.size + 1 + 1 + 1 + 1 + 1) _ hn (by go_simp) (by go_simp) (by go_simp) (by go_simp) (by go_simp) (by go_simp) (by go_simp) ?hz (by omega) (by omega) (by omega) (by omega) (by omega) (fun g o i e hi => by have := hzA g o i e hi; omega)).mono ?_
        case hz => exact hz.below (by repeat (first | exact Below.refl _ _ | (refine Below.alloc ?_ (by simp; try omega) _)))
        rintro e w1 ⟨rfl, q, rfl⟩
        go_wp2_with (first | (go_at_call 5; go_in) | (go_at_call 7; go_in))
        go_ret
        exact ⟨rfl, by repeat (first | exact Below.refl _ _ | refine below_drewN ?_ _ | (refine Below.setCell ?_ (by simp; try omega) _) | (refine Below.alloc ?_ (by simp; try omega) _))⟩
      · go_enter Ybaf.func3, Ybaf.ntmps3
        go_wp2_with (first | (go_at_call 5; go_in) | (go_at_call 7; go_in))
        refine (closure_any true zs da cap an zs.length (.iface 54 (.pointer (some ⟨w.heap.size + 1 + 1 + 1 + 1, 0, none⟩))) (w.heap.size + 1 + 1 + 1 + 1 + 1 + 1) w.heap.size (w.heap.size + 1 + 1 + 1 + 1 + 1 + 1 + 1) (w.heap.size + 1 + 1 + 1) (w.heap.size + 1) (w.heap.size + 1 + 1) (w.heap.size + 1 + 1 + 1 + 1 + 1) _ hn (by go_simp) (by go_simp) (by go_simp) (by go_simp) (by go_simp) (by go_simp) (by go_simp) ?hz (by omega) (by omega) (by omega) (by omega) (by omega) (fun g o i e hi => by have := hzA g o i e hi; omega)).mono ?_
        case hz => exact hz.below (by repeat (first | exact Below.refl _ _ | (refine Below.alloc ?_ (by simp; try omega) _)))
        rintro e w1 ⟨rfl, q, rfl⟩
        go_wp2_with (first | (go_at_call 5; go_in) | (go_at_call 7; go_in))
        go_ret
        exact ⟨rfl, by repeat (first | exact Below.refl _ _ | refine below_drewN ?_ _ | (refine Below.setCell ?_ (by simp; try omega) _) | (refine Below.alloc ?_ (by simp; try omega) _))⟩
    · cases fl
      · go_enter Ybaf.func3, Ybaf.ntmps3
        go_wp2_with (first | (go_at_call 5; go_in) | (go_at_call 7; go_in))
        refine (closure_any false zs da cap an nn (.iface 54 (.pointer (some ⟨w.heap.size + 1 + 1 + 1 + 1, 0, none⟩))) (w.heap.size + 1 + 1 + 1 + 1 + 1 + 1) w.heap.size (w.heap.size + 1 + 1 + 1 + 1 + 1 + 1 + 1) (w.heap.size + 1 + 1 + 1) (w.heap.size + 1) (w.heap.size + 1 + 1) (w.heap.size + 1 + 1 + 1 + 1 + 1) _ hn (by go_simp) (by go_simp) (by go_simp) (by go_simp) (by go_simp) (by go_simp) (by go_simp) ?hz (by omega) (by omega) (by omega) (by omega) (by omega) (fun g o i e hi => by have := hzA g o i e hi; omega)).mono ?_
        case hz => exact hz.below (by repeat (first | exact Below.refl _ _ | (refine Below.alloc ?_ (by simp; try omega) _)))
        rintro e w1 ⟨rfl, q, rfl⟩
        go_wp2_with (first | (go_at_call 5; go_in) | (go_at_call 7; go_in))
        obtain ⟨W, hW⟩ : ∃ W, W = (((((((((w.alloc (.cells #[.slice da zs.length cap] 22)).alloc (.cells #[.int .i64 an] 3)).alloc (.cells #[.int .i64 nn] 3)).alloc (.cells #[.bool false] 4)).alloc (.cells #[.string ⟨#[122, 122, 32, 100, 101, 99, 111, 100, 101, 32, 102, 97, 105, 108, 101, 100]⟩] 56)).alloc (.cells #[.iface 54 (.pointer (some ⟨w.heap.size + 1 + 1 + 1 + 1, 0, none⟩))] 24)).alloc (.cells #[.int .i64 1] 3)).alloc (.cells #[.bool true] 4)).alloc (.cells #[.int .i64 old] 3)).drewN q := ⟨_, rfl⟩
        rw [← hW]
        have q0 : W.cell? ⟨w.heap.size, 0, none⟩ = some (.slice da zs.length cap) := by rw [hW]; go_simp
        have q1 : W.cell? ⟨w.heap.size + 1, 0, none⟩ = some (.int .i64 an) := by rw [hW]; go_simp
        have q2 : W.cell? ⟨w.heap.size + 1 + 1, 0, none⟩ = some (.int .i64 nn) := by rw [hW]; go_simp
        have q3 : W.cell? ⟨w.heap.size + 1 + 1 + 1, 0, none⟩ = some (.bool false) := by rw [hW]; go_simp
        have q5 : W.cell? ⟨w.heap.size + 1 + 1 + 1 + 1 + 1, 0, none⟩ = some (.iface 54 (.pointer (some ⟨w.heap.size + 1 + 1 + 1 + 1, 0, none⟩))) := by rw [hW]; go_simp
        have q6 : W.cell? ⟨w.heap.size + 1 + 1 + 1 + 1 + 1 + 1, 0, none⟩ = some (.int .i64 1) := by rw [hW]; go_simp
        have q7 : W.cell? ⟨w.heap.size + 1 + 1 + 1 + 1 + 1 + 1 + 1, 0, none⟩ = some (.bool true) := by rw [hW]; go_simp
        have q8 : W.cell? ⟨w.heap.size + 1 + 1 + 1 + 1 + 1 + 1 + 1 + 1, 0, none⟩ = some (.int .i64 old) := by rw [hW]; go_simp
        have q4 : W.heap[w.heap.size + 1 + 1 + 1 + 1]? = some (.cells #[.string ⟨#[122, 122, 32, 100, 101, 99, 111, 100, 101, 32, 102, 97, 105, 108, 101, 100]⟩] 56 (0, 0)) := by rw [hW]; exact fifth_new w _ _ _ _ _ _ _ _ _ q
        have hWs : W.heap.size = w.heap.size + 9 := by rw [hW]; simp
        have hWb : Below w.heap.size w W := by rw [hW]; exact below_drewN (by repeat (first | exact Below.refl _ _ | (refine Below.alloc ?_ (by simp; try omega) _))) q
        have hFW : F.answers W.tape := by rw [hWb.tape]; exact hF
        clear hW hzA hz
        refine (trailing_any F what _ W hFW).mono ?_
        rintro e w2 ⟨rfl, ⟨cs, hcs⟩, hb2⟩
        have c0 := (hb2.cell (p := ⟨w.heap.size, 0, none⟩) (by show w.heap.size < W.heap.size; omega)).trans q0
        have c1 := (hb2.cell (p := ⟨w.heap.size + 1, 0, none⟩) (by show w.heap.size + 1 < W.heap.size; omega)).trans q1
        have c2 := (hb2.cell (p := ⟨w.heap.size + 1 + 1, 0, none⟩) (by show w.heap.size + 1 + 1 < W.heap.size; omega)).trans q2
        have c3 := (hb2.cell (p := ⟨w.heap.size + 1 + 1 + 1, 0, none⟩) (by show w.heap.size + 1 + 1 + 1 < W.heap.size; omega)).trans q3
        have c5 := (hb2.cell (p := ⟨w.heap.size + 1 + 1 + 1 + 1 + 1, 0, none⟩) (by show w.heap.size + 1 + 1 + 1 + 1 + 1 < W.heap.size; omega)).trans q5
        have c6 := (hb2.cell (p := ⟨w.heap.size + 1 + 1 + 1 + 1 + 1 + 1, 0, none⟩) (by show w.heap.size + 1 + 1 + 1 + 1 + 1 + 1 < W.heap.size; omega)).trans q6
        have c7 := (hb2.cell (p := ⟨w.heap.size + 1 + 1 + 1 + 1 + 1 + 1 + 1, 0, none⟩) (by show w.heap.size + 1 + 1 + 1 + 1 + 1 + 1 + 1 < W.heap.size; omega)).trans q7
        have c8 := (hb2.cell (p := ⟨w.heap.size + 1 + 1 + 1 + 1 + 1 + 1 + 1 + 1, 0, none⟩) (by show w.heap.size + 1 + 1 + 1 + 1 + 1 + 1 + 1 + 1 < W.heap.size; omega)).trans q8
        have c4 := (hb2.block (w.heap.size + 1 + 1 + 1 + 1) (by omega)).trans q4
        have kne := Ybaf.neq_other w2 (a := ⟨W.heap.size + 1, 0, none⟩) (b := ⟨w.heap.size + 1 + 1 + 1 + 1, 0, none⟩) (by simp; try omega) hcs c4
        clear q0 q1 q2 q3 q4 q5 q6 q7 q8 hcs c4
        have HWs : Hid (W.heap.size = w.heap.size + 9) := hWs
        clear hWs
        go_wp2
        go_ret
        exact ⟨rfl, hWb.trans (hb2.mono hWb.size)⟩
      · go_enter Ybaf.func3, Ybaf.ntmps3
        go_wp2_with (first | (go_at_call 5; go_in) | (go_at_call 7; go_in))
        refine (closure_any true zs da cap an nn (.iface 54 (.pointer (some ⟨w.heap.size + 1 + 1 + 1 + 1, 0, none⟩))) (w.heap.size + 1 + 1 + 1 + 1 + 1 + 1) w.heap.size (w.heap.size + 1 + 1 + 1 + 1 + 1 + 1 + 1) (w.heap.size + 1 + 1 + 1) (w.heap.size + 1) (w.heap.size + 1 + 1) (w.heap.size + 1 + 1 + 1 + 1 + 1) _ hn (by go_simp) (by go_simp) (by go_simp) (by go_simp) (by go_simp) (by go_simp) (by go_simp) ?hz (by omega) (by omega) (by omega) (by omega) (by omega) (fun g o i e hi => by have := hzA g o i e hi; omega)).mono ?_
        case hz => exact hz.below (by repeat (first | exact Below.refl _ _ | (refine Below.alloc ?_ (by simp; try omega) _)))
        rintro e w1 ⟨rfl, q, rfl⟩
        go_wp2_with (first | (go_at_call 5; go_in) | (go_at_call 7; go_in))
        go_ret
        exact ⟨rfl, by repeat (first | exact Below.refl _ _ | refine below_drewN ?_ _ | (refine Below.setCell ?_ (by simp; try omega) _) | (refine Below.alloc ?_ (by simp; try omega) _))⟩
end Go.Proofs.YbulkcrtgFmt
