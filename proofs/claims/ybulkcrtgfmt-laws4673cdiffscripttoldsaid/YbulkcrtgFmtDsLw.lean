/-
  LawS4673CDiffScript (4), walked.
-/
import Derived.Test.YbulkcrtgFmtDsLs
import Derived.Deep.DeepCutAuto
import Derived.Deep.QuietTactic
import Derived.BigQuiet
namespace Go.Proofs.YbulkcrtgFmt
open Go Go.RowKit

set_option maxHeartbeats 16000000 in
set_option maxRecDepth 100000 in
theorem law_any (mask proc : Int) (ka oa da pa : Option Addr) (kl kc oc dc pc : Nat) (cs ops : List Int) (dl pl : List UInt8) (ol dn pn : Nat) (w : World)
    (hc : cs.length = kl ∧ (∀ z ∈ cs, 0 ≤ z ∧ z < 4294967296) ∧ ∀ i z, cs[i]? = some z → ∃ g o, ka = some ⟨g, o, none⟩ ∧ w.cell? ⟨g, o + i, none⟩ = some (.int .u32 z)) (hp : 0 ≤ proc ∧ proc < 256)
    (ho : ops.length = ol ∧ (∀ z ∈ ops, 0 ≤ z ∧ z < 256) ∧ ∀ i z, ops[i]? = some z → ∃ g o, oa = some ⟨g, o, none⟩ ∧ w.cell? ⟨g, o + i, none⟩ = some (.int .u8 z)) (hol : ol ≤ 300)
    (hd : dl.length = dn ∧ BytAt w da dl) (hdl : dn ≤ 1024) (hpl : pl.length = pn ∧ BytAt w pa pl ∧ (pa = none → pc = 0) ∧ ∀ g o, pa = some ⟨g, o, none⟩ → g < w.heap.size) (hpn : pn ≤ 1024) :
    Calls Ybaf.prog 4 #[.int .u8 mask, .slice ka kl kc, .int .u8 proc, .slice oa ol oc, .slice da dn dc, .slice pa pn pc] w fun e w' => e = .returned (.bool true) ∧ KeptB w.heap.size (fun _ => False) w w' := by
  have hmix : Ybaf.prog.follows .mixedOrders = true := by kernel_rfl
  have h1 : ¬ ((ol : Int) > 300) := by omega
  have h2 : ¬ ((dn : Int) > 1024) := by omega
  have h3 : ¬ ((pn : Int) > 1024) := by omega
  have HC := hid hc
  have HO := hid ho
  have HD := hid hd
  have HP := hid hpl
  clear hc ho hd hpl
  go_enter Ybaf.func4, Ybaf.ntmps4
  go_wp2_with fail
  go_loopw [13, 14, 15] (fun vn vc vi wr => ∃ i : Nat, i ≤ 5 ∧ vi = .int .i64 i ∧ Fr1 w mask cs i vn vc wr) (fun _ _ vi _ => 5 - (intOf vi).toNat)
  case atStart => exact ⟨0, by omega, rfl, ⟨World.ownsRow_nil _ _ _ _, World.ownsRow_nil _ _ _ _, KeptB.refl _ _ _⟩⟩
  case round =>
    obtain ⟨i, hi, rfl, hk⟩ := hrel
    by_cases h5 : i < 5
    · obtain rfl | rfl | rfl | rfl | rfl : i = 0 ∨ i = 1 ∨ i = 2 ∨ i = 3 ∨ i = 4 := by omega
      · as_aux_lemma =>
          have hfr := hk
          have hwk := hfr.kept
          cases hmb : mbit mask 0 with
          | false =>
            have hmb' : (bits BinOp.and IntKind.u8 mask 1 != 0) = false := hmb
            have HN := hid (hfr.skip hmb)
            clear hfr hk hwk hmb
            go_wp2
            go_roundw
            case rel => exact ⟨1, by omega, rfl, HN.out⟩
            case measure => simp [intOf]
          | true =>
            have hmb' : (bits BinOp.and IntKind.u8 mask 1 != 0) = true := hmb
            obtain ⟨nv', W1, cv', W2, hr1, hr2, hn⟩ := hfr.take (by omega) hmb
            have HN := hid hn
            have hsz1 := hwk.size
            clear hn hmb hfr
            cases hz : cs[0]? with
            | none =>
              have hkl : ¬ (0 < kl) := fun h => by rw [List.getElem?_eq_getElem (by rw [HC.out.1]; exact h)] at hz; cases hz
              have hcn : cnOf cs 0 = 1 := by simp [cnOf, hz]
              rw [hcn] at hr2
              clear hz hcn hk hwk
              go_wp2_with fail
              go_at_call 8
              refine (name_any 0 (by omega) _).mono ?_
              rintro e w' ⟨rfl, rfl⟩
              go_wp2_with (at_builtin; first | refine Lib.wpList_append_run _ rfl _ _ _ _ rfl _ _ rfl rfl _ _ hr1 ?_ | refine Lib.wpList_append_run _ rfl _ _ _ _ rfl _ _ rfl rfl _ _ hr2 ?_)
              go_roundw
              case rel => exact ⟨1, by omega, rfl, HN.out⟩
              case measure => simp [intOf]
            | some z =>
              have hkl : 0 < kl := by rw [← HC.out.1]; exact (List.getElem?_eq_some_iff.1 hz).1
              have hkl' : (0 : Int) < (kl : Int) := by omega
              obtain ⟨hz0, hz1⟩ := HC.out.2.1 z (List.mem_of_getElem? hz)
              obtain ⟨gk, ok, rfl, hck⟩ := HC.out.2.2 0 z hz
              have hcw := hwk.cell hck (World.block_lt_of_cell? _ _ hck) (fun h => h)
              try simp only [Nat.add_zero] at hcw
              have hcn : ((cnOf cs 0 : Nat) : Int) = z + 1 := by simp only [cnOf, hz, Option.getD_some]; omega
              rw [hcn] at hr2
              clear hz hcn hk hwk hck
              go_wp2_with fail
              go_at_call 8
              refine (name_any 0 (by omega) _).mono ?_
              rintro e w' ⟨rfl, rfl⟩
              go_wp2_with (at_builtin; first | refine Lib.wpList_append_run _ rfl _ _ _ _ rfl _ _ rfl rfl _ _ hr1 ?_ | refine Lib.wpList_append_run _ rfl _ _ _ _ rfl _ _ rfl rfl _ _ hr2 ?_)
              go_roundw
              case rel => exact ⟨1, by omega, rfl, HN.out⟩
              case measure => simp [intOf]
      · as_aux_lemma =>
          have hfr := hk
          have hwk := hfr.kept
          cases hmb : mbit mask 1 with
          | false =>
            have hmb' : (bits BinOp.and IntKind.u8 mask 2 != 0) = false := hmb
            have HN := hid (hfr.skip hmb)
            clear hfr hk hwk hmb
            go_wp2
            go_roundw
            case rel => exact ⟨2, by omega, rfl, HN.out⟩
            case measure => simp [intOf]
          | true =>
            have hmb' : (bits BinOp.and IntKind.u8 mask 2 != 0) = true := hmb
            obtain ⟨nv', W1, cv', W2, hr1, hr2, hn⟩ := hfr.take (by omega) hmb
            have HN := hid hn
            have hsz1 := hwk.size
            clear hn hmb hfr
            cases hz : cs[1]? with
            | none =>
              have hkl : ¬ (1 < kl) := fun h => by rw [List.getElem?_eq_getElem (by rw [HC.out.1]; exact h)] at hz; cases hz
              have hcn : cnOf cs 1 = 1 := by simp [cnOf, hz]
              rw [hcn] at hr2
              clear hz hcn hk hwk
              go_wp2_with fail
              go_at_call 8
              refine (name_any 1 (by omega) _).mono ?_
              rintro e w' ⟨rfl, rfl⟩
              go_wp2_with (at_builtin; first | refine Lib.wpList_append_run _ rfl _ _ _ _ rfl _ _ rfl rfl _ _ hr1 ?_ | refine Lib.wpList_append_run _ rfl _ _ _ _ rfl _ _ rfl rfl _ _ hr2 ?_)
              go_roundw
              case rel => exact ⟨2, by omega, rfl, HN.out⟩
              case measure => simp [intOf]
            | some z =>
              have hkl : 1 < kl := by rw [← HC.out.1]; exact (List.getElem?_eq_some_iff.1 hz).1
              have hkl' : (1 : Int) < (kl : Int) := by omega
              obtain ⟨hz0, hz1⟩ := HC.out.2.1 z (List.mem_of_getElem? hz)
              obtain ⟨gk, ok, rfl, hck⟩ := HC.out.2.2 1 z hz
              have hcw := hwk.cell hck (World.block_lt_of_cell? _ _ hck) (fun h => h)
              try simp only [Nat.add_zero] at hcw
              have hcn : ((cnOf cs 1 : Nat) : Int) = z + 1 := by simp only [cnOf, hz, Option.getD_some]; omega
              rw [hcn] at hr2
              clear hz hcn hk hwk hck
              go_wp2_with fail
              go_at_call 8
              refine (name_any 1 (by omega) _).mono ?_
              rintro e w' ⟨rfl, rfl⟩
              go_wp2_with (at_builtin; first | refine Lib.wpList_append_run _ rfl _ _ _ _ rfl _ _ rfl rfl _ _ hr1 ?_ | refine Lib.wpList_append_run _ rfl _ _ _ _ rfl _ _ rfl rfl _ _ hr2 ?_)
              go_roundw
              case rel => exact ⟨2, by omega, rfl, HN.out⟩
              case measure => simp [intOf]
      · as_aux_lemma =>
          have hfr := hk
          have hwk := hfr.kept
          cases hmb : mbit mask 2 with
          | false =>
            have hmb' : (bits BinOp.and IntKind.u8 mask 4 != 0) = false := hmb
            have HN := hid (hfr.skip hmb)
            clear hfr hk hwk hmb
            go_wp2
            go_roundw
            case rel => exact ⟨3, by omega, rfl, HN.out⟩
            case measure => simp [intOf]
          | true =>
            have hmb' : (bits BinOp.and IntKind.u8 mask 4 != 0) = true := hmb
            obtain ⟨nv', W1, cv', W2, hr1, hr2, hn⟩ := hfr.take (by omega) hmb
            have HN := hid hn
            have hsz1 := hwk.size
            clear hn hmb hfr
            cases hz : cs[2]? with
            | none =>
              have hkl : ¬ (2 < kl) := fun h => by rw [List.getElem?_eq_getElem (by rw [HC.out.1]; exact h)] at hz; cases hz
              have hcn : cnOf cs 2 = 1 := by simp [cnOf, hz]
              rw [hcn] at hr2
              clear hz hcn hk hwk
              go_wp2_with fail
              go_at_call 8
              refine (name_any 2 (by omega) _).mono ?_
              rintro e w' ⟨rfl, rfl⟩
              go_wp2_with (at_builtin; first | refine Lib.wpList_append_run _ rfl _ _ _ _ rfl _ _ rfl rfl _ _ hr1 ?_ | refine Lib.wpList_append_run _ rfl _ _ _ _ rfl _ _ rfl rfl _ _ hr2 ?_)
              go_roundw
              case rel => exact ⟨3, by omega, rfl, HN.out⟩
              case measure => simp [intOf]
            | some z =>
              have hkl : 2 < kl := by rw [← HC.out.1]; exact (List.getElem?_eq_some_iff.1 hz).1
              have hkl' : (2 : Int) < (kl : Int) := by omega
              obtain ⟨hz0, hz1⟩ := HC.out.2.1 z (List.mem_of_getElem? hz)
              obtain ⟨gk, ok, rfl, hck⟩ := HC.out.2.2 2 z hz
              have hcw := hwk.cell hck (World.block_lt_of_cell? _ _ hck) (fun h => h)
              try simp only [Nat.add_zero] at hcw
              have hcn : ((cnOf cs 2 : Nat) : Int) = z + 1 := by simp only [cnOf, hz, Option.getD_some]; omega
              rw [hcn] at hr2
              clear hz hcn hk hwk hck
              go_wp2_with fail
              go_at_call 8
              refine (name_any 2 (by omega) _).mono ?_
              rintro e w' ⟨rfl, rfl⟩
              go_wp2_with (at_builtin; first | refine Lib.wpList_append_run _ rfl _ _ _ _ rfl _ _ rfl rfl _ _ hr1 ?_ | refine Lib.wpList_append_run _ rfl _ _ _ _ rfl _ _ rfl rfl _ _ hr2 ?_)
              go_roundw
              case rel => exact ⟨3, by omega, rfl, HN.out⟩
              case measure => simp [intOf]
      · as_aux_lemma =>
          have hfr := hk
          have hwk := hfr.kept
          cases hmb : mbit mask 3 with
          | false =>
            have hmb' : (bits BinOp.and IntKind.u8 mask 8 != 0) = false := hmb
            have HN := hid (hfr.skip hmb)
            clear hfr hk hwk hmb
            go_wp2
            go_roundw
            case rel => exact ⟨4, by omega, rfl, HN.out⟩
            case measure => simp [intOf]
          | true =>
            have hmb' : (bits BinOp.and IntKind.u8 mask 8 != 0) = true := hmb
            obtain ⟨nv', W1, cv', W2, hr1, hr2, hn⟩ := hfr.take (by omega) hmb
            have HN := hid hn
            have hsz1 := hwk.size
            clear hn hmb hfr
            cases hz : cs[3]? with
            | none =>
              have hkl : ¬ (3 < kl) := fun h => by rw [List.getElem?_eq_getElem (by rw [HC.out.1]; exact h)] at hz; cases hz
              have hcn : cnOf cs 3 = 1 := by simp [cnOf, hz]
              rw [hcn] at hr2
              clear hz hcn hk hwk
              go_wp2_with fail
              go_at_call 8
              refine (name_any 3 (by omega) _).mono ?_
              rintro e w' ⟨rfl, rfl⟩
              go_wp2_with (at_builtin; first | refine Lib.wpList_append_run _ rfl _ _ _ _ rfl _ _ rfl rfl _ _ hr1 ?_ | refine Lib.wpList_append_run _ rfl _ _ _ _ rfl _ _ rfl rfl _ _ hr2 ?_)
              go_roundw
              case rel => exact ⟨4, by omega, rfl, HN.out⟩
              case measure => simp [intOf]
            | some z =>
              have hkl : 3 < kl := by rw [← HC.out.1]; exact (List.getElem?_eq_some_iff.1 hz).1
              have hkl' : (3 : Int) < (kl : Int) := by omega
              obtain ⟨hz0, hz1⟩ := HC.out.2.1 z (List.mem_of_getElem? hz)
              obtain ⟨gk, ok, rfl, hck⟩ := HC.out.2.2 3 z hz
              have hcw := hwk.cell hck (World.block_lt_of_cell? _ _ hck) (fun h => h)
              try simp only [Nat.add_zero] at hcw
              have hcn : ((cnOf cs 3 : Nat) : Int) = z + 1 := by simp only [cnOf, hz, Option.getD_some]; omega
              rw [hcn] at hr2
              clear hz hcn hk hwk hck
              go_wp2_with fail
              go_at_call 8
              refine (name_any 3 (by omega) _).mono ?_
              rintro e w' ⟨rfl, rfl⟩
              go_wp2_with (at_builtin; first | refine Lib.wpList_append_run _ rfl _ _ _ _ rfl _ _ rfl rfl _ _ hr1 ?_ | refine Lib.wpList_append_run _ rfl _ _ _ _ rfl _ _ rfl rfl _ _ hr2 ?_)
              go_roundw
              case rel => exact ⟨4, by omega, rfl, HN.out⟩
              case measure => simp [intOf]
      · as_aux_lemma =>
          have hfr := hk
          have hwk := hfr.kept
          cases hmb : mbit mask 4 with
          | false =>
            have hmb' : (bits BinOp.and IntKind.u8 mask 16 != 0) = false := hmb
            have HN := hid (hfr.skip hmb)
            clear hfr hk hwk hmb
            go_wp2
            go_roundw
            case rel => exact ⟨5, by omega, rfl, HN.out⟩
            case measure => simp [intOf]
          | true =>
            have hmb' : (bits BinOp.and IntKind.u8 mask 16 != 0) = true := hmb
            obtain ⟨nv', W1, cv', W2, hr1, hr2, hn⟩ := hfr.take (by omega) hmb
            have HN := hid hn
            have hsz1 := hwk.size
            clear hn hmb hfr
            cases hz : cs[4]? with
            | none =>
              have hkl : ¬ (4 < kl) := fun h => by rw [List.getElem?_eq_getElem (by rw [HC.out.1]; exact h)] at hz; cases hz
              have hcn : cnOf cs 4 = 1 := by simp [cnOf, hz]
              rw [hcn] at hr2
              clear hz hcn hk hwk
              go_wp2_with fail
              go_at_call 8
              refine (name_any 4 (by omega) _).mono ?_
              rintro e w' ⟨rfl, rfl⟩
              go_wp2_with (at_builtin; first | refine Lib.wpList_append_run _ rfl _ _ _ _ rfl _ _ rfl rfl _ _ hr1 ?_ | refine Lib.wpList_append_run _ rfl _ _ _ _ rfl _ _ rfl rfl _ _ hr2 ?_)
              go_roundw
              case rel => exact ⟨5, by omega, rfl, HN.out⟩
              case measure => simp [intOf]
            | some z =>
              have hkl : 4 < kl := by rw [← HC.out.1]; exact (List.getElem?_eq_some_iff.1 hz).1
              have hkl' : (4 : Int) < (kl : Int) := by omega
              obtain ⟨hz0, hz1⟩ := HC.out.2.1 z (List.mem_of_getElem? hz)
              obtain ⟨gk, ok, rfl, hck⟩ := HC.out.2.2 4 z hz
              have hcw := hwk.cell hck (World.block_lt_of_cell? _ _ hck) (fun h => h)
              try simp only [Nat.add_zero] at hcw
              have hcn : ((cnOf cs 4 : Nat) : Int) = z + 1 := by simp only [cnOf, hz, Option.getD_some]; omega
              rw [hcn] at hr2
              clear hz hcn hk hwk hck
              go_wp2_with fail
              go_at_call 8
              refine (name_any 4 (by omega) _).mono ?_
              rintro e w' ⟨rfl, rfl⟩
              go_wp2_with (at_builtin; first | refine Lib.wpList_append_run _ rfl _ _ _ _ rfl _ _ rfl rfl _ _ hr1 ?_ | refine Lib.wpList_append_run _ rfl _ _ _ _ rfl _ _ rfl rfl _ _ hr2 ?_)
              go_roundw
              case rel => exact ⟨5, by omega, rfl, HN.out⟩
              case measure => simp [intOf]
    · obtain rfl : i = 5 := by omega
      obtain ⟨Wf, rfl⟩ : ∃ Wf, Wf = wr := ⟨wr, rfl⟩
      obtain ⟨hsrt, hbd⟩ := entsOf_srt mask cs HC.out.2.1
      obtain ⟨E, hE⟩ : ∃ E, entsOf mask cs 5 = E := ⟨_, rfl⟩
      obtain ⟨nrow, crow, hkw⟩ := hk
      have hn5 := entsOf_len mask cs 5
      rw [hE] at nrow crow hsrt hbd hn5
      obtain ⟨n, hn⟩ : ∃ n, E.length = n := ⟨_, rfl⟩
      obtain ⟨na, nc, hvn, hnc, hnat⟩ := nm_at nrow
      obtain ⟨ca, cc, hvc, hcc, hcat⟩ := cn_at crow
      rw [hn] at hvn hvc hnc hcc hn5 nrow crow
      subst hvn
      subst hvc
      have hs0 := hkw.size
      obtain ⟨W1, hmk, own1, kp1⟩ := mk_ents n (by omega) E hn Wf
      obtain ⟨ge, hge⟩ : ∃ ge, ge = Wf.heap.size := ⟨_, rfl⟩
      rw [← hge] at hmk own1
      have hs1 := kp1.size
      have HA := hid (And.intro hsrt (And.intro hbd (And.intro nrow (And.intro crow (And.intro hkw (And.intro kp1 (And.intro hn (And.intro hnat (And.intro hcat hge)))))))))
      have HO1 := hid own1
      clear hsrt hbd nrow crow hkw kp1 hn hnat hcat hge hE own1 h5 hi
      go_wp2_with fail
      go_loopw [18] (fun vi wr => ∃ i : Nat, i ≤ n ∧ vi = .int .i64 i ∧ wr.ownsRow w.heap.size 39 2 (.slice (some ⟨ge, 0, none⟩) n n) n (rowE E i) ∧ KeptB Wf.heap.size (fun _ => False) Wf wr) (fun vi _ => n - (intOf vi).toNat)
      case atStart => exact ⟨0, by omega, rfl, own_le HO1.out (by have := HA.out.2.2.2.2.2.2.2.2.2; omega), HA.out.2.2.2.2.2.1⟩
      case round =>
        obtain ⟨i, hi, rfl, oi, ki⟩ := hrel
        obtain ⟨hsrt, hbd, nrow, crow, hkw, kp1, hn, hnat, hcat, hge⟩ := HA.out
        have hsw := ki.size
        by_cases hin : i < n
        · obtain ⟨⟨a, c⟩, he⟩ : ∃ e, E[i]? = some e := ⟨E[i]'(by omega), List.getElem?_eq_getElem _⟩
          obtain ⟨gn, rfl, q1⟩ := hnat i _ he
          obtain ⟨gc, rfl, q2, _⟩ := hcat i _ he
          have r1 := ki.cell q1 (World.block_lt_of_cell? _ _ q1) (fun h => h)
          have r2 := ki.cell q2 (World.block_lt_of_cell? _ _ q2) (fun h => h)
          have l1 : gn < ge := by have := World.block_lt_of_cell? _ _ q1; rw [hge]; exact this
          have l2 : gc < ge := by have := World.block_lt_of_cell? _ _ q2; rw [hge]; exact this
          have i1 : (0 : Int) ≤ (i : Int) := by omega
          have i2 : (i : Int) < (n : Int) := by omega
          have i3 : (i : Int).toNat = i := by omega
          obtain ⟨f1, f2, f3⟩ : (wr.cell? ⟨ge, i * 2, none⟩).isSome ∧ (wr.cell? ⟨ge, i * 2 + 1, none⟩).isSome ∧ ∀ o, wr.frozen? ⟨ge, o, none⟩ = false := by
            have hl := oi.1
            refine ⟨?_, ?_, ?_⟩
            · rw [oi.cellAt _ (by omega), List.getElem?_eq_getElem (by omega)]; rfl
            · rw [oi.cellAt _ (by omega), List.getElem?_eq_getElem (by omega)]; rfl
            · obtain ⟨_, cs9, h9⟩ := own_obj oi (k := ge) rfl
              exact fun o => frozen_of_row _ _ _ _ _ h9
          obtain ⟨x1, hx1⟩ := Option.isSome_iff_exists.1 f1
          obtain ⟨x2, hx2⟩ := Option.isSome_iff_exists.1 f2
          have hf1 := f3 (i * 2)
          have hf2 := f3 (i * 2 + 1)
          have PE := put_ent (W := wr.drew) (W' := (wr.drew.setCell ⟨ge, i * 2, none⟩ (.string (nm a))).setCell ⟨ge, i * 2 + 1, none⟩ (.int .u64 c)) (⟨oi.1, oi.2⟩ : wr.drew.ownsRow w.heap.size 39 2 (.slice (some ⟨ge, 0, none⟩) n n) n (rowE E i)) he rfl
          have HPE := hid (And.intro PE (And.intro ki hge))
          clear hsrt hbd nrow crow hkw kp1 hn hnat hcat hge q1 q2 oi ki PE f1 f2 f3
          go_wp2_with fail
          apply oncePa (fun W9 => W9 = (wr.drew.setCell ⟨ge, i * 2, none⟩ (.string (nm a))).setCell ⟨ge, i * 2 + 1, none⟩ (.int .u64 c))
          case h =>
            apply region_plain (S := fun w' => w'.cell? ⟨gn, i, none⟩ = some (.string (nm a)) ∧ w'.cell? ⟨gc, i, none⟩ = some (.int .u64 c)) (hm := hmix)
            have hS : wr.drew.cell? ⟨gn, i, none⟩ = some (.string (nm a)) ∧ wr.drew.cell? ⟨gc, i, none⟩ = some (.int .u64 c) := ⟨r1, r2⟩
            refine take_first (i := 0) (v := ?_) rfl (by kernel_rfl) (by kernel_rfl) (by kernel_rfl) (by rfl) ?_ hS ?_
            rotate_left
            · intro w0 hw0; obtain ⟨q3, q4⟩ := hw0; go_simp; try rfl
            try simp only [Act.put, List.setIfInBounds_toArray, List.set_cons_zero, List.set_cons_succ]
            refine take_first (i := 1) (v := ?_) rfl (by kernel_rfl) (by kernel_rfl) (by kernel_rfl) (by rfl) ?_ hS ?_
            rotate_left
            · intro w0 hw0; obtain ⟨q3, q4⟩ := hw0; go_simp; try rfl
            try simp only [Act.put, List.setIfInBounds_toArray, List.set_cons_zero, List.set_cons_succ]
            refine take_first (i := 2) (v := ?_) rfl (by kernel_rfl) (by kernel_rfl) (by kernel_rfl) (by rfl) ?_ hS ?_
            rotate_left
            · intro w0 hw0; obtain ⟨q3, q4⟩ := hw0; go_simp; try rfl
            try simp only [Act.put, List.setIfInBounds_toArray, List.set_cons_zero, List.set_cons_succ]
            refine take_first (i := 3) (v := ?_) rfl (by kernel_rfl) (by kernel_rfl) (by kernel_rfl) (by rfl) ?_ hS ?_
            rotate_left
            · intro w0 hw0; obtain ⟨q3, q4⟩ := hw0; go_simp; try rfl
            try simp only [Act.put, List.setIfInBounds_toArray, List.set_cons_zero, List.set_cons_succ]
            refine take_first (i := 4) (v := ?_) rfl (by kernel_rfl) (by kernel_rfl) (by kernel_rfl) (by rfl) ?_ hS ?_
            rotate_left
            · intro w0 hw0; obtain ⟨q3, q4⟩ := hw0; go_simp; try rfl
            try simp only [Act.put, List.setIfInBounds_toArray, List.set_cons_zero, List.set_cons_succ]
            refine take_first (i := 5) (v := ?_) rfl (by kernel_rfl) (by kernel_rfl) (by kernel_rfl) (by rfl) ?_ hS ?_
            rotate_left
            · intro w0 hw0; obtain ⟨q3, q4⟩ := hw0; go_simp; try rfl
            try simp only [Act.put, List.setIfInBounds_toArray, List.set_cons_zero, List.set_cons_succ]
            refine take_first (i := 6) (v := ?_) rfl (by kernel_rfl) (by kernel_rfl) (by kernel_rfl) (by rfl) ?_ hS ?_
            rotate_left
            · intro w0 hw0; obtain ⟨q3, q4⟩ := hw0; go_simp; try rfl
            try simp only [Act.put, List.setIfInBounds_toArray, List.set_cons_zero, List.set_cons_succ]
            refine take_first (i := 7) (v := ?_) rfl (by kernel_rfl) (by kernel_rfl) (by kernel_rfl) (by rfl) ?_ hS ?_
            rotate_left
            · intro w0 hw0; obtain ⟨q3, q4⟩ := hw0; go_simp; try rfl
            try simp only [Act.put, List.setIfInBounds_toArray, List.set_cons_zero, List.set_cons_succ]
            refine take_first (i := 8) (v := ?_) rfl (by kernel_rfl) (by kernel_rfl) (by kernel_rfl) (by rfl) ?_ hS ?_
            rotate_left
            · intro w0 hw0; obtain ⟨q3, q4⟩ := hw0; go_simp; try rfl
            try simp only [Act.put, List.setIfInBounds_toArray, List.set_cons_zero, List.set_cons_succ]
            refine take_first (i := 9) (v := ?_) rfl (by kernel_rfl) (by kernel_rfl) (by kernel_rfl) (by rfl) ?_ hS ?_
            rotate_left
            · intro w0 hw0; obtain ⟨q3, q4⟩ := hw0; go_simp; try rfl
            try simp only [Act.put, List.setIfInBounds_toArray, List.set_cons_zero, List.set_cons_succ]
            refine take_first (i := 10) (v := ?_) rfl (by kernel_rfl) (by kernel_rfl) (by kernel_rfl) (by rfl) ?_ hS ?_
            rotate_left
            · intro w0 hw0; obtain ⟨q3, q4⟩ := hw0; go_simp; try rfl
            try simp only [Act.put, List.setIfInBounds_toArray, List.set_cons_zero, List.set_cons_succ]
            refine take_first (i := 11) (v := ?_) rfl (by kernel_rfl) (by kernel_rfl) (by kernel_rfl) (by rfl) ?_ hS ?_
            rotate_left
            · intro w0 hw0; obtain ⟨q3, q4⟩ := hw0; go_simp; try rfl
            try simp only [Act.put, List.setIfInBounds_toArray, List.set_cons_zero, List.set_cons_succ]
            refine wpAnyH_ready (rs := [12]) (by kernel_rfl) (by simp) ?_
            refine AllReadyH.cons rfl (fun K hK => ?_) AllReadyH.nil
            go_simp
            refine hK.out _ _ ⟨by show ((wr.setCell _ _).setCell _ _).cell? _ = _; rw [World.cell?_setCell_far _ _ _ _ (by show ge ≠ gn; omega), World.cell?_setCell_far _ _ _ _ (by show ge ≠ gn; omega)]; exact r1, by show ((wr.setCell _ _).setCell _ _).cell? _ = _; rw [World.cell?_setCell_far _ _ _ _ (by show ge ≠ gc; omega), World.cell?_setCell_far _ _ _ _ (by show ge ≠ gc; omega)]; exact r2⟩ (fun _ => ?_)
            clear hK K
            try simp only [Act.put, List.setIfInBounds_toArray, List.set_cons_zero, List.set_cons_succ]
            exact wpAnyH_done (by kernel_rfl) ⟨rfl, rfl, rfl⟩ _
          rintro W9 rfl
          go_wp2
          go_roundw
          case rel => exact ⟨i + 1, by omega, by go_num, HPE.out.1.1, HPE.out.2.1.trans ((KeptB.drew wr).trans (HPE.out.1.2.mono hsw (fun k hk e => by have := HPE.out.2.2; omega)))⟩
          case measure => simp [intOf]; omega
        · obtain rfl : n = i := by omega
          obtain ⟨Wg, rfl⟩ : ∃ Wg, Wg = wr := ⟨wr, rfl⟩
          obtain ⟨p, hp6, hp5⟩ : ∃ p : Nat, proc % 6 = (p : Int) ∧ p ≤ 5 := ⟨(proc % 6).toNat, by omega, by omega⟩
          have hent : EntAt Wg (some ⟨ge, 0, none⟩) E := by
            obtain ⟨ea9, ec9, e9, h9⟩ := own_ents (by rw [← hn, rowE_full, hn] at oi; rw [hn]; exact oi : Wg.ownsRow w.heap.size 39 2 (.slice (some ⟨ge, 0, none⟩) n n) E.length (entCells E))
            simp only [Value.slice.injEq] at e9
            rw [e9.1]; exact h9
          have RE := resume_any p (some ⟨ge, 0, none⟩) n E Wg (by omega) hsrt hp5 hent
          rw [hn] at RE
          have HRE := hid RE
          have HST := hid (fun cb ev W2 hk hb2 W3 hW3 => law_start (cb := cb) (p := p) (ev := ev) (W2 := W2) hsrt hbd hn nrow crow hkw ki hk hb2 W3 hW3)
          clear RE hent oi ki hsrt hbd nrow crow hkw kp1 hn hnat hcat hge hin hi HA HO1 hmk
          go_wp2_with fail
          go_at_call 8
          rw [hp6]
          clear hp6
          refine (name_any p hp5 _).mono ?_
          rintro e w' ⟨rfl, rfl⟩
          go_wp2_with fail
          go_at_call 9
          refine Calls.mono HRE.out ?_
          rintro e W2 ⟨cb, ev, rfl, hk, hb2⟩
          obtain ⟨W3, hW3⟩ : ∃ W3, W2.alloc (.cells #[.bool false, .bool false] 45) = W3 := ⟨_, rfl⟩
          have ST := HST.out cb ev W2 hk hb2 W3 hW3.symm
          obtain ⟨sb, hsb⟩ : ∃ sb, W2.heap.size = sb := ⟨_, rfl⟩
          rw [hsb] at ST
          have HSL := hid ST
          clear ST hk hb2 HRE HST
          go_wp2_with fail
          have hsq := HSL.out.size
          go_loopw [13, 14, 119] (fun vn vc vt wr => ∃ t : Nat, t ≤ ol ∧ vt = .int .i64 t ∧ ∃ es rs sx sy, LawSt w.heap.size cb sb p t es rs sx sy es es vn vc sx.isSome sy.isSome w wr) (fun _ _ vt _ => ol - (intOf vt).toNat)
          case atStart => exact ⟨0, by omega, rfl, E, none, none, none, HSL.out⟩
          case round =>
            obtain ⟨Wr, rfl⟩ : ∃ Wr, Wr = wr := ⟨wr, rfl⟩
            obtain ⟨t, ht, rfl, es, rs, sx, sy, hst⟩ := hrel
            clear HSL
            by_cases hto : t < ol
            · obtain ⟨z, hz⟩ : ∃ z, ops[t]? = some z := ⟨ops[t]'(by have := HO.out.1; omega), List.getElem?_eq_getElem _⟩
              obtain ⟨hz0, hz1⟩ := HO.out.2.1 z (List.mem_of_getElem? hz)
              obtain ⟨gz, oz, rfl, hcz⟩ := HO.out.2.2 t z hz
              have rz := hst.kept.cell hcz (World.block_lt_of_cell? _ _ hcz) (fun h => h)
              obtain ⟨n, hn⟩ : ∃ n, es.length = n := ⟨_, rfl⟩
              obtain ⟨na, nc, hvn, hnc, hnat⟩ := nm_at hst.nrow
              obtain ⟨ca, cc, hvc, hcc, hcat⟩ := cn_at hst.crow
              rw [hn] at hvn hvc hnc hcc
              subst hvn
              subst hvc
              have hn6 : n ≤ 6 := by have := hst.len; omega
              have t1 : (0 : Int) ≤ (t : Int) := by omega
              have t2 : (t : Int) < (ol : Int) := by omega
              have HST := hid (And.intro hst (And.intro hnat (And.intro hcat hn)))
              clear hst hnat hcat hn hz hcz
              go_wp2_with fail
              go_loopw [25, 26] (fun vk vi wr => Wr = wr ∧ ∃ (i : Nat) (kz : Int), i ≤ n ∧ vi = .int .i64 i ∧ vk = .int .i64 kz ∧ ((kz = -1 ∧ ∀ (m : Nat) e, m < i → es[m]? = some e → e.1 ≠ p) ∨ ∃ k c : Nat, kz = k ∧ k < i ∧ es[k]? = some (p, c))) (fun _ vi _ => n - (intOf vi).toNat)
              case atStart => exact ⟨rfl, 0, -1, by omega, rfl, rfl, .inl ⟨rfl, fun m e h => by omega⟩⟩
              case round =>
                obtain ⟨rfl, i, kz, hi, rfl, rfl, hdis⟩ := hrel
                have HDIS := hid hdis
                clear hdis
                by_cases hin : i < n
                · obtain ⟨⟨a, c⟩, he⟩ : ∃ e, es[i]? = some e := ⟨es[i]'(by have := HST.out.2.2.2; omega), List.getElem?_eq_getElem _⟩
                  obtain ⟨gn, rfl, q1⟩ := HST.out.2.1 i _ he
                  have ha5 := (HST.out.1.srt.1 _ (List.mem_of_getElem? he)).1
                  have i1 : (0 : Int) ≤ (i : Int) := by omega
                  have i2 : (i : Int) < (n : Int) := by omega
                  have HEE := hid he
                  clear he
                  by_cases hap : a = p
                  · subst hap
                    go_wp2
                    go_roundw
                    case rel => exact ⟨trivial, i + 1, i, by omega, by go_num, rfl, .inr ⟨i, c, rfl, by omega, HEE.out⟩⟩
                    case measure => simp [intOf]; omega
                  · have hne := nm_neq ha5 hp5 hap
                    go_wp2
                    go_roundw
                    case rel =>
                      refine ⟨trivial, i + 1, kz, by omega, by go_num, rfl, ?_⟩
                      rcases HDIS.out with ⟨h0, h1⟩ | ⟨k, c', h0, h1, h2⟩
                      · refine .inl ⟨h0, fun m e hm he => ?_⟩
                        rcases Nat.lt_or_eq_of_le (Nat.le_of_lt_succ hm) with h | h
                        · exact h1 m e h he
                        · subst h
                          rw [HEE.out] at he
                          simp only [Option.some.injEq] at he
                          rw [← he]; exact hap
                      · exact .inr ⟨k, c', h0, by omega, h2⟩
                    case measure => simp [intOf]; omega
                · obtain rfl : n = i := by omega
                  go_upto_if 137 with fail
                  go_cut [13, 14, 25] (fun vn vc vk wx => ∃ k : Nat, PosOf es p k ∧ vk = .int .i64 k ∧ LawSt w.heap.size cb sb p t es rs sx sy (ins0 es p k) (ins0 es p k) vn vc sx.isSome sy.isSome w wx)
                  case first =>
                    rcases HDIS.out with ⟨rfl, hno⟩ | ⟨k, c, rfl, hkn, hek⟩
                    · have HNO := hid hno
                      clear hno
                      go_wp2_with fail
                      go_loopw [27] (fun vi wr => Wr = wr ∧ ∃ i : Nat, i ≤ n ∧ vi = .int .i64 i ∧ ∀ (m : Nat) e, m < i → es[m]? = some e → e.1 < p) (fun vi _ => n - (intOf vi).toNat)
                      case atStart => exact ⟨rfl, 0, by omega, rfl, fun m e h => by omega⟩
                      case round =>
                        obtain ⟨rfl, i, hi, rfl, hlo⟩ := hrel
                        have HLO := hid hlo
                        clear hlo
                        by_cases hin : i < n
                        · obtain ⟨⟨a, c⟩, he⟩ : ∃ e, es[i]? = some e := ⟨es[i]'(by have := HST.out.2.2.2; omega), List.getElem?_eq_getElem _⟩
                          obtain ⟨gn, rfl, q1⟩ := HST.out.2.1 i _ he
                          have ha5 := (HST.out.1.srt.1 _ (List.mem_of_getElem? he)).1
                          have hne : a ≠ p := HNO.out i _ hin he
                          have i1 : (0 : Int) ≤ (i : Int) := by omega
                          have i2 : (i : Int) < (n : Int) := by omega
                          have HEE := hid he
                          clear he
                          by_cases hap : a < p
                          · have hlt : Op.bytesLess (nm a).toList (nm p).toList = true := by rw [nm_less ha5 hp5]; simpa using hap
                            go_wp2
                            go_roundw
                            case rel =>
                              refine ⟨trivial, i + 1, by omega, by go_num, fun m e hm he => ?_⟩
                              rcases Nat.lt_or_eq_of_le (Nat.le_of_lt_succ hm) with h | h
                              · exact HLO.out m e h he
                              · subst h
                                rw [HEE.out] at he
                                simp only [Option.some.injEq] at he
                                rw [← he]; exact hap
                            case measure => simp [intOf]; omega
                          · have hlt : Op.bytesLess (nm a).toList (nm p).toList = false := by rw [nm_less ha5 hp5]; simpa using hap
                            have hpos : PosOf es p i := by
                              have hs := HST.out.1.srt
                              refine ⟨by have := HST.out.2.2.2; omega, HLO.out, fun m e hm he => ?_⟩
                              rcases Nat.lt_or_eq_of_le hm with h | h
                              · have := hs.2 i m _ _ h HEE.out he
                                simp only at this; omega
                              · subst h; rw [HEE.out] at he; simp only [Option.some.injEq] at he; rw [← he]; simp only; omega
                            have hf : isAt es p i = false := by simp [isAt, HEE.out, hne]
                            have HPF := hid (And.intro hpos hf)
                            clear hpos hf
                            go_wp2_with fail
                            go_at_call 10
                            refine Calls.mono (ins_names HST.out.1 HPF.out.1 HPF.out.2) ?_
                            rintro e W4 ⟨nv4, rfl, st4⟩
                            have HS4 := hid st4
                            clear st4
                            go_wp2_with fail
                            go_at_call 11
                            refine Calls.mono (ins_counts HS4.out HPF.out.1 HPF.out.2) ?_
                            rintro e W5 ⟨cv5, rfl, st5⟩
                            go_wp2
                            go_meet
                            case rel => exact ⟨i, HPF.out.1, rfl, st5⟩
                        · obtain rfl : n = i := by omega
                          have hpos : PosOf es p n := ⟨by have := HST.out.2.2.2; omega, HLO.out, fun m e hm he => by have := (List.getElem?_eq_some_iff.1 he).1; have := HST.out.2.2.2; omega⟩
                          have hf : isAt es p n = false := by simp only [isAt]; rw [List.getElem?_eq_none (by have := HST.out.2.2.2; omega)]
                          have HPF := hid (And.intro hpos hf)
                          clear hpos hf
                          go_wp2_with fail
                          go_at_call 10
                          refine Calls.mono (ins_names HST.out.1 HPF.out.1 HPF.out.2) ?_
                          rintro e W4 ⟨nv4, rfl, st4⟩
                          have HS4 := hid st4
                          clear st4
                          go_wp2_with fail
                          go_at_call 11
                          refine Calls.mono (ins_counts HS4.out HPF.out.1 HPF.out.2) ?_
                          rintro e W5 ⟨cv5, rfl, st5⟩
                          go_wp2
                          go_meet
                          case rel => exact ⟨n, HPF.out.1, rfl, st5⟩
                    · have hkz : ¬ ((k : Int) < 0) := by omega
                      go_wp2
                      go_meet
                      case rel =>
                        have hpos : PosOf es p k := by
                          have hs := HST.out.1.srt
                          refine ⟨by have := HST.out.2.2.2; omega, fun i e hi he => hs.2 i k _ _ hi he hek, fun i e hi he => ?_⟩
                          rcases Nat.lt_or_eq_of_le hi with h | h
                          · exact Nat.le_of_lt (hs.2 k i _ _ h hek he)
                          · subst h; rw [hek] at he; simp only [Option.some.injEq] at he; rw [← he]; exact Nat.le_refl _
                        refine ⟨k, hpos, rfl, ?_⟩
                        rw [ins0_at hek]
                        exact HST.out.1
                  case rest =>
                    as_aux_lemma =>
                      obtain ⟨k, hpos, rfl, hst⟩ := hcut
                      obtain ⟨n2, hn2⟩ : ∃ n2, (ins0 es p k).length = n2 := ⟨_, rfl⟩
                      obtain ⟨na2, nc2, hvn2, hnc2, _⟩ := nm_at hst.nrow
                      obtain ⟨ca2, cc2, hvc2, hcc2, hcat2⟩ := cn_at hst.crow
                      rw [hn2] at hvn2 hvc2 hnc2 hcc2
                      subst hvn2
                      subst hvc2
                      have hn7 : n2 ≤ 7 := by
                        have h1 := hst.len
                        have h2 := ins0_length es p k
                        rw [bump_len] at h2
                        omega
                      have hown := ins0_own hpos
                      have hkn : k < n2 := by rw [← hn2]; exact (List.getElem?_eq_some_iff.1 hown).1
                      obtain ⟨gc, rfl, qc, fc⟩ := hcat2 k _ hown
                      have hcb : cntAt es p k ≤ 4294967296 + t := cnt_bd hst.bd
                      obtain ⟨cnt, hcnt⟩ : ∃ cnt, cntAt es p k = cnt := ⟨_, rfl⟩
                      rw [hcnt] at qc hcb
                      have k1 : (0 : Int) ≤ (k : Int) := by omega
                      have k2 : (k : Int) < (n2 : Int) := by omega
                      have c1 : (0 : Int) ≤ (cnt : Int) := by omega
                      have c2 : (cnt : Int) ≤ 4294967296 + (t : Int) := by omega
                      obtain ⟨W6, hW6⟩ : ∃ W6, wc.setCell ⟨gc, k, none⟩ (.int .u64 ((cnt : Int) + 1)) = W6 := ⟨_, rfl⟩
                      have BMP := hst.bump hpos rfl W6 (by rw [← hW6, hcnt]; rfl)
                      have hn2' : (bump es p k).length = n2 := by rw [bump_len]; exact hn2
                      have HB := hid (And.intro BMP (And.intro hpos (And.intro hn2' hcnt)))
                      clear hst BMP hpos hcat2 hn2 hn2' hown HDIS HST
                      by_cases hz3 : z % 3 = 0
                      · go_wp2_with fail
                        go_at_call 12
                        refine Calls.mono (tick_law HB.out.1 HB.out.2.1 (by omega) hp5) ?_
                        rintro e W7 ⟨⟨v7, rfl⟩, st7⟩
                        go_wp2
                        go_roundw
                        case rel => exact ⟨t + 1, by omega, by go_num, _, _, _, _, st7⟩
                        case measure => simp [intOf]; omega
                      · obtain ⟨jn, hjn, hj2⟩ : ∃ jn : Nat, z / 3 % 2 = (jn : Int) ∧ jn < 2 := ⟨(z / 3 % 2).toNat, by omega, by omega⟩
                        obtain ⟨j, hj⟩ : ∃ j : Bool, jn = if j then 1 else 0 := by
                          rcases (by omega : jn = 0 ∨ jn = 1) with h | h
                          · exact ⟨false, h⟩
                          · exact ⟨true, h⟩
                        have HJ := hid hj
                        clear hj
                        go_upto_if 178 with fail
                        go_cut [29] (fun v29 wx => W6 = wx ∧ v29 = .string (pr j))
                        case first =>
                          rcases Bool.eq_false_or_eq_true j with hjj | hjj
                          · subst hjj
                            obtain rfl : jn = 1 := HJ.out
                            go_wp2
                            go_meet
                            case rel => exact ⟨rfl, rfl⟩
                          · subst hjj
                            obtain rfl : jn = 0 := HJ.out
                            go_wp2
                            go_meet
                            case rel => exact ⟨rfl, rfl⟩
                        case rest =>
                          obtain ⟨hwc, rfl⟩ := hcut
                          subst hwc
                          obtain ⟨b, hb⟩ : ∃ b, (lastOf j sx sy).isSome = b := ⟨_, rfl⟩
                          obtain ⟨fu, hfu⟩ : ∃ fu, (!b) = fu := ⟨_, rfl⟩
                          have hbx := HB.out.1.box
                          have rb : W6.cell? ⟨sb, jn, none⟩ = some (.bool b) := by
                            have h0 := HJ.out
                            subst h0
                            cases j <;> simp [World.cell?, hbx, ← hb, lastOf]
                          have fb : W6.frozen? ⟨sb, jn, none⟩ = false := frozen_of_row _ _ _ _ _ hbx
                          obtain ⟨W7, hW7⟩ : ∃ W7, W6.setCell ⟨sb, jn, none⟩ (.bool true) = W7 := ⟨_, rfl⟩
                          have ST7 := HB.out.1.sent j W7 (by rw [← hW7, HJ.out])
                          have CL := XRow.clone (pa := da) (c := dc) (l := dl) (W := W7) (by have := HD.out.1; omega) (ST7.bytes rfl HD.out.2)
                          rw [HD.out.1] at CL
                          have HS7 := hid ST7
                          have HCL := hid CL
                          have HFU := hid (And.intro hb hfu)
                          have j1 : (0 : Int) ≤ (jn : Int) := by omega
                          have j2 : (jn : Int) < 2 := by omega
                          clear hb hbx ST7 CL
                          go_wp2_with fail
                          go_at_call 13
                          refine Calls.mono HCL.out ?_
                          rintro e W8 ⟨v8, rfl, x8⟩
                          have HX8 := hid x8
                          clear x8 HCL
                          go_upto_if 187 with fail
                          go_cut [31] (fun v31 wx => XRow W7 (expB dl fu k (bump es p k) 0) v31 wx)
                          case first =>
                            rcases Bool.eq_false_or_eq_true fu with hff | hff
                            · subst hff
                              have X0 := HX8.out.uv (by have := HD.out.1; omega) n2 (by omega)
                              have HX0 := hid X0
                              clear X0
                              go_wp2_with fail
                              go_at_call 14
                              refine Calls.mono HX0.out ?_
                              rintro e W9 ⟨v9, rfl, x9⟩
                              go_wp2
                              go_meet
                              case rel =>
                                have e0 : expB dl true k (bump es p k) 0 = dl ++ Lib.uvarint n2 := by rw [expB_zero, if_pos rfl, HB.out.2.2.1]
                                rw [e0]; exact x9
                            · subst hff
                              have X0 := HX8.out.uv (by have := HD.out.1; omega) 1 (by omega)
                              have HX0 := hid X0
                              clear X0
                              go_wp2_with fail
                              go_at_call 14
                              refine Calls.mono HX0.out ?_
                              rintro e W9 ⟨v9, rfl, x9⟩
                              go_wp2
                              go_meet
                              case rel =>
                                have e0 : expB dl false k (bump es p k) 0 = dl ++ Lib.uvarint 1 := by rw [expB_zero, if_neg (by decide)]
                                rw [e0]; exact x9
                          case rest =>
                            have HX9 := hid hcut
                            clear hcut HX8
                            obtain ⟨W9, rfl⟩ : ∃ W9, W9 = wc := ⟨wc, rfl⟩
                            have hxl : ∀ i, (expB dl fu k (bump es p k) i).length ≤ 2000 := fun i => by
                              have h9 := HS7.out
                              have hlen := h9.len
                              have hil := ins0_length es p k
                              have hbd := bump_bd (p := p) (k := k) h9.bd
                              exact expB_len (by have := HD.out.1; omega) (by omega) (fun e he => by have := hbd e he; omega)
                            have HXL := hid hxl
                            clear hxl
                            go_wp2_with fail
                            go_loopw [31, 32] (fun ve vi wr => ∃ i : Nat, i ≤ n2 ∧ vi = .int .i64 i ∧ XRow W7 (expB dl fu k (bump es p k) i) ve wr) (fun _ vi _ => n2 - (intOf vi).toNat)
                            case atStart => exact ⟨0, by omega, rfl, HX9.out⟩
                            case round =>
                              obtain ⟨i, hi, rfl, hx⟩ := hrel
                              have HXI := hid hx
                              clear hx HX9
                              by_cases hin : i < n2
                              · obtain ⟨⟨a, c⟩, he⟩ : ∃ e, (bump es p k)[i]? = some e := ⟨(bump es p k)[i]'(by have := HB.out.2.2.1; omega), List.getElem?_eq_getElem _⟩
                                have HEE := hid he
                                have hcl : c ≤ 4294967296 + t + 1 := bump_bd (p := p) (k := k) HS7.out.bd _ (List.mem_of_getElem? he)
                                clear he
                                have i1 : (0 : Int) ≤ (i : Int) := by omega
                                have i2 : (i : Int) < (n2 : Int) := by omega
                                have z1 : (0 : Int) ≤ (c : Int) := by omega
                                have z2 : (c : Int) ≤ 4294967296 + (t : Int) + 1 := by omega
                                by_cases hpk : fu = true ∨ i = k
                                · obtain ⟨na9, nc9, e9, _, hnat⟩ := nm_at HS7.out.nrow
                                  obtain ⟨ca9, cc9, e8, _, hcat⟩ := cn_at HS7.out.crow
                                  obtain ⟨gn, g1, q1⟩ := hnat i _ HEE.out
                                  obtain ⟨gc', g2, q2, _⟩ := hcat i _ HEE.out
                                  simp only [Value.slice.injEq] at e9 e8
                                  obtain ⟨rfl, ea1, ea2⟩ := e9
                                  obtain ⟨e8', ea3, ea4⟩ := e8
                                  clear ea1 ea2 ea3 ea4
                                  rw [g2] at e8'
                                  simp only [Option.some.injEq, Addr.mk.injEq] at e8'
                                  obtain ⟨rfl, _⟩ := e8'
                                  subst g1
                                  clear hnat hcat g2
                                  have r1 := HXI.out.kept.cell q1 (World.block_lt_of_cell? _ _ q1) (fun h => h)
                                  obtain ⟨hs1, hs2, hs3⟩ := nm_size a
                                  obtain ⟨sz, hsz⟩ : ∃ sz, (nm a).size = sz := ⟨_, rfl⟩
                                  have HSZ := hid (And.intro hs2 (And.intro hs3 hsz))
                                  have hsz' : ((nm a).size : Int) = (sz : Int) := by rw [hsz]
                                  have hsz2 : sz ≤ 2 := by omega
                                  have hul := Lib.uvarint_length64 (x := sz) (by omega)
                                  clear hs1 hs2 hs3 hsz
                                  rcases hpk with hpk | hpk
                                  · subst hpk
                                    have X0 := HXI.out.uv (by have := HXL.out i; omega) sz (by omega)
                                    have HX0 := hid X0
                                    clear X0
                                    go_wp2_with fail
                                    go_at_call 14
                                    refine Calls.mono HX0.out ?_
                                    rintro e W9 ⟨v9, rfl, x9⟩
                                    clear HX0
                                    have q3 := x9.kept.cell q1 (World.block_lt_of_cell? _ _ q1) (fun h => h)
                                    obtain ⟨v10, W10, hr10, x10⟩ := x9.str (by have := HXL.out i; rw [List.length_append]; omega) a 22
                                    have q4 := x10.kept.cell q2 (World.block_lt_of_cell? _ _ q2) (fun h => h)
                                    have X1 := x10.uv (by have := HXL.out i; have := HSZ.out; simp only [List.length_append]; omega) c (by omega)
                                    have HX1 := hid X1
                                    clear X1 x9 x10
                                    go_wp2_with (at_builtin; refine Lib.wpList_append_run _ rfl _ _ _ _ rfl _ _ rfl rfl _ _ hr10 ?_)
                                    go_at_call 14
                                    refine Calls.mono HX1.out ?_
                                    rintro e W11 ⟨v11, rfl, x11⟩
                                    have HX11 := hid x11
                                    clear x11 HX1
                                    go_wp2
                                    go_roundw
                                    case rel =>
                                      refine ⟨i + 1, by omega, by go_num, ?_⟩
                                      rw [expB_take HEE.out (.inl rfl), HSZ.out.2.2]
                                      exact HX11.out
                                    case measure => simp [intOf]; omega
                                  · subst hpk
                                    rcases Bool.eq_false_or_eq_true fu with hff | hff
                                    · subst hff
                                      have X0 := HXI.out.uv (by have := HXL.out i; omega) sz (by omega)
                                      have HX0 := hid X0
                                      clear X0
                                      go_wp2_with fail
                                      go_at_call 14
                                      refine Calls.mono HX0.out ?_
                                      rintro e W9 ⟨v9, rfl, x9⟩
                                      clear HX0
                                      have q3 := x9.kept.cell q1 (World.block_lt_of_cell? _ _ q1) (fun h => h)
                                      obtain ⟨v10, W10, hr10, x10⟩ := x9.str (by have := HXL.out i; rw [List.length_append]; omega) a 22
                                      have q4 := x10.kept.cell q2 (World.block_lt_of_cell? _ _ q2) (fun h => h)
                                      have X1 := x10.uv (by have := HXL.out i; have := HSZ.out; simp only [List.length_append]; omega) c (by omega)
                                      have HX1 := hid X1
                                      clear X1 x9 x10
                                      go_wp2_with (at_builtin; refine Lib.wpList_append_run _ rfl _ _ _ _ rfl _ _ rfl rfl _ _ hr10 ?_)
                                      go_at_call 14
                                      refine Calls.mono HX1.out ?_
                                      rintro e W11 ⟨v11, rfl, x11⟩
                                      have HX11 := hid x11
                                      clear x11 HX1
                                      go_wp2
                                      go_roundw
                                      case rel =>
                                        refine ⟨i + 1, by omega, by go_num, ?_⟩
                                        rw [expB_take HEE.out (.inr rfl), HSZ.out.2.2]
                                        exact HX11.out
                                      case measure => simp [intOf]; omega
                                    · subst hff
                                      have X0 := HXI.out.uv (by have := HXL.out i; omega) sz (by omega)
                                      have HX0 := hid X0
                                      clear X0
                                      go_wp2_with fail
                                      go_at_call 14
                                      refine Calls.mono HX0.out ?_
                                      rintro e W9 ⟨v9, rfl, x9⟩
                                      clear HX0
                                      have q3 := x9.kept.cell q1 (World.block_lt_of_cell? _ _ q1) (fun h => h)
                                      obtain ⟨v10, W10, hr10, x10⟩ := x9.str (by have := HXL.out i; rw [List.length_append]; omega) a 22
                                      have q4 := x10.kept.cell q2 (World.block_lt_of_cell? _ _ q2) (fun h => h)
                                      have X1 := x10.uv (by have := HXL.out i; have := HSZ.out; simp only [List.length_append]; omega) c (by omega)
                                      have HX1 := hid X1
                                      clear X1 x9 x10
                                      go_wp2_with (at_builtin; refine Lib.wpList_append_run _ rfl _ _ _ _ rfl _ _ rfl rfl _ _ hr10 ?_)
                                      go_at_call 14
                                      refine Calls.mono HX1.out ?_
                                      rintro e W11 ⟨v11, rfl, x11⟩
                                      have HX11 := hid x11
                                      clear x11 HX1
                                      go_wp2
                                      go_roundw
                                      case rel =>
                                        refine ⟨i + 1, by omega, by go_num, ?_⟩
                                        rw [expB_take HEE.out (.inr rfl), HSZ.out.2.2]
                                        exact HX11.out
                                      case measure => simp [intOf]; omega
                                · obtain ⟨hp1, hp2⟩ : fu = false ∧ i ≠ k := ⟨by cases fu <;> simp at hpk ⊢, fun e => hpk (.inr e)⟩
                                  have HPK := hid hpk
                                  clear hpk
                                  subst hp1
                                  have hp3 : ¬ ((i : Int) = (k : Int)) := by omega
                                  go_wp2
                                  go_roundw
                                  case rel => exact ⟨i + 1, by omega, by go_num, by rw [expB_skip HPK.out]; exact HXI.out⟩
                                  case measure => simp [intOf]; omega
                              · obtain rfl : n2 = i := by omega
                                obtain ⟨Wq, rfl⟩ : ∃ Wq, Wq = wr := ⟨wr, rfl⟩
                                have stq := HS7.out.still HXI.out.kept
                                obtain ⟨v12, Wx, hr12, x12⟩ := HXI.out.byt (pl := pl) (pa := pa) (pc := pc) (by have := HXL.out n2; omega) (by have := HP.out.1; omega) (stq.bytes rfl HP.out.2.1) HP.out.2.2.1 22
                                rw [HP.out.1] at hr12
                                have stx := HS7.out.still x12.kept
                                have HX12 := hid x12
                                have HSX := hid stx
                                obtain ⟨le, hle⟩ : ∃ le, (expB dl fu k (bump es p k) n2 ++ pl).length = le := ⟨_, rfl⟩
                                obtain ⟨pe, ce, hv12, _⟩ := x12.nil_ne
                                rw [hle] at hv12
                                subst hv12
                                have CL := XRow.clone (pa := da) (c := dc) (l := dl) (W := Wx) (by have := HD.out.1; omega) (stx.bytes rfl HD.out.2)
                                rw [HD.out.1] at CL
                                have HCL := hid CL
                                have HLE := hid hle
                                clear stq x12 stx CL hle
                                go_wp2_with (at_builtin; refine Lib.wpList_append_run _ rfl _ _ _ _ rfl _ _ rfl rfl _ _ hr12 ?_)
                                go_at_call 13
                                refine Calls.mono HCL.out ?_
                                rintro e W13 ⟨v13, rfl, x13⟩
                                have SL := send_law j fu (by rw [HFU.out.1, HFU.out.2]) HSX.out HB.out.2.1 (by omega) hp5 pa pc pl dl (by have := HD.out.1; omega) HP.out.2.1 HP.out.2.2.2 HP.out.2.2.1 (by have := HP.out.1; omega) HB.out.2.2.1 HLE.out HX12.out x13
                                rw [HP.out.1] at SL
                                have HSL := hid SL
                                clear SL x13 HCL
                                go_wp2_with fail
                                go_at_call 15
                                refine Calls.mono HSL.out ?_
                                rintro e W14 ⟨pg, cg, L, hL, hL4, rfl, b1, b2, st14⟩
                                have EQ := equal_byt pg pe cg ce L W14 (by omega) b1 b2
                                rw [hL] at EQ
                                have HEQ := hid EQ
                                have H14 := hid st14
                                clear EQ st14 b1 b2 hL
                                go_wp2_with fail
                                go_at_call 16
                                refine Calls.mono HEQ.out ?_
                                rintro e W15 ⟨rfl, bl15⟩
                                have H15 := hid (H14.out.still (KeptB.below bl15))
                                clear bl15 H14 HEQ
                                go_wp2
                                go_roundw
                                case rel => exact ⟨t + 1, by omega, by go_num, _, _, _, _, H15.out⟩
                                case measure => simp [intOf]; omega
            · 
              as_aux_lemma =>
                obtain rfl : ol = t := by omega
                obtain ⟨n2, hn2⟩ : ∃ n2, es.length = n2 := ⟨_, rfl⟩
                obtain ⟨na2, nc2, hvn2, hnc2, hnat⟩ := nm_at hst.nrow
                obtain ⟨ca2, cc2, hvc2, hcc2, hcat⟩ := cn_at hst.crow
                rw [hn2] at hvn2 hvc2 hnc2 hcc2
                subst hvn2
                subst hvc2
                obtain ⟨ev9, rv9, mv9, dv9, nd9, xd9, hck, _⟩ := hst.clk
                have hn6 : n2 ≤ 6 := by have := hst.len; omega
                have NW := now_any hck (by omega)
                have hcbH := (ft_obj hck (k := cb) (.inl rfl)).1
                have HNW := hid NW
                have HST := hid (And.intro hst (And.intro hnat (And.intro hcat (And.intro hn2 hcbH))))
                have HCK := hid hck
                clear NW hst hnat hcat hck hcbH
                go_wp2_with fail
                go_at_call 17
                refine Calls.mono HNW.out ?_
                rintro e W7 ⟨v7, rfl, own7, kp7⟩
                obtain ⟨ea, ec, rfl, hent⟩ := own_ents own7
                rw [hn2]
                obtain ⟨sb8, hsb8⟩ : ∃ sb8, W7.heap.size = sb8 := ⟨_, rfl⟩
                obtain ⟨W8, hW8⟩ : ∃ W8, W7.alloc (.cells #[.slice ea n2 ec] 44) = W8 := ⟨_, rfl⟩
                have k8 : KeptB W7.heap.size (fun _ => False) W7 W8 := by rw [← hW8]; exact KeptB.alloc _ (Nat.le_refl _)
                have b8 : W8.cell? ⟨sb8, 0, none⟩ = some (.slice ea n2 ec) := by
                  have := heap_alloc_new W7 (.cells #[.slice ea n2 ec] 44)
                  rw [hW8, hsb8] at this
                  simp [World.cell?, this]
                have hent8 : EntAt W8 ea es := by rw [← hW8]; exact hent.below ((Below.refl _ _).alloc (Nat.le_refl _) _)
                have nr8 := k8.own (kp7.own HST.out.1.nrow (fun k e => ⟨(HST.out.1.nrow.lt k e).2, fun h => (own_not_ft HCK.out HST.out.1.nrow (by decide) (by decide) (fun h => by cases h) k e).2 (.inl h)⟩)) (fun k e => ⟨by have := (HST.out.1.nrow.lt k e).2; have := kp7.size; omega, fun h => h⟩)
                have cr8 := k8.own (kp7.own HST.out.1.crow (fun k e => ⟨(HST.out.1.crow.lt k e).2, fun h => own_nbox HST.out.1.crow HCK.out.box (by decide) (by rw [← h, e])⟩)) (fun k e => ⟨by have := (HST.out.1.crow.lt k e).2; have := kp7.size; omega, fun h => h⟩)
                obtain ⟨na9, nc9, e9, _, hnat9⟩ := nm_at nr8
                obtain ⟨ca9, cc9, e8, _, hcat9⟩ := cn_at cr8
                simp only [Value.slice.injEq] at e9 e8
                have HA := hid (And.intro hent8 (And.intro (by rw [e9.1]; exact hnat9 : ∀ (i : Nat) e, es[i]? = some e → ∃ g, na2 = some ⟨g, 0, none⟩ ∧ W8.cell? ⟨g, i, none⟩ = some (.string (nm e.1))) (by rw [e8.1]; exact hcat9 : ∀ (i : Nat) e, es[i]? = some e → ∃ g, ca2 = some ⟨g, 0, none⟩ ∧ W8.cell? ⟨g, i, none⟩ = some (.int .u64 e.2) ∧ W8.frozen? ⟨g, i, none⟩ = false)))
                have HK := hid (HST.out.1.kept.trans ((kp7.mono HST.out.1.size (fun k hk e => by have := HST.out.2.2.2.2; omega)).trans (k8.mono (by have := HST.out.1.size; have := kp7.size; omega) (fun _ _ h => h))))
                have HN := hid hn2
                clear own7 hn2 HNW hent8 nr8 cr8 hnat9 hcat9 e9 e8 kp7 k8 hent HST HCK
                go_upto_if 249 with fail
                go_wp2_with fail
                go_loopw [36] (fun vi wr => ∃ i q : Nat, i ≤ n2 ∧ vi = .int .i64 i ∧ wr = W8.drewN q) (fun vi _ => n2 - (intOf vi).toNat)
                case atStart => exact ⟨0, 0, by omega, rfl, rfl⟩
                case round =>
                  obtain ⟨i, q, hi, rfl, rfl⟩ := hrel
                  by_cases hin : i < n2
                  · obtain ⟨⟨a, c⟩, he⟩ : ∃ e, es[i]? = some e := ⟨es[i]'(by have := HN.out; omega), List.getElem?_eq_getElem _⟩
                    obtain ⟨h1, h2, h3⟩ := HA.out
                    obtain ⟨ge9, oe9, rfl, r1, r2⟩ := h1 i _ he
                    obtain ⟨gn9, rfl, r3⟩ := h2 i _ he
                    obtain ⟨gc9, rfl, r4, _⟩ := h3 i _ he
                    have i1 : (0 : Int) ≤ (i : Int) := by omega
                    have i2 : (i : Int) < (n2 : Int) := by omega
                    have i3 : (i : Int).toNat = i := by omega
                    clear h1 h2 h3 he HA
                    go_wp2_with fail
                    go_quiet (fail)
                    go_wp2
                    go_roundw
                    case rel => exact ⟨i + 1, q + nq, by omega, by go_num, by simp⟩
                    case measure => simp [intOf]; omega
                  · go_wp2
                    go_ret
                    exact ⟨rfl, HK.out.trans ⟨rfl, rfl, Nat.le_refl _, fun _ _ _ => rfl⟩⟩
end Go.Proofs.YbulkcrtgFmt
