/-
  THE LAW 'RoundTrip' (function 4): its walk.
-/
import Derived.Test.YbulkcrpmFmtDec
namespace Go.Proofs.YbulkcrpmFmt
open Go Go.RowKit Go.Extern.Stop Go.Stop Go.Extern

set_option maxHeartbeats 400000 in
theorem rt_long (kind : Int) (pa : Option Addr) (n c : Nat) (w : World) (hn : 20000 < n) (hn' : n ≤ 140737488355328) :
    Calls Ybaf.prog 4 #[.int .u16 kind, .slice pa n c] w fun e w' => e = .returned (.bool true) ∧ w' = w := by
  go_enter Ybaf.func4, Ybaf.ntmps4
  go_wp2
  go_ret
  exact ⟨rfl, rfl⟩

theorem equal_same (p1 p2 : Option Addr) (n c d : Nat) (l : List UInt8) (w : World) (hn : n = l.length) (h1 : BytesAt w p1 c l) (h2 : BytesAt w p2 d l) :
    Calls Ybaf.prog 10 #[.slice p1 n c, .slice p2 n d] w fun e w' => e = .returned (.bool true) ∧ w' = w := by
  subst hn
  refine (equal_at p1 p2 c d l l w h1 h2).mono fun e w' ⟨he, hw⟩ => ⟨?_, hw⟩
  rw [he]
  simp

set_option maxHeartbeats 800000 in
theorem rt_short (F : Interp) (kind : Nat) (pa : Option Addr) (pc : Nat) (ps : List (Nat × List UInt8)) (w : World) (hF : F.answers w.tape) (hk : kind < 65536) (hnp : ps.length ≤ 20000) (ht : ∀ p ∈ ps, p.1 < 65536) (hlen : ∀ p ∈ ps, p.2.length ≤ 140737488355328) (hps : ParsAt w pa ps) :
    Calls Ybaf.prog 4 #[.int .u16 kind, .slice pa ps.length pc] w fun e w' => e = .returned (.bool true) ∧ Below w.heap.size w w' := by
  go_enter Ybaf.func4, Ybaf.ntmps4
  go_wp2_with fail
  refine (fits_any pa pc ps _ hnp hlen hps).mono ?_
  rintro e w' ⟨⟨hf, rfl⟩ | ⟨hf, rfl⟩, rfl⟩
  · go_wp2_with fail
    refine (msg_any kind pa pc ps _ hnp hps).mono ?_
    rintro e wM ⟨rfl, hbM, hsM, hm0, pa', pc', hm1, hpp⟩
    have HE := encode_hid F w'.heap.size 0 kind pa' pc' ps wM (by rw [hbM.tape]; exact hF) hk hnp ht hlen hm0 hm1 hpp
    clear hm0 hm1 hpp
    go_wp2_with fail
    refine HE.out.mono ?_
    rintro e wE ⟨hbE, ⟨_, v1, rfl, hownE⟩ | ⟨hnf, _⟩⟩
    · obtain ⟨T, hTe⟩ : ∃ T, T = 8 + (bodyOf ps).length := ⟨_, rfl⟩
      rw [← hTe] at hownE
      obtain ⟨g1, cap1, rfl, hb1, hnc1, hgl1⟩ := own_form hownE (by omega)
      have hbw : Below w'.heap.size w' wE := hbM.trans (hbE.mono (by omega))
      obtain ⟨m0, _, m2, m3, m4, m8⟩ := msg_cells hk hTe hownE
      have HD := decode_hid g1 cap1 T kind ps wE hk hf hTe hnc1 hnp ht m0 m2 m3 m4 m8
      clear HE hTe hownE m0 m2 m3 m4 m8
      go_wp2_with fail
      refine HD.out.mono ?_
      rintro e wD ⟨mB, rfl, hbD, hmB, k0, pb, pcb, k1, hpb⟩
      have hbA : Below w'.heap.size w' wD := hbw.trans (hbD.mono hbw.size)
      have hpsD := hps.below hbA
      clear HD
      go_wp2
      go_loopw [49] (fun i wr => ∃ k : Nat, k ≤ ps.length ∧ i = .int .i64 k ∧ Below wD.heap.size wD wr) (fun i _ => ps.length - (intOf i).toNat)
      case atStart => exact ⟨0, Nat.zero_le _, rfl, Below.refl _ _⟩
      case round =>
        obtain ⟨k, hkl, rfl, hnx⟩ := hrel
        by_cases hlt : k < ps.length
        · obtain ⟨p, hp⟩ : ∃ p, ps[k]? = some p := ⟨ps[k], by simp [hlt]⟩
          obtain ⟨g, o, rfl, c0, va, c, c1, bs1⟩ := hpsD k p hp
          obtain ⟨g', o', rfl, c0', va', c', c1', bs2⟩ := hpb k p hp
          obtain ⟨tg, bs⟩ := p
          simp only at c0 c1 bs1 c0' c1' bs2
          have c0 := cell_below hnx c0
          have c1 := cell_below hnx c1
          have c0' := cell_below hnx c0'
          have c1' := cell_below hnx c1'
          have k1' := cell_below hnx k1
          have bs1 := bs1.below hnx
          have bs2 := bs2.below hnx
          have i1 : (0 : Int) ≤ (k : Int) := by omega
          have i2 : (k : Int) < (ps.length : Int) := by omega
          clear hpsD hpb hps ht hlen hp
          go_wp2_with fail
          go_region_held3 (fun x => x.cell? ⟨mB, 1, none⟩ = some (.slice (some ⟨g', o', none⟩) ps.length pcb) ∧ x.cell? ⟨g', o' + k * 2, none⟩ = some (.int .u16 tg) ∧ x.cell? ⟨g', o' + k * 2 + 1, none⟩ = some (.slice va' bs.length c') ∧ x.cell? ⟨g, o + k * 2, none⟩ = some (.int .u16 tg) ∧ x.cell? ⟨g, o + k * 2 + 1, none⟩ = some (.slice va bs.length c)) (go_keep)
            (first | (go_at_call 10; refine (equal_same va' va bs.length c' c bs _ rfl (by exact bs2) (by exact bs1)).mono ?_; rintro e w5 ⟨rfl, rfl⟩))
          all_goals go_wp2
          all_goals go_roundw
          case rel => exact ⟨k + 1, by omega, by go_num, hnx.drew⟩
          case measure => simp [intOf]; omega
        · go_wp2
          go_ret
          exact ⟨rfl, hbA.trans (hnx.mono hbA.size)⟩
    · exact absurd hf hnf
  · go_wp2
    go_ret
    exact ⟨rfl, Below.refl _ _⟩
end Go.Proofs.YbulkcrpmFmt
