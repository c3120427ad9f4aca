/-
  THE LAW 'Bytes' (function 3): its walk.
-/
import Derived.Test.YbulkcrpmFmtEnc
import Derived.Test.YbulkcrpmFmtMk
import Derived.Test.YbulkcrpmFmtHead
import Derived.Test.YbulkcrpmFmtEq
namespace Go.Proofs.YbulkcrpmFmt
open Go Go.RowKit Go.Extern.Stop Go.Stop Go.Extern

set_option maxHeartbeats 400000 in
theorem bytes_long (kind : Int) (pa : Option Addr) (n c : Nat) (w : World) (hn : 20000 < n) (hn' : n ≤ 140737488355328) :
    Calls Ybaf.prog 3 #[.int .u16 kind, .slice pa n c] w fun e w' => e = .returned (.bool true) ∧ w' = w := by
  go_enter Ybaf.func3, Ybaf.ntmps3
  go_wp2
  go_ret
  exact ⟨rfl, rfl⟩

theorem news_lit (w : World) (H : Nat) (hH : w.heap.size = H) (cs : List Value) (t : TypeId) : ∀ (j : Nat) (u : Value), cs[j]? = some u → (w.alloc (.cells cs.toArray t)).cell? ((⟨H, 0, none⟩ : Addr).add j) = some u := by
  subst hH
  intro j u hj
  rw [Addr.add_lit, Nat.zero_add, cell_of_row _ w.heap.size j _ t (0, 0) (heap_alloc_new w _)]
  simpa using hj

/-- The four octets of a parameter's head, as the law writes them. -/
theorem head_cells (tg L : Nat) (htg : tg < 65536) (hL : L ≤ 65528) :
    [Value.int .u8 ((tg : Int) / 256), .int .u8 ((tg : Int) % 256), .int .u8 ((L : Int) / 256), .int .u8 ((L : Int) % 256)] = Lib.byteCells (Lib.beBytes 2 tg ++ Lib.beBytes 2 L) := by
  have e : ∀ x : Nat, x < 65536 → Lib.byteCells (Lib.beBytes 2 x) = [Value.int .u8 ((x : Int) / 256), .int .u8 ((x : Int) % 256)] := by
    intro x hx
    have e0 : Lib.beBytes 2 x = [(x / 256 % 256).toUInt8, (x % 256).toUInt8] := rfl
    rw [e0]
    simp only [Lib.byteCells, List.map_cons, List.map_nil, Lib.toUInt8_mod]
    have e1 : ((x / 256 % 256 : Nat) : Int) = (x : Int) / 256 := by omega
    have e2 : ((x % 256 : Nat) : Int) = (x : Int) % 256 := by omega
    rw [e1, e2]
  rw [byteCells_append, e tg htg, e L (by omega)]
  rfl

theorem lit8_own (kind : Nat) (hk : kind < 65536) (w : World) :
    (w.alloc (.cells #[.int .u8 1, .int .u8 0, .int .u8 ((kind : Int) / 256), .int .u8 ((kind : Int) % 256), .int .u8 0, .int .u8 0, .int .u8 0, .int .u8 0] 5)).ownsRow w.heap.size 5 1
      (.slice (some ⟨w.heap.size, 0, none⟩) 8 8) 8 (Lib.byteCells (hd4 kind ++ [0, 0, 0, 0])) := by
  have h := World.ownsRow_lit (base := w.heap.size) (e := 5) (size := 1) w #[.int .u8 1, .int .u8 0, .int .u8 ((kind : Int) / 256), .int .u8 ((kind : Int) % 256), .int .u8 0, .int .u8 0, .int .u8 0, .int .u8 0] 8 (Nat.le_refl _) (by simp [maxLen]) rfl
  have e2 : (((kind / 256).toUInt8.toNat : Nat) : Int) = (kind : Int) / 256 := by
    rw [show (kind / 256).toUInt8.toNat = kind / 256 from by simp [Nat.toUInt8, UInt8.toNat_ofNat']; omega]; omega
  have e3 : (((kind % 256).toUInt8.toNat : Nat) : Int) = (kind : Int) % 256 := by
    rw [Lib.toUInt8_mod]; omega
  have e1 : Lib.byteCells (hd4 kind ++ [0, 0, 0, 0]) = [.int .u8 1, .int .u8 0, .int .u8 ((kind : Int) / 256), .int .u8 ((kind : Int) % 256), .int .u8 0, .int .u8 0, .int .u8 0, .int .u8 0] := by
    simp only [Lib.byteCells, hd4, List.cons_append, List.nil_append, List.map_cons, List.map_nil, e2, e3]
    rfl
  rw [e1]
  exact h

theorem want_zero {kind B T g cap : Nat} {bs : List UInt8} {w : World} (h : w.ownsRow B 5 1 (.slice (some ⟨g, 0, none⟩) T cap) T (Lib.byteCells (hd4 kind ++ ([0, 0, 0, 0] ++ bs)))) (j : Nat) (h1 : 4 ≤ j) (h2 : j < 8) (h8 : 8 ≤ T := by omega) : w.cell? ⟨g, j, none⟩ = some (.int .u8 0) := by
  rw [h.cellAt j (by omega)]
  rcases (show j = 4 ∨ j = 5 ∨ j = 6 ∨ j = 7 from by omega) with rfl | rfl | rfl | rfl <;> rfl

theorem equal_hid (p1 p2 : Option Addr) (c d : Nat) (l1 l2 : List UInt8) (w : World) (h1 : BytesAt w p1 c l1) (h2 : BytesAt w p2 d l2) :
    Hid (Calls Ybaf.prog 10 #[.slice p1 l1.length c, .slice p2 l2.length d] w fun e w' => e = .returned (.bool (l1 == l2)) ∧ w' = w) := equal_at p1 p2 c d l1 l2 w h1 h2

/-- The length stored into the four octets. -/
theorem want_put {kind B T g cap : Nat} {ps : List (Nat × List UInt8)} {w : World} (hT : T ≤ 65536) (hTe : T = 8 + (bodyOf ps).length) (h : w.ownsRow B 5 1 (.slice (some ⟨g, 0, none⟩) T cap) T (Lib.byteCells (hd4 kind ++ ([0, 0, 0, 0] ++ bodyOf ps)))) :
    ((((w.setCell ⟨g, 4, none⟩ (.int .u8 ((T : Int) / 16777216))).setCell ⟨g, 5, none⟩ (.int .u8 ((T : Int) / 65536))).setCell ⟨g, 6, none⟩ (.int .u8 ((T : Int) / 256 % 256))).setCell ⟨g, 7, none⟩ (.int .u8 ((T : Int) % 256))).ownsRow B 5 1 (.slice (some ⟨g, 0, none⟩) T cap) T (Lib.byteCells (msgBytes kind ps)) := by
  have hl : (Lib.byteCells (Lib.beBytes 4 T)).length = 4 := by rw [byteCells_length, Lib.beBytes_length]
  have h2 := own_setCells (Lib.byteCells (Lib.beBytes 4 T)) 4 w _ h (by rw [hl, byteCells_length]; simp [hd4])
  have h3 := put_own hTe h2
  have e0 : Lib.beBytes 4 T = [(T / 256 / 256 / 256 % 256).toUInt8, (T / 256 / 256 % 256).toUInt8, (T / 256 % 256).toUInt8, (T % 256).toUInt8] := rfl
  have e1 : Lib.byteCells (Lib.beBytes 4 T) = [.int .u8 ((T : Int) / 16777216), .int .u8 ((T : Int) / 65536), .int .u8 ((T : Int) / 256 % 256), .int .u8 ((T : Int) % 256)] := by
    rw [e0]
    simp only [Lib.byteCells, List.map_cons, List.map_nil, Lib.toUInt8_mod]
    rw [show ((T / 256 / 256 / 256 % 256 : Nat) : Int) = (T : Int) / 16777216 from by omega, show ((T / 256 / 256 % 256 : Nat) : Int) = (T : Int) / 65536 from by omega, show ((T / 256 % 256 : Nat) : Int) = (T : Int) / 256 % 256 from by omega, show ((T % 256 : Nat) : Int) = (T : Int) % 256 from by omega]
  rw [e1] at h3
  exact h3

/-- One parameter more in what the law builds. -/
theorem want_step {ps : List (Nat × List UInt8)} {k tg kind B : Nat} {bs : List UInt8} {w : World} {v : Value} (hp : ps[k]? = some (tg, bs)) (n : Nat) (hn : n = 8 + (bodyOf (ps.take k)).length + 4 + bs.length) (h4 : (8 + (bodyOf (ps.take k)).length) % 4 = 0)
    (h : w.ownsRow B 5 1 v (n + pad n) (Lib.byteCells (hd4 kind ++ ([0, 0, 0, 0] ++ bodyOf (ps.take k))) ++ Lib.byteCells (Lib.beBytes 2 tg ++ Lib.beBytes 2 (4 + bs.length)) ++ Lib.byteCells bs ++ List.replicate (pad n) (.int .u8 0))) :
    w.ownsRow B 5 1 v (8 + (bodyOf (ps.take (k + 1))).length) (Lib.byteCells (hd4 kind ++ ([0, 0, 0, 0] ++ bodyOf (ps.take (k + 1))))) := by
  have hpad : pad n = pad (4 + bs.length) := by rw [hn]; unfold pad; omega
  rw [hpad, ← byteCells_zeros, ← byteCells_append, ← byteCells_append, ← byteCells_append] at h
  rw [take_snoc hp, bodyOf_snoc]
  have e1 : hd4 kind ++ ([0, 0, 0, 0] ++ (bodyOf (ps.take k) ++ parBytes (tg, bs))) = hd4 kind ++ ([0, 0, 0, 0] ++ bodyOf (ps.take k)) ++ (Lib.beBytes 2 tg ++ Lib.beBytes 2 (4 + bs.length)) ++ bs ++ List.replicate (pad (4 + bs.length)) 0 := by
    simp [parBytes, parLen]
  have e2 : 8 + (bodyOf (ps.take k) ++ parBytes (tg, bs)).length = n + pad (4 + bs.length) := by
    rw [List.length_append, parBytes_length, hn]; simp only [parLen]; omega
  rw [e1, e2]
  exact h
theorem body_mod (ps : List (Nat × List UInt8)) : (bodyOf ps).length % 4 = 0 := by
  induction ps with
  | nil => rfl
  | cons p ps ih =>
    have h3 := parBytes_length p
    simp only [bodyOf, List.flatMap_cons, List.length_append] at ih ⊢
    unfold pad at h3
    omega

set_option maxHeartbeats 800000 in
theorem bytes_short (F : Interp) (kind : Nat) (pa : Option Addr) (pc : Nat) (ps : List (Nat × List UInt8)) (w : World) (hF : F.answers w.tape) (hk : kind < 65536) (hnp : ps.length ≤ 20000) (ht : ∀ p ∈ ps, p.1 < 65536) (hlen : ∀ p ∈ ps, p.2.length ≤ 140737488355328) (hps : ParsAt w pa ps) :
    Calls Ybaf.prog 3 #[.int .u16 kind, .slice pa ps.length pc] w fun e w' => e = .returned (.bool true) ∧ Below w.heap.size w w' := by
  go_enter Ybaf.func3, Ybaf.ntmps3
  go_wp2_with fail
  refine (fits_any pa pc ps _ hnp hlen hps).mono ?_
  rintro e w' ⟨⟨hf, rfl⟩ | ⟨hf, rfl⟩, rfl⟩
  · go_wp2_with fail
    refine (msg_any kind pa pc ps _ hnp hps).mono ?_
    rintro e wM ⟨rfl, hbM, hsM, hm0, pa', pc', hm1, hpp⟩
    have HE := encode_hid F w'.heap.size 0 kind pa' pc' ps wM (by rw [hbM.tape]; exact hF) hk hnp ht hlen hm0 hm1 hpp
    clear hm0 hm1 hpp
    go_wp2_with fail
    refine HE.out.mono ?_
    rintro e wE ⟨hbE, ⟨_, v1, rfl, hownE⟩ | ⟨hnf, _⟩⟩
    · obtain ⟨T, hTe⟩ : ∃ T, T = 8 + (bodyOf ps).length := ⟨_, rfl⟩
      rw [← hTe] at hownE
      obtain ⟨g1, cap1, rfl, hb1, hnc1, hgl1⟩ := own_form hownE (by omega)
      have hbw : Below w'.heap.size w' wE := hbM.trans (hbE.mono (by omega))
      have hpsE := hps.below hbw
      have HTE : Hid (T = 8 + (bodyOf ps).length) := hTe
      clear HE hTe
      go_wp2
      have hown0 := lit8_own kind hk wE
      obtain ⟨w0, hw0⟩ : ∃ w0, w0 = wE.alloc (.cells #[.int .u8 1, .int .u8 0, .int .u8 ((kind : Int) / 256), .int .u8 ((kind : Int) % 256), .int .u8 0, .int .u8 0, .int .u8 0, .int .u8 0] 5) := ⟨_, rfl⟩
      rw [← hw0] at hown0 ⊢
      have hb0 : Below wE.heap.size wE w0 := by rw [hw0]; exact (Below.refl _ _).alloc (Nat.le_refl _) _
      clear hw0
      obtain ⟨i5, hi, hz0, hz1, hz2⟩ := info_parts Ybaf.info5
      go_loopw [7, 35] (fun v i wr => ∃ k : Nat, k ≤ ps.length ∧ i = .int .i64 k ∧ wr.ownsRow wE.heap.size 5 1 v (8 + (bodyOf (ps.take k)).length) (Lib.byteCells (hd4 kind ++ ([0, 0, 0, 0] ++ bodyOf (ps.take k)))) ∧ Below wE.heap.size wE wr) (fun _ i _ => ps.length - (intOf i).toNat)
      case atStart => exact ⟨0, Nat.zero_le _, rfl, by simpa [bodyOf] using hown0, hb0⟩
      case round =>
        obtain ⟨k, hkl, rfl, hown, hnx⟩ := hrel
        clear hown0 hb0
        have hbl := bodyOf_take_le ps k
        have hf2 := hf.2
        have h4 := body_mod (ps.take k)
        have hsz := hnx.size
        by_cases hlt : k < ps.length
        · obtain ⟨p, hp⟩ : ∃ p, ps[k]? = some p := ⟨ps[k], by simp [hlt]⟩
          have hpm : p ∈ ps := List.mem_of_getElem? hp
          obtain ⟨g, o, rfl, hc0, va, c, hc1, hbs⟩ := hpsE k p hp
          have hc0 := cell_below hnx hc0
          have hc1 := cell_below hnx hc1
          have hpt := ht p hpm
          have hL := hf.1 p hpm
          obtain ⟨tg, bs⟩ := p
          simp only [parLen] at hc0 hc1 hbs hpt hL
          have hbs0 := hbs
          -- THE HEAD OF THE PARAMETER
          go_wp2_with (at_builtin; refine wpList_append_own _ rfl (.tmp 46) (.tmp 59) 25 rfl wE.heap.size 5 i5 (.int .u8 0) 1 1 Ybaf.underlying25 hi hz0 hz1 hz2 rfl (by decide) _ _ _ rfl ((hown.alloc _).alloc _) ⟨wr.heap.size + 1, 0, none⟩ 4 4 [.int .u8 ((tg : Int) / 256), .int .u8 ((tg : Int) % 256), .int .u8 ((4 + (bs.length : Int)) / 256), .int .u8 ((4 + (bs.length : Int)) % 256)] rfl rfl (news_lit _ _ (by simp) _ _) (by intro u hu; simp at hu; rcases hu with rfl | rfl | rfl | rfl <;> rfl) (by unfold maxLen; omega) (by omega) (by simp; omega) ?_)
          intro v1 w1 hown1 hg1 _
          have hcells := head_cells tg (4 + bs.length) hpt hL
          rw [show ((4 + bs.length : Nat) : Int) = 4 + (bs.length : Int) from by omega] at hcells
          rw [hcells] at hown1
          have hP1 := kept_new2 hown hg1
          have hx1 := cell_of_row w1 wr.heap.size 1 _ _ _ hP1
          simp at hx1
          have hn1 : Below wE.heap.size wE w1 := ((hnx.alloc hsz _).alloc (by simp; omega) _).grown hg1 (by simp; omega) (own_row_ge hown)
          have hs1 := hn1.size
          have hbs1 := hbs0.below hn1
          clear hg1 hown hcells
          -- THE VALUE
          go_wp2_with (at_builtin; refine wpList_append_src _ rfl (.tmp 61) (.tmp 63) 25 rfl wE.heap.size 5 i5 (.int .u8 0) 1 1 Ybaf.underlying25 hi hz0 hz1 hz2 rfl (by decide) _ _ _ rfl hown1 va bs.length c (Lib.byteCells bs) rfl (by rw [byteCells_length]; omega) (fun h => by have := hbs1.1 h; simp [this.1, this.2]) hbs1.2 (byteCells_one _) (by unfold maxLen; omega) (by omega) hs1 ?_)
          intro v2 w2 hown2 hg2
          have hn2 : Below wE.heap.size wE w2 := hn1.grown hg2 hs1 (own_row_ge hown1)
          have hs2 := hn2.size
          clear hg2 hown1 hP1 hx1 hn1 hs1 hbs1
          -- THE PADDING
          go_wp2_with fail
          refine (pad_any wE.heap.size _ _ _ _ hown2 (by omega) hs2 (by omega)).mono ?_
          rintro e w3 ⟨v3, rfl, hown3, hb3⟩
          have hn3 := hn2.trans hb3
          clear hown2 hb3 hn2 hs2
          go_wp2
          go_roundw
          case rel => exact ⟨k + 1, by omega, by go_num, want_step hp _ rfl (by omega) (by simpa only [List.append_assoc, List.cons_append, List.nil_append] using hown3), hn3⟩
          case measure => simp [intOf]; omega
        · have hke : ps.take k = ps := List.take_of_length_le (by omega)
          rw [hke, ← HTE.out] at hown
          have hT8 : 8 ≤ T := by have := HTE.out; omega
          have hTb : T ≤ 65536 := by have := HTE.out; omega
          obtain ⟨g2, cap2, rfl, hbg2, hnc2, hgl2⟩ := own_form hown (by omega)
          clear hke hbl h4 hpsE hps ht hlen hf2 hf
          have hz8 := fun (j : Nat) (a : 4 ≤ j) (b : j < 8) => want_zero hown j a b hT8
          have q4 : wr.cell? ⟨g2, 4, none⟩ = some (.int .u8 0) := hz8 4 (by omega) (by omega)
          have q5 : wr.cell? ⟨g2, 5, none⟩ = some (.int .u8 0) := hz8 5 (by omega) (by omega)
          have q6 : wr.cell? ⟨g2, 6, none⟩ = some (.int .u8 0) := hz8 6 (by omega) (by omega)
          have q7 : wr.cell? ⟨g2, 7, none⟩ = some (.int .u8 0) := hz8 7 (by omega) (by omega)
          have f4 := hown.frozenAt 4
          have f5 := hown.frozenAt 5
          have f6 := hown.frozenAt 6
          have f7 := hown.frozenAt 7
          have i4 : (4 : Int) < (T : Int) := by omega
          have i5' : (5 : Int) < (T : Int) := by omega
          have i6 : (6 : Int) < (T : Int) := by omega
          have i7 : (7 : Int) < (T : Int) := by omega
          clear hz8
          have hfin := want_put hTb HTE.out hown
          have hbF : Below wE.heap.size wE ((((wr.setCell ⟨g2, 4, none⟩ (.int .u8 ((T : Int) / 16777216))).setCell ⟨g2, 5, none⟩ (.int .u8 ((T : Int) / 65536))).setCell ⟨g2, 6, none⟩ (.int .u8 ((T : Int) / 256 % 256))).setCell ⟨g2, 7, none⟩ (.int .u8 ((T : Int) % 256))) :=
            (((hnx.setCell (p := ⟨g2, 4, none⟩) hbg2 _).setCell (p := ⟨g2, 5, none⟩) hbg2 _).setCell (p := ⟨g2, 6, none⟩) hbg2 _).setCell (p := ⟨g2, 7, none⟩) hbg2 _
          have hgot := (own_bytes hownE).below hbF
          have hwant := own_bytes hfin
          have hml : (msgBytes kind ps).length = T := by rw [HTE.out]; simp [msgBytes, hd4, Lib.beBytes_length]; omega
          have HEQ := equal_hid _ _ _ _ _ _ _ hgot hwant
          rw [hml] at HEQ
          have hbA := hbw.trans (hbF.mono hbw.size)
          clear hfin hbF hgot hwant hml hownE hown hnx
          go_wp2_with fail
          refine HEQ.out.mono ?_
          rintro e w5 ⟨rfl, rfl⟩
          go_wp2
          go_ret
          exact ⟨by simp, hbA⟩
    · exact absurd hf hnf
  · go_wp2
    go_ret
    exact ⟨rfl, Below.refl _ _⟩
end Go.Proofs.YbulkcrpmFmt
