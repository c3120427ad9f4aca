/-
  THE LAWS' OWN HELPERS BY THEIR CONTRACTS: zzs4666bfits (6), zzs4666bmsg (7), zzs4666bpad (9).
-/
import Derived.Test.YbulkcrpmFmtRows
import Derived.Test.YbulkcrpmFmtMem
import Derived.Test.YbulkcrpmFmtPlain
import Derived.Deep.RegionLaw
import Derived.Deep.AppendLies
import Derived.WalkLawsBesides
namespace Go.Proofs.YbulkcrpmFmt
open Go Go.RowKit

set_option maxHeartbeats 400000 in
theorem fits_any (pa : Option Addr) (pc : Nat) (ps : List (Nat × List UInt8)) (w : World) (hnp : ps.length ≤ 20000) (hlen : ∀ p ∈ ps, p.2.length ≤ 140737488355328) (hps : ParsAt w pa ps) :
    Calls Ybaf.prog 6 #[.slice pa ps.length pc] w fun e w' => ((Fits ps ∧ e = .returned (.bool true)) ∨ (¬ Fits ps ∧ e = .returned (.bool false))) ∧ w' = w := by
  go_enter Ybaf.func6, Ybaf.ntmps6
  go_wp2
  go_loop [3, 8] (fun tot i => ∃ k : Nat, k ≤ ps.length ∧ i = .int .i64 k ∧ tot = .int .i64 (8 + ((bodyOf (ps.take k)).length : Int)) ∧ (∀ p ∈ ps.take k, parLen p ≤ 65528) ∧ 8 + (bodyOf (ps.take k)).length ≤ 65536) (fun _ i => ps.length - (intOf i).toNat)
  case atStart => exact ⟨0, Nat.zero_le _, rfl, by simp [bodyOf], by simp, by simp [bodyOf]⟩
  case round =>
    obtain ⟨k, hk, rfl, rfl, hall, hbd⟩ := hrel
    by_cases hlt : k < ps.length
    · obtain ⟨p, hp⟩ : ∃ p, ps[k]? = some p := ⟨ps[k], by simp [hlt]⟩
      have hpm : p ∈ ps := List.mem_of_getElem? hp
      obtain ⟨g, o, rfl, hc0, va, c, hc1, hbs⟩ := hps k p hp
      have hpl := hlen p hpm
      have hstep : (bodyOf (ps.take (k + 1))).length = (bodyOf (ps.take k)).length + (parLen p + pad (parLen p)) := by rw [take_snoc hp, bodyOf_snoc, List.length_append, parBytes_length]
      have hall' : parLen p ≤ 65528 → ∀ q ∈ ps.take (k + 1), parLen q ≤ 65528 := by
        intro h q hq
        rw [take_snoc hp, List.mem_append, List.mem_singleton] at hq
        rcases hq with hq | rfl
        · exact hall q hq
        · exact h
      have htk := bodyOf_take_le ps (k + 1)
      obtain ⟨tg, bs⟩ := p
      simp only [parLen] at hstep hpl hall'
      have HS : Hid ((bodyOf (ps.take (k + 1))).length = (bodyOf (ps.take k)).length + (4 + bs.length + pad (4 + bs.length))) := hstep
      have hpd : pad (4 + bs.length) = (4 - (4 + bs.length) % 4) % 4 := rfl
      have HP : Hid (pad (4 + bs.length) = (4 - (4 + bs.length) % 4) % 4) := hpd
      clear hstep hpd hc0 hbs
      by_cases hL : 4 + bs.length ≤ 65528
      · by_cases hT : 8 + (bodyOf (ps.take k)).length + (4 + bs.length + (4 - (4 + bs.length) % 4) % 4) ≤ 65536
        · go_wp2
          go_round
          case rel => exact ⟨k + 1, by omega, by go_num, by rw [HS.out, HP.out]; exact congrArg _ (by omega), hall' hL, by rw [HS.out, HP.out]; omega⟩
          case measure => simp [intOf]; omega
        · go_wp2
          go_ret
          refine ⟨Or.inr ⟨fun hf => ?_, rfl⟩, rfl⟩
          have h1 := HS.out
          have h2 := HP.out
          have h3 := hf.2
          omega
      · go_wp2
        go_ret
        exact ⟨Or.inr ⟨fun hf => hL (hf.1 _ hpm), rfl⟩, rfl⟩
    · go_wp2
      go_ret
      have hke : ps.take k = ps := List.take_of_length_le (by omega)
      rw [hke] at hall hbd
      exact ⟨Or.inl ⟨⟨hall, hbd⟩, rfl⟩, rfl⟩

def sliceLen : Value → Nat
  | .slice _ l _ => l
  | _ => 0
theorem pad_step (n j : Nat) (hj : j ≤ pad n) : ((n + j) % 4 = 0 ↔ j = pad n) := by unfold pad at *; omega

set_option maxHeartbeats 400000 in
/-- zzs4666bpad, its argument a row of the call's own: zeros to a multiple of four. -/
theorem pad_any (base n : Nat) (v : Value) (xs : List Value) (w : World) (hown : w.ownsRow base 5 1 v n xs) (hn : 0 < n) (hbase : base ≤ w.heap.size) (hlim : n ≤ 100000000000000) :
    Calls Ybaf.prog 9 #[v] w fun e w' => ∃ v', e = .returned v' ∧ w'.ownsRow base 5 1 v' (n + pad n) (xs ++ List.replicate (pad n) (.int .u8 0)) ∧ Below base w w' := by
  obtain ⟨i5, hi, hz0, hz1, hz2⟩ := info_parts (show (Ybaf.prog.info? 5).map (fun i => (i.zero, i.size, i.bytes)) = some (some (.int .u8 0), 1, 1) from by kernel_rfl)
  have hp4 := pad_lt n
  go_enter Ybaf.func9, Ybaf.ntmps9
  go_wp2
  go_loopw [0] (fun u wr => ∃ j : Nat, j ≤ pad n ∧ wr.ownsRow base 5 1 u (n + j) (xs ++ List.replicate j (.int .u8 0)) ∧ Below base w wr) (fun u _ => n + 4 - sliceLen u)
  case atStart => exact ⟨0, Nat.zero_le _, by simpa using hown, Below.refl _ _⟩
  case round =>
    obtain ⟨j, hj, ho, hb⟩ := hrel
    have hst := pad_step n j hj
    have hs := hb.size
    obtain ⟨g, cap, rfl, hbg, hnc, hgl⟩ := own_form ho (by omega)
    by_cases hq : (n + j) % 4 = 0
    · obtain rfl := hst.1 hq
      have hq' : ((n : Int) + (pad n : Int)) % 4 = 0 := by omega
      go_wp2
      go_ret
      exact ⟨_, rfl, ho, hb⟩
    · have hq' : ¬ ((n : Int) + (j : Int)) % 4 = 0 := by omega
      have hj' : j < pad n := by rcases Nat.lt_or_ge j (pad n) with h | h <;> omega
      go_wp2_with (at_builtin; refine wpList_append_own _ rfl (.tmp 7) (.tmp 8) 25 rfl base 5 i5 (.int .u8 0) 1 1 Ybaf.underlying25 hi hz0 hz1 hz2 rfl (by decide) _ _ _ rfl (ho.alloc _) ⟨wr.heap.size, 0, none⟩ 1 1 [.int .u8 0] rfl rfl (cell_one_new _ _ _) (by intro u hu; simp at hu; subst hu; rfl) (by unfold maxLen; omega) (by omega) (by simp; omega) ?_)
      intro v' w1 ho1 hg1 _
      have hb1 : Below base w w1 := (hb.alloc (by omega) _).grown hg1 (by simp; omega) (own_row_ge ho)
      have ho2 : w1.ownsRow base 5 1 v' (n + (j + 1)) (xs ++ List.replicate (j + 1) (.int .u8 0)) := by rw [List.replicate_succ']; exact ho1
      obtain ⟨g1, cap1, rfl, _⟩ := own_form ho2 (by omega)
      clear ho1 hg1 ho hb
      go_wp2
      go_roundw
      case rel => exact ⟨j + 1, by omega, ho2, hb1⟩
      case measure => simp [sliceLen]; omega
end Go.Proofs.YbulkcrpmFmt
