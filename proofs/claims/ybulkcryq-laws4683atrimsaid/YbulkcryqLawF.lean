/-
  The law's call of trimFront, whatever the list: by front_any, or by front_nil.
-/
import Derived.Test.YbulkcryqFront
import Derived.Test.YbulkcryqLawA
import Derived.Maps.AppendAt
import Derived.Laws.OwnMore
namespace Go.Proofs.Ybulkcryq
open Go Go.RowKit Go.Shelf

/-- Behind trimFront, as the law sees it. -/
structure LawF (X : Nat) (ka : Option Addr) (kc : Nat) (cs : List (Int × Int)) (ks : List Bool) (sh : Int) (kl tl : List (Int × Int)) (pk : List UInt8) (w V : World) : Prop where
  kept : KeptB w.heap.size (fun _ => False) w V
  size : w.heap.size + 2 < V.heap.size
  b0 : Boxed V w.heap.size 23 (.slice ka ks.length kc)
  b1 : Boxed V (w.heap.size + 1) 21 (.int .i32 sh)
  row : V.ownsRow (w.heap.size + 2) 28 2 (.slice (some ⟨w.heap.size + 2, 0, none⟩) cs.length cs.length) cs.length (chainCells cs)
  res : Res cs ks sh kl tl pk
  klog : ∃ klv, Boxed V (X + 1) 24 klv ∧ V.ownsRow w.heap.size 28 2 klv kl.length (chainCells kl)
  tlog : ∃ tlv, Boxed V (X + 1 + 1 + 1) 24 tlv ∧ V.ownsRow w.heap.size 28 2 tlv tl.length (chainCells tl)
  pack : ∃ pa cap, Boxed V X 32 (.slice pa pk.length cap) ∧ (pk ≠ [] → ∃ g o, pa = some ⟨g, o, none⟩ ∧ BytesFrom V g o pk)

theorem front_law (ka : Option Addr) (kc cE : Nat) (pE : Option Addr) (cs : List (Int × Int)) (ks : List Bool) (sh : Int) (w wr wE : World) (hn : cs.length ≤ 300) (hok : ∀ c ∈ cs, Ok c) (hks : BoolsAt w.heap.size w ka ks)
    (b0 : Boxed wr w.heap.size 23 (.slice ka ks.length kc)) (b1 : Boxed wr (w.heap.size + 1) 21 (.int .i32 sh)) (hB : Below w.heap.size w wr) (row : wr.ownsRow (w.heap.size + 2) 28 2 (.slice (some ⟨w.heap.size + 2, 0, none⟩) cs.length cs.length) cs.length (chainCells cs))
    (oE : wE.ownsRow wr.heap.size 5 1 (.slice pE (encode cs).length cE) (encode cs).length (Lib.byteCells (encode cs))) (hbE : Below wr.heap.size wr wE) (X : Nat) (hX : wE.heap.size = X) :
    Calls Yba.prog 7 #[.pointer (some ⟨X, 0, none⟩), .func (.func 5) #[] #[.pointer (some ⟨X + 1, 0, none⟩), .pointer (some ⟨X + 1 + 1, 0, none⟩), .pointer (some ⟨w.heap.size, 0, none⟩)], .func (.func 6) #[] #[.pointer (some ⟨X + 1 + 1 + 1, 0, none⟩), .pointer (some ⟨w.heap.size + 1, 0, none⟩)]]
      ((((wE.alloc (.cells #[.slice pE (encode cs).length cE] 32)).alloc (.cells #[.slice none 0 0] 24)).alloc (.cells #[.int .i64 0] 3)).alloc (.cells #[.slice none 0 0] 24)) fun e V =>
      (∃ v, e = .returned v) ∧ ∃ kl tl pk, LawF X ka kc cs ks sh kl tl pk w V := by
  obtain ⟨wF, hwF⟩ : ∃ wF, ((((wE.alloc (.cells #[.slice pE (encode cs).length cE] 32)).alloc (.cells #[.slice none 0 0] 24)).alloc (.cells #[.int .i64 0] 3)).alloc (.cells #[.slice none 0 0] 24)) = wF := ⟨_, rfl⟩
  rw [hwF]
  have c0 : Boxed wF X 32 (.slice pE (encode cs).length cE) := by
    rw [← hwF, ← hX]; exact (((Boxed.new wE 32 _).alloc _).alloc _).alloc _
  have c1 : Boxed wF (X + 1) 24 (.slice none 0 0) := by
    rw [← hwF, ← hX]; have := ((Boxed.new (wE.alloc (.cells #[.slice pE (encode cs).length cE] 32)) 24 (.slice none 0 0)).alloc (.cells #[.int .i64 0] 3)).alloc (.cells #[.slice none 0 0] 24); rwa [World.size_alloc] at this
  have c2 : Boxed wF (X + 1 + 1) 3 (.int .i64 0) := by
    rw [← hwF, ← hX]; have := (Boxed.new ((wE.alloc (.cells #[.slice pE (encode cs).length cE] 32)).alloc (.cells #[.slice none 0 0] 24)) 3 (.int .i64 0)).alloc (.cells #[.slice none 0 0] 24); rwa [World.size_alloc, World.size_alloc] at this
  have c3 : Boxed wF (X + 1 + 1 + 1) 24 (.slice none 0 0) := by
    rw [← hwF, ← hX]; have := Boxed.new (((wE.alloc (.cells #[.slice pE (encode cs).length cE] 32)).alloc (.cells #[.slice none 0 0] 24)).alloc (.cells #[.int .i64 0] 3)) 24 (.slice none 0 0); rwa [World.size_alloc, World.size_alloc, World.size_alloc] at this
  have hEF : Below wE.heap.size wE wF := by rw [← hwF]; exact ((((Below.refl _ wE).alloc (Nat.le_refl _) _).alloc (by simp) _).alloc (by simp; omega) _).alloc (by simp; omega) _
  have hsF : wF.heap.size = X + 4 := by rw [← hwF, ← hX]; simp
  clear hwF
  have hsr := hB.size
  have hsE := hbE.size
  have l0 := b0.lt
  have l1 := b1.lt
  have lr : w.heap.size + 2 < wr.heap.size := (row.lt _ rfl).2
  have hrF : Below wr.heap.size wr wF := hbE.trans (hEF.mono hsE)
  have hwF : Below w.heap.size w wF := hB.trans (hrF.mono hsr)
  have f0 : Boxed wF w.heap.size 23 (.slice ka ks.length kc) := (hrF.block _ l0).trans b0
  have f1 : Boxed wF (w.heap.size + 1) 21 (.int .i32 sh) := (hrF.block _ l1).trans b1
  have fr : wF.ownsRow (w.heap.size + 2) 28 2 (.slice (some ⟨w.heap.size + 2, 0, none⟩) cs.length cs.length) cs.length (chainCells cs) := (KeptB.below (S := fun _ => False) hrF).own row (fun k e => ⟨(row.lt k e).2, fun h => h⟩)
  have fE : wF.ownsRow wr.heap.size 5 1 (.slice pE (encode cs).length cE) (encode cs).length (Lib.byteCells (encode cs)) := (KeptB.below (S := fun _ => False) hEF).own oE (fun k e => ⟨(oE.lt k e).2, fun h => h⟩)
  have kwF : KeptB w.heap.size (fun _ => False) w wF := KeptB.below hwF
  have hcc : cs = [] ∨ ∃ cb cl, cs = cb ++ [cl] := by
    rcases List.eq_nil_or_concat cs with h | ⟨cb, cl, h⟩
    · exact .inl h
    · exact .inr ⟨cb, cl, by rw [h, List.concat_eq_append]⟩
  rcases hcc with rfl | ⟨cb, cl, rfl⟩
  · refine (front_nil X (X + 1) (X + 1 + 1) w.heap.size (X + 1 + 1 + 1) (w.heap.size + 1) cE pE wF c0).mono ?_
    rintro e V ⟨he, hb⟩
    have hkV : KeptB wF.heap.size (fun _ => False) wF V := KeptB.below hb
    have hsV := hb.size
    refine ⟨he, [], [], [], kwF.trans (hkV.mono (by omega) (fun _ _ h => h)), by omega, hkV.boxed f0 f0.lt (fun h => h), hkV.boxed f1 f1.lt (fun h => h), hkV.own fr (fun k e => ⟨(fr.lt k e).2, fun h => h⟩), .inl ⟨fun j hj => by simp at hj, rfl, rfl, rfl⟩,
      ⟨_, hkV.boxed c1 c1.lt (fun h => h), World.ownsRow_nil _ _ _ _⟩, ⟨_, hkV.boxed c3 c3.lt (fun h => h), World.ownsRow_nil _ _ _ _⟩, pE, cE, hkV.boxed c0 c0.lt (fun h => h), fun h => absurd rfl h⟩
  · have hL : (packB cb ++ lastB cl).length = (packB cb).length + 8 := by rw [List.length_append, lastB_length]
    rw [encode_snoc, hL] at c0 fE
    rcases fE.2 with ⟨_, h0⟩ | ⟨g, cap, cur, hv, hg1, _⟩
    · omega
    simp only [Value.slice.injEq, true_and] at hv
    obtain ⟨rfl, rfl⟩ := hv
    have hin : FrontIn w.heap.size X (X + 1) (X + 1 + 1) w.heap.size (X + 1 + 1 + 1) (w.heap.size + 1) g cE ka kc ks sh cb cl wF :=
      { list := c0, klog := c1, kcnt := c2, keeps := f0, tlog := c3, shift := f1, bools := hks.kept kwF (Nat.le_refl _) (fun _ h => h.elim), row := own_le fE hsr, ok := hok, len := by rw [List.length_append] at hn; omega,
        mL := by omega, mK := by omega, mC := by omega, mT := by omega, ne := by omega }
    refine Calls.mono (callsIn_wide.1 (front_any w.heap.size X (X + 1) (X + 1 + 1) w.heap.size (X + 1 + 1 + 1) (w.heap.size + 1) g cE ka kc ks sh cb cl wF hin)) ?_
    rintro e V ⟨he, hs, kl, tl, pk, hr, ho⟩
    have hge : wr.heap.size ≤ g := hg1
    have hk := ho.kept
    have hsV := hk.size
    have hne : ∀ k, k < wr.heap.size → ¬ (k = X ∨ k = X + 1 ∨ k = X + 1 + 1 ∨ k = X + 1 + 1 + 1 ∨ k = g) := fun k hk e => by omega
    obtain ⟨klv, k1, k2⟩ := ho.klog
    obtain ⟨tlv, t1, t2⟩ := ho.tlog
    obtain ⟨pa, cp, p1, p2⟩ := ho.pack
    refine ⟨he, kl, tl, pk, kwF.trans ⟨hk.os, hk.output, hk.size, fun k hk0 _ => hk.block k (by omega) (hne k (by omega))⟩, by omega, hk.boxed f0 f0.lt (hne _ l0), hk.boxed f1 f1.lt (hne _ l1), hk.own fr (fun k e => ⟨(fr.lt k e).2, hne k (by
      simp only [Value.ownBlock, Option.some.injEq] at e; omega)⟩), hr, ⟨klv, k1, own_le k2 (by omega)⟩, ⟨tlv, t1, own_le t2 (by omega)⟩, pa, cp, p1, p2⟩

theorem ChainsAt.kept {w w' : World} {S : Nat → Prop} {sa : Option Addr} {cs : List (Int × Int)} (h : ChainsAt w sa cs) (hk : KeptB w.heap.size S w w') (hS : ∀ k, ¬ S k) : ChainsAt w' sa cs := fun i c hi => by
  obtain ⟨g, o, rfl, h0, h1⟩ := h i c hi
  exact ⟨g, o, rfl, hk.cell h0 (World.block_lt_of_cell? w _ h0) (hS _), hk.cell h1 (World.block_lt_of_cell? w _ h1) (hS _)⟩
theorem chainCells_one (cs : List (Int × Int)) : ∀ u ∈ chainCells cs, u.oneCell' = true := by
  intro u hu
  simp only [chainCells, List.mem_flatMap] at hu
  obtain ⟨c, _, hc⟩ := hu
  simp at hc
  rcases hc with rfl | rfl <;> rfl
theorem chainCells_drop : ∀ (cs : List (Int × Int)) (j : Nat), chainCells (cs.drop j) = (chainCells cs).drop (j * 2)
  | [], j => by simp [chainCells]
  | c :: cs, 0 => by simp
  | c :: cs, j + 1 => by
    rw [List.drop_succ_cons, chainCells_drop cs j, show (j + 1) * 2 = j * 2 + 1 + 1 by omega]
    rfl
/-- The wanted list, laid: one chain, then the rest behind it. -/
theorem append_want (Wd : World) (h : Nat) (hh : Wd.heap.size = h) (t b : Int) (rest : List (Int × Int)) (m c : Nat) (hm : rest.length = m) (hml : m ≤ 300) (ad : Addr) (hnews : ∀ j u, (chainCells rest)[j]? = some u → Wd.cell? (ad.add j) = some u) :
    ∃ v' We, (Builtin.append_ #[24, 24] 24 #[.slice (some ⟨h, 0, none⟩) 1 1, .slice (some ad) m c]).run Yba.prog (Wd.alloc (.cells #[.int .i32 t, .int .i32 b] 28)) = .ok v' We ∧
      We.ownsRow h 28 2 v' ((t, b) :: rest).length (chainCells ((t, b) :: rest)) ∧ KeptB h (fun _ => False) Wd We := by
  obtain ⟨i28, hi28, hz28, hs28, hb28⟩ := info_parts Yba.info28
  subst hh
  have own := World.ownsRow_lit (base := Wd.heap.size) (e := 28) (size := 2) Wd #[.int .i32 t, .int .i32 b] 1 (Nat.le_refl _) (by decide) (by rfl)
  obtain ⟨v', We, hr, o', gr, _, _⟩ := run_append_own_at (P := Yba.prog) (Wd.alloc (.cells #[.int .i32 t, .int .i32 b] 28)) Wd.heap.size 24 24 28 i28 _ 2 8 Yba.underlying24 hi28 hz28 hs28 hb28 rfl (by decide) _ 1 _ own ad m c (chainCells rest)
    (by rw [chainCells_length, hm]) (fun j u hu => by
      have hc := hnews j u hu
      rw [World.cell?_of_block (Below.heap_alloc Wd _ _ (World.block_lt_of_cell? _ _ hc))]; exact hc) (chainCells_one rest) (by simp only [maxLen]; omega) (by omega) (by simp)
  refine ⟨v', We, hr, own_cast o' (by simp only [List.length_cons, hm]; omega) rfl, ?_⟩
  refine (KeptB.alloc _ (Nat.le_refl _)).trans (KeptB.grown gr (by simp) (fun k e hk => ?_))
  simp only [Value.ownBlock, Option.some.injEq] at e
  omega
end Go.Proofs.Ybulkcryq
