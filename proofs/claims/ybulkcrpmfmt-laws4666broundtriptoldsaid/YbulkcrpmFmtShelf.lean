/-
  DERIVED: THE SHELF's CONTRACTS AT THIS DUMP, IN PLAIN WORDS (tools/lay-plain.mjs out of 'YbafShelf.lean', which tools/lay-shelf.mjs wrote): THE SAME DECLARATIONS UNDER THE SAME NAMES: 'import', 'namespace', 'open', 'def', 'theorem' AND NOTHING ELSE: no command of the shelf's: FOR A HAND-IN. Each laying: the table of numbers ('.._ren') and one theorem, a field a fact of the dump's own or the kernel's comparison; each contract: ONE APPLICATION.
-/
import Derived.Ground.MnProg
import Derived.Shelf.Bin.BEUint16
import Derived.Shelf.Bin.BEAppendUint16
import Derived.Shelf.Bin.BEUint32
import Derived.Shelf.Bin.BEPutUint32
import Derived.Shelf.Bin.BEAppendUint16Arg
import Derived.Shelf.Bin.ReadersZ
import Derived.Shelf.Bytes.SlSearch0
import Derived.Shelf.Bytes.SlEqualAll
import Derived.Shelf.Bytes.Small
import Derived.Test.YbulkcrpmFmtProg
namespace Go.Proofs
open Go.Shelf
def Ybaf.laysBin36_ren : Go.Shelf.Ren := ⟨fun | 36 => 19 | n => n, fun | 37 => 50 | 22 => 25 | 23 => 22 | 0 => 0 | 5 => 5 | 45 => 32 | n => n, fun | n => n⟩
theorem Ybaf.laysBin36 : Go.Proofs.LaysBin.n36 Ybaf.prog Ybaf.laysBin36_ren := {
  mixed := by kernel_rfl
  f36 := Ybaf.func19.trans (congrArg some (by kernel_rfl))
  t0 := Ybaf.underlying0
  a0 := Ybaf.isAgg0
  z0 := Ybaf.sizeOf0
  v0 := Ybaf.zeroValue0
  i0 := by kernel_rfl
  t5 := Ybaf.underlying5
  a5 := Ybaf.isAgg5
  z5 := Ybaf.sizeOf5
  v5 := Ybaf.zeroValue5
  i5 := by kernel_rfl
  t22 := Ybaf.underlying25
  a22 := Ybaf.isAgg25
  z22 := Ybaf.sizeOf25
  v22 := Ybaf.zeroValue25
  i22 := by kernel_rfl
  t23 := Ybaf.underlying22
  a23 := Ybaf.isAgg22
  z23 := Ybaf.sizeOf22
  v23 := Ybaf.zeroValue22
  i23 := by kernel_rfl
  t37 := Ybaf.underlying50
  a37 := Ybaf.isAgg50
  z37 := Ybaf.sizeOf50
  v37 := Ybaf.zeroValue50
  i37 := by kernel_rfl
  t45 := Ybaf.underlying32
  a45 := Ybaf.isAgg32
  z45 := Ybaf.sizeOf32
  v45 := Ybaf.zeroValue32
  i45 := by kernel_rfl }
open Go.RowKit in
/-- binary.BigEndian.Uint16: "Uint16 returns the uint16 representation of b[0:2].": THE NUMBER THAT THE FIRST 2 BYTES SPELL, the greatest byte first ('Lib.beNat'). Of what was there nothing has turned (the receiver, an empty struct, is laid in a new block without cells; the statement's order is drawn). (LAID: no walk: one application.) -/
theorem Ybaf.binary_BE_Uint16 (g o n c : Nat) (b0 b1 : UInt8) (w : World) (hn : 2 ≤ n) (c0 : w.cell? ⟨g, o, none⟩ = some (.int .u8 b0.toNat)) (c1 : w.cell? ⟨g, o + 1, none⟩ = some (.int .u8 b1.toNat)) :
    Calls Ybaf.prog 19 #[.agg #[], .slice (some ⟨g, o, none⟩) n c] w fun e w' => e = .returned (.int .u16 (Lib.beNat [b0, b1])) ∧ Below w.heap.size w w' := Any.binary_BE_Uint16 Ybaf.laysBin36 g o n c b0 b1 w hn c0 c1
def Ybaf.laysBin38_ren : Go.Shelf.Ren := ⟨fun | 38 => 15 | n => n, fun | 37 => 50 | 22 => 25 | 23 => 22 | 0 => 0 | 45 => 32 | 5 => 5 | n => n, fun | n => n⟩
theorem Ybaf.laysBin38 : Go.Proofs.LaysBin.n38 Ybaf.prog Ybaf.laysBin38_ren := {
  mixed := by kernel_rfl
  f38 := Ybaf.func15.trans (congrArg some (by kernel_rfl))
  t0 := Ybaf.underlying0
  a0 := Ybaf.isAgg0
  z0 := Ybaf.sizeOf0
  v0 := Ybaf.zeroValue0
  i0 := by kernel_rfl
  t5 := Ybaf.underlying5
  a5 := Ybaf.isAgg5
  z5 := Ybaf.sizeOf5
  v5 := Ybaf.zeroValue5
  i5 := by kernel_rfl
  t22 := Ybaf.underlying25
  a22 := Ybaf.isAgg25
  z22 := Ybaf.sizeOf25
  v22 := Ybaf.zeroValue25
  i22 := by kernel_rfl
  t23 := Ybaf.underlying22
  a23 := Ybaf.isAgg22
  z23 := Ybaf.sizeOf22
  v23 := Ybaf.zeroValue22
  i23 := by kernel_rfl
  t37 := Ybaf.underlying50
  a37 := Ybaf.isAgg50
  z37 := Ybaf.sizeOf50
  v37 := Ybaf.zeroValue50
  i37 := by kernel_rfl
  t45 := Ybaf.underlying32
  a45 := Ybaf.isAgg32
  z45 := Ybaf.sizeOf32
  v45 := Ybaf.zeroValue32
  i45 := by kernel_rfl }
open Go.RowKit in
/-- binary.BigEndian.AppendUint16: "AppendUint16 appends the bytes of v to b and returns the appended slice.": WHAT COMES BACK OWNS b's CELLS AND, BEHIND THEM, v's 2 BYTES, the greatest first ('Lib.beBytes 2 v'). Below the call's own blocks nothing has turned. (LAID: no walk: one application.) -/
theorem Ybaf.binary_BE_AppendUint16 (B n v : Nat) (hv : v < 65536) (sv : Value) (xs : List Value) (w : World) (hown : w.ownsRow B 5 1 sv n xs) (hBw : B ≤ w.heap.size) (hlim : n + 2 ≤ 140737488355328) :
    Calls Ybaf.prog 15 #[.agg #[], sv, .int .u16 v] w fun e w' => ∃ v', e = .returned v' ∧ w'.ownsRow B 5 1 v' (n + 2) (xs ++ Lib.byteCells (Lib.beBytes 2 v)) ∧ Below B w w' := Any.binary_BE_AppendUint16 Ybaf.laysBin38 B n v hv sv xs w hown hBw hlim
def Ybaf.laysBin39_ren : Go.Shelf.Ren := ⟨fun | 39 => 12 | n => n, fun | 37 => 50 | 22 => 25 | 29 => 48 | 0 => 0 | 5 => 5 | 45 => 32 | n => n, fun | n => n⟩
theorem Ybaf.laysBin39 : Go.Proofs.LaysBin.n39 Ybaf.prog Ybaf.laysBin39_ren := {
  mixed := by kernel_rfl
  f39 := Ybaf.func12.trans (congrArg some (by kernel_rfl))
  t0 := Ybaf.underlying0
  a0 := Ybaf.isAgg0
  z0 := Ybaf.sizeOf0
  v0 := Ybaf.zeroValue0
  i0 := by kernel_rfl
  t5 := Ybaf.underlying5
  a5 := Ybaf.isAgg5
  z5 := Ybaf.sizeOf5
  v5 := Ybaf.zeroValue5
  i5 := by kernel_rfl
  t22 := Ybaf.underlying25
  a22 := Ybaf.isAgg25
  z22 := Ybaf.sizeOf25
  v22 := Ybaf.zeroValue25
  i22 := by kernel_rfl
  t29 := Ybaf.underlying48
  a29 := Ybaf.isAgg48
  z29 := Ybaf.sizeOf48
  v29 := Ybaf.zeroValue48
  i29 := by kernel_rfl
  t37 := Ybaf.underlying50
  a37 := Ybaf.isAgg50
  z37 := Ybaf.sizeOf50
  v37 := Ybaf.zeroValue50
  i37 := by kernel_rfl
  t45 := Ybaf.underlying32
  a45 := Ybaf.isAgg32
  z45 := Ybaf.sizeOf32
  v45 := Ybaf.zeroValue32
  i45 := by kernel_rfl }
open Go.RowKit in
/-- binary.BigEndian.Uint32: "Uint32 returns the uint32 representation of b[0:4].": THE NUMBER THAT THE FIRST 4 BYTES SPELL, the greatest byte first ('Lib.beNat'). Of what was there nothing has turned (the receiver, an empty struct, is laid in a new block without cells; the statement's order is drawn). (LAID: no walk: one application.) -/
theorem Ybaf.binary_BE_Uint32 (g o n c : Nat) (b0 b1 b2 b3 : UInt8) (w : World) (hn : 4 ≤ n) (c0 : w.cell? ⟨g, o, none⟩ = some (.int .u8 b0.toNat)) (c1 : w.cell? ⟨g, o + 1, none⟩ = some (.int .u8 b1.toNat)) (c2 : w.cell? ⟨g, o + 2, none⟩ = some (.int .u8 b2.toNat)) (c3 : w.cell? ⟨g, o + 3, none⟩ = some (.int .u8 b3.toNat)) :
    Calls Ybaf.prog 12 #[.agg #[], .slice (some ⟨g, o, none⟩) n c] w fun e w' => e = .returned (.int .u32 (Lib.beNat [b0, b1, b2, b3])) ∧ Below w.heap.size w w' := Any.binary_BE_Uint32 Ybaf.laysBin39 g o n c b0 b1 b2 b3 w hn c0 c1 c2 c3
def Ybaf.laysBin40_ren : Go.Shelf.Ren := ⟨fun | 40 => 17 | n => n, fun | 37 => 50 | 22 => 25 | 29 => 48 | 0 => 0 | 5 => 5 | 45 => 32 | n => n, fun | n => n⟩
theorem Ybaf.laysBin40 : Go.Proofs.LaysBin.n40 Ybaf.prog Ybaf.laysBin40_ren := {
  mixed := by kernel_rfl
  f40 := Ybaf.func17.trans (congrArg some (by kernel_rfl))
  t0 := Ybaf.underlying0
  a0 := Ybaf.isAgg0
  z0 := Ybaf.sizeOf0
  v0 := Ybaf.zeroValue0
  i0 := by kernel_rfl
  t5 := Ybaf.underlying5
  a5 := Ybaf.isAgg5
  z5 := Ybaf.sizeOf5
  v5 := Ybaf.zeroValue5
  i5 := by kernel_rfl
  t22 := Ybaf.underlying25
  a22 := Ybaf.isAgg25
  z22 := Ybaf.sizeOf25
  v22 := Ybaf.zeroValue25
  i22 := by kernel_rfl
  t29 := Ybaf.underlying48
  a29 := Ybaf.isAgg48
  z29 := Ybaf.sizeOf48
  v29 := Ybaf.zeroValue48
  i29 := by kernel_rfl
  t37 := Ybaf.underlying50
  a37 := Ybaf.isAgg50
  z37 := Ybaf.sizeOf50
  v37 := Ybaf.zeroValue50
  i37 := by kernel_rfl
  t45 := Ybaf.underlying32
  a45 := Ybaf.isAgg32
  z45 := Ybaf.sizeOf32
  v45 := Ybaf.zeroValue32
  i45 := by kernel_rfl }
open Go.RowKit in
/-- binary.BigEndian.PutUint32: "PutUint32 stores v into b[0:4].": v's 4 BYTES, the greatest first ('Lib.beBytes 4 v'), ARE LAID IN THE SLICE's FIRST 4 CELLS ('World.setCells'); nothing else turns (the receiver, an empty struct, is laid in a new block without cells). (LAID: no walk: one application.) -/
theorem Ybaf.binary_BE_PutUint32 (g o n c v : Nat) (hv : v < 4294967296) (x0 x1 x2 x3 : Value) (w : World) (hn : 4 ≤ n) (c0 : w.cell? ⟨g, o, none⟩ = some x0) (c1 : w.cell? ⟨g, o + 1, none⟩ = some x1) (c2 : w.cell? ⟨g, o + 2, none⟩ = some x2) (c3 : w.cell? ⟨g, o + 3, none⟩ = some x3) (f0 : w.frozen? ⟨g, o, none⟩ = false) (f1 : w.frozen? ⟨g, o + 1, none⟩ = false) (f2 : w.frozen? ⟨g, o + 2, none⟩ = false) (f3 : w.frozen? ⟨g, o + 3, none⟩ = false) :
    Calls Ybaf.prog 17 #[.agg #[], .slice (some ⟨g, o, none⟩) n c, .int .u32 v] w fun e w' => e = .returned (.tuple #[]) ∧ w' = (w.alloc (.cells #[] 50)).setCells g o (Lib.byteCells (Lib.beBytes 4 v)) := Any.binary_BE_PutUint32 Ybaf.laysBin40 g o n c v hv x0 x1 x2 x3 w hn c0 c1 c2 c3 f0 f1 f2 f3
open Go.RowKit in
/-- binary.BigEndian.AppendUint16, b A SLICE THAT CAME IN, holding 'olds': WHERE n + 2 ≤ cap: THE SAME BASE, 2 LONGER; v's bytes are laid in b's spare capacity ('World.setCells'): WHOEVER SHARES THAT MEMORY SEES THEM. WHERE NOT: a slice that owns 'olds' and v's bytes in a new row; of what was there nothing has turned. (LAID: no walk: one application.) -/
theorem Ybaf.binary_BE_AppendUint16_arg (g o n cap v : Nat) (hv : v < 65536) (olds : List Value) (w : World) (hlo : olds.length = n) (holds : ∀ j u, olds[j]? = some u → w.cell? ⟨g, o + j, none⟩ = some u) (hspare : n + 2 ≤ cap → ∀ j, j < 2 → (w.cell? ⟨g, o + n + j, none⟩).isSome = true ∧ w.frozen? ⟨g, o + n + j, none⟩ = false) (hlim : n + 2 ≤ 140737488355328) :
    Calls Ybaf.prog 15 #[.agg #[], .slice (some ⟨g, o, none⟩) n cap, .int .u16 v] w fun e w' =>
      (n + 2 ≤ cap ∧ e = .returned (.slice (some ⟨g, o, none⟩) (n + 2) cap) ∧ w' = ((w.alloc (.cells #[] 50)).alloc (.cells (Lib.byteCells (Lib.beBytes 2 v)).toArray 5)).setCells g (o + n) (Lib.byteCells (Lib.beBytes 2 v))) ∨
      (cap < n + 2 ∧ ∃ v', e = .returned v' ∧ w'.ownsRow (w.heap.size + 2) 5 1 v' (n + 2) (olds ++ Lib.byteCells (Lib.beBytes 2 v)) ∧ Below w.heap.size w w') := Any.binary_BE_AppendUint16_arg Ybaf.laysBin38 g o n cap v hv olds w hlo holds hspare hlim
open Go.RowKit in
/-- binary.BigEndian.Uint16, ITS PREMISES 'open_ints'' CONCLUSION TO THE LETTER: a slice at WHATEVER address a, the numbers zs that its cells hold: THE NUMBER THAT THE FIRST 2 SPELL ('Lib.beZ'). (LAID: no walk: one application.) -/
theorem Ybaf.binary_BE_Uint16_z (a : Addr) (n c : Nat) (zs : List Int) (w : World) (hn : 2 ≤ n) (hl : 2 ≤ zs.length) (hcell : ∀ i, i < zs.length → w.cell? (a.add i) = some (.int .u8 (zs.getD i 0))) (hw : ∀ z ∈ zs, (Lit.int .u8 z).wf = true) :
    Calls Ybaf.prog 19 #[.agg #[], .slice (some a) n c] w fun e w' => e = .returned (.int .u16 (Lib.beZ (zs.take 2))) ∧ Below w.heap.size w w' := Any.binary_BE_Uint16_z Ybaf.laysBin36 a n c zs w hn hl hcell hw
open Go.RowKit in
/-- binary.BigEndian.Uint32, ITS PREMISES 'open_ints'' CONCLUSION TO THE LETTER: a slice at WHATEVER address a, the numbers zs that its cells hold: THE NUMBER THAT THE FIRST 4 SPELL ('Lib.beZ'). (LAID: no walk: one application.) -/
theorem Ybaf.binary_BE_Uint32_z (a : Addr) (n c : Nat) (zs : List Int) (w : World) (hn : 4 ≤ n) (hl : 4 ≤ zs.length) (hcell : ∀ i, i < zs.length → w.cell? (a.add i) = some (.int .u8 (zs.getD i 0))) (hw : ∀ z ∈ zs, (Lit.int .u8 z).wf = true) :
    Calls Ybaf.prog 12 #[.agg #[], .slice (some a) n c] w fun e w' => e = .returned (.int .u32 (Lib.beZ (zs.take 4))) ∧ Below w.heap.size w w' := Any.binary_BE_Uint32_z Ybaf.laysBin39 a n c zs w hn hl hcell hw
def Ybaf.lays115_ren : Go.Shelf.Ren := ⟨fun | 115 => 10 | n => n, fun | 37 => 25 | 4 => 4 | 9 => 9 | 5 => 5 | n => n, fun | n => n⟩
theorem Ybaf.lays115 : Go.Proofs.Lays.n115 Ybaf.prog Ybaf.lays115_ren := {
  mixed := by kernel_rfl
  f115 := Ybaf.func10.trans (congrArg some (by kernel_rfl))
  t4 := Ybaf.underlying4
  a4 := Ybaf.isAgg4
  z4 := Ybaf.sizeOf4
  v4 := Ybaf.zeroValue4
  t9 := Ybaf.underlying9
  a9 := Ybaf.isAgg9
  z9 := Ybaf.sizeOf9
  v9 := Ybaf.zeroValue9
  t37 := Ybaf.underlying25
  a37 := Ybaf.isAgg25
  z37 := Ybaf.sizeOf25
  v37 := Ybaf.zeroValue25 }
open Go.Proofs Go.RowKit Go.Lib in
/-- bytes.Equal, each argument with what 'string(..)' of it gives. (LAID: no walk: one application.) -/
theorem Ybaf.bytes_Equal_strs (v1 v2 : Value) (t1 t2 : ByteArray) (w : World) (h1 : (convert 25 9 v1).run Ybaf.prog w = .ok (.string t1) w) (h2 : (convert 25 9 v2).run Ybaf.prog w = .ok (.string t2) w) :
    Calls Ybaf.prog 10 #[v1, v2] w fun e w' => e = .returned (.bool (t1.toList == t2.toList)) ∧ w' = w := Any.bytes_Equal_strs Ybaf.lays115 v1 v2 t1 t2 w h1 h2
def Ybaf.laysnb115_ren : Go.Shelf.Ren := ⟨fun | 115 => 10 | n => n, fun | 37 => 25 | 4 => 4 | 9 => 9 | 5 => 5 | n => n, fun | n => n⟩
theorem Ybaf.laysnb115 : Go.Proofs.Lays.nb115 Ybaf.prog Ybaf.laysnb115_ren := {
  mixed := by kernel_rfl
  f115 := Ybaf.func10.trans (congrArg some (by kernel_rfl))
  t4 := Ybaf.underlying4
  a4 := Ybaf.isAgg4
  z4 := Ybaf.sizeOf4
  v4 := Ybaf.zeroValue4
  t9 := Ybaf.underlying9
  a9 := Ybaf.isAgg9
  z9 := Ybaf.sizeOf9
  v9 := Ybaf.zeroValue9
  t37 := Ybaf.underlying25
  a37 := Ybaf.isAgg25
  z37 := Ybaf.sizeOf25
  v37 := Ybaf.zeroValue25
  t5 := Ybaf.underlying5
  a5 := Ybaf.isAgg5
  z5 := Ybaf.sizeOf5
  v5 := Ybaf.zeroValue5 }
/-- bytes.Equal: WHOLE. (LAID: no walk: one application.) -/
theorem Ybaf.bytes_Equal_all (p1 p2 : Option Addr) (n c m d : Nat) (xs ys : List Int) (w : World) (hx : xs.length = n) (hy : ys.length = m) (h1 : Lib.BytesIn w p1 n xs) (h2 : Lib.BytesIn w p2 m ys) :
    Calls Ybaf.prog 10 #[.slice p1 n c, .slice p2 m d] w fun e w' => e = .returned (.bool (Lib.bytesOf xs == Lib.bytesOf ys)) ∧ w' = w := Any.bytes_Equal_all Ybaf.laysnb115 p1 p2 n c m d xs ys w hx hy h1 h2
/-- bytes.Equal: "Equal reports whether a and b are the same length and contain the same bytes. A nil argument is equivalent to an empty slice.": IT RETURNS 'the bytes of the one == the bytes of the other'; the world is as it was. THE TWO ARGUMENTS COME AS WHATEVER VALUES, each with the one fact that the walk wants of it: what 'string(..)' of it gives: for a slice whose cells you know: 'run_convert_bytes_arg' (Derived/Laws/BytesArg.lean) hands that fact; for a nil one: 'run_convert_bytes_nil' (with xs := []). (LAID: no walk: one application.) -/
theorem Ybaf.bytes_Equal (v1 v2 : Value) (xs ys : List Int) (w : World) (h1 : (convert 25 9 v1).run Ybaf.prog w = .ok (.string (strOfNums xs)) w) (h2 : (convert 25 9 v2).run Ybaf.prog w = .ok (.string (strOfNums ys)) w) :
    Calls Ybaf.prog 10 #[v1, v2] w fun e w' => e = .returned (.bool (Lib.bytesOf xs == Lib.bytesOf ys)) ∧ w' = w := Any.bytes_Equal Ybaf.lays115 v1 v2 xs ys w h1 h2
end Go.Proofs
