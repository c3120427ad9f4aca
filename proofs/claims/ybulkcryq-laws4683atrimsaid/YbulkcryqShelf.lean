/-
  DERIVED: THE SHELF's CONTRACTS AT THIS DUMP, IN PLAIN WORDS (tools/lay-plain.mjs out of 'YbaShelf.lean', which tools/lay-shelf.mjs wrote): THE SAME DECLARATIONS UNDER THE SAME NAMES: 'import', 'namespace', 'open', 'def', 'theorem' AND NOTHING ELSE: no command of the shelf's: FOR A HAND-IN. Each laying: the table of numbers ('.._ren') and one theorem, a field a fact of the dump's own or the kernel's comparison; each contract: ONE APPLICATION.
-/
import Derived.Ground.MnProg
import Derived.Shelf.Bin.LEUint32
import Derived.Shelf.Bin.LEAppendUint32
import Derived.Shelf.Bin.LEAppendUint32Arg
import Derived.Shelf.Bin.AppendUvarint
import Derived.Shelf.Bin.AppendVarint
import Derived.Shelf.Bin.Uvarint
import Derived.Shelf.Bin.Varint
import Derived.Shelf.Bin.ReadersZ
import Derived.Shelf.Bin.AppendUvarintArg
import Derived.Shelf.Bin.AppendVarintArg
import Derived.Shelf.Bytes.SlSearch0
import Derived.Shelf.Bytes.SlEqualAll
import Derived.Shelf.Bytes.Small
import Derived.Test.YbulkcryqProg
namespace Go.Proofs
open Go.Shelf
def Yba.laysBin30_ren : Go.Shelf.Ren := ⟨fun | 30 => 18 | n => n, fun | 25 => 40 | 22 => 29 | 29 => 42 | 0 => 0 | 5 => 5 | 45 => 52 | n => n, fun | n => n⟩
theorem Yba.laysBin30 : Go.Proofs.LaysBin.n30 Yba.prog Yba.laysBin30_ren := {
  mixed := by kernel_rfl
  f30 := Yba.func18.trans (congrArg some (by kernel_rfl))
  t0 := Yba.underlying0
  a0 := Yba.isAgg0
  z0 := Yba.sizeOf0
  v0 := Yba.zeroValue0
  i0 := by kernel_rfl
  t5 := Yba.underlying5
  a5 := Yba.isAgg5
  z5 := Yba.sizeOf5
  v5 := Yba.zeroValue5
  i5 := by kernel_rfl
  t22 := Yba.underlying29
  a22 := Yba.isAgg29
  z22 := Yba.sizeOf29
  v22 := Yba.zeroValue29
  i22 := by kernel_rfl
  t25 := Yba.underlying40
  a25 := Yba.isAgg40
  z25 := Yba.sizeOf40
  v25 := Yba.zeroValue40
  i25 := by kernel_rfl
  t29 := Yba.underlying42
  a29 := Yba.isAgg42
  z29 := Yba.sizeOf42
  v29 := Yba.zeroValue42
  i29 := by kernel_rfl
  t45 := Yba.underlying52
  a45 := Yba.isAgg52
  z45 := Yba.sizeOf52
  v45 := Yba.zeroValue52
  i45 := by kernel_rfl }
open Go.RowKit in
theorem Yba.binary_LE_Uint32 (g o n c : Nat) (b0 b1 b2 b3 : UInt8) (w : World) (hn : 4 ≤ n) (c0 : w.cell? ⟨g, o, none⟩ = some (.int .u8 b0.toNat)) (c1 : w.cell? ⟨g, o + 1, none⟩ = some (.int .u8 b1.toNat)) (c2 : w.cell? ⟨g, o + 2, none⟩ = some (.int .u8 b2.toNat)) (c3 : w.cell? ⟨g, o + 3, none⟩ = some (.int .u8 b3.toNat)) :
    Calls Yba.prog 18 #[.agg #[], .slice (some ⟨g, o, none⟩) n c] w fun e w' => e = .returned (.int .u32 (Lib.leNat [b0, b1, b2, b3])) ∧ Below w.heap.size w w' := Any.binary_LE_Uint32 Yba.laysBin30 g o n c b0 b1 b2 b3 w hn c0 c1 c2 c3
def Yba.laysBin32_ren : Go.Shelf.Ren := ⟨fun | 32 => 10 | n => n, fun | 25 => 40 | 22 => 29 | 29 => 42 | 0 => 0 | 5 => 5 | 45 => 52 | n => n, fun | n => n⟩
theorem Yba.laysBin32 : Go.Proofs.LaysBin.n32 Yba.prog Yba.laysBin32_ren := {
  mixed := by kernel_rfl
  f32 := Yba.func10.trans (congrArg some (by kernel_rfl))
  t0 := Yba.underlying0
  a0 := Yba.isAgg0
  z0 := Yba.sizeOf0
  v0 := Yba.zeroValue0
  i0 := by kernel_rfl
  t5 := Yba.underlying5
  a5 := Yba.isAgg5
  z5 := Yba.sizeOf5
  v5 := Yba.zeroValue5
  i5 := by kernel_rfl
  t22 := Yba.underlying29
  a22 := Yba.isAgg29
  z22 := Yba.sizeOf29
  v22 := Yba.zeroValue29
  i22 := by kernel_rfl
  t25 := Yba.underlying40
  a25 := Yba.isAgg40
  z25 := Yba.sizeOf40
  v25 := Yba.zeroValue40
  i25 := by kernel_rfl
  t29 := Yba.underlying42
  a29 := Yba.isAgg42
  z29 := Yba.sizeOf42
  v29 := Yba.zeroValue42
  i29 := by kernel_rfl
  t45 := Yba.underlying52
  a45 := Yba.isAgg52
  z45 := Yba.sizeOf52
  v45 := Yba.zeroValue52
  i45 := by kernel_rfl }
open Go.RowKit in
theorem Yba.binary_LE_AppendUint32 (B n v : Nat) (hv : v < 4294967296) (sv : Value) (xs : List Value) (w : World) (hown : w.ownsRow B 5 1 sv n xs) (hBw : B ≤ w.heap.size) (hlim : n + 4 ≤ 140737488355328) :
    Calls Yba.prog 10 #[.agg #[], sv, .int .u32 v] w fun e w' => ∃ v', e = .returned v' ∧ w'.ownsRow B 5 1 v' (n + 4) (xs ++ Lib.byteCells (Lib.leBytes 4 v)) ∧ Below B w w' := Any.binary_LE_AppendUint32 Yba.laysBin32 B n v hv sv xs w hown hBw hlim
open Go.RowKit in
/-- binary.LittleEndian.AppendUint32, b A SLICE THAT CAME IN, holding 'olds': WHERE n + 4 ≤ cap: THE SAME BASE, 4 LONGER; v's bytes are laid in b's spare capacity ('World.setCells'): WHOEVER SHARES THAT MEMORY SEES THEM. WHERE NOT: a slice that owns 'olds' and v's bytes in a new row; of what was there nothing has turned. (LAID: no walk: one application.) -/
theorem Yba.binary_LE_AppendUint32_arg (g o n cap v : Nat) (hv : v < 4294967296) (olds : List Value) (w : World) (hlo : olds.length = n) (holds : ∀ j u, olds[j]? = some u → w.cell? ⟨g, o + j, none⟩ = some u) (hspare : n + 4 ≤ cap → ∀ j, j < 4 → (w.cell? ⟨g, o + n + j, none⟩).isSome = true ∧ w.frozen? ⟨g, o + n + j, none⟩ = false) (hlim : n + 4 ≤ 140737488355328) :
    Calls Yba.prog 10 #[.agg #[], .slice (some ⟨g, o, none⟩) n cap, .int .u32 v] w fun e w' =>
      (n + 4 ≤ cap ∧ e = .returned (.slice (some ⟨g, o, none⟩) (n + 4) cap) ∧ w' = ((w.alloc (.cells #[] 40)).alloc (.cells (Lib.byteCells (Lib.leBytes 4 v)).toArray 5)).setCells g (o + n) (Lib.byteCells (Lib.leBytes 4 v))) ∨
      (cap < n + 4 ∧ ∃ v', e = .returned v' ∧ w'.ownsRow (w.heap.size + 2) 5 1 v' (n + 4) (olds ++ Lib.byteCells (Lib.leBytes 4 v)) ∧ Below w.heap.size w w') := Any.binary_LE_AppendUint32_arg Yba.laysBin32 g o n cap v hv olds w hlo holds hspare hlim
def Yba.laysBin47_ren : Go.Shelf.Ren := ⟨fun | 47 => 16 | n => n, fun | 22 => 29 | 33 => 53 | 4 => 4 | 5 => 5 | 45 => 52 | n => n, fun | n => n⟩
theorem Yba.laysBin47 : Go.Proofs.LaysBin.n47 Yba.prog Yba.laysBin47_ren := {
  mixed := by kernel_rfl
  f47 := Yba.func16.trans (congrArg some (by kernel_rfl))
  t4 := Yba.underlying4
  a4 := Yba.isAgg4
  z4 := Yba.sizeOf4
  v4 := Yba.zeroValue4
  i4 := by kernel_rfl
  t5 := Yba.underlying5
  a5 := Yba.isAgg5
  z5 := Yba.sizeOf5
  v5 := Yba.zeroValue5
  i5 := by kernel_rfl
  t22 := Yba.underlying29
  a22 := Yba.isAgg29
  z22 := Yba.sizeOf29
  v22 := Yba.zeroValue29
  i22 := by kernel_rfl
  t33 := Yba.underlying53
  a33 := Yba.isAgg53
  z33 := Yba.sizeOf53
  v33 := Yba.zeroValue53
  i33 := by kernel_rfl
  t45 := Yba.underlying52
  a45 := Yba.isAgg52
  z45 := Yba.sizeOf52
  v45 := Yba.zeroValue52
  i45 := by kernel_rfl }
open Go.RowKit in
theorem Yba.binary_AppendUvarint (B n x : Nat) (hx : x < 18446744073709551616) (sv : Value) (xs : List Value) (w : World) (hown : w.ownsRow B 5 1 sv n xs) (hBw : B ≤ w.heap.size) (hlim : n + 10 ≤ 140737488355328) :
    Calls Yba.prog 16 #[sv, .int .u64 x] w fun e w' => ∃ v', e = .returned v' ∧ w'.ownsRow B 5 1 v' (n + (Lib.uvarint x).length) (xs ++ Lib.byteCells (Lib.uvarint x)) ∧ Below B w w' := Any.binary_AppendUvarint Yba.laysBin47 B n x hx sv xs w hown hBw hlim
def Yba.laysBin50_ren : Go.Shelf.Ren := ⟨fun | 50 => 11 | 47 => 16 | n => n, fun | 22 => 29 | 2 => 2 | 33 => 53 | 45 => 52 | 4 => 4 | 5 => 5 | n => n, fun | n => n⟩
theorem Yba.laysBin50 : Go.Proofs.LaysBin.n50 Yba.prog Yba.laysBin50_ren := {
  mixed := by kernel_rfl
  f47 := Yba.func16.trans (congrArg some (by kernel_rfl))
  f50 := Yba.func11.trans (congrArg some (by kernel_rfl))
  t2 := Yba.underlying2
  a2 := Yba.isAgg2
  z2 := Yba.sizeOf2
  v2 := Yba.zeroValue2
  i2 := by kernel_rfl
  t4 := Yba.underlying4
  a4 := Yba.isAgg4
  z4 := Yba.sizeOf4
  v4 := Yba.zeroValue4
  i4 := by kernel_rfl
  t5 := Yba.underlying5
  a5 := Yba.isAgg5
  z5 := Yba.sizeOf5
  v5 := Yba.zeroValue5
  i5 := by kernel_rfl
  t22 := Yba.underlying29
  a22 := Yba.isAgg29
  z22 := Yba.sizeOf29
  v22 := Yba.zeroValue29
  i22 := by kernel_rfl
  t33 := Yba.underlying53
  a33 := Yba.isAgg53
  z33 := Yba.sizeOf53
  v33 := Yba.zeroValue53
  i33 := by kernel_rfl
  t45 := Yba.underlying52
  a45 := Yba.isAgg52
  z45 := Yba.sizeOf52
  v45 := Yba.zeroValue52
  i45 := by kernel_rfl }
open Go.RowKit in
theorem Yba.binary_AppendVarint (B n : Nat) (x : Int) (h0 : -9223372036854775808 ≤ x) (h1 : x ≤ 9223372036854775807) (sv : Value) (xs : List Value) (w : World) (hown : w.ownsRow B 5 1 sv n xs) (hBw : B ≤ w.heap.size) (hlim : n + 10 ≤ 140737488355328) :
    Calls Yba.prog 11 #[sv, .int .i64 x] w fun e w' => ∃ v', e = .returned v' ∧ w'.ownsRow B 5 1 v' (n + (Lib.uvarint (Lib.zigzag x)).length) (xs ++ Lib.byteCells (Lib.uvarint (Lib.zigzag x))) ∧ Below B w w' := Any.binary_AppendVarint Yba.laysBin50 B n x h0 h1 sv xs w hown hBw hlim
def Yba.laysBin45_ren : Go.Shelf.Ren := ⟨fun | 45 => 21 | n => n, fun | 22 => 29 | 33 => 53 | 3 => 3 | 45 => 52 | 0 => 0 | 5 => 5 | 4 => 4 | n => n, fun | n => n⟩
theorem Yba.laysBin45 : Go.Proofs.LaysBin.n45 Yba.prog Yba.laysBin45_ren := {
  mixed := by kernel_rfl
  f45 := Yba.func21.trans (congrArg some (by kernel_rfl))
  t0 := Yba.underlying0
  a0 := Yba.isAgg0
  z0 := Yba.sizeOf0
  v0 := Yba.zeroValue0
  i0 := by kernel_rfl
  t3 := Yba.underlying3
  a3 := Yba.isAgg3
  z3 := Yba.sizeOf3
  v3 := Yba.zeroValue3
  i3 := by kernel_rfl
  t4 := Yba.underlying4
  a4 := Yba.isAgg4
  z4 := Yba.sizeOf4
  v4 := Yba.zeroValue4
  i4 := by kernel_rfl
  t5 := Yba.underlying5
  a5 := Yba.isAgg5
  z5 := Yba.sizeOf5
  v5 := Yba.zeroValue5
  i5 := by kernel_rfl
  t22 := Yba.underlying29
  a22 := Yba.isAgg29
  z22 := Yba.sizeOf29
  v22 := Yba.zeroValue29
  i22 := by kernel_rfl
  t33 := Yba.underlying53
  a33 := Yba.isAgg53
  z33 := Yba.sizeOf53
  v33 := Yba.zeroValue53
  i33 := by kernel_rfl
  t45 := Yba.underlying52
  a45 := Yba.isAgg52
  z45 := Yba.sizeOf52
  v45 := Yba.zeroValue52
  i45 := by kernel_rfl }
open Go.RowKit in
theorem Yba.binary_Uvarint (g o n c : Nat) (l : List UInt8) (w : World) (hl : l.length = n) (hcell : ∀ j (hj : j < l.length), w.cell? ⟨g, o + j, none⟩ = some (.int .u8 (l[j]).toNat)) :
    Calls Yba.prog 21 #[.slice (some ⟨g, o, none⟩) n c] w fun e w' => e = .returned (.tuple #[.int .u64 (Lib.uvarintDec l).1, .int .i64 (Lib.uvarintDec l).2]) ∧ w' = w := Any.binary_Uvarint Yba.laysBin45 g o n c l w hl hcell
def Yba.laysBin48_ren : Go.Shelf.Ren := ⟨fun | 48 => 19 | 45 => 21 | n => n, fun | 22 => 29 | 2 => 2 | 3 => 3 | 38 => 61 | 33 => 53 | 45 => 52 | 4 => 4 | 0 => 0 | 5 => 5 | n => n, fun | n => n⟩
theorem Yba.laysBin48 : Go.Proofs.LaysBin.n48 Yba.prog Yba.laysBin48_ren := {
  mixed := by kernel_rfl
  f45 := Yba.func21.trans (congrArg some (by kernel_rfl))
  f48 := Yba.func19.trans (congrArg some (by kernel_rfl))
  t0 := Yba.underlying0
  a0 := Yba.isAgg0
  z0 := Yba.sizeOf0
  v0 := Yba.zeroValue0
  i0 := by kernel_rfl
  t2 := Yba.underlying2
  a2 := Yba.isAgg2
  z2 := Yba.sizeOf2
  v2 := Yba.zeroValue2
  i2 := by kernel_rfl
  t3 := Yba.underlying3
  a3 := Yba.isAgg3
  z3 := Yba.sizeOf3
  v3 := Yba.zeroValue3
  i3 := by kernel_rfl
  t4 := Yba.underlying4
  a4 := Yba.isAgg4
  z4 := Yba.sizeOf4
  v4 := Yba.zeroValue4
  i4 := by kernel_rfl
  t5 := Yba.underlying5
  a5 := Yba.isAgg5
  z5 := Yba.sizeOf5
  v5 := Yba.zeroValue5
  i5 := by kernel_rfl
  t22 := Yba.underlying29
  a22 := Yba.isAgg29
  z22 := Yba.sizeOf29
  v22 := Yba.zeroValue29
  i22 := by kernel_rfl
  t33 := Yba.underlying53
  a33 := Yba.isAgg53
  z33 := Yba.sizeOf53
  v33 := Yba.zeroValue53
  i33 := by kernel_rfl
  t38 := Yba.underlying61
  a38 := Yba.isAgg61
  z38 := Yba.sizeOf61
  v38 := Yba.zeroValue61
  i38 := by kernel_rfl
  t45 := Yba.underlying52
  a45 := Yba.isAgg52
  z45 := Yba.sizeOf52
  v45 := Yba.zeroValue52
  i45 := by kernel_rfl }
open Go.RowKit in
theorem Yba.binary_Varint (g o n c : Nat) (l : List UInt8) (w : World) (hl : l.length = n) (hcell : ∀ j (hj : j < l.length), w.cell? ⟨g, o + j, none⟩ = some (.int .u8 (l[j]).toNat)) :
    Calls Yba.prog 19 #[.slice (some ⟨g, o, none⟩) n c] w fun e w' => e = .returned (.tuple #[.int .i64 (Lib.varintDec l).1, .int .i64 (Lib.varintDec l).2]) ∧ w' = w := Any.binary_Varint Yba.laysBin48 g o n c l w hl hcell
open Go.RowKit in
/-- binary.LittleEndian.Uint32, ITS PREMISES 'open_ints'' CONCLUSION TO THE LETTER: a slice at WHATEVER address a, the numbers zs that its cells hold: THE NUMBER THAT THE FIRST 4 SPELL ('Lib.leZ'). (LAID: no walk: one application.) -/
theorem Yba.binary_LE_Uint32_z (a : Addr) (n c : Nat) (zs : List Int) (w : World) (hn : 4 ≤ n) (hl : 4 ≤ zs.length) (hcell : ∀ i, i < zs.length → w.cell? (a.add i) = some (.int .u8 (zs.getD i 0))) (hw : ∀ z ∈ zs, (Lit.int .u8 z).wf = true) :
    Calls Yba.prog 18 #[.agg #[], .slice (some a) n c] w fun e w' => e = .returned (.int .u32 (Lib.leZ (zs.take 4))) ∧ Below w.heap.size w w' := Any.binary_LE_Uint32_z Yba.laysBin30 a n c zs w hn hl hcell hw
open Go.RowKit in
/-- binary.AppendUvarint, buf A SLICE THAT CAME IN ('Came W0 ..'), onto which m bytes ('ks') have been appended so far: BEHIND THE CALL: x's VARINT BESIDES ('Lib.uvarint x': at most ten bytes). (LAID: no walk: one application.) -/
theorem Yba.binary_AppendUvarint_arg (W0 : World) (ao : Option Addr) (b off len cap : Nat) (olds : List Value) (hc : Came W0 1 ao b off len cap olds) (x : Nat) (hx : x < 18446744073709551616) (sv : Value) (m : Nat) (ks : List Value) (w : World) (honto : Onto W0 5 1 ao b off len cap olds w sv m ks) (hlim : len + m + 10 ≤ 140737488355328) :
    Calls Yba.prog 16 #[sv, .int .u64 x] w fun e w' => ∃ v', e = .returned v' ∧ Onto W0 5 1 ao b off len cap olds w' v' (m + (Lib.uvarint x).length) (ks ++ Lib.byteCells (Lib.uvarint x)) := Any.binary_AppendUvarint_arg Yba.laysBin47 W0 ao b off len cap olds hc x hx sv m ks w honto hlim
open Go.RowKit in
/-- binary.AppendVarint, buf A SLICE THAT CAME IN, onto which m bytes have been appended so far: BEHIND THE CALL: THE VARINT OF x's ZIG-ZAG BESIDES. (LAID: no walk: one application.) -/
theorem Yba.binary_AppendVarint_arg (W0 : World) (ao : Option Addr) (b off len cap : Nat) (olds : List Value) (hc : Came W0 1 ao b off len cap olds) (x : Int) (h0 : -9223372036854775808 ≤ x) (h1 : x ≤ 9223372036854775807) (sv : Value) (m : Nat) (ks : List Value) (w : World) (honto : Onto W0 5 1 ao b off len cap olds w sv m ks) (hlim : len + m + 10 ≤ 140737488355328) :
    Calls Yba.prog 11 #[sv, .int .i64 x] w fun e w' => ∃ v', e = .returned v' ∧ Onto W0 5 1 ao b off len cap olds w' v' (m + (Lib.uvarint (Lib.zigzag x)).length) (ks ++ Lib.byteCells (Lib.uvarint (Lib.zigzag x))) := Any.binary_AppendVarint_arg Yba.laysBin50 W0 ao b off len cap olds hc x h0 h1 sv m ks w honto hlim
def Yba.lays115_ren : Go.Shelf.Ren := ⟨fun | 115 => 9 | n => n, fun | 37 => 29 | 4 => 4 | 9 => 9 | 5 => 5 | n => n, fun | n => n⟩
theorem Yba.lays115 : Go.Proofs.Lays.n115 Yba.prog Yba.lays115_ren := {
  mixed := by kernel_rfl
  f115 := Yba.func9.trans (congrArg some (by kernel_rfl))
  t4 := Yba.underlying4
  a4 := Yba.isAgg4
  z4 := Yba.sizeOf4
  v4 := Yba.zeroValue4
  t9 := Yba.underlying9
  a9 := Yba.isAgg9
  z9 := Yba.sizeOf9
  v9 := Yba.zeroValue9
  t37 := Yba.underlying29
  a37 := Yba.isAgg29
  z37 := Yba.sizeOf29
  v37 := Yba.zeroValue29 }
open Go.Proofs Go.RowKit Go.Lib in
/-- bytes.Equal, each argument with what 'string(..)' of it gives. (LAID: no walk: one application.) -/
theorem Yba.bytes_Equal_strs (v1 v2 : Value) (t1 t2 : ByteArray) (w : World) (h1 : (convert 29 9 v1).run Yba.prog w = .ok (.string t1) w) (h2 : (convert 29 9 v2).run Yba.prog w = .ok (.string t2) w) :
    Calls Yba.prog 9 #[v1, v2] w fun e w' => e = .returned (.bool (t1.toList == t2.toList)) ∧ w' = w := Any.bytes_Equal_strs Yba.lays115 v1 v2 t1 t2 w h1 h2
def Yba.laysnb115_ren : Go.Shelf.Ren := ⟨fun | 115 => 9 | n => n, fun | 37 => 29 | 4 => 4 | 9 => 9 | 5 => 5 | n => n, fun | n => n⟩
theorem Yba.laysnb115 : Go.Proofs.Lays.nb115 Yba.prog Yba.laysnb115_ren := {
  mixed := by kernel_rfl
  f115 := Yba.func9.trans (congrArg some (by kernel_rfl))
  t4 := Yba.underlying4
  a4 := Yba.isAgg4
  z4 := Yba.sizeOf4
  v4 := Yba.zeroValue4
  t9 := Yba.underlying9
  a9 := Yba.isAgg9
  z9 := Yba.sizeOf9
  v9 := Yba.zeroValue9
  t37 := Yba.underlying29
  a37 := Yba.isAgg29
  z37 := Yba.sizeOf29
  v37 := Yba.zeroValue29
  t5 := Yba.underlying5
  a5 := Yba.isAgg5
  z5 := Yba.sizeOf5
  v5 := Yba.zeroValue5 }
/-- bytes.Equal: WHOLE. (LAID: no walk: one application.) -/
theorem Yba.bytes_Equal_all (p1 p2 : Option Addr) (n c m d : Nat) (xs ys : List Int) (w : World) (hx : xs.length = n) (hy : ys.length = m) (h1 : Lib.BytesIn w p1 n xs) (h2 : Lib.BytesIn w p2 m ys) :
    Calls Yba.prog 9 #[.slice p1 n c, .slice p2 m d] w fun e w' => e = .returned (.bool (Lib.bytesOf xs == Lib.bytesOf ys)) ∧ w' = w := Any.bytes_Equal_all Yba.laysnb115 p1 p2 n c m d xs ys w hx hy h1 h2
theorem Yba.bytes_Equal (v1 v2 : Value) (xs ys : List Int) (w : World) (h1 : (convert 29 9 v1).run Yba.prog w = .ok (.string (strOfNums xs)) w) (h2 : (convert 29 9 v2).run Yba.prog w = .ok (.string (strOfNums ys)) w) :
    Calls Yba.prog 9 #[v1, v2] w fun e w' => e = .returned (.bool (Lib.bytesOf xs == Lib.bytesOf ys)) ∧ w' = w := Any.bytes_Equal Yba.lays115 v1 v2 xs ys w h1 h2
end Go.Proofs
