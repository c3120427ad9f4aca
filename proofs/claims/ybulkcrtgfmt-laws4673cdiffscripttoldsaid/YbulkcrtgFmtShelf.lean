/-
  DERIVED: THE SHELF's CONTRACTS AT THIS DUMP, IN PLAIN WORDS (tools/lay-plain.mjs out of 'YbafShelf.lean', which tools/lay-shelf.mjs wrote): THE SAME DECLARATIONS UNDER THE SAME NAMES: 'import', 'namespace', 'open', 'def', 'theorem' AND NOTHING ELSE: no command of the shelf's: FOR A HAND-IN. Each laying: the table of numbers ('.._ren') and one theorem, a field a fact of the dump's own or the kernel's comparison; each contract: ONE APPLICATION.
-/
import Derived.Shelf.Small.Strs
import Derived.Shelf.Strconv.Itoa0
import Derived.Ground.MnProg
import Derived.Shelf.Bin.AppendUvarint
import Derived.Shelf.Bin.AppendUvarintArg
import Derived.Ground.Names2Prog
import Derived.Shelf.Slices.ReverseS
import Derived.Shelf.Slices.Cells
import Derived.Test.YbulkcrtgFmtProg
namespace Go.Proofs
open Go.Shelf
def Ybaf.lays213_ren : Go.Shelf.Ren := ⟨fun | 213 => 61 | 265 => 70 | n => n, fun | 9 => 9 | 3 => 3 | n => n, fun | n => n⟩
theorem Ybaf.lays213 : Go.Proofs.Lays.n213 Ybaf.prog Ybaf.lays213_ren := {
  mixed := by kernel_rfl
  f213 := Ybaf.func61.trans (congrArg some (by kernel_rfl))
  f265 := Ybaf.func70.trans (congrArg some (by kernel_rfl))
  t3 := Ybaf.underlying3
  a3 := Ybaf.isAgg3
  z3 := Ybaf.sizeOf3
  v3 := Ybaf.zeroValue3
  t9 := Ybaf.underlying9
  a9 := Ybaf.isAgg9
  z9 := Ybaf.sizeOf9
  v9 := Ybaf.zeroValue9 }
open Go.RowKit in
/-- internal/bytealg.CompareString (what strings.Compare calls): IT RETURNS 'Lib.compareBytes a b'; the world is as it was. (LAID: no walk: one application.) -/
theorem Ybaf.bytealg_CompareString (a b : ByteArray) (w : World) :
    Calls Ybaf.prog 61 #[.string a, .string b] w fun e w' => e = .returned (.int .i64 (Lib.compareBytes a.data.toList b.data.toList)) ∧ w' = w := Any.bytealg_CompareString Ybaf.lays213 a b w
def Ybaf.lays106_ren : Go.Shelf.Ren := ⟨fun | 106 => 47 | 213 => 61 | 265 => 70 | n => n, fun | 9 => 9 | 3 => 3 | n => n, fun | n => n⟩
theorem Ybaf.lays106 : Go.Proofs.Lays.n106 Ybaf.prog Ybaf.lays106_ren := {
  mixed := by kernel_rfl
  f106 := Ybaf.func47.trans (congrArg some (by kernel_rfl))
  f213 := Ybaf.func61.trans (congrArg some (by kernel_rfl))
  f265 := Ybaf.func70.trans (congrArg some (by kernel_rfl))
  t3 := Ybaf.underlying3
  a3 := Ybaf.isAgg3
  z3 := Ybaf.sizeOf3
  v3 := Ybaf.zeroValue3
  t9 := Ybaf.underlying9
  a9 := Ybaf.isAgg9
  z9 := Ybaf.sizeOf9
  v9 := Ybaf.zeroValue9 }
open Go.RowKit in
theorem Ybaf.strings_Compare (a b : ByteArray) (w : World) :
    Calls Ybaf.prog 47 #[.string a, .string b] w fun e w' => e = .returned (.int .i64 (Lib.compareBytes a.data.toList b.data.toList)) ∧ w' = w := Any.strings_Compare Ybaf.lays106 a b w
def Ybaf.lays129_ren : Go.Shelf.Ren := ⟨fun | 129 => 60 | n => n, fun | 53 => 34 | 3 => 3 | 4 => 4 | 46 => 33 | 5 => 5 | 9 => 9 | n => n, fun | n => n⟩
theorem Ybaf.lays129 : Go.Proofs.Lays.n129 Ybaf.prog Ybaf.lays129_ren := {
  mixed := by kernel_rfl
  f129 := Ybaf.func60.trans (congrArg some (by kernel_rfl))
  t3 := Ybaf.underlying3
  a3 := Ybaf.isAgg3
  z3 := Ybaf.sizeOf3
  v3 := Ybaf.zeroValue3
  t4 := Ybaf.underlying4
  a4 := Ybaf.isAgg4
  z4 := Ybaf.sizeOf4
  v4 := Ybaf.zeroValue4
  t5 := Ybaf.underlying5
  a5 := Ybaf.isAgg5
  z5 := Ybaf.sizeOf5
  v5 := Ybaf.zeroValue5
  t9 := Ybaf.underlying9
  a9 := Ybaf.isAgg9
  z9 := Ybaf.sizeOf9
  v9 := Ybaf.zeroValue9
  t46 := Ybaf.underlying33
  a46 := Ybaf.isAgg33
  z46 := Ybaf.sizeOf33
  v46 := Ybaf.zeroValue33
  t53 := Ybaf.underlying34
  a53 := Ybaf.isAgg34
  z53 := Ybaf.sizeOf34
  v53 := Ybaf.zeroValue34 }
theorem Ybaf.bits_Len64 (x : Int) (w : World) (h0 : 0 ≤ x) (h1 : x ≤ 18446744073709551615) :
    Calls Ybaf.prog 60 #[.int .u64 x] w fun e w' => e = .returned (.int .i64 (Lib.bitLen x.toNat)) ∧ w' = w := Any.bits_Len64 Ybaf.lays129 x w h0 h1
def Ybaf.laysBin47_ren : Go.Shelf.Ren := ⟨fun | 47 => 43 | n => n, fun | 22 => 22 | 33 => 34 | 4 => 4 | 5 => 5 | 45 => 33 | n => n, fun | n => n⟩
theorem Ybaf.laysBin47 : Go.Proofs.LaysBin.n47 Ybaf.prog Ybaf.laysBin47_ren := {
  mixed := by kernel_rfl
  f47 := Ybaf.func43.trans (congrArg some (by kernel_rfl))
  t4 := Ybaf.underlying4
  a4 := Ybaf.isAgg4
  z4 := Ybaf.sizeOf4
  v4 := Ybaf.zeroValue4
  i4 := by kernel_rfl
  t5 := Ybaf.underlying5
  a5 := Ybaf.isAgg5
  z5 := Ybaf.sizeOf5
  v5 := Ybaf.zeroValue5
  i5 := by kernel_rfl
  t22 := Ybaf.underlying22
  a22 := Ybaf.isAgg22
  z22 := Ybaf.sizeOf22
  v22 := Ybaf.zeroValue22
  i22 := by kernel_rfl
  t33 := Ybaf.underlying34
  a33 := Ybaf.isAgg34
  z33 := Ybaf.sizeOf34
  v33 := Ybaf.zeroValue34
  i33 := by kernel_rfl
  t45 := Ybaf.underlying33
  a45 := Ybaf.isAgg33
  z45 := Ybaf.sizeOf33
  v45 := Ybaf.zeroValue33
  i45 := by kernel_rfl }
open Go.RowKit in
theorem Ybaf.binary_AppendUvarint (B n x : Nat) (hx : x < 18446744073709551616) (sv : Value) (xs : List Value) (w : World) (hown : w.ownsRow B 5 1 sv n xs) (hBw : B ≤ w.heap.size) (hlim : n + 10 ≤ 140737488355328) :
    Calls Ybaf.prog 43 #[sv, .int .u64 x] w fun e w' => ∃ v', e = .returned v' ∧ w'.ownsRow B 5 1 v' (n + (Lib.uvarint x).length) (xs ++ Lib.byteCells (Lib.uvarint x)) ∧ Below B w w' := Any.binary_AppendUvarint Ybaf.laysBin47 B n x hx sv xs w hown hBw hlim
open Go.RowKit in
/-- binary.AppendUvarint, buf A SLICE THAT CAME IN ('Came W0 ..'), onto which m bytes ('ks') have been appended so far: BEHIND THE CALL: x's VARINT BESIDES ('Lib.uvarint x': at most ten bytes). (LAID: no walk: one application.) -/
theorem Ybaf.binary_AppendUvarint_arg (W0 : World) (ao : Option Addr) (b off len cap : Nat) (olds : List Value) (hc : Came W0 1 ao b off len cap olds) (x : Nat) (hx : x < 18446744073709551616) (sv : Value) (m : Nat) (ks : List Value) (w : World) (honto : Onto W0 5 1 ao b off len cap olds w sv m ks) (hlim : len + m + 10 ≤ 140737488355328) :
    Calls Ybaf.prog 43 #[sv, .int .u64 x] w fun e w' => ∃ v', e = .returned v' ∧ Onto W0 5 1 ao b off len cap olds w' v' (m + (Lib.uvarint x).length) (ks ++ Lib.byteCells (Lib.uvarint x)) := Any.binary_AppendUvarint_arg Ybaf.laysBin47 W0 ao b off len cap olds hc x hx sv m ks w honto hlim
def Ybaf.laysNm217_ren : Go.Shelf.Ren := ⟨fun | 17 => 48 | n => n, fun | 24 => 31 | 9 => 9 | 3 => 3 | 4 => 4 | 0 => 0 | n => n, fun | n => n⟩
theorem Ybaf.laysNm217 : Go.Proofs.Lays2.n17 Ybaf.prog Ybaf.laysNm217_ren := {
  mixed := by kernel_rfl
  f17 := Ybaf.func48.trans (congrArg some (by kernel_rfl))
  t0 := Ybaf.underlying0
  a0 := Ybaf.isAgg0
  z0 := Ybaf.sizeOf0
  v0 := Ybaf.zeroValue0
  t3 := Ybaf.underlying3
  a3 := Ybaf.isAgg3
  z3 := Ybaf.sizeOf3
  v3 := Ybaf.zeroValue3
  t4 := Ybaf.underlying4
  a4 := Ybaf.isAgg4
  z4 := Ybaf.sizeOf4
  v4 := Ybaf.zeroValue4
  t9 := Ybaf.underlying9
  a9 := Ybaf.isAgg9
  z9 := Ybaf.sizeOf9
  v9 := Ybaf.zeroValue9
  t24 := Ybaf.underlying31
  a24 := Ybaf.isAgg31
  z24 := Ybaf.sizeOf31
  v24 := Ybaf.zeroValue31 }
open Go.RowKit Go.Lib Go.Sort in
/-- slices.Reverse at []string, over an array: Go's loop from the two ends inward is walked; it makes 'Sort.reverseLoop 0 (len - 1)', which is 'Array.reverse' (Derived/Lib/SlicesMore.lean). (LAID: no walk: one application.) -/
theorem Ybaf.slices_Reverse_string_arr (blk off cap : Nat) (d : Array (List UInt8)) (w : World) (hH : Holds encStr w blk off d) (hsz : d.size ≤ 9223372036854775807) :
    Calls Ybaf.prog 48 #[.slice (some ⟨blk, off, none⟩) d.size cap] w fun e w' => e = .returned (.tuple #[]) ∧ ∃ n, w' = putRow encStr (Sort.ahead w n) blk off d.reverse := Any.slices_Reverse_string_arr Ybaf.laysNm217 blk off cap d w hH hsz
open Go.RowKit Go.Lib Go.Sort in
theorem Ybaf.slices_Reverse_string (blk off cap : Nat) (zs : List (List UInt8)) (w : World) (hH : Holds encStr w blk off zs.toArray) (hsz : zs.length ≤ 9223372036854775807) :
    Calls Ybaf.prog 48 #[.slice (some ⟨blk, off, none⟩) zs.length cap] w fun e w' => e = .returned (.tuple #[]) ∧ ∃ n, w' = putRow encStr (Sort.ahead w n) blk off zs.reverse.toArray := Any.slices_Reverse_string Ybaf.laysNm217 blk off cap zs w hH hsz
open Go.RowKit Go.Lib Go.Sort in
/-- The same at a slice of length 0, a nil one too: nothing is read, nothing written, nothing drawn. (LAID: no walk: one application.) -/
theorem Ybaf.slices_Reverse_string_empty (a : Option Addr) (cap : Nat) (w : World) :
    Calls Ybaf.prog 48 #[.slice a 0 cap] w fun e w' => e = .returned (.tuple #[]) ∧ w' = w := Any.slices_Reverse_string_empty Ybaf.laysNm217 a cap w
open Go.RowKit Go.Lib Go.Sort in
/-- slices.Reverse at []string, of an argument. (LAID: no walk: one application.) -/
theorem Ybaf.slices_Reverse_string_cells (b off n c : Nat) (Sx : Nat → ByteArray) (w : World) (hbig : n ≤ 9223372036854775807) (hc : ∀ i, i < n → w.cell? ⟨b, off + i, none⟩ = some (.string (Sx i))) (hf : ∀ j, j < n → w.frozen? ⟨b, off + j, none⟩ = false) :
    Calls Ybaf.prog 48 #[.slice (some ⟨b, off, none⟩) n c] w fun e w' => e = .returned (.tuple #[]) ∧ ∃ q, w' = (w.drewN q).setCells b off ((Lib.strsOf Sx n).reverse.map encStr) := Any.slices_Reverse_string_cells Ybaf.laysNm217 b off n c Sx w hbig hc hf
end Go.Proofs
