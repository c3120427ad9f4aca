/-
  fmt.Errorf (function 14) BY ITS CONTRACT, at the two formats that (*Message).Encode hands it: an error value of type 63 ('*errors.errorString') over new memory; nothing that was there has turned. The text is whatever F gives: no caller on these roads looks at it.
-/
import Derived.Test.YbulkcrpmFmtRows
import Derived.WalkKit
import Derived.WalkLawsBesides
import Derived.WalkSpells
import Derived.Stop.CallBack
import Derived.Stop.IfaceNil
import GoSem.ClaimData
namespace Go.Proofs.YbulkcrpmFmt
open Go.RowKit Go.Extern.Stop Go.Stop Go.Extern

theorem Ybaf.call20 (args : Array Value) (w : World) : (callFunc 20 args).run Ybaf.prog w = ((FmtStop.errorf #[9, 61] #[27] args).run Ybaf.prog w).andThen fun v w' => .ok (.value v) w' :=
  run_callFunc_extern Ybaf.func20 (by kernel_rfl) (by kernel_rfl) (by kernel_rfl) (by kernel_rfl) args w
theorem Ybaf.guard (name : String) (w : World) : (FmtStop.guard name).run Ybaf.prog w = .ok () w := by kernel_rfl
theorem Ybaf.fmtA : FmtStop.printed? ⟨#[109, 51, 117, 97, 58, 32, 112, 97, 114, 97, 109, 101, 116, 101, 114, 32, 48, 120, 37, 48, 52, 120, 32, 111, 102, 32, 37, 100, 32, 111, 99, 116, 101, 116, 115, 32, 116, 111, 111, 32, 108, 111, 110, 103]⟩ 2 = some [(0, 120, false), (1, 100, false)] := by kernel_rfl
theorem Ybaf.fmtAr (w : World) : (FmtDoors.printed ⟨#[109, 51, 117, 97, 58, 32, 112, 97, 114, 97, 109, 101, 116, 101, 114, 32, 48, 120, 37, 48, 52, 120, 32, 111, 102, 32, 37, 100, 32, 111, 99, 116, 101, 116, 115, 32, 116, 111, 111, 32, 108, 111, 110, 103]⟩ 2).run Ybaf.prog w = .ok [(0, 120, false), (1, 100, false)] w := by kernel_rfl
theorem Ybaf.fmtB : FmtStop.printed? ⟨#[109, 51, 117, 97, 58, 32, 109, 101, 115, 115, 97, 103, 101, 32, 111, 102, 32, 37, 100, 32, 111, 99, 116, 101, 116, 115, 32, 108, 111, 110, 103, 101, 114, 32, 116, 104, 97, 110, 32, 37, 100]⟩ 2 = some [(0, 100, false), (1, 100, false)] := by kernel_rfl
theorem Ybaf.fmtBr (w : World) : (FmtDoors.printed ⟨#[109, 51, 117, 97, 58, 32, 109, 101, 115, 115, 97, 103, 101, 32, 111, 102, 32, 37, 100, 32, 111, 99, 116, 101, 116, 115, 32, 108, 111, 110, 103, 101, 114, 32, 116, 104, 97, 110, 32, 37, 100]⟩ 2).run Ybaf.prog w = .ok [(0, 100, false), (1, 100, false)] w := by kernel_rfl
def Ybaf.shape3 : List UInt8 := [5, 3, 0, 0, 0, 0, 0, 0, 0, 105, 110, 116]
def Ybaf.shape22 : List UInt8 := [7, 6, 0, 0, 0, 0, 0, 0, 0, 117, 105, 110, 116, 49, 54]
theorem Ybaf.op3_100w (name : String) (x : Int) (w : World) : (FmtStop.operand name true 100 false (.iface 3 (.int .i64 x))).run Ybaf.prog w = .ok (Ybaf.shape3, Go.Extern.Stop.digits 8 (x % 2 ^ 64).toNat) w := by kernel_rfl
theorem Ybaf.op22_120w (name : String) (x : Int) (w : World) : (FmtStop.operand name true 120 false (.iface 22 (.int .u16 x))).run Ybaf.prog w = .ok (Ybaf.shape22, Go.Extern.Stop.digits 8 (x % 2 ^ 64).toNat) w := by kernel_rfl
theorem Ybaf.ptr63 (w : World) : (FmtStop.ptrTo "errors.errorString").run Ybaf.prog w = .ok 63 w := by kernel_rfl
theorem Ybaf.elem63 (w : World) : (elemOf 63).run Ybaf.prog w = .ok 65 w := by kernel_rfl
theorem Ybaf.isError63' (w : World) : (FmtDoors.textMethod 63 "Error").run Ybaf.prog w = .ok true w := by kernel_rfl

attribute [local go_sem] Ybaf.call20 Ybaf.guard Ybaf.fmtA Ybaf.fmtAr Ybaf.fmtB Ybaf.fmtBr Ybaf.op3_100w Ybaf.op22_120w Ybaf.ptr63 Ybaf.elem63 Ybaf.isError63'

theorem errorf_long (F : Interp) (tg n : Int) (blk : Nat) (w : World) (hF : F.answers w.tape)
    (hc0 : w.cell? ⟨blk, 0, none⟩ = some (.iface 22 (.int .u16 tg))) (hc1 : w.cell? ⟨blk, 1, none⟩ = some (.iface 3 (.int .i64 n))) :
    Calls Ybaf.prog 14 #[.string ⟨#[109, 51, 117, 97, 58, 32, 112, 97, 114, 97, 109, 101, 116, 101, 114, 32, 48, 120, 37, 48, 52, 120, 32, 111, 102, 32, 37, 100, 32, 111, 99, 116, 101, 116, 115, 32, 116, 111, 111, 32, 108, 111, 110, 103]⟩, .slice (some ⟨blk, 0, none⟩) 2 2] w fun e w' =>
      (∃ x, e = .returned (.iface 63 x)) ∧ Below w.heap.size w w' := by
  have hF' := answers_open hF
  go_enter Ybaf.func14, Ybaf.ntmps14
  go_wp2
  go_ret
  exact ⟨⟨_, rfl⟩, ((Below.refl _ _).alloc (Nat.le_refl _) _).drew⟩

theorem errorf_whole (F : Interp) (m n : Int) (blk : Nat) (w : World) (hF : F.answers w.tape)
    (hc0 : w.cell? ⟨blk, 0, none⟩ = some (.iface 3 (.int .i64 m))) (hc1 : w.cell? ⟨blk, 1, none⟩ = some (.iface 3 (.int .i64 n))) :
    Calls Ybaf.prog 14 #[.string ⟨#[109, 51, 117, 97, 58, 32, 109, 101, 115, 115, 97, 103, 101, 32, 111, 102, 32, 37, 100, 32, 111, 99, 116, 101, 116, 115, 32, 108, 111, 110, 103, 101, 114, 32, 116, 104, 97, 110, 32, 37, 100]⟩, .slice (some ⟨blk, 0, none⟩) 2 2] w fun e w' =>
      (∃ x, e = .returned (.iface 63 x)) ∧ Below w.heap.size w w' := by
  have hF' := answers_open hF
  go_enter Ybaf.func14, Ybaf.ntmps14
  go_wp2
  go_ret
  exact ⟨⟨_, rfl⟩, ((Below.refl _ _).alloc (Nat.le_refl _) _).drew⟩
end Go.Proofs.YbulkcrpmFmt
