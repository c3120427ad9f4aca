/-
  trailingBytesError (function 18) BY ITS CONTRACT: a new error value of type 54 ('*errors.errorString') over new memory; nothing that was there has turned. The text is whatever F gives.
-/
import Derived.Test.YbulkcrtgFmtRows
import Derived.WalkKit
import Derived.WalkLawsBesides
import Derived.WalkSpells
import Derived.Stop.CallBack
import Derived.Stop.IfaceNil
import GoSem.ClaimData
namespace Go.Proofs.YbulkcrtgFmt
open Go.RowKit Go.Extern.Stop Go.Stop Go.Extern

theorem Ybaf.call32 (args : Array Value) (w : World) : (callFunc 32 args).run Ybaf.prog w = ((FmtStop.errorf #[9, 81] #[24] args).run Ybaf.prog w).andThen fun v w' => .ok (.value v) w' :=
  run_callFunc_extern Ybaf.func32 (by kernel_rfl) (by kernel_rfl) (by kernel_rfl) (by kernel_rfl) args w
theorem Ybaf.guard (name : String) (w : World) : (FmtStop.guard name).run Ybaf.prog w = .ok () w := by kernel_rfl
theorem Ybaf.fmtA : FmtStop.printed? ⟨#[104, 97, 112, 112, 101, 110, 115, 116, 97, 109, 112, 58, 32, 37, 115, 32, 105, 115, 32, 102, 111, 108, 108, 111, 119, 101, 100, 32, 98, 121, 32, 37, 100, 32, 109, 111, 114, 101, 32, 98, 121, 116, 101, 115]⟩ 2 = some [(0, 115, false), (1, 100, false)] := by kernel_rfl
theorem Ybaf.fmtAr (w : World) : (FmtDoors.printed ⟨#[104, 97, 112, 112, 101, 110, 115, 116, 97, 109, 112, 58, 32, 37, 115, 32, 105, 115, 32, 102, 111, 108, 108, 111, 119, 101, 100, 32, 98, 121, 32, 37, 100, 32, 109, 111, 114, 101, 32, 98, 121, 116, 101, 115]⟩ 2).run Ybaf.prog w = .ok [(0, 115, false), (1, 100, false)] w := by kernel_rfl
def Ybaf.shape3 : List UInt8 := [5, 3, 0, 0, 0, 0, 0, 0, 0, 105, 110, 116]
def Ybaf.shape9 : List UInt8 := [12, 6, 0, 0, 0, 0, 0, 0, 0, 115, 116, 114, 105, 110, 103]
theorem Ybaf.op3_100w (name : String) (x : Int) (w : World) : (FmtStop.operand name true 100 false (.iface 3 (.int .i64 x))).run Ybaf.prog w = .ok (Ybaf.shape3, Go.Extern.Stop.digits 8 (x % 2 ^ 64).toNat) w := by kernel_rfl
theorem Ybaf.op9_115w (name : String) (x : ByteArray) (w : World) : (FmtStop.operand name true 115 false (.iface 9 (.string x))).run Ybaf.prog w = .ok (Ybaf.shape9, FmtStop.pack x.data.toList) w := by kernel_rfl
theorem Ybaf.ptr54 (w : World) : (FmtStop.ptrTo "errors.errorString").run Ybaf.prog w = .ok 54 w := by kernel_rfl
theorem Ybaf.elem54 (w : World) : (elemOf 54).run Ybaf.prog w = .ok 56 w := by kernel_rfl
theorem Ybaf.isError54' (w : World) : (FmtDoors.textMethod 54 "Error").run Ybaf.prog w = .ok true w := by kernel_rfl

attribute [local go_sem] Ybaf.call32 Ybaf.guard Ybaf.fmtA Ybaf.fmtAr Ybaf.op3_100w Ybaf.op9_115w Ybaf.ptr54 Ybaf.elem54 Ybaf.isError54'

theorem two_new (w : World) (a b : Obj) : ((w.alloc a).alloc b).heap[w.heap.size + 1]? = some b := by
  have h := heap_alloc_new (w.alloc a) b
  simpa using h

theorem trailing_any (F : Interp) (what : ByteArray) (n : Int) (w : World) (hF : F.answers w.tape) :
    Calls Ybaf.prog 18 #[.string what, .int .i64 n] w fun e w' =>
      e = .returned (.iface 54 (.pointer (some ⟨w.heap.size + 1, 0, none⟩))) ∧ (∃ cs, w'.heap[w.heap.size + 1]? = some (.cells cs 56 (0, 0))) ∧ Below w.heap.size w w' := by
  have hF' := answers_open hF
  go_enter Ybaf.func18, Ybaf.ntmps18
  go_wp2
  go_ret
  refine ⟨rfl, ⟨_, two_new w _ _⟩, ((((Below.refl _ _).alloc (Nat.le_refl _) _).alloc (by simp) _)).drew⟩
end Go.Proofs.YbulkcrtgFmt
