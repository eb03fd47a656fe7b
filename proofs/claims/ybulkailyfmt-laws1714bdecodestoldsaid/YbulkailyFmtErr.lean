/-
  fmt.Errorf (function 8; over the stop fmt.errorf, function 9) and errors.New (function 4) by their contracts.
-/
import Derived.Test.YbulkailyFmtRows
import Derived.WalkKit
import Derived.WalkSpells
import Derived.WalkLawsBesides
import Derived.Stop.CallBack
import Derived.Stop.IfaceNil
import GoSem.ClaimData
namespace Go.Proofs.YbulkailyFmt
open Go.RowKit Go.Extern.Stop Go.Stop Go.Extern

theorem call9 (args : Array Value) (w : World) : (callFunc 9 args).run Ybaf.prog w = ((FmtStop.errorf #[9, 39] #[25] args).run Ybaf.prog w).andThen fun v w' => .ok (.value v) w' :=
  run_callFunc_extern Ybaf.func9 (by kernel_rfl) (by kernel_rfl) (by kernel_rfl) (by kernel_rfl) args w
theorem guard_any (name : String) (w : World) : (FmtStop.guard name).run Ybaf.prog w = .ok () w := by kernel_rfl
/-- The one format. -/
def fmtB : ByteArray := ⟨#[37, 100, 32, 111, 99, 116, 101, 116, 115, 32, 97, 114, 101, 32, 110, 111, 116, 32, 111, 110, 101, 32, 111, 114, 32, 109, 111, 114, 101, 32, 102, 105, 101, 108, 100, 115, 32, 111, 102, 32, 37, 100]⟩
theorem fmt0 : FmtStop.printed? ⟨#[37, 100, 32, 111, 99, 116, 101, 116, 115, 32, 97, 114, 101, 32, 110, 111, 116, 32, 111, 110, 101, 32, 111, 114, 32, 109, 111, 114, 101, 32, 102, 105, 101, 108, 100, 115, 32, 111, 102, 32, 37, 100]⟩ 2 = some [(0, 100, false), (1, 100, false)] := by kernel_rfl
theorem fmt0r (w : World) : (FmtDoors.printed ⟨#[37, 100, 32, 111, 99, 116, 101, 116, 115, 32, 97, 114, 101, 32, 110, 111, 116, 32, 111, 110, 101, 32, 111, 114, 32, 109, 111, 114, 101, 32, 102, 105, 101, 108, 100, 115, 32, 111, 102, 32, 37, 100]⟩ 2).run Ybaf.prog w = .ok [(0, 100, false), (1, 100, false)] w := by kernel_rfl
def shape3 : List UInt8 := [5, 3, 0, 0, 0, 0, 0, 0, 0, 105, 110, 116]
theorem op3 (name : String) (x : Int) (w : World) : (FmtStop.operand name true 100 false (.iface 3 (.int .i64 x))).run Ybaf.prog w = .ok (shape3, Go.Extern.Stop.digits 8 (x % 2 ^ 64).toNat) w := by kernel_rfl
theorem op3' (name : String) (x : Int) (w : World) : (FmtStop.operand name false 100 false (.iface 3 (.int .i64 x))).run Ybaf.prog w = .ok (shape3, Go.Extern.Stop.digits 8 (x % 2 ^ 64).toNat) w := by kernel_rfl
theorem strict3 (name : String) (x : Int) (w : World) : (FmtStop.strict name (.iface 3 (.int .i64 x))).run Ybaf.prog w = .ok (shape3, Go.Extern.Stop.digits 8 (x % 2 ^ 64).toNat) w := by kernel_rfl
theorem ptr34 (w : World) : (FmtStop.ptrTo "errors.errorString").run Ybaf.prog w = .ok 34 w := by kernel_rfl
theorem elem34 (w : World) : (elemOf 34).run Ybaf.prog w = .ok 36 w := by kernel_rfl
theorem isError34 (w : World) : (FmtDoors.textMethod 34 "Error").run Ybaf.prog w = .ok true w := by kernel_rfl

attribute [local go_sem] call9 guard_any fmt0 fmt0r op3 op3' strict3 ptr34 elem34 isError34

theorem errorf_any (F : Interp) (x y : Int) (blk : Nat) (w : World) (hF : F.answers w.tape)
    (hc0 : w.cell? ⟨blk, 0, none⟩ = some (.iface 3 (.int .i64 x))) (hc1 : w.cell? ⟨blk, 1, none⟩ = some (.iface 3 (.int .i64 y))) :
    Calls Ybaf.prog 8 #[.string ⟨#[37, 100, 32, 111, 99, 116, 101, 116, 115, 32, 97, 114, 101, 32, 110, 111, 116, 32, 111, 110, 101, 32, 111, 114, 32, 109, 111, 114, 101, 32, 102, 105, 101, 108, 100, 115, 32, 111, 102, 32, 37, 100]⟩, .slice (some ⟨blk, 0, none⟩) 2 2] w fun e w' =>
      e = .returned (.iface 34 (.pointer (some ⟨w.heap.size, 0, none⟩))) ∧ ∃ s, w' = (w.alloc (.cells #[.string s] 36)).drew := by
  have hF' := answers_open hF
  go_enter Ybaf.func8, Ybaf.ntmps8
  go_wp2
  go_ret
  exact ⟨rfl, _, rfl⟩

theorem new_any (s : ByteArray) (w : World) :
    Calls Ybaf.prog 4 #[.string s] w fun e w' => e = .returned (.iface 34 (.pointer (some ⟨w.heap.size, 0, none⟩))) ∧ w' = w.alloc (.cells #[.string s] 36) := by
  go_enter Ybaf.func4, Ybaf.ntmps4
  go_wp2
  go_ret
  exact ⟨rfl, rfl⟩
end Go.Proofs.YbulkailyFmt
