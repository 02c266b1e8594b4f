/- Closed facts on fmt's two stopped fronts, each by the kernel; and the contract of 'fmt.Errorf' at the road's one call. -/
import Derived.Test.YbulkcssoFmtSources
import Derived.Stop.CallBack
import Derived.Stop.IfaceNil
import GoSem.ClaimData
namespace Go.Proofs.YbulkcssoFmt
open Go Go.RowKit Go.Extern.Stop Go.Stop Go.Extern
set_option linter.unusedVariables false

theorem call13 (args : Array Value) (w : World) : (callFunc 13 args).run Ybaf.prog w = ((FmtStop.errorf #[9, 73] #[29] args).run Ybaf.prog w).andThen fun v w' => .ok (.value v) w' :=
  run_callFunc_extern Ybaf.func13 (by kernel_rfl) (by kernel_rfl) (by kernel_rfl) (by kernel_rfl) args w
theorem call11 (args : Array Value) (w : World) : (callFunc 11 args).run Ybaf.prog w = ((FmtStop.sprintf #[9, 73] #[9] args).run Ybaf.prog w).andThen fun v w' => .ok (.value v) w' :=
  run_callFunc_extern Ybaf.func11 (by kernel_rfl) (by kernel_rfl) (by kernel_rfl) (by kernel_rfl) args w
theorem guardF (name : String) (w : World) : (FmtStop.guard name).run Ybaf.prog w = .ok () w := by kernel_rfl
-- the format of the error: three operands
theorem fmtE : FmtStop.printed? ⟨#[37, 100, 32, 98, 111, 110, 100, 115, 32, 111, 102, 32, 37, 115, 58, 32, 105, 116, 32, 104, 97, 115, 32, 37, 100, 32, 99, 111, 100, 101, 115]⟩ 3 = some [(0, 100, false), (1, 115, false), (2, 100, false)] := by kernel_rfl
theorem fmtEr (w : World) : (FmtDoors.printed ⟨#[37, 100, 32, 98, 111, 110, 100, 115, 32, 111, 102, 32, 37, 115, 58, 32, 105, 116, 32, 104, 97, 115, 32, 37, 100, 32, 99, 111, 100, 101, 115]⟩ 3).run Ybaf.prog w = .ok [(0, 100, false), (1, 115, false), (2, 100, false)] w := by kernel_rfl
-- the format of a code: two operands
theorem fmtC : FmtStop.printed? ⟨#[37, 48, 50, 100, 37, 48, 52, 100]⟩ 2 = some [(0, 100, false), (1, 100, false)] := by kernel_rfl
theorem fmtCr (w : World) : (FmtDoors.printed ⟨#[37, 48, 50, 100, 37, 48, 52, 100]⟩ 2).run Ybaf.prog w = .ok [(0, 100, false), (1, 100, false)] w := by kernel_rfl
def shape3 : List UInt8 := [5, 3, 0, 0, 0, 0, 0, 0, 0, 105, 110, 116]
theorem op3_100 (name : String) (x : Int) (w : World) : (FmtStop.operand name false 100 false (.iface 3 (.int .i64 x))).run Ybaf.prog w = .ok (shape3, Go.Extern.Stop.digits 8 (x % 2 ^ 64).toNat) w := by kernel_rfl
theorem op3_100w (name : String) (x : Int) (w : World) : (FmtStop.operand name true 100 false (.iface 3 (.int .i64 x))).run Ybaf.prog w = .ok (shape3, Go.Extern.Stop.digits 8 (x % 2 ^ 64).toNat) w := by kernel_rfl
theorem ptr83 (w : World) : (FmtStop.ptrTo "errors.errorString").run Ybaf.prog w = .ok 83 w := by kernel_rfl
theorem elem83 (w : World) : (elemOf 83).run Ybaf.prog w = .ok 85 w := by kernel_rfl
theorem ptr75 (w : World) : (FmtStop.ptrTo "fmt.wrapError").run Ybaf.prog w = .ok 75 w := by kernel_rfl

def shape33 : List UInt8 := [12, 16, 0, 0, 0, 0, 0, 0, 0, 107, 101, 122, 104, 117, 97, 110, 46, 69, 120, 99, 104, 97, 110, 103, 101]
theorem op33_115 (name : String) (x : ByteArray) (w : World) : (FmtStop.operand name false 115 false (.iface 33 (.string x))).run Ybaf.prog w = .ok (shape33, FmtStop.pack x.data.toList) w := by kernel_rfl
theorem op33_115w (name : String) (x : ByteArray) (w : World) : (FmtStop.operand name true 115 false (.iface 33 (.string x))).run Ybaf.prog w = .ok (shape33, FmtStop.pack x.data.toList) w := by kernel_rfl

section
attribute [local go_sem] call13 guardF fmtE fmtEr op3_100 op3_100w op33_115 op33_115w ptr83 elem83 ptr75

abbrev fmtErr : ByteArray := ⟨#[37, 100, 32, 98, 111, 110, 100, 115, 32, 111, 102, 32, 37, 115, 58, 32, 105, 116, 32, 104, 97, 115, 32, 37, 100, 32, 99, 111, 100, 101, 115]⟩

set_option maxHeartbeats 1000000 in
theorem errorf_any (F : Interp) (c : Int) (s : ByteArray) (w : World) (hF : F.answers w.tape) (B : Nat)
    (c0 : w.cell? ⟨B, 0, none⟩ = some (.iface 3 (.int .i64 c))) (c1 : w.cell? ⟨B, 1, none⟩ = some (.iface 33 (.string s))) (c2 : w.cell? ⟨B, 2, none⟩ = some (.iface 3 (.int .i64 10000))) :
    Calls Ybaf.prog 8 #[.string fmtErr, .slice (some ⟨B, 0, none⟩) 3 3] w fun e w' => (∃ v, e = .returned (.iface 83 v)) ∧ Below w.heap.size w w' := by
  have hF' := answers_open hF
  go_enter Ybaf.func8, Ybaf.ntmps8
  go_wp2
  go_ret
  exact ⟨⟨_, rfl⟩, ((Below.refl _ _).alloc (Nat.le_refl _) _).drew⟩
end

end Go.Proofs.YbulkcssoFmt
