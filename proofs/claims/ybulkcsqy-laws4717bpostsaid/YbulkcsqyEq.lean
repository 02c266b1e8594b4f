/- '!=' between equal Decimals and equal postings. -/
import Derived.Test.YbulkcsqyPost
namespace Go.Proofs.Ybulkcsqy
open Go Go.RowKit

theorem eqPtr (d : Nat) (p : Option Addr) (w : World) : (Op.equalIn (d + 1) 25 (.pointer p) (.pointer p)).run Yba.prog w = .ok true w := by
  cases p with
  | none => simp [Op.equalIn, run_underlying Yba.underlying25]
  | some a => simp [Op.equalIn, run_underlying Yba.underlying25, sameAddr]
theorem stood27 : Yba.prog.stoodInHeld 27 = false := by kernel_rfl
theorem stood30 : Yba.prog.stoodInHeld 30 = false := by kernel_rfl
theorem fields27 : Yba.prog.underlying 27 = some (.struct (Yba.prog.fieldsOf 27)) := by kernel_rfl
theorem fields30 : Yba.prog.underlying 30 = some (.struct (Yba.prog.fieldsOf 30)) := by kernel_rfl
theorem eq27 (d : Nat) (s : Int) (p : Option Addr) (w : World) : (Op.equalIn (d + 2) 27 (dec s p) (dec s p)).run Yba.prog w = .ok true w := by
  rw [run_equalIn_struct w (d + 1) 27 _ _ fields27 stood27]
  simp [go_sem, Yba.underlying27, eqPtr, Yba.underlying2, Yba.underlying3]

theorem neq27 (s : Int) (p : Option Addr) (w : World) : (binOp .neq 27 (dec s p) (dec s p)).run Yba.prog w = .ok (.bool false) w := by
  rw [run_neq_struct, eq27 9998]
  rfl
theorem eq30 (d : Nat) (a : ByteArray) (s : Int) (p : Option Addr) (w : World) : (Op.equalIn (d + 3) 30 (.agg #[.string a, .int .i64 s, .pointer p, .int .i64 0]) (.agg #[.string a, .int .i64 s, .pointer p, .int .i64 0])).run Yba.prog w = .ok true w := by
  rw [run_equalIn_struct w (d + 2) 30 _ _ fields30 stood30]
  simp [go_sem, Yba.underlying30, eq27, Yba.underlying9]
theorem neq30 (a : ByteArray) (s : Int) (p : Option Addr) (w : World) : (binOp .neq 30 (.agg #[.string a, .int .i64 s, .pointer p, .int .i64 0]) (.agg #[.string a, .int .i64 s, .pointer p, .int .i64 0])).run Yba.prog w = .ok (.bool false) w := by
  rw [run_neq_struct, eq30 9997]
  rfl

end Go.Proofs.Ybulkcsqy
