/- The text of a code: what 'fmt.Sprintf' is told to give for "%02d%04d". -/
import Derived.Test.YbulkcssoFmtFacts
import Derived.Stop.FmtTextKit
import Derived.Stop.FmtTextWidths
import Derived.Stop.Told
import Derived.Stop.Texts
namespace Go.Proofs.YbulkcssoFmt
open Go Go.RowKit Go.Extern.Stop Go.Stop Go.Extern
set_option linter.unusedVariables false

def codeL (a0 a1 : Int) : List UInt8 := FmtText.zeros 2 a0 ++ FmtText.zeros 4 a1
def codeB (a0 a1 : Int) : ByteArray := ⟨(codeL a0 a1).toArray⟩
def codeReading (a0 a1 : Int) : List (List UInt8) :=
  [[37, 48, 50, 100, 37, 48, 52, 100], shape3, digits 8 (a0 % 18446744073709551616).toNat, shape3, digits 8 (a1 % 18446744073709551616).toNat]
theorem code_parse : (FmtText.parse [37, 48, 50, 100, 37, 48, 52, 100]).map FmtText.glue = some [.verb { widPresent := true, wid := 2, zero := true } 100, .verb { widPresent := true, wid := 4, zero := true } 100] := by rfl
theorem code_law (a0 a1 : Int) (w0 : (Lit.int .i64 a0).wf = true) (w1 : (Lit.int .i64 a1).wf = true) : FmtText.text "fmt.Sprintf" (codeReading a0 a1) = some (codeL a0 a1) := by
  rw [codeReading, FmtText.text_sprintf_glued code_parse (FmtText.operands_cons (FmtText.operand_int_at (sh := shape3) (k := .i64) rfl rfl a0 w0) (FmtText.operands_cons (FmtText.operand_int_at (sh := shape3) (k := .i64) rfl rfl a1 w1) FmtText.operands_nil))]
  simp [FmtText.render, FmtText.printArg_d_zero _ 2 _ w0, FmtText.printArg_d_zero _ 4 _ w1, codeL]
theorem code_told (F : Interp) (a0 a1 : Int) (w0 : (Lit.int .i64 a0).wf = true) (w1 : (Lit.int .i64 a1).wf = true) : F.told.string "fmt.Sprintf" (codeReading a0 a1) 0 = codeL a0 a1 := by
  have k0 := FmtText.zeros_length_le' 2 w0
  have k1 := FmtText.zeros_length_le' 4 w1
  refine told_string F (code_law a0 a1 w0 w1) ?_
  (simp [codeL] <;> omega)
theorem code_textOf (F : Interp) (a0 a1 : Int) (w0 : (Lit.int .i64 a0).wf = true) (w1 : (Lit.int .i64 a1).wf = true) : FmtStop.textOf (F.told "fmt.Sprintf" (codeReading a0 a1) 0) = codeB a0 a1 := by
  have h := Kit.textOf_list F.told "fmt.Sprintf" (codeReading a0 a1)
  rw [code_told F a0 a1 w0 w1] at h
  unfold codeB
  rw [← h]

/-! ### Nonempty, and one text a number -/
/-- The number that a row of digits spells. -/
def nv (l : List UInt8) : Nat := l.foldl (fun a c => a * 10 + (c.toNat - 48)) 0
theorem nv_snoc (l : List UInt8) (c : UInt8) : nv (l ++ [c]) = nv l * 10 + (c.toNat - 48) := by simp [nv]
theorem nv_zeros (k : Nat) (l : List UInt8) : nv (List.replicate k 48 ++ l) = nv l := by
  induction k with
  | zero => simp
  | succ k ih => rw [List.replicate_succ, List.cons_append, ← ih]; rfl
theorem nv_dec (u : Nat) : nv (Lib.decDigits u) = u := by
  induction u using Nat.strongRecOn with
  | _ u ih =>
    rw [Lib.decDigits]
    split
    · rename_i h
      simp [nv]
      omega
    · rename_i h
      have e : (UInt8.ofNat (48 + u % 10)).toNat = 48 + u % 10 := by simp; omega
      rw [nv_snoc, ih (u / 10) (by omega), e]
      omega
theorem nv_zeros_of {N : Nat} {a : Int} (ha : 0 ≤ a) : nv (FmtText.zeros N a) = a.toNat := by
  rw [FmtText.zeros, if_neg (by omega), nv_zeros, nv_dec]
theorem zeros_inj {N : Nat} {a b : Int} (ha : 0 ≤ a) (hb : 0 ≤ b) (h : FmtText.zeros N a = FmtText.zeros N b) : a = b := by
  have h2 := congrArg nv h
  rw [nv_zeros_of ha, nv_zeros_of hb] at h2
  omega
theorem codeB_inj {p a b : Int} (ha : 0 ≤ a) (hb : 0 ≤ b) (h : codeB p a = codeB p b) : a = b := by
  apply zeros_inj (N := 4) ha hb
  have := congrArg (fun x : ByteArray => x.data.toList) h
  simpa [codeB, codeL] using this
theorem codeB_ne {p a : Int} : codeB p a ≠ ⟨#[]⟩ := fun h => by
  have h2 : (codeB p a).data.toList.length = 0 := congrArg (fun x : ByteArray => x.data.toList.length) h
  have := FmtText.zeros_length 4 a
  rw [show (codeB p a).data.toList.length = (FmtText.zeros 2 p).length + (FmtText.zeros 4 a).length by simp [codeB, codeL]] at h2
  omega

section
attribute [local go_sem] call11 guardF fmtC fmtCr op3_100 op3_100w

theorem sprintf_run (F : Interp) (a0 a1 : Int) (w0 : (Lit.int .i64 a0).wf = true) (w1 : (Lit.int .i64 a1).wf = true) (w : World) (hF : F.told.answers w.tape) (B : Nat)
    (c0 : w.cell? ⟨B, 0, none⟩ = some (.iface 3 (.int .i64 a0))) (c1 : w.cell? ⟨B, 1, none⟩ = some (.iface 3 (.int .i64 a1))) :
    (callFunc 11 #[.string ⟨#[37, 48, 50, 100, 37, 48, 52, 100]⟩, .slice (some ⟨B, 0, none⟩) 2 2]).run Ybaf.prog w = .ok (.value (.string (codeB a0 a1))) w.drew := by
  have hF' := answers_open hF
  rw [← code_textOf F a0 a1 w0 w1]
  go_simp
  rfl
end

end Go.Proofs.YbulkcssoFmt
