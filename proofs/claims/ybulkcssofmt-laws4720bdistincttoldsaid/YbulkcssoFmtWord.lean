/- The contracts of (*PCG).Uint64 and of (*Rand).Uint64 over it. -/
import Derived.Test.YbulkcssoFmtNext
import Derived.Laws.Bits64
namespace Go.Proofs.YbulkcssoFmt
open Go Go.RowKit
set_option linter.unusedVariables false

theorem xor32 (a : Nat) (ha : a < 18446744073709551616) : bits .xor .u64 (a : Int) ((a : Int) / 4294967296) = ((Pcg.X 32 a : Nat) : Int) := by
  have e : (a : Int) / (4294967296 : Int) = ((a >>> 32 : Nat) : Int) := by rw [Nat.shiftRight_eq_div_pow]; omega
  rw [e, bits_xor_u64_nat a _ ha (by rw [Nat.shiftRight_eq_div_pow]; omega)]
  rfl
theorem xor48 (a : Nat) (ha : a < 18446744073709551616) : bits .xor .u64 (a : Int) ((a : Int) / 281474976710656) = ((Pcg.X 48 a : Nat) : Int) := by
  have e : (a : Int) / (281474976710656 : Int) = ((a >>> 48 : Nat) : Int) := by rw [Nat.shiftRight_eq_div_pow]; omega
  rw [e, bits_xor_u64_nat a _ ha (by rw [Nat.shiftRight_eq_div_pow]; omega)]
  rfl
theorem or1 (a : Nat) (ha : a < 18446744073709551616) : bits .or .u64 (a : Int) 1 = ((a ||| 1 : Nat) : Int) := bits_or_u64_nat a 1 ha (by decide)

theorem out_eq (hi lo : Nat) (hhi : hi < 18446744073709551616) (hlo : lo < 18446744073709551616) :
    IntKind.u64.wrap (bits .xor .u64 (IntKind.u64.wrap (bits .xor .u64 (hi : Int) ((hi : Int) / 4294967296) * 15750249268501108917)) (IntKind.u64.wrap (bits .xor .u64 (hi : Int) ((hi : Int) / 4294967296) * 15750249268501108917) / 281474976710656) * bits .or .u64 (lo : Int) 1) = ((Pcg.outp hi lo : Nat) : Int) := by
  have e : ((Pcg.X 32 hi : Nat) : Int) * 15750249268501108917 = ((Pcg.X 32 hi * 15750249268501108917 : Nat) : Int) := by omega
  rw [xor32 hi hhi, e, wrapM, xor48 _ (Nat.mod_lt _ (by decide)), or1 lo hlo, mulN, wrapM]
  rfl

set_option maxHeartbeats 1000000 in
theorem pcgWord_any (w : World) (p s : Nat) (h : PcgAt w p s) :
    Calls Ybaf.prog 59 #[.pointer (some ⟨p, 0, none⟩)] w fun e w' => e = .returned (.int .u64 ((Pcg.word (Pcg.nxt s) : Nat) : Int)) ∧ PcgAt w' p (Pcg.nxt s) ∧ w.grownBy w' (some p) := by
  have hn := next_any w p s h
  obtain ⟨hi, ehi⟩ : ∃ hi, hi = Pcg.nxt s / 18446744073709551616 := ⟨_, rfl⟩
  obtain ⟨lo, elo⟩ : ∃ lo, lo = Pcg.nxt s % 18446744073709551616 := ⟨_, rfl⟩
  have hz := Pcg.nxt_lt s
  have hhi : hi < 18446744073709551616 := by omega
  have hlo : lo < 18446744073709551616 := by omega
  have ew : Pcg.word (Pcg.nxt s) = Pcg.outp hi lo := by rw [ehi, elo]; rfl
  rw [ew]
  rw [← ehi, ← elo] at hn
  clear ehi elo hz ew
  go_enter Ybaf.func59, Ybaf.ntmps59
  go_wp2_with (go_at_call 60; refine hn.mono ?_; rintro e w' ⟨rfl, hp', hg'⟩)
  simp only [out_eq hi lo hhi hlo]
  go_ret
  exact ⟨rfl, hp', hg'⟩

/-- The Rand lies in block r, over the generator in block p. -/
def RandAt (w : World) (r p s : Nat) : Prop :=
  w.heap[r]? = some (.cells #[.iface 69 (.pointer (some ⟨p, 0, none⟩))] 79 (0, 0)) ∧ p ≠ r ∧ PcgAt w p s
theorem RandAt.grown {w w' : World} {r p s s' : Nat} (h : RandAt w r p s) (hp : PcgAt w' p s') (hg : w.grownBy w' (some p)) : RandAt w' r p s' := by
  refine ⟨?_, h.2.1, hp⟩
  rw [hg.block r (Array.getElem?_eq_some_iff.1 h.1).1 (by simpa using h.2.1.symm)]
  exact h.1

set_option maxHeartbeats 1000000 in
theorem randWord_any (w : World) (r p s : Nat) (h : RandAt w r p s) :
    Calls Ybaf.prog 17 #[.pointer (some ⟨r, 0, none⟩)] w fun e w' => e = .returned (.int .u64 ((Pcg.word (Pcg.nxt s) : Nat) : Int)) ∧ RandAt w' r p (Pcg.nxt s) ∧ w.grownBy w' (some p) := by
  have c0 : w.cell? ⟨r, 0, none⟩ = some (.iface 69 (.pointer (some ⟨p, 0, none⟩))) := by rw [cell_of_row w _ _ _ _ _ h.1]; rfl
  have hw := pcgWord_any w p s h.2.2
  have H := hideIt h
  clear h
  go_enter Ybaf.func17, Ybaf.ntmps17
  go_wp2_with (go_at_call 59; refine hw.mono ?_; rintro e w' ⟨rfl, hp', hg'⟩)
  go_ret
  exact ⟨rfl, H.out.grown hp' hg', hg'⟩

end Go.Proofs.YbulkcssoFmt
