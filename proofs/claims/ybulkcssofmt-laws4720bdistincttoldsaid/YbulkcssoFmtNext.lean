/- The contract of the generator's step, (*PCG).next. -/
import Derived.Test.YbulkcssoFmtRng
import Derived.BigQuiet
import Derived.Lib.HexFns
namespace Go.Proofs.YbulkcssoFmt
open Go Go.RowKit
set_option linter.unusedVariables false

theorem words_lin (d a b p : Nat) :
    (340282366920938463463374607431768211456 * d + 18446744073709551616 * (a + b + 6364136223846793005) + (p + 1442695040888963407)) % 340282366920938463463374607431768211456 % 18446744073709551616 = (p % 18446744073709551616 + 1442695040888963407) % 18446744073709551616 ∧
    (340282366920938463463374607431768211456 * d + 18446744073709551616 * (a + b + 6364136223846793005) + (p + 1442695040888963407)) % 340282366920938463463374607431768211456 / 18446744073709551616 = ((p / 18446744073709551616 + (a % 18446744073709551616 + b % 18446744073709551616)) % 18446744073709551616 + 6364136223846793005 + (p % 18446744073709551616 + 1442695040888963407) / 18446744073709551616) % 18446744073709551616 := by
  have e : 340282366920938463463374607431768211456 = 18446744073709551616 * 18446744073709551616 := by decide
  rw [e, Nat.mod_mul_left_mod, Nat.mod_mul_right_div_self]
  constructor <;> omega

/-- The step, word by word. -/
theorem step_words (hi lo : Nat) :
    Pcg.nxt (hi * 18446744073709551616 + lo) % 18446744073709551616 = (lo * 4865540595714422341 % 18446744073709551616 + 1442695040888963407) % 18446744073709551616 ∧
    Pcg.nxt (hi * 18446744073709551616 + lo) / 18446744073709551616 = ((lo * 4865540595714422341 / 18446744073709551616 + (hi * 4865540595714422341 % 18446744073709551616 + lo * 2549297995355413924 % 18446744073709551616)) % 18446744073709551616 + 6364136223846793005 + (lo * 4865540595714422341 % 18446744073709551616 + 1442695040888963407) / 18446744073709551616) % 18446744073709551616 := by
  have h := words_lin (hi * 2549297995355413924) (hi * 4865540595714422341) (lo * 2549297995355413924) (lo * 4865540595714422341)
  have e : 47026247687942121848144207491837523525 * (hi * 18446744073709551616 + lo) + 117397592171526113268558934119004209487 = 340282366920938463463374607431768211456 * (hi * 2549297995355413924) + 18446744073709551616 * (hi * 4865540595714422341 + lo * 2549297995355413924 + 6364136223846793005) + (lo * 4865540595714422341 + 1442695040888963407) := by omega
  unfold Pcg.nxt Pcg.nx
  rw [e]
  exact h

/-- The generator lies in block p, in state s. -/
def PcgAt (w : World) (p s : Nat) : Prop :=
  s < 340282366920938463463374607431768211456 ∧ w.heap[p]? = some (.cells #[.int .u64 ((s / 18446744073709551616 : Nat) : Int), .int .u64 ((s % 18446744073709551616 : Nat) : Int)] 81 (0, 0))

set_option maxHeartbeats 1000000 in
theorem next_any (w : World) (p s : Nat) (h : PcgAt w p s) :
    Calls Ybaf.prog 60 #[.pointer (some ⟨p, 0, none⟩)] w fun e w' => e = .returned (.tuple #[.int .u64 ((Pcg.nxt s / 18446744073709551616 : Nat) : Int), .int .u64 ((Pcg.nxt s % 18446744073709551616 : Nat) : Int)]) ∧ PcgAt w' p (Pcg.nxt s) ∧ w.grownBy w' (some p) := by
  obtain ⟨hs, hp⟩ := h
  obtain ⟨hi, ehi⟩ : ∃ hi, hi = s / 18446744073709551616 := ⟨_, rfl⟩
  obtain ⟨lo, elo⟩ : ∃ lo, lo = s % 18446744073709551616 := ⟨_, rfl⟩
  rw [← ehi, ← elo] at hp
  have hhi : hi < 18446744073709551616 := by omega
  have hlo : lo < 18446744073709551616 := by omega
  have es : s = hi * 18446744073709551616 + lo := by omega
  obtain ⟨n1, n2⟩ := step_words hi lo
  rw [← es] at n1 n2
  have hz : Pcg.nxt s < 340282366920938463463374607431768211456 := Pcg.nxt_lt s
  have c0 : w.cell? ⟨p, 0, none⟩ = some (.int .u64 hi) := by rw [cell_of_row w _ _ _ _ _ hp]; rfl
  have c1 : w.cell? ⟨p, 1, none⟩ = some (.int .u64 lo) := by rw [cell_of_row w _ _ _ _ _ hp]; rfl
  have f0 := frozen_of_row w p 0 _ _ hp
  have f1 := frozen_of_row w p 1 _ _ hp
  obtain ⟨p1, ep1⟩ : ∃ p1, p1 = lo * 4865540595714422341 / 18446744073709551616 := ⟨_, rfl⟩
  obtain ⟨p0, ep0⟩ : ∃ p0, p0 = lo * 4865540595714422341 % 18446744073709551616 := ⟨_, rfl⟩
  obtain ⟨c, ec⟩ : ∃ c, c = (p0 + 1442695040888963407) / 18446744073709551616 := ⟨_, rfl⟩
  have hm : Calls Ybaf.prog 18 #[.int .u64 lo, .int .u64 4865540595714422341] w fun e w' => e = .returned (.tuple #[.int .u64 (p1 : Int), .int .u64 (p0 : Int)]) ∧ w = w' := by
    rw [ep1, ep0]
    exact mul64_any lo 4865540595714422341 hlo (by decide) w
  have hp0 : p0 < 18446744073709551616 := by omega
  have hc1 : c ≤ 1 := by omega
  rw [← ep1, ← ep0, ← ec] at n2
  rw [← ep0] at n1
  have ha : ∀ w : World, (callFunc 61 #[.int .u64 p0, .int .u64 1442695040888963407, .int .u64 0]).run Ybaf.prog w = .ok (.value (.tuple #[.int .u64 ((Pcg.nxt s % 18446744073709551616 : Nat) : Int), .int .u64 (c : Int)])) w := fun w => by
    rw [n1, ec]
    exact add64 p0 1442695040888963407 0 hp0 (by decide) (by decide) w
  have hb : ∀ w : World, (callFunc 61 #[.int .u64 (IntKind.u64.wrap ((p1 : Int) + IntKind.u64.wrap (IntKind.u64.wrap ((hi : Int) * 4865540595714422341) + IntKind.u64.wrap ((lo : Int) * 2549297995355413924)))), .int .u64 6364136223846793005, .int .u64 (c : Int)]).run Ybaf.prog w = .ok (.value (.tuple #[.int .u64 ((Pcg.nxt s / 18446744073709551616 : Nat) : Int), .int .u64 ((((p1 + (hi * 4865540595714422341 % 18446744073709551616 + lo * 2549297995355413924 % 18446744073709551616)) % 18446744073709551616 + 6364136223846793005 + c) / 18446744073709551616 : Nat) : Int)])) w := fun w => by
    have e1 : IntKind.u64.wrap ((p1 : Int) + IntKind.u64.wrap (IntKind.u64.wrap ((hi : Int) * 4865540595714422341) + IntKind.u64.wrap ((lo : Int) * 2549297995355413924))) = (((p1 + (hi * 4865540595714422341 % 18446744073709551616 + lo * 2549297995355413924 % 18446744073709551616)) % 18446744073709551616 : Nat) : Int) := by
      simp only [IntKind.wrap_u64]
      omega
    rw [e1, n2]
    exact add64 _ 6364136223846793005 c (by omega) (by decide) hc1 w
  obtain ⟨q1, eq1⟩ : ∃ q1, q1 = Pcg.nxt s / 18446744073709551616 := ⟨_, rfl⟩
  obtain ⟨q0, eq0⟩ : ∃ q0, q0 = Pcg.nxt s % 18446744073709551616 := ⟨_, rfl⟩
  rw [← eq0] at ha
  rw [← eq1] at hb
  have hfin : ∀ n, PcgAt (((w.drewN n).setCell ⟨p, 1, none⟩ (.int .u64 q0)).setCell ⟨p, 0, none⟩ (.int .u64 q1)) p (Pcg.nxt s) ∧ w.grownBy (((w.drewN n).setCell ⟨p, 1, none⟩ (.int .u64 q0)).setCell ⟨p, 0, none⟩ (.int .u64 q1)) (some p) := fun n => by
    have h0 : (w.drewN n).heap[p]? = some (.cells #[.int .u64 hi, .int .u64 lo] 81 (0, 0)) := hp
    refine ⟨⟨hz, ?_⟩, ?_⟩
    · rw [← eq1, ← eq0]
      exact heap_setCell_same _ _ 0 _ _ _ (heap_setCell_same _ _ 1 _ _ _ h0)
    · refine Lib.Hx.grownBy_set (Lib.Hx.grownBy_set (b := p) ?_ ⟨p, 1, none⟩ rfl _) ⟨p, 0, none⟩ rfl _
      exact ⟨rfl, rfl, rfl, Nat.le_refl _, fun _ _ _ => rfl⟩
  rw [← eq1, ← eq0]
  have Hfin := hideIt hfin
  clear hp n1 n2 ehi elo es hs ep1 ep0 ec hfin eq1 eq0 hz
  go_enter Ybaf.func60, Ybaf.ntmps60
  go_wp2_with (go_at_call 18; refine hm.mono ?_; rintro e w' ⟨rfl, rfl⟩)
  go_quiet (fail)
  go_wp2
  go_ret2
  exact ⟨rfl, Hfin.out _⟩

end Go.Proofs.YbulkcssoFmt
