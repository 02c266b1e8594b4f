/- The contracts of (*Rand).uint64n and of (*Rand).IntN, at 10000. -/
import Derived.Test.YbulkcssoFmtWord
import Derived.Deep.LoopGhost
namespace Go.Proofs.YbulkcssoFmt
open Go Go.RowKit
set_option linter.unusedVariables false

theorem mul10000 (s : Nat) (w : World) :
    Calls Ybaf.prog 18 #[.int .u64 ((Pcg.word s : Nat) : Int), .int .u64 10000] w fun e w' => e = .returned (.tuple #[.int .u64 ((Pcg.val s : Nat) : Int), .int .u64 ((Pcg.low s : Nat) : Int)]) ∧ w = w' :=
  mul64_any (Pcg.word s) 10000 (Pcg.outp_lt _ _) (by decide) w

theorem grownBy_two {a b c : World} {p : Nat} (h : a.grownBy b (some p)) (k : b.grownBy c (some p)) : a.grownBy c (some p) :=
  ⟨k.os.trans h.os, k.tape.trans h.tape, k.output.trans h.output, Nat.le_trans h.size k.size, fun i hi hne => (k.block i (Nat.lt_of_lt_of_le hi h.size) hne).trans (h.block i hi hne)⟩

set_option maxHeartbeats 1000000 in
set_option maxRecDepth 100000 in
theorem uint64n_any (w : World) (r p s : Nat) (h : RandAt w r p s) :
    Calls Ybaf.prog 15 #[.pointer (some ⟨r, 0, none⟩), .int .u64 10000] w fun e w' => ∃ s', Pcg.Drawn s s' ∧ e = .returned (.int .u64 ((Pcg.val s' : Nat) : Int)) ∧ RandAt w' r p s' ∧ w.grownBy w' (some p) := by
  obtain ⟨t, ht, hta, _⟩ := Pcg.target 0 (by decide)
  obtain ⟨G, hG, hGt⟩ := Pcg.reach s t ht
  have hand : bits .and .u64 10000 9999 = 9984 := by decide
  have hw := randWord_any w r p s h
  have H := hideIt (And.intro h (And.intro hta hGt))
  clear h hta hGt ht
  go_enter Ybaf.func15, Ybaf.ntmps15
  go_wp2_with (first
    | (go_at_call 17; refine hw.mono ?_; rintro e w1 ⟨rfl, hr1, hg1⟩)
    | (go_at_call 18; refine (mul10000 (Pcg.nxt s) _).mono ?_; rintro e w2 ⟨rfl, rfl⟩))
  rotate_left
  · go_ret
    obtain ⟨h, hta, hGt⟩ := H.out
    refine ⟨Pcg.nxt s, ⟨1, Nat.le_refl _, (Pcg.iter_one s).symm, ?_, fun i h1 h2 => by omega⟩, rfl, hr1, hg1⟩
    unfold Pcg.Acc
    omega
  · have hthr : (IntKind.u64.wrap (-10000)).tmod 10000 = 1616 := by decide
    have h0 : ∃ j c, 1 ≤ j ∧ j ≤ G ∧ G - 1 = G - j ∧ c = Pcg.iter j s ∧ (∀ i, 1 ≤ i → i < j → ¬ Pcg.Acc (Pcg.iter i s)) ∧ Value.int .u64 ((Pcg.val (Pcg.nxt s) : Nat) : Int) = .int .u64 ((Pcg.val c : Nat) : Int) ∧ Value.int .u64 ((Pcg.low (Pcg.nxt s) : Nat) : Int) = .int .u64 ((Pcg.low c : Nat) : Int) ∧ RandAt w1 r p c ∧ w.grownBy w1 (some p) :=
      ⟨1, _, Nat.le_refl _, hG, rfl, (Pcg.iter_one s).symm, fun i h1 h2 => by omega, rfl, rfl, hr1, hg1⟩
    have H0 := hideIt h0
    clear h0 hw hr1 hg1
    rename_i hlt
    rw [hthr, decide_eq_true hlt]
    clear hlt
    go_loopg [5, 6] (G - 1) (fun k v5 v6 wr => ∃ j c, 1 ≤ j ∧ j ≤ G ∧ k = G - j ∧ c = Pcg.iter j s ∧ (∀ i, 1 ≤ i → i < j → ¬ Pcg.Acc (Pcg.iter i s)) ∧ v5 = .int .u64 ((Pcg.val c : Nat) : Int) ∧ v6 = .int .u64 ((Pcg.low c : Nat) : Int) ∧ RandAt wr r p c ∧ w.grownBy wr (some p))
    case atStart => exact H0.out
    case round =>
      obtain ⟨j, c, hj, hjG, rfl, hc, hno, rfl, rfl, hr, hg⟩ := hrel
      clear H0
      have Hc := hideIt (And.intro hc hno)
      clear hc hno
      by_cases hacc : Pcg.low c < 1616
      · have hacc4 : ((Pcg.low c : Nat) : Int) < 1616 := by omega
        have hw := randWord_any wr r p c hr
        clear hr
        go_wp2_with (first
          | (go_at_call 17; refine hw.mono ?_; rintro e w3 ⟨rfl, hr3, hg3⟩)
          | (go_at_call 18; refine (mul10000 (Pcg.nxt c) _).mono ?_; rintro e w2 ⟨rfl, rfl⟩))
        obtain ⟨hc, hno⟩ := Hc.out
        have hne : j ≠ G := fun e => by
          obtain ⟨_, hta, hGt⟩ := H.out
          rw [e, hGt] at hc
          unfold Pcg.Acc at hta
          rw [← hc] at hta
          omega
        go_roundg (G - (j + 1))
        case measure => omega
        case rel =>
          refine ⟨j + 1, Pcg.nxt c, by omega, by omega, rfl, by rw [Pcg.iter_succ, hc], fun i h1 h2 => ?_, rfl, rfl, hr3, grownBy_two hg hg3⟩
          rcases Nat.lt_or_ge i j with hij | hij
          · exact hno i h1 hij
          · obtain rfl : i = j := by omega
            rw [← hc]
            unfold Pcg.Acc
            omega
      · have hacc4 : (1616 : Int) ≤ ((Pcg.low c : Nat) : Int) := by omega
        go_wp2
        go_ret
        obtain ⟨hc, hno⟩ := Hc.out
        refine ⟨c, ⟨j, hj, hc, ?_, hno⟩, rfl, hr, hg⟩
        unfold Pcg.Acc
        omega

set_option maxHeartbeats 1000000 in
theorem intN_any (w : World) (r p s : Nat) (h : RandAt w r p s) :
    Calls Ybaf.prog 12 #[.pointer (some ⟨r, 0, none⟩), .int .i64 10000] w fun e w' => ∃ s', Pcg.Drawn s s' ∧ e = .returned (.int .i64 ((Pcg.val s' : Nat) : Int)) ∧ RandAt w' r p s' ∧ w.grownBy w' (some p) := by
  have hu := uint64n_any w r p s h
  clear h
  go_enter Ybaf.func12, Ybaf.ntmps12
  go_wp2_with (go_at_call 15; refine hu.mono ?_; rintro e w1 ⟨s', hd, rfl, hr1, hg1⟩; have hv := Pcg.val_lt s')
  go_ret
  exact ⟨s', hd, by go_num, hr1, hg1⟩

end Go.Proofs.YbulkcssoFmt
