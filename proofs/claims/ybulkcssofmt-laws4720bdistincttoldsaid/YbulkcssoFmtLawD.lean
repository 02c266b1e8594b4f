/- 'LawS4720BDistinct': the walk. -/
import Derived.Test.YbulkcssoFmtGives
namespace Go.Proofs.YbulkcssoFmt
open Go Go.RowKit Go.Maps Go.Extern.Stop Go.Stop Go.Extern
set_option linter.unusedVariables false

theorem exB_short (b : Int) : (exB b).size ≤ maxLen := by
  unfold exB
  split
  · decide
  · split
    · decide
    · split <;> decide

theorem distinct_many (ao : Option Addr) (n cap : Nat) (seed mm : Int) (hn : 256 < n) (hm : n ≤ maxLen) (w : World) :
    Calls Ybaf.prog 3 #[.int .u64 seed, .int .u16 mm, .slice ao n cap] w fun e w' => e = .returned (.bool true) ∧ Below w.heap.size w w' := by
  unfold maxLen at hm
  have hd : decide ((256 : Int) < (n : Int)) = true := by simp; omega
  go_enter Ybaf.func3, Ybaf.ntmps3
  go_wp2
  go_ret
  exact ⟨rfl, Below.refl _ _⟩

theorem makeMap32 (n : Int) (w : World) : (Instr.makeMap 32 (some (.int .i64 n))).run Ybaf.prog w = .ok (.map (some w.heap.size)) (w.alloc (.map #[] 0)) := by kernel_rfl

/-- What holds while the codes are looked through. -/
structure RL (w2 wr : World) (j : Nat) (f : Nat → ByteArray) : Prop where
  set : ∃ D : DataW Unit, wr.ownsMap Ybaf.prog 9 (plainElem Ybaf.prog 4) w2.heap.size j D ∧ Marks D j f
  below : Below w2.heap.size w2 wr
theorem RL.start (w2 : World) (f : Nat → ByteArray) : RL w2 (w2.alloc (.map #[] 0)) 0 f :=
  ⟨⟨.map [], World.ownsMap_made _ _ _ _, marks_zero f⟩, (Below.refl _ _).alloc (Nat.le_refl _) _⟩
theorem RL.mark {w2 wr : World} {j : Nat} {f : Nat → ByteArray} (h : RL w2 wr j f) (hj : j < 10000) (hs : (f j).size ≤ maxLen) :
    ∃ w3, (Instr.mapUpdate 32 (.map (some w2.heap.size)) (.string (f j)) (.bool true)).run Ybaf.prog wr = .ok () w3 ∧ RL w2 w3 (j + 1) f := by
  obtain ⟨D, hD, hM⟩ := h.set
  obtain ⟨w3, hrun, ho, ht⟩ := hD.store law9 Ybaf.underlying32 (by unfold maxLen; omega) (keyOf_code hs) (plainElem_bool Ybaf.underlying4 true)
  exact ⟨w3, hrun, ⟨_, ho, hM.step⟩, h.below.grown ht.grown h.below.size (fun j hj => by simp at hj; omega)⟩
theorem RL.free {w2 wr : World} {j : Nat} {f : Nat → ByteArray} (h : RL w2 wr j f) (hs : (f j).size ≤ maxLen) (hx : ∀ i, i < j → f i ≠ f j) :
    (Instr.lookup 32 (.map (some w2.heap.size)) (.string (f j)) false).run Ybaf.prog wr = .ok (.bool false) wr := by
  obtain ⟨D, hD, hM⟩ := h.set
  exact lookup_bool hD hs (hM.2.2 _ hx)

set_option maxRecDepth 100000 in
set_option maxHeartbeats 2000000 in
theorem distinct_few (F : Interp) (ao : Option Addr) (n cap : Nat) (S : Nat) (mm : Int) (hS : S < 18446744073709551616) (h0 : 0 ≤ mm) (h1 : mm ≤ 65535) (sel : Nat → Int) (hn : n ≤ 256) (w : World) (hF : F.told.answers w.tape) (h : IsSel w ao n sel) :
    Calls Ybaf.prog 3 #[.int .u64 S, .int .u16 mm, .slice ao n cap] w fun e w' => e = .returned (.bool true) ∧ Below w.heap.size w w' := by
  have hd : decide ((256 : Int) < (n : Int)) = false := by simp; omega
  obtain ⟨m1, hm1⟩ : ∃ m1, m1 = max n 1 := ⟨_, rfl⟩
  have hsrc := sources_any ao n cap sel hn w h
  rw [← hm1] at hsrc
  have g1 : 1 ≤ m1 := by omega
  have g2 : m1 ≤ 256 := by omega
  have g3 : n ≤ m1 := by omega
  have hmk := makeMap32
  have q60 := fun (w : World) => run_neq_map_nil (P := Ybaf.prog) w 60 9 20 none Ybaf.underlying60
  have Hh := hideIt h
  clear hm1 h
  go_enter Ybaf.func3, Ybaf.ntmps3
  go_wp2_with fail
  refine hsrc.mono ?_
  rintro e w1 ⟨rfl, hb1, hs1⟩
  clear hsrc
  go_wp2_with fail
  obtain ⟨N, hN⟩ : ∃ N : Nat, (n : Int) * 29 + mm % 29 = (N : Int) := ⟨((n : Int) * 29 + mm % 29).toNat, by omega⟩
  have hN2 : N ≤ 9999 := by omega
  rw [hN]
  have hF1 : F.told.answers w1.tape := by rw [hb1.tape]; exact hF
  refine (madeCodes_gives F S N w.heap.size m1 hS (fun i => if n = 0 then exB 0 else exB (sel i)) (fun i => by split <;> exact exB_short _) w1 hF1 (by omega) g2 hN2 hs1).mono ?_
  rintro e w2 ⟨cb, f, rfl, hcb, hrow, hgood, hb2⟩
  have hcells : ∀ i, i < n → w2.cell? ⟨w.heap.size, i * 69, none⟩ = some (.map none) ∧ w2.cell? ⟨w.heap.size, i * 69 + 1 + 2, none⟩ = some (.string (exB (sel i))) := fun i hi => by
    obtain ⟨c1, c2⟩ := hs1.2 i (by omega)
    have c2' : w1.cell? ⟨w.heap.size, i * 69 + 1 + 2, none⟩ = some (.string (if n = 0 then exB 0 else exB (sel i))) := c2
    rw [if_neg (by omega)] at c2'
    rw [hb2.cell (p := ⟨w.heap.size, i * 69, none⟩) hs1.1, hb2.cell (p := ⟨w.heap.size, i * 69 + 1 + 2, none⟩) hs1.1]
    exact ⟨c1, c2'⟩
  have hb02 : Below w.heap.size w w2 := hb1.trans (hb2.mono hb1.size)
  have hlt2 : w.heap.size < w2.heap.size := Nat.lt_of_lt_of_le hs1.1 hb2.size
  have hR0 := RL.start w2 f
  have Hc := hideIt hcells
  have Hg := hideIt hgood
  have Hr := hideIt hrow
  clear hcells hgood hrow hb2 hs1 hb1 hN hF1 hF
  go_wp2_with fail
  go_loopw [47] (fun i wr => ∃ j : Nat, j ≤ N ∧ i = .int .i64 j ∧ RL w2 wr j f) (fun i _ => N - (intOf i).toNat)
  case atStart => exact ⟨0, Nat.zero_le _, rfl, hR0⟩
  case round =>
    obtain ⟨j, hj, rfl, hR⟩ := hrel
    clear hR0
    by_cases hlt : j < N
    · obtain ⟨n1, n2, n3⟩ := Hg.out j hlt
      have hc := Hr.out.cell hlt
      rw [← hR.below.cell (p := ⟨cb, j, none⟩) Hr.out.lt] at hc
      have hlk := hR.free n2 n3
      obtain ⟨w3, hmu, hR3⟩ := hR.mark (by omega) n2
      have e1 := toList_ne n1
      have e2 := isEmpty_ne n1
      obtain ⟨c, ec⟩ : ∃ c, c = f j := ⟨_, rfl⟩
      rw [← ec] at hc hlk hmu e1 e2
      clear n1 n2 n3 hR ec
      go_wp2
      go_roundw
      case rel => exact ⟨j + 1, by omega, by go_num, hR3⟩
      case measure => simp [intOf]; omega
    · obtain rfl : j = N := by omega
      obtain ⟨w4, hw4⟩ : ∃ x, x = wr := ⟨wr, rfl⟩
      subst hw4
      have hb4 := hR.below
      clear hR
      go_wp2_with fail
      go_loopw [63] (fun i wr => ∃ k : Nat, k ≤ n ∧ i = .int .i64 k ∧ Below w2.heap.size w2 wr) (fun i _ => n - (intOf i).toNat)
      case atStart => exact ⟨0, Nat.zero_le _, rfl, hb4⟩
      case round =>
        obtain ⟨k, hk, rfl, hb⟩ := hrel
        clear hb4
        by_cases hkn : k < n
        · obtain ⟨b, off, rfl, hbw, hsel⟩ := Hh.out.2 (by omega)
          obtain ⟨c0, s0, s1⟩ := hsel k hkn
          rw [← hb02.cell (p := ⟨b, off + k, none⟩) hbw, ← hb.cell (p := ⟨b, off + k, none⟩) (by show b < _; omega)] at c0
          obtain ⟨d0, d1⟩ := Hc.out k hkn
          rw [← hb.cell (p := ⟨w.heap.size, k * 69, none⟩) hlt2] at d0
          rw [← hb.cell (p := ⟨w.heap.size, k * 69 + 1 + 2, none⟩) hlt2] at d1
          have hx : ∀ w : World, Calls Ybaf.prog 7 #[.int .u8 (sel k)] w fun e w' => e = .returned (.string (exB (sel k))) ∧ w' = w := fun w => (exchange_any (sel k) s0 s1 w).mono fun e w' h => ⟨h.1, h.2.symm⟩
          obtain ⟨x, ex⟩ : ∃ x, x = exB (sel k) := ⟨_, rfl⟩
          rw [← ex] at d1 hx
          have hkm : k < m1 := by omega
          clear hsel ex
          go_wp2_with fail
          go_quiet (first | (go_at_call 7; exact Calls.quiet_of_same (hx _)))
          go_wp2
          go_roundw
          case rel => exact ⟨k + 1, by omega, by go_num, ⟨hb.os, hb.tape, hb.output, hb.size, hb.block⟩⟩
          case measure => simp [intOf]; omega
        · obtain rfl : k = n := by omega
          go_wp2
          go_ret
          exact ⟨rfl, hb02.trans (hb.mono hb02.size)⟩

/-- The walk, whatever the selectors. -/
theorem distinct_walk (F : Interp) (ao : Option Addr) (n cap : Nat) (S : Nat) (mm : Int) (hS : S < 18446744073709551616) (h0 : 0 ≤ mm) (h1 : mm ≤ 65535) (sel : Nat → Int) (w : World) (hF : F.told.answers w.tape) (h : IsSel w ao n sel) :
    Calls Ybaf.prog 3 #[.int .u64 S, .int .u16 mm, .slice ao n cap] w fun e w' => e = .returned (.bool true) ∧ Below w.heap.size w w' := by
  rcases Nat.lt_or_ge 256 n with hbig | hle
  · exact distinct_many ao n cap S mm hbig h.1 w
  · exact distinct_few F ao n cap S mm hS h0 h1 sel hle w hF h

end Go.Proofs.YbulkcssoFmt
