/- 'LawS4720BRefuses': the walk. -/
import Derived.Test.YbulkcssoFmtRefuse
namespace Go.Proofs.YbulkcssoFmt
open Go Go.RowKit Go.Maps Go.Extern.Stop Go.Stop Go.Extern
set_option linter.unusedVariables false

theorem exB_size (b : Int) : (exB b).size ≤ maxLen := by
  unfold exB
  split
  · decide
  · split
    · decide
    · split <;> decide

theorem refuses_many (ao : Option Addr) (n cap : Nat) (seed mm : Int) (hn : 256 < n) (hm : n ≤ maxLen) (w : World) :
    Calls Ybaf.prog 4 #[.int .u64 seed, .int .u16 mm, .slice ao n cap] w fun e w' => e = .returned (.bool true) ∧ Below w.heap.size w w' := by
  unfold maxLen at hm
  have hd : decide ((256 : Int) < (n : Int)) = true := by simp; omega
  go_enter Ybaf.func4, Ybaf.ntmps4
  go_wp2
  go_ret
  exact ⟨rfl, Below.refl _ _⟩

set_option maxRecDepth 100000 in
set_option maxHeartbeats 1000000 in
theorem refuses_few (F : Interp) (ao : Option Addr) (n cap : Nat) (seed mm : Int) (h0 : 0 ≤ mm) (h1 : mm ≤ 65535) (sel : Nat → Int) (hn : n ≤ 256) (w : World) (hF : F.answers w.tape) (h : IsSel w ao n sel) :
    Calls Ybaf.prog 4 #[.int .u64 seed, .int .u16 mm, .slice ao n cap] w fun e w' => e = .returned (.bool true) ∧ Below w.heap.size w w' := by
  have hd : decide ((256 : Int) < (n : Int)) = false := by simp; omega
  obtain ⟨m1, hm1⟩ : ∃ m1, m1 = max n 1 := ⟨_, rfl⟩
  have hsrc := sources_any ao n cap sel hn w h
  rw [← hm1] at hsrc
  have g1 : 1 ≤ m1 := by omega
  have g2 : m1 ≤ 256 := by omega
  have q27 := fun (w : World) (a : Option Addr) (n c : Nat) => Lib.run_eql_slice_nil (P := Ybaf.prog) w 27 9 a n c 0 0 Ybaf.underlying27
  clear hm1 h
  go_enter Ybaf.func4, Ybaf.ntmps4
  go_wp2_with fail
  refine hsrc.mono ?_
  rintro e w1 ⟨rfl, hb1, hs1⟩
  clear hsrc
  go_wp2_with fail
  obtain ⟨N, hN⟩ : ∃ N : Nat, 10000 * (m1 : Int) + 1 + mm % 1000 = (N : Int) := ⟨(10000 * (m1 : Int) + 1 + mm % 1000).toNat, by omega⟩
  rw [hN]
  have hF1 : F.answers w1.tape := by rw [hb1.tape]; exact hF
  refine (madeCodes_refuses F seed N w.heap.size m1 (fun i => if n = 0 then exB 0 else exB (sel i)) (fun i => by split <;> exact exB_size _) w1 hF1 (by omega) g2 (by omega) (by omega) hs1).mono ?_
  rintro e w2 ⟨⟨v, rfl⟩, hb2⟩
  have Hfin := hideIt (hb1.trans (hb2.mono hb1.size))
  clear hN hb2 hs1 hb1
  go_wp2
  go_ret
  exact ⟨rfl, Hfin.out⟩

/-- The walk, whatever the selectors. -/
theorem refuses_walk (F : Interp) (ao : Option Addr) (n cap : Nat) (seed mm : Int) (h0 : 0 ≤ mm) (h1 : mm ≤ 65535) (sel : Nat → Int) (w : World) (hF : F.answers w.tape) (h : IsSel w ao n sel) :
    Calls Ybaf.prog 4 #[.int .u64 seed, .int .u16 mm, .slice ao n cap] w fun e w' => e = .returned (.bool true) ∧ Below w.heap.size w w' := by
  rcases Nat.lt_or_ge 256 n with hbig | hle
  · exact refuses_many ao n cap seed mm hbig h.1 w
  · exact refuses_few F ao n cap seed mm h0 h1 sel hle w hF h

end Go.Proofs.YbulkcssoFmt
