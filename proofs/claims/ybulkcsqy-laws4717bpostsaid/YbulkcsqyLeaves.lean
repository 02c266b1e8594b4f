/- The leaves of the law 'LawS4717BPost': one contract a function. -/
import Derived.Test.YbulkcsqyProg
import Derived.WalkKit
import Derived.WalkSpells
import Derived.WalkLawsBesides
import Derived.Handy
namespace Go.Proofs.Ybulkcsqy
open Go Go.RowKit
set_option linter.unusedVariables false

theorem hideIt {p : Prop} (h : p) : Hid p := h
abbrev nilS : Value := .slice none 0 0
/-- A Decimal as a value. -/
abbrev dec (s : Int) (p : Option Addr) : Value := .agg #[.int .i64 s, .pointer p, .int .i64 0]

theorem newInt_min (w : World) :
    Calls Yba.prog 7 #[.int .i64 (-9223372036854775808)] w fun e w' => e = .returned (.pointer (some ⟨w.heap.size + 1, 0, none⟩)) ∧
      ∃ z, w' = (w.alloc (.cells #[.int .u64 z] 43)).alloc (.cells #[.bool true, .slice (some ⟨w.heap.size, 0, none⟩) 1 1] 46) := by
  go_enter Yba.func7, Yba.ntmps7
  go_wp2
  go_ret
  exact ⟨rfl, _, rfl⟩

/-- What is known of the Decimal that FromInt makes of n. -/
def DecOk (n s : Int) (p : Option Addr) (w : World) : Prop :=
  (n ≠ -9223372036854775808 ∧ s = n ∧ p = none) ∨
  (n = -9223372036854775808 ∧ s = 0 ∧ ∃ pb ab, p = some ⟨pb, 0, none⟩ ∧ pb < w.heap.size ∧ w.cell? ⟨pb, 0, none⟩ = some (.bool true) ∧ w.cell? ⟨pb, 1, none⟩ = some (.slice (some ⟨ab, 0, none⟩) 1 1))

theorem DecOk.below {n s : Int} {p : Option Addr} {w w' : World} {B : Nat} (h : DecOk n s p w) (hb : Below B w w') (hB : w.heap.size ≤ B) : DecOk n s p w' := by
  rcases h with h | ⟨h1, h2, pb, ab, h3, h4, h5, h6⟩
  · exact .inl h
  · exact .inr ⟨h1, h2, pb, ab, h3, Nat.lt_of_lt_of_le h4 hb.size, (hb.cell (p := ⟨pb, 0, none⟩) (Nat.lt_of_lt_of_le h4 hB)).trans h5, (hb.cell (p := ⟨pb, 1, none⟩) (Nat.lt_of_lt_of_le h4 hB)).trans h6⟩

theorem fromInt_plain (n : Int) (h0 : -9223372036854775808 < n) (h1 : n ≤ 9223372036854775807) (w : World) :
    Calls Yba.prog 4 #[.int .i64 n] w fun e w' => e = .returned (dec n none) ∧ Below w.heap.size w w' := by
  have hne : (n == -9223372036854775808) = false := by rw [beq_eq_false_iff_ne]; omega
  go_enter Yba.func4, Yba.ntmps4
  go_wp2
  refine bodyPost_ret (v := dec n none) (by simp [results, Yba.results4, go_sem]) rfl ⟨rfl, (Below.refl _ _).alloc (Nat.le_refl _) _⟩

theorem fromInt_min (w : World) :
    Calls Yba.prog 4 #[.int .i64 (-9223372036854775808)] w fun e w' => ∃ p, e = .returned (dec 0 p) ∧ Below w.heap.size w w' ∧ DecOk (-9223372036854775808) 0 p w' := by
  go_enter Yba.func4, Yba.ntmps4
  go_wp2_with (go_at_call 7; refine (newInt_min _).mono ?_; rintro e w' ⟨rfl, z, rfl⟩)
  refine bodyPost_ret (v := dec 0 (some ⟨w.heap.size + 1 + 1, 0, none⟩)) (by simp [results, Yba.results4, go_sem]) rfl ⟨_, rfl, ?_, ?_⟩
  · exact (((Below.refl _ _).alloc (Nat.le_refl _) _).alloc (by simp) _).alloc (by simp; omega) _
  · exact .inr ⟨rfl, rfl, w.heap.size + 1 + 1, w.heap.size + 1, rfl, by simp, by rw [World.cell?_alloc_at _ _ _ _ (by simp)]; rfl, by rw [World.cell?_alloc_at _ _ _ _ (by simp)]; rfl⟩

theorem fromInt_any (n : Int) (h0 : -9223372036854775808 ≤ n) (h1 : n ≤ 9223372036854775807) (w : World) :
    Calls Yba.prog 4 #[.int .i64 n] w fun e w' => ∃ s p, e = .returned (dec s p) ∧ Below w.heap.size w w' ∧ DecOk n s p w' := by
  by_cases h : n = -9223372036854775808
  · subst h
    refine (fromInt_min w).mono ?_
    rintro e w' ⟨p, rfl, hb, hd⟩
    exact ⟨0, p, rfl, hb, hd⟩
  · refine (fromInt_plain n (by omega) h1 w).mono ?_
    rintro e w' ⟨rfl, hb⟩
    exact ⟨n, none, rfl, hb, .inl ⟨h, rfl, rfl⟩⟩

theorem compare0_any (n : Int) (w : World) :
    Calls Yba.prog 16 #[.int .i64 n, .int .i64 0] w fun e w' => (∃ c : Int, e = .returned (.int .i64 c) ∧ (c != 0) = (n != 0)) ∧ w = w' := by
  rcases (show n < 0 ∨ n = 0 ∨ 0 < n by omega) with h | h | h
  · go_enter Yba.func16, Yba.ntmps16
    go_wp2
    go_ret
    exact ⟨⟨-1, rfl, by simp [bne, show (n == 0) = false from beq_eq_false_iff_ne.2 (by omega)]⟩, rfl⟩
  · subst h
    go_enter Yba.func16, Yba.ntmps16
    go_wp2
    go_ret
    exact ⟨⟨0, rfl, rfl⟩, rfl⟩
  · have h2 : ¬ n < 0 := by omega
    go_enter Yba.func16, Yba.ntmps16
    go_wp2
    go_ret
    exact ⟨⟨1, rfl, by simp [bne, show (n == 0) = false from beq_eq_false_iff_ne.2 (by omega)]⟩, rfl⟩

theorem bigSign_neg (pb ab : Nat) (w : World) (c0 : w.cell? ⟨pb, 0, none⟩ = some (.bool true)) (c1 : w.cell? ⟨pb, 1, none⟩ = some (.slice (some ⟨ab, 0, none⟩) 1 1)) :
    Calls Yba.prog 15 #[.pointer (some ⟨pb, 0, none⟩)] w fun e w' => e = .returned (.int .i64 (-1)) ∧ w = w' := by
  go_enter Yba.func15, Yba.ntmps15
  go_wp2
  go_ret
  exact ⟨rfl, rfl⟩

theorem sign_any (n s : Int) (p : Option Addr) (w : World) (hd : DecOk n s p w) :
    Calls Yba.prog 8 #[dec s p] w fun e w' => (∃ c : Int, e = .returned (.int .i64 c) ∧ (c != 0) = (n != 0)) ∧ w' = w.alloc (.cells #[.int .i64 s, .pointer p, .int .i64 0] 27) := by
  rcases hd with ⟨_, rfl, rfl⟩ | ⟨rfl, rfl, pb, ab, rfl, hlt, c0, c1⟩
  · go_enter Yba.func8, Yba.ntmps8
    go_wp2_with (go_at_call 16; refine (compare0_any s _).mono ?_; rintro e w' ⟨⟨c, rfl, hc⟩, rfl⟩; have HC := hideIt hc; clear hc)
    go_ret
    exact ⟨⟨_, rfl, HC.out⟩, rfl⟩
  · have hneq := fun (w : World) (a : Addr) => (show (binOp .neq 25 (.pointer (some a)) (.pointer none)).run Yba.prog w = .ok (.bool true) w by kernel_rfl)
    go_enter Yba.func8, Yba.ntmps8
    go_wp2_with (go_at_call 15; refine (bigSign_neg pb ab _ ((World.cell?_alloc_lt _ _ _ hlt).trans c0) ((World.cell?_alloc_lt _ _ _ hlt).trans c1)).mono ?_; rintro e w' ⟨rfl, rfl⟩)
    go_ret
    exact ⟨⟨-1, rfl, rfl⟩, rfl⟩

end Go.Proofs.Ybulkcsqy
