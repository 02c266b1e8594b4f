/- The leaves of the law 'LawS4715CFilter': one contract a function. -/
import Derived.Test.YbulkcspwDoorProg
import Derived.Test.YbulkcspwDoorPlain
import Derived.WalkKit
import Derived.WalkSpells
import Derived.WalkLawsBesides
import Derived.Handy
namespace Go.Proofs.YbulkcspwDoor
open Go Go.RowKit

theorem kind_any (k : Int) (h0 : 0 ≤ k) (h1 : k ≤ 255) (w : World) :
    Calls Ybad.prog 8 #[.int .u8 k] w fun e w' => e = .returned (.string (P.kindB k)) ∧ w = w' := by
  rcases (show k % 3 = 0 ∨ k % 3 = 1 ∨ k % 3 = 2 by omega) with h | h | h
  all_goals
    go_enter Ybad.func8, Ybad.ntmps8
    go_wp2
    go_ret
    exact ⟨by simp [P.kindB, h], rfl⟩

theorem key_any (s : Int) (k t : ByteArray) (h0 : 0 ≤ s) (h1 : s ≤ 255) (w : World) :
    Calls Ybad.prog 9 #[.agg #[.int .u8 s, .string k, .string t]] w fun e w' => e = .returned (.string (P.keyB s k)) ∧ w' = w.alloc (.cells #[.int .u8 s, .string k, .string t] 34) := by
  rcases (show s % 7 = 0 ∨ s % 7 = 1 ∨ s % 7 = 2 ∨ s % 7 = 3 ∨ s % 7 = 4 ∨ s % 7 = 5 ∨ s % 7 = 6 by omega) with h | h | h | h | h | h | h
  all_goals
    go_enter Ybad.func9, Ybad.ntmps9
    go_wp2
    go_ret
    exact ⟨by simp [P.keyB, h], rfl⟩

theorem spread_any (k : ByteArray) (w : World) :
    Calls Ybad.prog 11 #[.string k] w fun e w' => e = .returned (.bool (P.spreadB k)) ∧ w = w' := by
  rcases P.spread_cases k with h1 | ⟨h1, h2⟩ | ⟨h1, h2, h3⟩ | ⟨h1, h2, h3⟩
  · rw [P.spreadB_of1 h1]
    go_enter Ybad.func11, Ybad.ntmps11
    go_wp2
    go_ret
    exact ⟨rfl, rfl⟩
  · rw [P.spreadB_of2 h2]
    go_enter Ybad.func11, Ybad.ntmps11
    go_wp2
    go_ret
    exact ⟨rfl, rfl⟩
  · rw [P.spreadB_of3 h3]
    go_enter Ybad.func11, Ybad.ntmps11
    go_wp2
    go_ret
    exact ⟨rfl, rfl⟩
  · rw [P.spreadB_not h1 h2 h3]
    go_enter Ybad.func11, Ybad.ntmps11
    go_wp2
    go_ret
    exact ⟨rfl, rfl⟩

theorem index_any (k : ByteArray) (b off cap : Nat) (w : World)
    (c0 : w.cell? ⟨b, off, none⟩ = some (.string ⟨#[114, 101, 113, 117, 101, 115, 116]⟩))
    (c1 : w.cell? ⟨b, off + 1, none⟩ = some (.string ⟨#[114, 101, 115, 112, 111, 110, 115, 101]⟩))
    (c2 : w.cell? ⟨b, off + 2, none⟩ = some (.string ⟨#[109, 101, 116, 97, 100, 97, 116, 97]⟩)) :
    Calls Ybad.prog 19 #[.slice (some ⟨b, off, none⟩) 3 cap, .string k] w fun e w' => (∃ n : Int, e = .returned (.int .i64 n) ∧ decide (n ≥ 0) = P.spreadB k) ∧ w' = w := by
  rcases P.spread_cases k with h1 | ⟨h1, h2⟩ | ⟨h1, h2, h3⟩ | ⟨h1, h2, h3⟩
  · rw [P.spreadB_of1 h1]
    go_enter Ybad.func19, Ybad.ntmps19
    go_wp2
    go_rounds 1
    go_ret
    exact ⟨⟨0, rfl, rfl⟩, rfl⟩
  · rw [P.spreadB_of2 h2]
    go_enter Ybad.func19, Ybad.ntmps19
    go_wp2
    go_rounds 2
    go_ret
    exact ⟨⟨1, rfl, rfl⟩, rfl⟩
  · rw [P.spreadB_of3 h3]
    go_enter Ybad.func19, Ybad.ntmps19
    go_wp2
    go_rounds 3
    go_ret
    exact ⟨⟨2, rfl, rfl⟩, rfl⟩
  · rw [P.spreadB_not h1 h2 h3]
    go_enter Ybad.func19, Ybad.ntmps19
    go_wp2
    go_rounds 4
    go_ret
    exact ⟨⟨-1, rfl, rfl⟩, rfl⟩

theorem contains_any (k : ByteArray) (b off cap : Nat) (w : World)
    (c0 : w.cell? ⟨b, off, none⟩ = some (.string ⟨#[114, 101, 113, 117, 101, 115, 116]⟩))
    (c1 : w.cell? ⟨b, off + 1, none⟩ = some (.string ⟨#[114, 101, 115, 112, 111, 110, 115, 101]⟩))
    (c2 : w.cell? ⟨b, off + 2, none⟩ = some (.string ⟨#[109, 101, 116, 97, 100, 97, 116, 97]⟩)) :
    Calls Ybad.prog 15 #[.slice (some ⟨b, off, none⟩) 3 cap, .string k] w fun e w' => e = .returned (.bool (P.spreadB k)) ∧ w' = w := by
  go_enter Ybad.func15, Ybad.ntmps15
  go_wp2_with fail
  refine (index_any k b off cap w c0 c1 c2).mono ?_
  rintro e w' ⟨⟨n, rfl, hn⟩, rfl⟩
  have HN : Hid _ := hn
  clear hn
  go_wp2
  go_ret
  exact ⟨by rw [← HN.out]; rfl, rfl⟩

end Go.Proofs.YbulkcspwDoor
