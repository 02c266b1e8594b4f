/- 'LawS4715CFilter': the walks where there is none, or too many. -/
import Derived.Test.YbulkcspwDoorLoop1
import Derived.Deep.RegionHeld3
import Derived.Deep.QuietTactic
import Derived.BigQuiet
namespace Go.Proofs.YbulkcspwDoor
open Go Go.RowKit
set_option linter.unusedVariables false

/-- More than 1024 members: the law says nothing. -/
theorem filter_many (ao : Option Addr) (n cap : Nat) (hn : 1024 < n) (hm : n ≤ maxLen) (kind : Int) (w : World) :
    Calls Ybad.prog 5 #[.slice ao n cap, .int .u8 kind] w fun e w' => e = .returned (.bool true) ∧ Below w.heap.size w w' := by
  unfold maxLen at hm
  have hd : decide ((1024 : Int) < (n : Int)) = true := by simp; omega
  go_enter Ybad.func5, Ybad.ntmps5
  go_wp2
  go_ret
  exact ⟨rfl, Below.refl _ _⟩

set_option maxRecDepth 100000 in
/-- No member. -/
theorem filter_none (ao : Option Addr) (cap : Nat) (kind : Int) (hk0 : 0 ≤ kind) (hk1 : kind ≤ 255) (w : World) :
    Calls Ybad.prog 5 #[.slice ao 0 cap, .int .u8 kind] w fun e w' => e = .returned (.bool true) ∧ Below w.heap.size w w' := by
  obtain ⟨kd, hkd⟩ : ∃ kd, P.kindB kind = kd := ⟨_, rfl⟩
  have Hkd := hideIt hkd
  clear hkd
  have n30 := fun (w : World) (a : Option Addr) (n c : Nat) => run_neq_slice_nil_any (P := Ybad.prog) w 30 32 a n c 0 0 Ybad.underlying30
  have q29 := fun (w : World) (a : Option Addr) (n c : Nat) => Lib.run_eql_slice_nil (P := Ybad.prog) w 29 37 a n c 0 0 Ybad.underlying29
  go_enter Ybad.func5, Ybad.ntmps5
  go_wp2_with (go_at_call 8; refine (kind_any kind hk0 hk1 _).mono ?_; rintro e w' ⟨rfl, rfl⟩; rw [Hkd.out])
  refine wp_loop_rounds 1 ?_
  rw [rounds_succ]
  go_wp2_with fail
  refine (spreadOf_nil kd sEmpty _).mono ?_
  rintro e w2 ⟨rfl, hb2⟩
  have hB2 : w.heap.size < w2.heap.size := by have := hb2.size; simp at this; omega
  have pp2 : w2.cell? ⟨w.heap.size, 2, none⟩ = some nilS := (hb2.cell (p := ⟨w.heap.size, 2, none⟩) (by simp)).trans (by rw [World.cell?_alloc_new]; rfl)
  go_wp2_with fail
  refine wp_loop_rounds 1 ?_
  rw [rounds_succ]
  go_wp2
  go_ret
  exact ⟨rfl, (((Below.refl _ _).alloc (Nat.le_refl _) _).trans (hb2.mono (by simp))).alloc (by omega) _⟩

end Go.Proofs.YbulkcspwDoor
