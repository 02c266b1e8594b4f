/- What both told cards of the seat share. -/
import Derived.Test.YbulkcssoFmtRows
import Derived.Test.YbulkcssoFmtCards
import Derived.Test.YbulkcssoFmtSources
import Derived.ProofKit
import Derived.OpenShut
import Derived.ChangeOld
import Derived.Stop.JoinedAt
import Derived.Stop.Texts
import Derived.Stop.JoinedTold
import Derived.SizedLaws
import Derived.SevenToldRow
import Derived.Deep.Slices
namespace Go.Proofs.YbulkcssoFmt
open Go Go.RowKit Go.ChangeShapes Go.WideShapes Go.ChangeAt Go.Extern.Stop Go.Stop Go.Extern
set_option linter.unusedVariables false

theorem own : ownKnob Ybaf.prog.godebug = none := by kernel_rfl
theorem laidOut : laidOutB Ybaf.pinned.checked.prog = true := by kernel_rfl
theorem cells5 : Ybaf.prog.cellsOf 5 = 1 := by kernel_rfl
theorem stopsF : Ybaf.pinned.checked.prog.stops = ["fmt.Sprintf", "fmt.errorf"] := by kernel_rfl
theorem stopKnobs : Ybaf.pinned.checked.prog.stopKnobs = [] := by kernel_rfl
theorem quietF (os : Os) : Stop.quiet Ybaf.pinned.checked.prog os := by
  intro k hk
  rw [stopKnobs] at hk
  cases hk

theorem open_sel {H : Type} {enc : TypeId × Value → H} {w : World} {base : Nat} {spare : Nat → Bool} {held : Bool} {fuel : Nat} {ao : Option Addr} {len cap : Nat} {x : DataW H × List MemPlace}
    (h : DataW.trod enc Ybaf.prog w base spare held fuel 24 [.slice ao len cap] = some x) : ∃ sel, IsSel w ao len sel := by
  rcases Deep.open_slice1 Ybaf.underlying24 cells5 h with ⟨hcs, _⟩ | ⟨a, l, c, m, n, V, D, Pl, hcs, hb, hl, hm, hmm, _, hV⟩
  · simp at hcs
    obtain ⟨rfl, rfl, rfl⟩ := hcs
    exact ⟨fun _ => 0, by simp [maxLen], fun h => by omega⟩
  · simp at hcs
    obtain ⟨rfl, rfl, rfl⟩ := hcs
    have hlm : len ≤ m := by rw [hmm]; split <;> omega
    obtain ⟨sel, hsel⟩ := Deep.choose_lt (α := Int) (p := fun i z => w.cell? (a.add i) = some (.int .u8 z) ∧ 0 ≤ z ∧ z ≤ 255) (fun i (hi : i < len) => by
      obtain ⟨h1, h2⟩ := hV i (by omega)
      obtain ⟨s, e1, _, wf⟩ := DataW.trod_int Ybaf.underlying5 h2
      simp at e1
      exact ⟨s, by rw [h1, e1], bounds_u8 wf⟩)
    refine ⟨sel, by omega, fun hpos => ?_⟩
    obtain ⟨c0, _⟩ := hsel 0 hpos
    obtain ⟨b, off, spot⟩ := a
    have hspot : spot = none := by simpa [Addr.add] using World.cell?_spot c0
    subst hspot
    have hlt : b < w.heap.size := by simpa [Addr.add] using World.block_lt_of_cell? w _ c0
    exact ⟨b, off, rfl, hlt, fun j hj => by rw [← Go.WideShapes.add_plain]; exact hsel j hj⟩

end Go.Proofs.YbulkcssoFmt
