/- 'madeCodes': the generator, the map 'taken' and the slice of codes are made. -/
import Derived.Test.YbulkcssoFmtTaken
namespace Go.Proofs.YbulkcssoFmt
open Go Go.RowKit Go.Maps Go.Extern.Stop Go.Stop Go.Extern
set_option linter.unusedVariables false

theorem newPCG_any (a b : Int) (w : World) :
    Calls Ybaf.prog 10 #[.int .u64 a, .int .u64 b] w fun e w' => e = .returned (.pointer (some ⟨w.heap.size, 0, none⟩)) ∧ w' = w.alloc (.cells #[.int .u64 a, .int .u64 b] 81) := by
  go_enter Ybaf.func10, Ybaf.ntmps10
  go_wp2
  go_ret
  exact ⟨rfl, rfl⟩
theorem newRand_any (t : TypeId) (v : Value) (w : World) :
    Calls Ybaf.prog 9 #[.iface t v] w fun e w' => e = .returned (.pointer (some ⟨w.heap.size, 0, none⟩)) ∧ w' = w.alloc (.cells #[.iface t v] 79) := by
  go_enter Ybaf.func9, Ybaf.ntmps9
  go_wp2
  go_ret
  exact ⟨rfl, rfl⟩
theorem info9 : (Ybaf.prog.info? 9).map (fun i => (i.zero, i.size, i.bytes)) = some (some (.string ⟨#[]⟩), 1, 16) := by kernel_rfl

/-- The four new blocks. -/
theorem RT.start {w wr w1 w2 w3 w4 : World} (pre : wr.ownsMap Ybaf.prog 33 (plainElem (H := Unit) Ybaf.prog 3) w.heap.size 2 pref) (hb : Below w.heap.size w wr) (S n : Nat) (hS : S < 18446744073709551616)
    (e1 : w1 = wr.alloc (.cells #[.int .u64 S, .int .u64 0] 81)) (e2 : w2 = w1.alloc (.cells #[.iface 69 (.pointer (some ⟨wr.heap.size, 0, none⟩))] 79)) (e3 : w3 = w2.alloc (.map #[] 0)) (e4 : w4 = w3.alloc (.cells (madeCells #[.string ⟨#[]⟩] n) 9)) :
    RT w w4 w1.heap.size wr.heap.size w2.heap.size w3.heap.size n 0 (S * 18446744073709551616) (fun _ => ⟨#[]⟩) := by
  have hlt := pre.lt
  have hw := hb.size
  have z1 : w1.heap.size = wr.heap.size + 1 := by rw [e1]; exact Deep.nblk_alloc _ _
  have z2 : w2.heap.size = w1.heap.size + 1 := by rw [e2]; exact Deep.nblk_alloc _ _
  have z3 : w3.heap.size = w2.heap.size + 1 := by rw [e3]; exact Deep.nblk_alloc _ _
  have hp : PcgAt w1 wr.heap.size (S * 18446744073709551616) := by
    refine ⟨by omega, ?_⟩
    rw [show S * 18446744073709551616 / 18446744073709551616 = S by omega, show S * 18446744073709551616 % 18446744073709551616 = 0 by omega, e1]
    exact Deep.blk_alloc_new _ _
  have hr : RandAt w2 w1.heap.size wr.heap.size (S * 18446744073709551616) := by
    refine ⟨?_, by omega, hp.of_block ?_⟩
    · rw [e2]
      exact Deep.blk_alloc_new _ _
    · rw [e2]
      exact Deep.blk_alloc_lt _ _ _ (by omega)
  have hr2 : RandAt w3 w1.heap.size wr.heap.size (S * 18446744073709551616) := by
    rw [e3]
    exact hr.of_block (Deep.blk_alloc_lt _ _ _ (by omega)) (Deep.blk_alloc_lt _ _ _ (by omega))
  have hm : w3.ownsMap Ybaf.prog 9 (plainElem (H := Unit) Ybaf.prog 4) w2.heap.size 0 (.map []) := by
    rw [e3]
    exact World.ownsMap_made _ _ _ _
  have pre3 : w3.ownsMap Ybaf.prog 33 (plainElem (H := Unit) Ybaf.prog 3) w.heap.size 2 pref := by
    rw [e3, e2, e1]
    exact ((pre.alloc _).alloc _).alloc _
  have hb3 : Below w.heap.size w w3 := by
    have b1 : Below w.heap.size w w1 := by rw [e1]; exact hb.alloc hw _
    have b2 : Below w.heap.size w w2 := by rw [e2]; exact b1.alloc (by omega) _
    rw [e3]
    exact b2.alloc (by omega) _
  rw [e4]
  exact ⟨pre3.alloc _, hr2.of_block (Deep.blk_alloc_lt _ _ _ (by omega)) (Deep.blk_alloc_lt _ _ _ (by omega)), ⟨.map [], hm.alloc _, marks_zero _⟩, World.rowIs_made _ _ _ _, hb3.alloc (by omega) _, by omega⟩

end Go.Proofs.YbulkcssoFmt
