/- From the data that the row hands over to what the walks ask. -/
import Derived.Test.YbulkcspwDoorRows
import Derived.Test.YbulkcspwDoorEdges
import Derived.Deep.Slices
import Derived.Deep.Strs
import Derived.LaidMore
import Derived.ProofKit
import Derived.OpenShut
namespace Go.Proofs.YbulkcspwDoor
open Go Go.RowKit Go.Deep
set_option linter.unusedVariables false

theorem cells34 : Ybad.prog.cellsOf 34 = 3 := by kernel_rfl
theorem cells9 : Ybad.prog.cellsOf 9 = 1 := by kernel_rfl
theorem cells5 : Ybad.prog.cellsOf 5 = 1 := by kernel_rfl
theorem gKeys : Ybad.prog.globalNamed (Rows.lawS4715CFilterRow.named.headD "") = some 0 := by kernel_rfl
theorem tKeys : (Ybad.prog.globals[0]?).map (·.type) = some 44 := by kernel_rfl

/-- ONE DRAWN MEMBER: three cells. -/
theorem open_one {H : Type} {enc : TypeId × Value → H} {w : World} {base : Nat} {spare : Nat → Bool} {held : Bool} {a : Addr} {cs : List Value} {n : Nat} {x : DataW H × List MemPlace}
    (h1 : w.cells? base a 3 = some cs) (h2 : DataW.trod enc Ybad.prog w base spare held n 34 cs = some x) :
    ∃ d : D3, w.cell? (a.add 0) = some (.int .u8 d.1) ∧ w.cell? (a.add 1) = some (.string d.2.1) ∧ w.cell? (a.add 2) = some (.string d.2.2) ∧ 0 ≤ d.1 ∧ d.1 ≤ 255 := by
  obtain ⟨_, hlen, hc⟩ := World.cells?_some h1
  obtain ⟨y0, y1, y2, m, _, _, f0, f1, f2⟩ := trod_struct3 Ybad.underlying34 h2
  obtain ⟨s, e0, _, wf⟩ := DataW.trod_int Ybad.underlying5 f0
  obtain ⟨k, e1, _, _⟩ := DataW.trod_string Ybad.underlying9 f1
  obtain ⟨t, e2, _, _⟩ := DataW.trod_string Ybad.underlying9 f2
  match cs, hlen with
  | [c0, c1, c2], _ =>
    simp [cells5, cells9] at e0 e1 e2
    subst e0 e1 e2
    have hb := bounds_u8 wf
    exact ⟨(s, k, t), hc 0 (by omega), hc 1 (by omega), hc 2 (by omega), hb.1, hb.2⟩

/-- What the walks are told of the drawn members. -/
def IsDs (w : World) (ao : Option Addr) (len : Nat) (ds : List D3) : Prop :=
  ds.length = len ∧ len ≤ maxLen ∧ (0 < len → ∃ b off, ao = some ⟨b, off, none⟩ ∧ b < w.heap.size ∧ Lies w b off ds)

theorem open_ds {H : Type} {enc : TypeId × Value → H} {w : World} {base : Nat} {spare : Nat → Bool} {held : Bool} {fuel : Nat} {ao : Option Addr} {len cap : Nat} {x : DataW H × List MemPlace}
    (h : DataW.trod enc Ybad.prog w base spare held fuel 26 [.slice ao len cap] = some x) : ∃ ds, IsDs w ao len ds := by
  rcases open_slice Ybad.underlying26 h with ⟨hcs, _⟩ | ⟨a, l, c, m, n, D, Pl, hcs, hb, hl, hm, hmm, _, hx⟩
  · simp at hcs
    obtain ⟨rfl, rfl, rfl⟩ := hcs
    exact ⟨[], rfl, by simp [maxLen], fun h => by omega⟩
  · simp at hcs
    obtain ⟨rfl, rfl, rfl⟩ := hcs
    have hlm : len ≤ m := by rw [hmm]; split <;> omega
    rw [cells34] at hx
    obtain ⟨F, hF⟩ := choose_lt (α := D3) (p := fun i d => w.cell? ((a.add (i * 3)).add 0) = some (.int .u8 d.1) ∧ w.cell? ((a.add (i * 3)).add 1) = some (.string d.2.1) ∧ w.cell? ((a.add (i * 3)).add 2) = some (.string d.2.2) ∧ 0 ≤ d.1 ∧ d.1 ≤ 255)
      (fun i (hi : i < len) => by
        obtain ⟨cs', h1, h2⟩ := hx i (by omega)
        exact open_one h1 h2)
    refine ⟨(List.range len).map F, by simp, by omega, fun hpos => ?_⟩
    obtain ⟨b, off, spot⟩ := a
    have hspot : spot = none := by
      have := World.cell?_spot (hF 0 hpos).1
      simpa [Addr.add] using this
    subst hspot
    have hlt : b < w.heap.size := by
      have := World.block_lt_of_cell? w _ (hF 0 hpos).1
      simpa [Addr.add] using this
    refine ⟨b, off, rfl, hlt, fun k hk => ?_⟩
    have hk' : k < len := by simpa using hk
    have hg : ((List.range len).map F).getD k dz = F k := by simp [List.getD, hk']
    rw [hg]
    obtain ⟨q0, q1, q2, q3, q4⟩ := hF k hk'
    rw [add_add, Go.WideShapes.add_plain] at q0 q1 q2
    exact ⟨q0, q1, q2, q3, q4⟩

theorem str_eq {s : ByteArray} {l : List UInt8} (h : s.data.toList = l) : s = ⟨l.toArray⟩ := by
  obtain ⟨⟨d⟩⟩ := s
  simp at h
  subst h
  rfl

/-- WHAT THE CONDITION GIVES THE WALKS: the table's slice and its three strings. -/
theorem of_laid {W : World} (h : laidMetH Ybad.prog Rows.lawS4715CFilterRow.laid W) : ∃ b off c3, W.cell? ⟨0, 0, none⟩ = some (.slice (some ⟨b, off, none⟩) 3 c3) ∧
    W.cell? ⟨b, off, none⟩ = some (.string ⟨#[114, 101, 113, 117, 101, 115, 116]⟩) ∧
    W.cell? ⟨b, off + 1, none⟩ = some (.string ⟨#[114, 101, 115, 112, 111, 110, 115, 101]⟩) ∧
    W.cell? ⟨b, off + 2, none⟩ = some (.string ⟨#[109, 101, 116, 97, 100, 97, 116, 97]⟩) := by
  rw [MakeChecks.laidMetH_plain _ _ _ (by kernel_rfl)] at h
  obtain ⟨ps, ⟨g0, t0, cs0, f0, p0, q0, hg0, ht0, hv0, hd0, _, _⟩, _, _⟩ := h
  obtain rfl := Option.some.inj (gKeys.symm.trans hg0)
  obtain rfl := Option.some.inj (tKeys.symm.trans ht0)
  rcases open_slice1 Ybad.underlying44 cells9 hd0 with ⟨_, hx⟩ | ⟨a, len, cap, m, n, V, D, Pl, hcs, hb, hl, hm, hmm, hx, hV⟩
  · simp [Rows.laid_example_com_auditloom_auditloom_internal_reassemble_spreadKeys] at hx
  · simp only [Prod.mk.injEq, Rows.laid_example_com_auditloom_auditloom_internal_reassemble_spreadKeys, DataW.slice.injEq] at hx
    have h3 : len = 3 := by
      have := congrArg List.length hx.1.1
      simpa using this.symm
    subst h3
    have hlm : 3 ≤ m := by rw [hmm]; split <;> omega
    have hD := hx.1.1
    simp [List.range_succ] at hD
    obtain ⟨D0, D1, D2⟩ := hD
    have hcell : W.cell? ⟨0, 0, none⟩ = some (.slice (some a) 3 cap) := by
      have := World.var?_cell hg0 hv0 0
      rw [Array.eq_one_of_toList hcs] at this
      simpa using this
    have one : ∀ i l, i < 3 → .lit (.string l) = D i → W.cell? (a.add i) = some (.string ⟨l.toArray⟩) := fun i l hi hl => by
      obtain ⟨h1, h2⟩ := hV i (by omega)
      obtain ⟨s, e1, e2, _⟩ := DataW.trod_string Ybad.underlying9 h2
      simp only [Prod.mk.injEq] at e2
      rw [e2.1] at hl
      simp only [DataW.lit.injEq, Lit.string.injEq] at hl
      simp at e1
      rw [h1, e1, str_eq hl.symm]
    have c0 := one 0 _ (by omega) D0
    have c1 := one 1 _ (by omega) D1
    have c2 := one 2 _ (by omega) D2
    obtain ⟨b, off, spot⟩ := a
    have hspot : spot = none := by simpa [Addr.add] using World.cell?_spot c0
    subst hspot
    rw [Go.WideShapes.add_plain] at c0 c1 c2
    exact ⟨b, off, cap, hcell, c0, c1, c2⟩

end Go.Proofs.YbulkcspwDoor
