/- 'LawS4717BPost': the row's statement. -/
import Derived.Test.YbulkcsqyRows
import Derived.Test.YbulkcsqyMain
import Derived.ProofKit
import Derived.OpenShut
import Derived.ShutString
import Derived.ChangeOld
import Derived.Deep.Slices
namespace Go.Proofs.Ybulkcsqy
open Go Go.RowKit Go.ChangeShapes Go.WideShapes Go.ChangeAt
open Go.ChangeMaps (open_string shut_string)
set_option linter.unusedVariables false

theorem own : ownKnob Yba.prog.godebug = none := by kernel_rfl
theorem laidOut : laidOutB Yba.prog = true := by kernel_rfl
theorem cells9 : Yba.prog.cellsOf 9 = 1 := by kernel_rfl
theorem cells2 : Yba.prog.cellsOf 2 = 1 := by kernel_rfl

theorem open_strs {H : Type} {enc : TypeId × Value → H} {w : World} {base : Nat} {spare : Nat → Bool} {held : Bool} {fuel : Nat} {ao : Option Addr} {len cap : Nat} {x : DataW H × List MemPlace}
    (h : DataW.trod enc Yba.prog w base spare held fuel 22 [.slice ao len cap] = some x) : IsStrs w ao len := by
  rcases Deep.open_slice1 Yba.underlying22 cells9 h with ⟨hcs, _⟩ | ⟨a, l, c, m, n, V, D, Pl, hcs, hb, hl, hm, hmm, _, hV⟩
  · simp at hcs
    obtain ⟨rfl, rfl, rfl⟩ := hcs
    exact ⟨by simp [maxLen], fun h => by omega⟩
  · simp at hcs
    obtain ⟨rfl, rfl, rfl⟩ := hcs
    have hlm : len ≤ m := by rw [hmm]; split <;> omega
    have one : ∀ i, i < len → ∃ s, w.cell? (a.add i) = some (.string s) := fun i hi => by
      obtain ⟨h1, h2⟩ := hV i (by omega)
      obtain ⟨s, e1, _, _⟩ := DataW.trod_string Yba.underlying9 h2
      simp at e1
      exact ⟨s, by rw [h1, e1]⟩
    refine ⟨by omega, fun hpos => ?_⟩
    obtain ⟨s0, c0⟩ := one 0 hpos
    obtain ⟨b, off, spot⟩ := a
    have hspot : spot = none := by simpa [Addr.add] using World.cell?_spot c0
    subst hspot
    have hlt : b < w.heap.size := by simpa [Addr.add] using World.block_lt_of_cell? w _ c0
    exact ⟨b, off, rfl, hlt, fun j hj => by rw [← Go.WideShapes.add_plain]; exact one j hj⟩

theorem open_amts {H : Type} {enc : TypeId × Value → H} {w : World} {base : Nat} {spare : Nat → Bool} {held : Bool} {fuel : Nat} {ao : Option Addr} {len cap : Nat} {x : DataW H × List MemPlace}
    (h : DataW.trod enc Yba.prog w base spare held fuel 23 [.slice ao len cap] = some x) : IsInts w ao len := by
  rcases Deep.open_slice1 Yba.underlying23 cells2 h with ⟨hcs, _⟩ | ⟨a, l, c, m, n, V, D, Pl, hcs, hb, hl, hm, hmm, _, hV⟩
  · simp at hcs
    obtain ⟨rfl, rfl, rfl⟩ := hcs
    exact ⟨by simp [maxLen], fun h => by omega⟩
  · simp at hcs
    obtain ⟨rfl, rfl, rfl⟩ := hcs
    have hlm : len ≤ m := by rw [hmm]; split <;> omega
    have one : ∀ i, i < len → ∃ z : Int, w.cell? (a.add i) = some (.int .i64 z) ∧ -9223372036854775808 ≤ z ∧ z ≤ 9223372036854775807 := fun i hi => by
      obtain ⟨h1, h2⟩ := hV i (by omega)
      obtain ⟨s, e1, _, wf⟩ := DataW.trod_int Yba.underlying2 h2
      simp at e1
      exact ⟨s, by rw [h1, e1], bounds_i64 wf⟩
    refine ⟨by omega, fun hpos => ?_⟩
    obtain ⟨s0, c0, _⟩ := one 0 hpos
    obtain ⟨b, off, spot⟩ := a
    have hspot : spot = none := by simpa [Addr.add] using World.cell?_spot c0
    subst hspot
    have hlt : b < w.heap.size := by simpa [Addr.add] using World.block_lt_of_cell? w _ c0
    exact ⟨b, off, rfl, hlt, fun j hj => by rw [← Go.WideShapes.add_plain]; exact one j hj⟩

/-- More than 1024 amounts: the law says nothing. -/
theorem many (ao bo : Option Addr) (la ca n cb : Nat) (date : Int) (desc account : ByteArray) (nn : Int) (w : World) (hn : 1024 < n) (hm : n ≤ maxLen) :
    Calls Yba.prog 3 #[.slice ao la ca, .slice bo n cb, .int .i64 date, .string desc, .string account, .int .i64 nn] w fun e w' => e = .returned (.bool true) ∧ Below w.heap.size w w' := by
  unfold maxLen at hm
  have hd : decide ((1024 : Int) < (n : Int)) = true := by simp; omega
  go_enter Yba.func3, Yba.ntmps3
  go_wp2
  go_ret
  exact ⟨rfl, Below.refl _ _⟩

theorem walk (ao bo : Option Addr) (la ca n cb : Nat) (date : Int) (desc account : ByteArray) (nn : Int) (hn0 : -9223372036854775808 ≤ nn) (hn1 : nn ≤ 9223372036854775807) (w : World)
    (hacc : IsStrs w ao la) (hamt : IsInts w bo n) :
    Calls Yba.prog 3 #[.slice ao la ca, .slice bo n cb, .int .i64 date, .string desc, .string account, .int .i64 nn] w fun e w' => e = .returned (.bool true) ∧ Below w.heap.size w w' := by
  rcases Nat.lt_or_ge 1024 n with hbig | hle
  · exact many ao bo la ca n cb date desc account nn w hbig hamt.1
  · exact main_walk ao bo la ca n cb date desc account nn hn0 hn1 w hle hacc hamt

set_option maxRecDepth 100000 in
theorem lifted (os : Os) (started : os.Started) (H : Type) (enc : TypeId × Value → H) :
    ReturnsInHanded {} Yba.checked os 3 .any (Rows.lawS4717BPostSpec.pre6 enc Yba.prog Yba.f3 Rows.lawS4717BPostRow.domain false) (Rows.lawS4717BPostSpec.post enc Yba.prog Yba.f3 false true false false) := by
  refine returnsInHanded_of_change (C := Yba.checked) own started (by kernel_rfl) Yba.func3
    (ChangeSpec.witness6 (enc := enc) (C := Yba.checked) false ⟨#[], #[.slice none 0 0, .slice none 0 0, .int .i64 0, .string ByteArray.empty, .string ByteArray.empty, .int .i64 0], []⟩ 8 (by kernel_rfl) (by kernel_rfl) (by kernel_rfl) (by kernel_rfl)) ?_
  intro W base args ds gs before hval0 hW hcnd _
  have hval : ∀ (j : Nat) t v, Yba.f3.params[j]? = some t → args[j]? = some v → Value.okWide Yba.prog W .any base t v := hval0
  have hW' := hW
  obtain ⟨p, q, hA0, hV, rfl, hfz, hnd⟩ := hW
  have hA : DataW.TrodAll enc Yba.prog W 0 (fun _ => true) true Yba.f3.params.toList args.toList ds p := hA0
  rw [Yba.params3] at hA hval
  obtain ⟨v0, vs0, d0, ds0, p0, q0, hargs, rfl, rfl, h0, r0⟩ := trodAll_cons hA
  obtain ⟨v1, vs1, d1, ds1, p1, q1, rfl, rfl, rfl, h1, r1⟩ := trodAll_cons r0
  obtain ⟨v2, vs2, d2, ds2, p2, q2, rfl, rfl, rfl, h2, r2⟩ := trodAll_cons r1
  obtain ⟨v3, vs3, d3, ds3, p3, q3, rfl, rfl, rfl, h3, r3⟩ := trodAll_cons r2
  obtain ⟨v4, vs4, d4, ds4, p4, q4, rfl, rfl, rfl, h4, r4⟩ := trodAll_cons r3
  obtain ⟨v5, vs5, d5, ds5, p5, q5, rfl, rfl, rfl, h5, r5⟩ := trodAll_cons r4
  obtain ⟨rfl, rfl, rfl⟩ := trodAll_nil r5
  obtain rfl : args = #[v0, v1, v2, v3, v4, v5] := by cases args; simp_all
  obtain ⟨rfl, rfl⟩ := trodVars_none hV
  obtain ⟨a0, len0, cap0, rfl⟩ := okWide_slice Yba.underlying22 (hval 0 22 v0 rfl rfl)
  obtain ⟨a1, len1, cap1, rfl⟩ := okWide_slice Yba.underlying23 (hval 1 23 v1 rfl rfl)
  have k0 := h0
  have k1 := h1
  have lt0 : ∀ x ∈ p0, x.block < W.heap.size := by obtain ⟨m, hm⟩ := k0; exact DataW.trod_lt m _ _ _ hm
  have lt1 : ∀ x ∈ p1, x.block < W.heap.size := by obtain ⟨m, hm⟩ := k1; exact DataW.trod_lt m _ _ _ hm
  have w0 : IsStrs W a0 len0 := by obtain ⟨fuel, hf⟩ := h0; exact open_strs (by simpa [Value.cells] using hf)
  have w1 : IsInts W a1 len1 := by obtain ⟨fuel, hf⟩ := h1; exact open_amts (by simpa [Value.cells] using hf)
  obtain ⟨date, rfl, rfl, rfl, w2⟩ := open_int Yba.underlying3 (hval 2 3 v2 rfl rfl) h2
  obtain ⟨desc, rfl, rfl, rfl, w3⟩ := open_string Yba.underlying9 (hval 3 9 v3 rfl rfl) h3
  obtain ⟨account, rfl, rfl, rfl, w4⟩ := open_string Yba.underlying9 (hval 4 9 v4 rfl rfl) h4
  obtain ⟨nn, rfl, rfl, rfl, w5⟩ := open_int Yba.underlying2 (hval 5 2 v5 rfl rfl) h5
  have hb := bounds_i64 w5
  clear hA0 hval0
  refine (walk a0 a1 len0 cap0 len1 cap1 date desc account nn hb.1 hb.2 W w0 w1).mono fun e W' ⟨he, bel⟩ => ?_
  subst he
  exact ⟨_, rfl, _, _, _, [], _, [], hW', trodAll_mk1 (shut_bool Yba.underlying4 _), (trodAll_cons_mk (Below.trod laidOut (by kernel_rfl) (of_decide_eq_true (by kernel_rfl)) k0 bel lt0) (trodAll_cons_mk (Below.trod laidOut (by kernel_rfl) (of_decide_eq_true (by kernel_rfl)) k1 bel lt1) (trodAll_cons_mk (shut_int Yba.underlying3 w2) (trodAll_cons_mk (shut_string Yba.underlying9 w3) (trodAll_cons_mk (shut_string Yba.underlying9 w4) (trodAll_cons_mk (shut_int Yba.underlying2 w5) trodAll_mk0)))))), rfl, bel.frame _, fun h => by cases h⟩

/-- THE STATEMENT. -/
theorem lawS4717BPost_holds : Rows.LawS4717BPostSaid :=
  OpenClaim.holds_of_wide 3 Yba.f3 rfl rfl rfl rfl rfl rfl rfl ⟨rfl, rfl, rfl, rfl, rfl⟩ rfl rfl rfl rfl rfl (by kernel_rfl) Yba.func3 (by kernel_rfl)
    (of_decide_eq_true (by kernel_rfl)) (by unfold Func.isWrapper; first | (rw [if_pos (by decide +kernel)]; kernel_rfl) | (rw [if_neg (by decide +kernel)]; exact ⟨rfl, rfl⟩))
    (fun os started H enc _ => lifted os started H enc)
end Go.Proofs.Ybulkcsqy
