/- 'LawS4715CFilter': the row's statement, and the tied card. -/
import Derived.Test.YbulkcspwDoorOpen
import Derived.Test.YbulkcspwDoorFilter
import Derived.Test.YbulkcspwDoorCards
import Derived.Test.YbulkcspwDoorTie
import Derived.OpenVars
import Derived.Stop.Joined
import Derived.SevenTiedAt
namespace Go.Proofs.YbulkcspwDoor
open Go Go.RowKit Go.ChangeShapes Go.WideShapes Go.ChangeAt Go.WideMaps Go.WideElems
set_option linter.unusedVariables false

theorem own : ownKnob Ybad.prog.godebug = none := by kernel_rfl
theorem laidOut : laidOutB Ybad.prog = true := by kernel_rfl

/-- The door's own heap meets the condition. -/
theorem door_met (os : Os) (args : Array Value) : laidMetH Ybad.prog Rows.lawS4715CFilterRow.laid ((World.doorLaid Ybad.prog 400 os).forCall (fun _ _ => 0) ⟨#[], args, []⟩).memory :=
  laidMetH_of_parts3 (fuel := 8) (laidMet_of_run' 8 (by kernel_rfl) (by kernel_rfl)) (by kernel_rfl) (by kernel_rfl)

/-- The walk, whatever the members. -/
theorem walk (ao : Option Addr) (len cap : Nat) (ds : List D3) (kind : Int) (h0 : 0 ≤ kind) (h1 : kind ≤ 255) (W : World) (hd : IsDs W ao len ds) (hL : laidMetH Ybad.prog Rows.lawS4715CFilterRow.laid W) :
    Calls Ybad.prog 5 #[.slice ao len cap, .int .u8 kind] W fun e w' => e = .returned (.bool true) ∧ Below W.heap.size W w' := by
  obtain ⟨hlen, hmax, hpos⟩ := hd
  rcases Nat.eq_zero_or_pos len with rfl | hp
  · exact filter_none ao cap kind h0 h1 W
  · rcases Nat.lt_or_ge 1024 len with hbig | hle
    · exact filter_many ao len cap hbig hmax kind W
    · obtain ⟨mb, mo, rfl, hmb, hlies⟩ := hpos hp
      obtain ⟨b, off, c3, gc, c0, c1, c2⟩ := of_laid hL
      subst hlen
      exact filter_main ds hle hp mb mo cap kind h0 h1 W hmb hlies b off c3 gc (World.block_lt_of_cell? W _ gc) (World.block_lt_of_cell? W _ c0) c0 c1 c2

set_option maxRecDepth 100000 in
theorem lifted (os : Os) (started : os.Started) (H : Type) (enc : TypeId × Value → H) :
    ReturnsInHanded {} Ybad.checked os 5 .any (fun w args => (Rows.lawS4715CFilterSpec.pre enc Ybad.prog Ybad.f5 [] false w args ∧ laidMetH Ybad.prog Rows.lawS4715CFilterRow.laid w) ∧ sizedMet enc Ybad.prog Ybad.f5 (OpenSpec.ofChange Rows.lawS4715CFilterSpec) false w args)
      (Rows.lawS4715CFilterSpec.post enc Ybad.prog Ybad.f5 false true false false) := by
  refine returnsInHanded_of_change_and (C := Ybad.checked) (X := fun w _ => laidMetH Ybad.prog Rows.lawS4715CFilterRow.laid w) (fun _ _ _ hh h => h.of_heap hh) own started (by kernel_rfl) Ybad.func5
    (ChangeSpec.witness_shaped (enc := enc) (C := Ybad.checked) (os := os) (X := fun w _ => laidMetH Ybad.prog Rows.lawS4715CFilterRow.laid w) false (World.doorLaid Ybad.prog 400 os) #[.slice none 0 0, .int .u8 0] 8 rfl (World.shaped_of_RefB (by kernel_rfl) (by kernel_rfl)) (by kernel_rfl) (by kernel_rfl) (by kernel_rfl) (door_met os _)) ?_
  intro W base args ds gs before hval0 hW _ _ hL _
  have hval : ∀ (j : Nat) t v, Ybad.f5.params[j]? = some t → args[j]? = some v → Value.okWide Ybad.prog W .any base t v := hval0
  have hW' := hW
  obtain ⟨p, q, hA0, hV, rfl, hfz, hnd⟩ := hW
  have hA : DataW.TrodAll enc Ybad.prog W 0 (fun _ => true) true Ybad.f5.params.toList args.toList ds p := hA0
  rw [Ybad.params5] at hA hval
  obtain ⟨v0, v1, d0, d1, p0, p1, rfl, rfl, rfl, h0, h1⟩ := trodAll_two hA
  obtain ⟨a0, len0, cap0, rfl⟩ := okWide_slice Ybad.underlying26 (hval 0 26 v0 rfl rfl)
  have k0 := h0
  have lt0 : ∀ x ∈ p0, x.block < W.heap.size := by obtain ⟨m, hm⟩ := k0; exact DataW.trod_lt m _ _ _ hm
  obtain ⟨zs, w0⟩ : ∃ zs, IsDs W a0 len0 zs := by
    obtain ⟨fuel, hf⟩ := h0
    exact open_ds (by simpa [Value.cells] using hf)
  obtain ⟨kind, rfl, rfl, rfl, w1⟩ := open_int Ybad.underlying5 (hval 1 5 v1 rfl rfl) h1
  obtain ⟨g1, rfl⟩ : ∃ g1, gs = [g1] := by
    obtain ⟨g, t, cs, fuel, d, p, e, _⟩ := trodVars_one hV
    exact ⟨d, e⟩
  have hb := bounds_u8 w1
  clear hA0 hval0
  refine (walk a0 len0 cap0 zs kind hb.1 hb.2 W w0 hL).mono fun e W' ⟨he, bel⟩ => ?_
  subst he
  exact ⟨_, rfl, _, _, _, [], _, _, hW', trodAll_mk1 (shut_bool Ybad.underlying4 _), (trodAll_cons_mk (Below.trod laidOut (by kernel_rfl) (of_decide_eq_true (by kernel_rfl)) k0 bel lt0) (trodAll_cons_mk (shut_int Ybad.underlying5 w1) trodAll_mk0)), Below.trodVars laidOut bel (by kernel_rfl) hV, bel.frame _, fun h => by cases h⟩

theorem row_holds : Rows.LawS4715CFilterSaid :=
  OpenClaim.holds_of_wide 5 Ybad.f5 rfl rfl rfl rfl rfl rfl rfl ⟨rfl, rfl, rfl, rfl, rfl⟩ rfl rfl rfl rfl rfl (by kernel_rfl) Ybad.func5 (by kernel_rfl)
    (of_decide_eq_true (by kernel_rfl)) (by unfold Func.isWrapper; first | (rw [if_pos (by decide +kernel)]; kernel_rfl) | (rw [if_neg (by decide +kernel)]; exact ⟨rfl, rfl⟩))
    (fun os started H enc _ => lifted os started H enc)

/-- THE TIED CARD. -/
theorem lawS4715CFilter_card : Rows.LawS4715CFilterCardSaid :=
  Claim7.holds_tied_plain_at .later [] [.widerDeep] true (true, "d841b466b6897e0a062deb82bfdb1e15326b839185ec00472d81187a3bee8f2a") false
    row_holds (fun _ h => by cases h) (by kernel_rfl) (fun _ h => by cases h) lawS4715CFilter_row_tie rfl ⟨rfl, rfl⟩ (by kernel_rfl) rfl
    (fun f fn hf hfn => by
      obtain rfl : f = 5 := Option.some.inj ((show Ybad.prog.funcNamed Rows.lawS4715CFilterRow.func = some 5 by kernel_rfl).symm.trans hf) |>.symm
      obtain rfl : fn = Ybad.f5 := (Option.some.inj (Ybad.func5.symm.trans hfn)).symm
      exact ⟨by kernel_rfl, fun j t ht => by
        rw [Ybad.params5] at ht
        have hm : t ∈ [26, 5] := by simpa using Array.mem_of_getElem? ht
        have hall : ([26, 5].all fun u => !Ybad.prog.wantsStandIn u) = true := by kernel_rfl
        exact (show Ybad.prog.wantsStandIn t = false by simpa using List.all_eq_true.1 hall t hm)⟩)
    (by kernel_rfl)
end Go.Proofs.YbulkcspwDoor
