/- 'madeCodes' where there are too many bonds. -/
import Derived.Test.YbulkcssoFmtCounts
namespace Go.Proofs.YbulkcssoFmt
open Go Go.RowKit Go.Maps Go.Extern.Stop Go.Stop Go.Extern
set_option linter.unusedVariables false

set_option maxRecDepth 100000 in
set_option maxHeartbeats 2000000 in
theorem madeCodes_refuses (F : Interp) (seed : Int) (n g m : Nat) (ex : Nat → ByteArray) (hexs : ∀ i, (ex i).size ≤ maxLen) (w : World) (hF : F.answers w.tape) (hm0 : 0 < m) (hm : m ≤ 256) (hn : 10000 * m < n) (hn2 : n ≤ 2561256) (hs : SrcAt w g m ex) :
    Calls Ybaf.prog 6 #[.int .u64 seed, .int .i64 n, .slice (some ⟨g, 0, none⟩) m m] w fun e w' => (∃ v, e = .returned (.tuple #[.slice none 0 0, .iface 83 v])) ∧ Below w.heap.size w w' := by
  obtain ⟨w1, w2, hr1, hr2, hsz, hRM⟩ := head w
  have hmm := @run_makeMap Ybaf.prog
  have Hs := hideIt hs
  have HF := hideIt hF
  have hR0 := hRM ex m
  clear hs hF hRM
  go_enter Ybaf.func6, Ybaf.ntmps6
  go_wp2_with fail
  go_loopw [22] (fun i wr => ∃ (k : Nat) (D : DataW Unit), k ≤ n ∧ i = .int .i64 k ∧ RM w wr k ex m D) (fun i _ => n - (intOf i).toNat)
  case atStart => exact ⟨0, .map [], Nat.zero_le _, rfl, hR0⟩
  case round =>
    obtain ⟨k, D, hk, rfl, hR⟩ := hrel
    clear hR0 hr1 hr2
    by_cases hlt : k < n
    · have hc := (Hs.out.2 (k % m) (Nat.mod_lt _ hm0)).2
      rw [← hR.below.cell (p := ⟨g, k % m * 69 + 1 + 2, none⟩) Hs.out.1] at hc
      have hm1 : k % m < m := Nat.mod_lt _ hm0
      go_wp2_with (first
        | (at_lookup; refine wpList_lookup_own_int _ rfl _ _ 65 rfl 33 3 .i64 law33 Ybaf.underlying65 Ybaf.underlying3 (zero3 _) (w.heap.size + 1) k D rfl hR.own _ _ rfl (keyOf_ex (hexs (k % m))) ?_))
      intro c hat _
      obtain ⟨hst, hcc⟩ := hR.cts.step hat
      have hcl := cnt_le ex m k (ex (k % m))
      have h0c : 0 ≤ c := by omega
      have h1c : c ≤ k := by omega
      have Hst := hideIt hst
      clear hst hcc hcl hat
      go_wp2_with (first
        | (at_mapUpdate; refine wpList_mapUpdate_own _ rfl _ _ _ 65 rfl 33 3 law33 Ybaf.underlying65 _ (w.heap.size + 1) k D rfl hR.own (by unfold maxLen; omega) _ _ _ rfl rfl (keyOf_ex (hexs (k % m))) _ [] (plainElem_int Ybaf.underlying3 (WalkArith.wf_i64 (by omega))) ?_))
      intro w3 hown3 hgrow3
      have hR3 := hR.step Hst.out hown3 hgrow3
      clear hR hown3 hgrow3 Hst hc
      go_wp2
      go_roundw
      case rel => exact ⟨k + 1, _, by omega, by go_num, hR3⟩
      case measure => simp [intOf]; omega
    · have hkn : k = n := by omega
      subst hkn
      obtain ⟨w4, hw4⟩ : ∃ x, x = wr := ⟨wr, rfl⟩
      subst hw4
      have hfirst := cnt_first ex m hm0 k
      have hbig : 10000 < cnt ex m k (ex 0) := by
        rcases Nat.lt_or_ge 10000 (cnt ex m k (ex 0)) with h | h
        · exact h
        · exfalso
          have := Nat.mul_le_mul_left m h
          omega
      go_wp2_with (first
        | (at_range; refine wpList_range_own _ rfl _ 65 rfl 33 3 law33 Ybaf.underlying65 _ (w.heap.size + 1) k D rfl hR.own ?_))
      intro w5 hrg0 hg0 hs0
      have hleft0 : Maps.has D (key (ex 0)) = true := by
        cases hh : Maps.has D (key (ex 0))
        · exfalso
          have h1 := hR.cts.2 (ex 0)
          rw [atKey_of_not_has hh] at h1
          simp at h1
          omega
        · rfl
      have hb5 : Below w.heap.size w w5 := hR.below.grown hg0 hR.below.size (fun j hj => by cases hj)
      go_wp2_with fail
      go_loopw [40] (fun _ wq => ∃ left c, wq.ranges Ybaf.prog 33 (plainElem Ybaf.prog 3) (w.heap.size + 1) w4.heap.size k D left c ∧ left (key (ex 0)) = true ∧ Below w.heap.size w wq) (fun _ wq => wq.rangeLeft (w.heap.size + 1) w4.heap.size)
      case atStart => exact ⟨_, _, hrg0, hleft0, hb5⟩
      case round =>
        obtain ⟨left, c, hrg, hl, hb⟩ := hrel
        go_wp2_with (at_next; refine wpList_next_ranges _ rfl _ rfl 33 law33 (plainElem Ybaf.prog 3) (fun x => .string x) (fun c => .int .i64 c) (fun _ _ h => invK h) (fun _ _ h => invV h) (w.heap.size + 1) w4.heap.size k D left c rfl hrg ?_ ?_)
        · intro _ hl0
          rw [hl0] at hl
          cases hl
        · intro x c1 kl ya yb w6 c' hkey hlk hv hat hrg1 hlt1 hg1 hs1 hen
          obtain ⟨x', hx, rfl⟩ := keyOf_inv hkey
          cases hx
          obtain ⟨c2, hc2, hy, _⟩ := plainElem_int_inv Ybaf.underlying3 hv
          cases hc2
          have hc1 : c1 = cnt ex m k x := by
            have h1 := hR.cts.2 x
            rw [hat] at h1
            simp only [Prod.mk.injEq] at hy
            rw [hy.1] at h1
            simpa using h1
          have hb6 : Below w.heap.size w w6 := hb.grown hg1 hb.size (fun j hj => by simp at hj; have := hR.below.size; omega)
          have hF6 : F.answers w6.tape := by rw [hb6.tape]; exact HF.out
          clear hkey hv hat hy hg1 hs1
          by_cases hgt : 10000 < c1
          · have Hc := hideIt hc1
            clear hc1 hfirst hbig hleft0
            go_wp2_with fail
            refine (errorf_any F c1 x (w6.alloc (.cells #[.iface 3 (.int .i64 c1), .iface 33 (.string x), .iface 3 (.int .i64 10000)] 20)) hF6 w6.heap.size (by rw [World.cell?_alloc_new]; rfl) (by rw [World.cell?_alloc_new]; rfl) (by rw [World.cell?_alloc_new]; rfl)).mono ?_
            rintro e w7 ⟨⟨v, rfl⟩, hb7⟩
            have Hfin := hideIt ((hb6.alloc hb6.size _).trans (hb7.mono (by simp; have := hb6.size; omega)))
            clear hb7 hrg1 hrg hb6
            go_wp2
            go_ret2
            exact ⟨⟨_, rfl⟩, Hfin.out⟩
          · have hne : key (ex 0) ≠ key x := fun e => by
              have := key_inj e
              subst this
              omega
            have hl' : (left (key (ex 0)) && !(key (ex 0)).sameKey (key x)) = true := by rw [hl, sameKey_ne hne]; rfl
            have Hm := hideIt (show w6.rangeLeft (w.heap.size + 1) w4.heap.size < wr.rangeLeft (w.heap.size + 1) w4.heap.size by rw [hrg1.left_eq, hrg.left_eq]; exact hlt1)
            have Hl := hideIt hl'
            have Hc := hideIt hc1
            clear hl' hc1 hfirst hbig hleft0 hl hlk
            go_wp2
            go_roundw
            case rel => exact ⟨_, _, hrg1, Hl.out, hb6⟩
            case measure => exact Hm.out

end Go.Proofs.YbulkcssoFmt
