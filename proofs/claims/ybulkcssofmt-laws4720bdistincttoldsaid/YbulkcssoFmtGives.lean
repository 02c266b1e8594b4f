/- 'madeCodes' where there are few bonds: n codes, none empty, no two alike. -/
import Derived.Test.YbulkcssoFmtStart
namespace Go.Proofs.YbulkcssoFmt
open Go Go.RowKit Go.Maps Go.Extern.Stop Go.Stop Go.Extern
set_option linter.unusedVariables false

theorem toList_ne {c : ByteArray} (h : c ≠ ⟨#[]⟩) : ¬ c.toList = [] := fun e => h ((toList_nil_iff_emptyBytes c).1 e)

theorem isEmpty_ne {c : ByteArray} (h : c ≠ ⟨#[]⟩) : c.toList.isEmpty = false := by simpa using toList_ne h

set_option maxRecDepth 100000 in
set_option maxHeartbeats 4000000 in
theorem madeCodes_gives (F : Interp) (S n g m : Nat) (hS : S < 18446744073709551616) (ex : Nat → ByteArray) (hexs : ∀ i, (ex i).size ≤ maxLen) (w : World) (hF : F.told.answers w.tape) (hm0 : 0 < m) (hm : m ≤ 256) (hn : n ≤ 9999) (hs : SrcAt w g m ex) :
    Calls Ybaf.prog 6 #[.int .u64 S, .int .i64 n, .slice (some ⟨g, 0, none⟩) m m] w fun e w' => ∃ (cb : Nat) (f : Nat → ByteArray), e = .returned (.tuple #[.slice (some ⟨cb, 0, none⟩) n n, .nilIface]) ∧ w.heap.size ≤ cb ∧ w'.rowIs cb 9 n (fun i => .string (f i)) ∧ Good n f ∧ Below w.heap.size w w' := by
  obtain ⟨w1, w2, hr1, hr2, hsz, hRM⟩ := head w
  have hmm := @run_makeMap Ybaf.prog
  have Hs := hideIt hs
  have HF := hideIt hF
  have hR0 := hRM ex m
  clear hs hF hRM
  go_enter Ybaf.func6, Ybaf.ntmps6
  go_wp2_with fail
  go_loopw [22] (fun i wr => ∃ (k : Nat) (D : DataW Unit), k ≤ n ∧ i = .int .i64 k ∧ RM w wr k ex m D) (fun i _ => n - (intOf i).toNat)
  case atStart => exact ⟨0, .map [], Nat.zero_le _, rfl, hR0⟩
  case round =>
    obtain ⟨k, D, hk, rfl, hR⟩ := hrel
    clear hR0 hr1 hr2
    by_cases hlt : k < n
    · have hc := (Hs.out.2 (k % m) (Nat.mod_lt _ hm0)).2
      rw [← hR.below.cell (p := ⟨g, k % m * 69 + 1 + 2, none⟩) Hs.out.1] at hc
      have hm1 : k % m < m := Nat.mod_lt _ hm0
      go_wp2_with (first
        | (at_lookup; refine wpList_lookup_own_int _ rfl _ _ 65 rfl 33 3 .i64 law33 Ybaf.underlying65 Ybaf.underlying3 (zero3 _) (w.heap.size + 1) k D rfl hR.own _ _ rfl (keyOf_ex (hexs (k % m))) ?_))
      intro c hat _
      obtain ⟨hst, hcc⟩ := hR.cts.step hat
      have hcl := cnt_le ex m k (ex (k % m))
      have h0c : 0 ≤ c := by omega
      have h1c : c ≤ k := by omega
      have Hst := hideIt hst
      clear hst hcc hcl hat
      go_wp2_with (first
        | (at_mapUpdate; refine wpList_mapUpdate_own _ rfl _ _ _ 65 rfl 33 3 law33 Ybaf.underlying65 _ (w.heap.size + 1) k D rfl hR.own (by unfold maxLen; omega) _ _ _ rfl rfl (keyOf_ex (hexs (k % m))) _ [] (plainElem_int Ybaf.underlying3 (WalkArith.wf_i64 (by omega))) ?_))
      intro w3 hown3 hgrow3
      have hR3 := hR.step Hst.out hown3 hgrow3
      clear hR hown3 hgrow3 Hst hc
      go_wp2
      go_roundw
      case rel => exact ⟨k + 1, _, by omega, by go_num, hR3⟩
      case measure => simp [intOf]; omega
    · have hkn : k = n := by omega
      subst hkn
      obtain ⟨w4, hw4⟩ : ∃ x, x = wr := ⟨wr, rfl⟩
      subst hw4
      go_wp2_with (first
        | (at_range; refine wpList_range_own _ rfl _ 65 rfl 33 3 law33 Ybaf.underlying65 _ (w.heap.size + 1) k D rfl hR.own ?_))
      intro w5 hrg0 hg0 hs0
      have hlt4 := hR.pre.lt
      have hb5 : Below w.heap.size w w5 := hR.below.grown hg0 hR.below.size (fun j hj => by cases hj)
      have hp5 := hR.pre.kept hg0 (by simp)
      go_wp2_with fail
      go_loopw [40] (fun _ wq => ∃ left c, wq.ranges Ybaf.prog 33 (plainElem Ybaf.prog 3) (w.heap.size + 1) w4.heap.size k D left c ∧ wq.ownsMap Ybaf.prog 33 (plainElem (H := Unit) Ybaf.prog 3) w.heap.size 2 pref ∧ Below w.heap.size w wq) (fun _ wq => wq.rangeLeft (w.heap.size + 1) w4.heap.size)
      case atStart => exact ⟨_, _, hrg0, hp5, hb5⟩
      case round =>
        obtain ⟨left, c, hrg, hp, hb⟩ := hrel
        go_wp2_with (at_next; refine wpList_next_ranges _ rfl _ rfl 33 law33 (plainElem Ybaf.prog 3) (fun x => .string x) (fun c => .int .i64 c) (fun _ _ h => invK h) (fun _ _ h => invV h) (w.heap.size + 1) w4.heap.size k D left c rfl hrg ?_ ?_)
        · intro _ _
          obtain ⟨w7, hw7⟩ : ∃ x, x = wr := ⟨wr, rfl⟩
          subst hw7
          clear hrg0 hp5 hb5 hrg hg0 hs0 hR hlt4
          obtain ⟨a1, e1⟩ : ∃ x, x = w7.alloc (.cells #[.int .u64 S, .int .u64 0] 81) := ⟨_, rfl⟩
          obtain ⟨a2, e2⟩ : ∃ x, x = a1.alloc (.cells #[.iface 69 (.pointer (some ⟨w7.heap.size, 0, none⟩))] 79) := ⟨_, rfl⟩
          obtain ⟨a3, e3⟩ : ∃ x, x = a2.alloc (.map #[] 0) := ⟨_, rfl⟩
          obtain ⟨a4, e4⟩ : ∃ x, x = a3.alloc (.cells (madeCells #[.string ⟨#[]⟩] k) 9) := ⟨_, rfl⟩
          have hR1 := RT.start hp hb S k hS e1 e2 e3 e4
          have hN1 : Calls Ybaf.prog 10 #[.int .u64 S, .int .u64 0] w7 fun e w' => e = .returned (.pointer (some ⟨w7.heap.size, 0, none⟩)) ∧ a1 = w' := by
            rw [e1]
            exact (newPCG_any _ _ _).mono fun e w' h => ⟨h.1, h.2.symm⟩
          have hN2 : Calls Ybaf.prog 9 #[.iface 69 (.pointer (some ⟨w7.heap.size, 0, none⟩))] a1 fun e w' => e = .returned (.pointer (some ⟨a1.heap.size, 0, none⟩)) ∧ a2 = w' := by
            rw [e2]
            exact (newRand_any _ _ _).mono fun e w' h => ⟨h.1, h.2.symm⟩
          have hN3 := hmm 32 a2
          have hN4 := run_make_row' (P := Ybaf.prog) 27 9 (.string ⟨#[]⟩) 16 Ybaf.underlying27 info9 rfl .i64 .i64 k (by omega) (by omega) a3
          rw [← e3] at hN3
          rw [← e4] at hN4
          clear e1 e2 e3 e4 hmm hp hb hlt hk
          go_wp2_with (first
            | (go_at_call 10; refine hN1.mono ?_; rintro e w' ⟨rfl, rfl⟩)
            | (go_at_call 9; refine hN2.mono ?_; rintro e w' ⟨rfl, rfl⟩))
          clear hN1 hN2 hN3 hN4
          go_loopw [63] (fun i wr => ∃ (j s : Nat) (f : Nat → ByteArray), j ≤ k ∧ i = .int .i64 j ∧ RT w wr a1.heap.size w7.heap.size a2.heap.size a3.heap.size k j s f ∧ Good j f ∧ (∀ i, j ≤ i → f i = ⟨#[]⟩)) (fun i _ => k - (intOf i).toNat)
          case atStart => exact ⟨0, _, _, Nat.zero_le _, rfl, hR1, fun i hi => absurd hi (Nat.not_lt_zero _), fun _ _ => rfl⟩
          case round =>
            obtain ⟨j, s, f, hj, rfl, hR, hG, hE⟩ := hrel
            clear hR1
            by_cases hlt : j < k
            · have hc := (Hs.out.2 (j % m) (Nat.mod_lt _ hm0)).2
              rw [← hR.below.cell (p := ⟨g, j % m * 69 + 1 + 2, none⟩) Hs.out.1] at hc
              have hm1 : j % m < m := Nat.mod_lt _ hm0
              have HE := hideIt hE
              clear hE
              go_wp2_with (first
                | (at_lookup; refine wpList_lookup_own_int _ rfl _ _ 65 rfl 33 3 .i64 law33 Ybaf.underlying65 Ybaf.underlying3 (zero3 _) w.heap.size 2 pref rfl hR.pre _ _ rfl (keyOf_ex (hexs (j % m))) ?_))
              intro pr _ hwpr
              obtain ⟨t, G, hG1, hGt, hta, hfree⟩ := target_left j (by omega) f pr s
              have H1 := hideIt (And.intro hG1 (And.intro hGt (And.intro hta hfree)))
              clear hG1 hGt hta hfree hc
              go_wp2_with fail
              have h0 : ∃ (s1 : Nat) (c : ByteArray), RT w wr a1.heap.size w7.heap.size a2.heap.size a3.heap.size k j s1 (fun i => if i = j then c else f i) ∧ c.size ≤ 100 ∧ ((c ≠ ⟨#[]⟩ ∧ ∀ i, i < j → f i ≠ c) ∨ (1 ≤ G ∧ Pcg.iter G s1 = t)) := by
                refine ⟨s, ⟨#[]⟩, ?_, by decide, .inr ⟨H1.out.1, H1.out.2.1⟩⟩
                have e : (fun i => if i = j then (⟨#[]⟩ : ByteArray) else f i) = f := by
                  funext i
                  split
                  · rename_i h
                    rw [HE.out i (by omega)]
                  · rfl
                rw [e]
                exact hR
              have H0 := hideIt h0
              clear h0 hR
              go_loopg [77] G (fun gk _ wq => ∃ (s1 : Nat) (c : ByteArray), RT w wq a1.heap.size w7.heap.size a2.heap.size a3.heap.size k j s1 (fun i => if i = j then c else f i) ∧ c.size ≤ 100 ∧ ((c ≠ ⟨#[]⟩ ∧ ∀ i, i < j → f i ≠ c) ∨ (1 ≤ gk ∧ Pcg.iter gk s1 = t)))
              case atStart => exact H0.out
              case round =>
                obtain ⟨s1, c, hR, hcs, hor⟩ := hrel
                clear H0
                have hcell := hR.row.cell hlt
                rw [if_pos rfl] at hcell
                have hfro := hR.row.frozen j
                have hcs2 : c.size ≤ maxLen := by unfold maxLen; omega
                by_cases hfin : c ≠ ⟨#[]⟩ ∧ ∀ i, i < j → f i ≠ c
                · obtain ⟨hne, hfr⟩ := hfin
                  have hlk := hR.free hcs2 (fun i hi => by rw [if_neg (by omega)]; exact hfr i hi)
                  obtain ⟨w9, hmu, hR9⟩ := hR.mark (by omega) (by rw [if_pos rfl]; exact hcs2)
                  rw [if_pos rfl] at hmu
                  have hne2 := toList_ne hne
                  have hne3 := isEmpty_ne hne
                  have hG2 : Good (j + 1) (fun i => if i = j then c else f i) := by
                    refine (hG.congr fun i hi => by rw [if_neg (by omega)]).step ?_ ?_ ?_
                    · rw [if_pos rfl]; exact hne
                    · rw [if_pos rfl]; exact hcs2
                    · intro i hi
                      rw [if_pos rfl, if_neg (by omega)]
                      exact hfr i hi
                  have hE2 : ∀ i, j + 1 ≤ i → (fun i => if i = j then c else f i) i = ⟨#[]⟩ := fun i hi => by
                    show (if i = j then c else f i) = _
                    rw [if_neg (by omega)]
                    exact HE.out i (by omega)
                  have Hfin := hideIt (And.intro hR9 (And.intro hG2 hE2))
                  clear hor hR9 hG2 hE2 hR hfr hG
                  go_wp2
                  go_roundw
                  case rel => exact ⟨j + 1, s1, _, by omega, by go_num, Hfin.out.1, Hfin.out.2.1, Hfin.out.2.2⟩
                  case measure => simp [intOf]; omega
                · have hor2 := hor.resolve_left hfin
                  have htrue : c = ⟨#[]⟩ ∨ (c ≠ ⟨#[]⟩ ∧ (Instr.lookup 32 (.map (some a2.heap.size)) (.string c) false).run Ybaf.prog wr = .ok (.bool true) wr) := by
                    by_cases hce : c = ⟨#[]⟩
                    · exact .inl hce
                    · refine .inr ⟨hce, ?_⟩
                      by_cases hx : ∃ i, i < j ∧ f i = c
                      · obtain ⟨i, hi, hic⟩ := hx
                        exact hR.taken hcs2 i hi (by rw [if_neg (by omega)]; exact hic)
                      · exact absurd ⟨hce, fun i h1 h2 => hx ⟨i, h1, h2⟩⟩ hfin
                  have H2 := hideIt (And.intro hR (And.intro hG hor2))
                  have hI := intN_any wr a1.heap.size w7.heap.size s1 hR.rand
                  clear hor hor2 hfin hR hG hcs hfro
                  rcases htrue with hce | ⟨hne, hlk⟩
                  · subst hce
                    go_wp2_with fail
                    refine hI.mono ?_
                    rintro e w8 ⟨s2, hd, rfl, hr8, hg8⟩
                    obtain ⟨hR, hG, hor⟩ := H2.out
                    have hv := Pcg.val_lt s2
                    have hwv : (Lit.int .i64 ((Pcg.val s2 : Nat) : Int)).wf = true := wf_code (by omega) (by omega)
                    have hR8 := hR.draw hr8 hg8
                    have hR9 := hR8.alloc (.cells #[.iface 3 (.int .i64 pr), .iface 3 (.int .i64 ((Pcg.val s2 : Nat) : Int))] 20)
                    have hsp := sprintf_run F pr ((Pcg.val s2 : Nat) : Int) hwpr hwv (w8.alloc (.cells #[.iface 3 (.int .i64 pr), .iface 3 (.int .i64 ((Pcg.val s2 : Nat) : Int))] 20)) (by rw [hR9.below.tape]; exact HF.out) w8.heap.size (by rw [World.cell?_alloc_new]; rfl) (by rw [World.cell?_alloc_new]; rfl)
                    have hcell9 := hR9.drew.row.cell hlt
                    have hfro9 := hR9.drew.row.frozen j
                    have hput := hR9.drew.put (codeB pr ((Pcg.val s2 : Nat) : Int))
                    obtain ⟨g', hg', hrel'⟩ : ∃ g', g' < gk ∧ ∃ (s1 : Nat) (c : ByteArray), RT w ((w8.alloc (.cells #[.iface 3 (.int .i64 pr), .iface 3 (.int .i64 ((Pcg.val s2 : Nat) : Int))] 20)).drew.setCell ⟨a3.heap.size, j, none⟩ (.string (codeB pr ((Pcg.val s2 : Nat) : Int)))) a1.heap.size w7.heap.size a2.heap.size a3.heap.size k j s1 (fun i => if i = j then c else f i) ∧ c.size ≤ 100 ∧ ((c ≠ ⟨#[]⟩ ∧ ∀ i, i < j → f i ≠ c) ∨ (1 ≤ g' ∧ Pcg.iter g' s1 = t)) := by
                      have hput2 := hput.congr2 (g := fun i => if i = j then codeB pr ((Pcg.val s2 : Nat) : Int) else f i) (by funext i; split <;> rfl)
                      rcases Pcg.Drawn.goal hd hor.1 hor.2 H1.out.2.2.1 with h | ⟨g', h1, h2, h3⟩
                      · refine ⟨0, by omega, s2, _, hput2, codeB_size hwpr hwv, .inl ⟨codeB_ne, ?_⟩⟩
                        rw [h]
                        exact H1.out.2.2.2
                      · exact ⟨g', h2, s2, _, hput2, codeB_size hwpr hwv, .inr ⟨h1, h3⟩⟩
                    rw [if_pos rfl] at hcell9
                    have Hrel := hideIt hrel'
                    clear hrel' hput hR8 hR9 hR hor hd hG hr8 hg8 hI
                    go_wp2
                    go_roundg g'
                    case measure => exact hg'
                    case rel => exact Hrel.out
                  · have hne2 := toList_ne hne
                    have hne3 := isEmpty_ne hne
                    go_wp2_with fail
                    refine hI.mono ?_
                    rintro e w8 ⟨s2, hd, rfl, hr8, hg8⟩
                    obtain ⟨hR, hG, hor⟩ := H2.out
                    have hv := Pcg.val_lt s2
                    have hwv : (Lit.int .i64 ((Pcg.val s2 : Nat) : Int)).wf = true := wf_code (by omega) (by omega)
                    have hR8 := hR.draw hr8 hg8
                    have hR9 := hR8.alloc (.cells #[.iface 3 (.int .i64 pr), .iface 3 (.int .i64 ((Pcg.val s2 : Nat) : Int))] 20)
                    have hsp := sprintf_run F pr ((Pcg.val s2 : Nat) : Int) hwpr hwv (w8.alloc (.cells #[.iface 3 (.int .i64 pr), .iface 3 (.int .i64 ((Pcg.val s2 : Nat) : Int))] 20)) (by rw [hR9.below.tape]; exact HF.out) w8.heap.size (by rw [World.cell?_alloc_new]; rfl) (by rw [World.cell?_alloc_new]; rfl)
                    have hcell9 := hR9.drew.row.cell hlt
                    have hfro9 := hR9.drew.row.frozen j
                    have hput := hR9.drew.put (codeB pr ((Pcg.val s2 : Nat) : Int))
                    obtain ⟨g', hg', hrel'⟩ : ∃ g', g' < gk ∧ ∃ (s1 : Nat) (c : ByteArray), RT w ((w8.alloc (.cells #[.iface 3 (.int .i64 pr), .iface 3 (.int .i64 ((Pcg.val s2 : Nat) : Int))] 20)).drew.setCell ⟨a3.heap.size, j, none⟩ (.string (codeB pr ((Pcg.val s2 : Nat) : Int)))) a1.heap.size w7.heap.size a2.heap.size a3.heap.size k j s1 (fun i => if i = j then c else f i) ∧ c.size ≤ 100 ∧ ((c ≠ ⟨#[]⟩ ∧ ∀ i, i < j → f i ≠ c) ∨ (1 ≤ g' ∧ Pcg.iter g' s1 = t)) := by
                      have hput2 := hput.congr2 (g := fun i => if i = j then codeB pr ((Pcg.val s2 : Nat) : Int) else f i) (by funext i; split <;> rfl)
                      rcases Pcg.Drawn.goal hd hor.1 hor.2 H1.out.2.2.1 with h | ⟨g', h1, h2, h3⟩
                      · refine ⟨0, by omega, s2, _, hput2, codeB_size hwpr hwv, .inl ⟨codeB_ne, ?_⟩⟩
                        rw [h]
                        exact H1.out.2.2.2
                      · exact ⟨g', h2, s2, _, hput2, codeB_size hwpr hwv, .inr ⟨h1, h3⟩⟩
                    rw [if_pos rfl] at hcell9
                    have Hrel := hideIt hrel'
                    clear hrel' hput hR8 hR9 hR hor hd hG hr8 hg8 hI
                    go_wp2
                    go_roundg g'
                    case measure => exact hg'
                    case rel => exact Hrel.out
            · obtain rfl : j = k := by omega
              go_wp2
              go_ret2
              exact ⟨_, f, rfl, by have := hR.apart; omega, hR.row, hG, hR.below⟩
        · intro x c1 kl ya yb w6 c' hkey hlk hv hat hrg1 hlt1 hg1 hs1 hen
          obtain ⟨x', hx, rfl⟩ := keyOf_inv hkey
          cases hx
          obtain ⟨c2, hc2, hy, _⟩ := plainElem_int_inv Ybaf.underlying3 hv
          cases hc2
          have hc1 : c1 = cnt ex m k x := by
            have h1 := hR.cts.2 x
            rw [hat] at h1
            simp only [Prod.mk.injEq] at hy
            rw [hy.1] at h1
            simpa using h1
          have hcl := cnt_le ex m k x
          have hle : ¬ 10000 < c1 := by omega
          have hle2 : c1 ≤ 10000 := by omega
          have hb6 : Below w.heap.size w w6 := hb.grown hg1 hb.size (fun j hj => by simp at hj; omega)
          have hp6 := hp.kept hg1 (by simp; omega)
          have Hm := hideIt (show w6.rangeLeft (w.heap.size + 1) w4.heap.size < wr.rangeLeft (w.heap.size + 1) w4.heap.size by rw [hrg1.left_eq, hrg.left_eq]; exact hlt1)
          clear hkey hv hat hy hg1 hs1 hc1 hcl hlk
          go_wp2
          go_roundw
          case rel => exact ⟨_, _, hrg1, hp6, hb6⟩
          case measure => exact Hm.out

end Go.Proofs.YbulkcssoFmt
