/- 'LawS4717BPost': the walk. -/
import Derived.Test.YbulkcsqyEq
import Derived.Deep.RegionHeld3
namespace Go.Proofs.Ybulkcsqy
open Go Go.RowKit
set_option linter.unusedVariables false

theorem below_grown {w w' : World} (h : Below w.heap.size w w') : w.grownBy w' none := ⟨h.os, h.tape, h.output, h.size, fun k hk _ => h.block k hk⟩
theorem ownsRow_below {w w' : World} {base : Nat} {e : TypeId} {size : Nat} {v : Value} {n : Nat} {xs : List Value} (h : w.ownsRow base e size v n xs) (hb : Below w.heap.size w w') : w'.ownsRow base e size v n xs :=
  h.kept (below_grown hb) (by cases hv : v.ownBlock <;> simp)

/-- What the walk is told of the accounts. -/
def IsStrs (w : World) (ao : Option Addr) (la : Nat) : Prop :=
  la ≤ maxLen ∧ (0 < la → ∃ b off, ao = some ⟨b, off, none⟩ ∧ b < w.heap.size ∧ ∀ j, j < la → ∃ s, w.cell? ⟨b, off + j, none⟩ = some (.string s))
/-- .. and of the amounts. -/
def IsInts (w : World) (ao : Option Addr) (n : Nat) : Prop :=
  n ≤ maxLen ∧ (0 < n → ∃ b off, ao = some ⟨b, off, none⟩ ∧ b < w.heap.size ∧ ∀ j, j < n → ∃ z : Int, w.cell? ⟨b, off + j, none⟩ = some (.int .i64 z) ∧ -9223372036854775808 ≤ z ∧ z ≤ 9223372036854775807)

/-- What holds in the first loop: the slice ps owns k postings. -/
structure R1 (w wr : World) (n k : Nat) (M : List Pst) : Prop where
  len : M.length = k
  own : wr.ownsRow w.heap.size 30 4 (.slice (some ⟨w.heap.size, 0, none⟩) k n) k (pcells M)
  below : Below w.heap.size w wr
  size : w.heap.size + 1 ≤ wr.heap.size

theorem R1.ownAt {w wr w2 : World} {n k : Nat} {M : List Pst} (h : R1 w wr n k M) (hb : Below wr.heap.size wr w2) (o : Obj) :
    (w2.alloc o).ownsRow w.heap.size 30 4 (.slice (some ⟨w.heap.size, 0, none⟩) k n) k (pcells M) := (ownsRow_below h.own hb).alloc o
theorem news_at (w2 : World) (q : Pst) : ∀ j u, (pcell q)[j]? = some u → (w2.alloc (.cells #[.string q.1, .int .i64 q.2.1, .pointer q.2.2, .int .i64 0] 30)).cell? ((⟨w2.heap.size, 0, none⟩ : Addr).add j) = some u :=
  World.news_of_block (cs := #[.string q.1, .int .i64 q.2.1, .pointer q.2.2, .int .i64 0]) (t := 30) (fr := (0, 0)) (heap_alloc_new w2 _)
theorem R1.step {w wr w2 w3 : World} {n k : Nat} {M : List Pst} {q : Pst} {o : Obj} (h : R1 w wr n k M) (hb : Below wr.heap.size wr w2)
    (ho : w3.ownsRow w.heap.size 30 4 (.slice (some ⟨w.heap.size, 0, none⟩) (k + 1) n) (k + 1) (pcells M ++ pcell q)) (hg : (w2.alloc o).grownBy w3 (some w.heap.size)) : R1 w w3 n (k + 1) (M ++ [q]) := by
  have hs := hb.size
  have hs' := h.size
  refine ⟨by simp [h.len], by rw [pcells_snoc]; exact ho, ?_, ?_⟩
  · refine ((h.below.trans (hb.mono (by omega))).alloc (by omega) o).grown hg (by simp; omega) (fun k hk => ?_)
    simp at hk
    omega
  · have := hg.size
    simp at this
    omega

/-- What holds behind the call of 'post': the entry's slice owns L, the copy owns M, the variable d holds (s, p). -/
structure R2 (w w6 : World) (Be Bd g' cap' : Nat) (ao2 : Option Addr) (c2 : Nat) (date : Int) (desc : ByteArray) (s : Int) (p : Option Addr) (L M : List Pst) : Prop where
  e : w6.heap[Be]? = some (.cells #[.int .i64 date, .string desc, .slice (some ⟨g', 0, none⟩) L.length cap'] 34 (0, 0))
  own : w6.ownsRow w.heap.size 30 4 (.slice (some ⟨g', 0, none⟩) L.length cap') L.length (pcells L)
  bef : w6.ownsRow w.heap.size 30 4 (.slice ao2 M.length c2) M.length (pcells M)
  d : w6.heap[Bd]? = some (.cells #[.int .i64 s, .pointer p, .int .i64 0] 27 (0, 0))
  below : Below w.heap.size w w6

/-- The world ahead of the call of 'post'. -/
structure R0 (w w5 : World) (Be Bd n : Nat) (ao2 : Option Addr) (c2 : Nat) (date : Int) (desc : ByteArray) (nn s : Int) (p : Option Addr) (M : List Pst) : Prop where
  e : w5.heap[Be]? = some (.cells #[.int .i64 date, .string desc, .slice (some ⟨w.heap.size, 0, none⟩) M.length n] 34 (0, 0))
  own : w5.ownsRow w.heap.size 30 4 (.slice (some ⟨w.heap.size, 0, none⟩) M.length n) M.length (pcells M)
  bef : w5.ownsRow (w.heap.size + 1) 30 4 (.slice ao2 M.length c2) M.length (pcells M)
  d : w5.heap[Bd]? = some (.cells #[.int .i64 s, .pointer p, .int .i64 0] 27 (0, 0))
  below : Below w.heap.size w w5
  ok : DecOk nn s p w5
  hBe : w.heap.size + 1 ≤ Be
  hlt : Be < w5.heap.size

theorem ownsRow_lower {w : World} {base base' : Nat} {e : TypeId} {size : Nat} {v : Value} {n : Nat} {xs : List Value} (h : w.ownsRow base e size v n xs) (hb : base' ≤ base) : w.ownsRow base' e size v n xs := by
  refine ⟨h.1, ?_⟩
  rcases h.2 with h | ⟨g, cap, cur, h1, h2, h3⟩
  · exact .inl h
  · exact .inr ⟨g, cap, cur, h1, by omega, h3⟩

theorem R0.zero {w w5 w6 : World} {Be Bd n : Nat} {ao2 : Option Addr} {c2 : Nat} {date : Int} {desc : ByteArray} {nn s : Int} {p : Option Addr} {M : List Pst} (h : R0 w w5 Be Bd n ao2 c2 date desc nn s p M)
    (hb : Below w5.heap.size w5 w6) : R2 w w6 Be Bd w.heap.size n ao2 c2 date desc s p M M := by
  have hlt : ∀ k o, w5.heap[k]? = some o → k < w5.heap.size := fun k o hk => (Array.getElem?_eq_some_iff.1 hk).1
  refine ⟨(hb.block _ (hlt _ _ h.e)).trans h.e, ownsRow_below h.own hb, ownsRow_lower (ownsRow_below h.bef hb) (Nat.le_succ _), (hb.block _ (hlt _ _ h.d)).trans h.d, h.below.trans (hb.mono ?_)⟩
  exact h.below.size

theorem R0.other {w w5 w6 : World} {Be Bd n : Nat} {ao2 : Option Addr} {c2 : Nat} {date : Int} {desc account : ByteArray} {nn s : Int} {p : Option Addr} {M : List Pst} (h : R0 w w5 Be Bd n ao2 c2 date desc nn s p M)
    (hp : Posted w.heap.size Be w.heap.size w5 w6 date desc (M ++ [(account, s, p)])) : ∃ g' cap', R2 w w6 Be Bd g' cap' ao2 c2 date desc s p (M ++ [(account, s, p)]) M := by
  have hlt : ∀ k o, w5.heap[k]? = some o → k < w5.heap.size := fun k o hk => (Array.getElem?_eq_some_iff.1 hk).1
  obtain ⟨g', cap', h1, h2⟩ := hp.out
  have hB := h.hBe
  have hdne : Bd ≠ Be := fun e => by have h3 := h.d; have h4 := h.e; rw [e, h4] at h3; simp at h3
  have hdg : Bd ≠ w.heap.size := fun e => by
    rcases h.own.2 with ⟨h', _⟩ | ⟨g, c, cur, h', _, hh, _⟩
    · cases h'
    · simp at h'
      have h3 := h.d
      rw [e, h'.1, hh] at h3
      simp at h3
  refine ⟨g', cap', h1, h2, ?_, (hp.kept _ (hlt _ _ h.d) hdne hdg).trans h.d, h.below.trans hp.below⟩
  refine ownsRow_lower (base := w.heap.size + 1) ?_ (Nat.le_succ _)
  refine ⟨h.bef.1, ?_⟩
  rcases h.bef.2 with hn | ⟨g, c, cur, hv, hb, hh, r⟩
  · exact .inl hn
  · refine .inr ⟨g, c, cur, hv, hb, (hp.kept g (hlt _ _ hh) ?_ (by omega)).trans hh, r⟩
    intro e
    have h4 := h.e
    rw [← e, hh] at h4
    simp at h4

theorem R0.mk' {w wr w3 w4 : World} {n : Nat} {ao2 : Option Addr} {c2 : Nat} {date : Int} {desc : ByteArray} {nn s : Int} {p : Option Addr} {M : List Pst} (h : R1 w wr n M.length M)
    (hown2 : w3.ownsRow wr.heap.size 30 4 (.slice ao2 M.length c2) M.length (pcells M)) (hb3 : Below wr.heap.size wr w3)
    (hb4 : Below (w3.heap.size + 1) (w3.alloc (.cells #[.int .i64 date, .string desc, .slice (some ⟨w.heap.size, 0, none⟩) M.length n] 34)) w4) (hok : DecOk nn s p w4) :
    R0 w (w4.alloc (.cells #[.int .i64 s, .pointer p, .int .i64 0] 27)) w3.heap.size w4.heap.size n ao2 c2 date desc nn s p M := by
  have s1 := h.size
  have s3 := hb3.size
  have s4 := hb4.size
  simp at s4
  have hb4' : Below (w3.alloc (.cells #[.int .i64 date, .string desc, .slice (some ⟨w.heap.size, 0, none⟩) M.length n] 34)).heap.size (w3.alloc (.cells #[.int .i64 date, .string desc, .slice (some ⟨w.heap.size, 0, none⟩) M.length n] 34)) w4 := by simpa using hb4
  refine ⟨?_, ?_, ?_, heap_alloc_new _ _, ?_, ?_, by omega, by simp; omega⟩
  · rw [Below.heap_alloc _ _ _ (by omega), hb4.block _ (by omega), heap_alloc_new]
  · exact (ownsRow_below ((ownsRow_below h.own hb3).alloc _) hb4').alloc _
  · exact ownsRow_lower ((ownsRow_below (hown2.alloc _) hb4').alloc _) (by omega)
  · exact (((h.below.trans (hb3.mono (by omega))).alloc (by omega) _).trans (hb4.mono (by omega))).alloc (by omega) _
  · exact hok.below ((Below.refl _ _).alloc (Nat.le_refl _) _) (Nat.le_refl _)

theorem getD_left (M N : List Pst) (k : Nat) (h : k < M.length) : (M ++ N).getD k pz = M.getD k pz := by
  rw [List.getD_eq_getElem?_getD, List.getD_eq_getElem?_getD, List.getElem?_append_left h]
theorem getD_last (M : List Pst) (q : Pst) : (M ++ [q]).getD M.length pz = q := by
  rw [List.getD_eq_getElem?_getD, List.getElem?_append_right (Nat.le_refl _)]
  simp
theorem pcells_get (M : List Pst) : ∀ (k j : Nat), k < M.length → j < 4 → (pcells M)[k * 4 + j]? = (pcell (M.getD k pz))[j]? := by
  induction M with
  | nil => intro k j h; simp at h
  | cons m M ih =>
    intro k j hk hj
    have e : pcells (m :: M) = pcell m ++ pcells M := by simp [pcells]
    have el : (pcell m).length = 4 := rfl
    rw [e]
    cases k with
    | zero =>
      rw [List.getElem?_append_left (by omega)]
      simp
    | succ k =>
      rw [List.getElem?_append_right (by omega), el, show (k + 1) * 4 + j - 4 = k * 4 + j by omega, ih k j (by simpa using hk) hj]
      simp
theorem cells_of_own {w : World} {base g cap : Nat} {M : List Pst} (h : w.ownsRow base 30 4 (.slice (some ⟨g, 0, none⟩) M.length cap) M.length (pcells M)) : ∀ k, k < M.length →
    w.cell? ⟨g, k * 4, none⟩ = some (.string (M.getD k pz).1) ∧ w.cell? ⟨g, k * 4 + 1, none⟩ = some (.int .i64 (M.getD k pz).2.1) ∧
      w.cell? ⟨g, k * 4 + 2, none⟩ = some (.pointer (M.getD k pz).2.2) ∧ w.cell? ⟨g, k * 4 + 3, none⟩ = some (.int .i64 0) := by
  intro k hk
  have h0 := h.cellAt (k * 4 + 0) (by omega)
  have h1 := h.cellAt (k * 4 + 1) (by omega)
  have h2 := h.cellAt (k * 4 + 2) (by omega)
  have h3 := h.cellAt (k * 4 + 3) (by omega)
  rw [pcells_get M k _ hk (by omega)] at h0 h1 h2 h3
  exact ⟨h0, h1, h2, h3⟩

set_option maxRecDepth 100000 in
set_option maxHeartbeats 2000000 in
theorem main_walk (ao bo : Option Addr) (la ca n cb : Nat) (date : Int) (desc account : ByteArray) (nn : Int) (hn0 : -9223372036854775808 ≤ nn) (hn1 : nn ≤ 9223372036854775807) (w : World)
    (hn : n ≤ 1024) (hacc : IsStrs w ao la) (hamt : IsInts w bo n) :
    Calls Yba.prog 3 #[.slice ao la ca, .slice bo n cb, .int .i64 date, .string desc, .string account, .int .i64 nn] w fun e w' => e = .returned (.bool true) ∧ Below w.heap.size w w' := by
  obtain ⟨i0, hi, hz0, hz1, hz2⟩ := info_parts info30
  have hdn : decide ((1024 : Int) < (n : Int)) = false := by simp; omega
  have Hacc := hideIt hacc
  have Hamt := hideIt hamt
  have hla : la ≤ 9223372036854775807 := hacc.1
  clear hacc hamt
  go_enter Yba.func3, Yba.ntmps3
  go_wp2_with (at_make; refine wpList_make_own _ rfl _ (.tmp 27) 24 rfl w.heap.size 30 i0 _ 4 Yba.underlying24 hi hz0 hz1 _ _ _ n rfl rfl rfl (by rw [hz2]; omega) (by unfold maxLen; omega) (Nat.le_refl _) ?_)
  intro w1 hown1 hgrow1
  have hR1 : R1 w w1 n 0 [] := ⟨rfl, hown1, (Below.refl _ _).grown hgrow1 (Nat.le_refl _) (fun k hk => by cases hk), by have := (hown1.lt w.heap.size rfl).2; omega⟩
  clear hown1 hgrow1
  go_wp2_with fail
  go_loopw [13, 31] (fun ps i wr => ∃ (k : Nat) (M : List Pst), k ≤ n ∧ i = .int .i64 k ∧ ps = .slice (some ⟨w.heap.size, 0, none⟩) k n ∧ R1 w wr n k M)
    (fun _ i _ => n - (intOf i).toNat)
  case atStart => exact ⟨0, [], Nat.zero_le _, rfl, rfl, hR1⟩
  case round =>
    obtain ⟨k, M, hk, rfl, rfl, hR⟩ := hrel
    clear hR1
    by_cases hlt : k < n
    · obtain ⟨ab, aoff, rfl, hab, hcells⟩ := Hamt.out.2 (by omega)
      obtain ⟨z, c0, z0, z1⟩ := hcells k hlt
      rw [← hR.below.cell (p := ⟨ab, aoff + k, none⟩) hab] at c0
      clear hcells
      rcases Nat.eq_zero_or_pos la with rfl | hpos
      · go_wp2_with fail
        refine (fromInt_any z z0 z1 _).mono ?_
        rintro e w2 ⟨s, p, rfl, hb2, _⟩
        have hO := hR.ownAt hb2 (.cells #[.string ⟨#[]⟩, .int .i64 s, .pointer p, .int .i64 0] 30)
        have Hst := hideIt (fun (w3 : World) => hR.step (w3 := w3) (q := (⟨#[]⟩, s, p)) (o := .cells #[.string ⟨#[]⟩, .int .i64 s, .pointer p, .int .i64 0] 30) hb2)
        clear hR hb2 c0
        go_wp2_with (at_builtin; refine wpList_append_fits _ rfl (.tmp 46) (.tmp 51) 24 rfl w.heap.size 30 i0 4 Yba.underlying24 hi hz1 w.heap.size k n (pcells M) rfl hO ⟨w2.heap.size, 0, none⟩ 1 1 (pcell (⟨#[]⟩, s, p)) rfl rfl (news_at w2 (⟨#[]⟩, s, p)) (pcell_oneCell _) (by omega) ?_)
        intro w3 hown3 hgrow3
        have hst := Hst.out w3 hown3 hgrow3
        clear Hst hown3 hgrow3 hO
        go_wp2
        go_roundw
        case rel => exact ⟨k + 1, _, by omega, by go_num, rfl, hst⟩
        case measure => simp [intOf]; omega
      · obtain ⟨sb, soff, rfl, hsb, hstrs⟩ := Hacc.out.2 hpos
        obtain ⟨acc, c1⟩ := hstrs (k % la) (Nat.mod_lt _ hpos)
        rw [← hR.below.cell (p := ⟨sb, soff + k % la, none⟩) hsb] at c1
        clear hstrs
        have hm1 : k % la < la := Nat.mod_lt _ hpos
        go_wp2_with fail
        refine (fromInt_any z z0 z1 _).mono ?_
        rintro e w2 ⟨s, p, rfl, hb2, _⟩
        have hO := hR.ownAt hb2 (.cells #[.string acc, .int .i64 s, .pointer p, .int .i64 0] 30)
        have Hst := hideIt (fun (w3 : World) => hR.step (w3 := w3) (q := (acc, s, p)) (o := .cells #[.string acc, .int .i64 s, .pointer p, .int .i64 0] 30) hb2)
        clear hR hb2 c0 c1
        go_wp2_with (at_builtin; refine wpList_append_fits _ rfl (.tmp 46) (.tmp 51) 24 rfl w.heap.size 30 i0 4 Yba.underlying24 hi hz1 w.heap.size k n (pcells M) rfl hO ⟨w2.heap.size, 0, none⟩ 1 1 (pcell (acc, s, p)) rfl rfl (news_at w2 (acc, s, p)) (pcell_oneCell _) (by omega) ?_)
        intro w3 hown3 hgrow3
        have hst := Hst.out w3 hown3 hgrow3
        clear Hst hown3 hgrow3 hO
        go_wp2
        go_roundw
        case rel => exact ⟨k + 1, _, by omega, by go_num, rfl, hst⟩
        case measure => simp [intOf]; omega
    · have hkn : k = n := by omega
      subst hkn
      have hl := hR.len
      subst hl
      obtain ⟨w2, hw2⟩ : ∃ x, x = wr := ⟨wr, rfl⟩
      subst hw2
      have hclone := clone_any M (by omega) w.heap.size w.heap.size M.length w2 hR.own
      go_wp2_with fail
      refine hclone.mono ?_
      rintro e w3 ⟨v, rfl, hown2, hb3⟩
      clear hclone
      obtain ⟨ao2, c2, rfl⟩ := ownsRow_shape hown2
      go_wp2_with fail
      refine (fromInt_any nn hn0 hn1 _).mono ?_
      rintro e w4 ⟨s, p, rfl, hb4, hok⟩
      have hR0 := R0.mk' hR hown2 hb3 (by simpa using hb4) hok
      clear hR hown2 hb3 hb4 hok
      go_wp2_with fail
      by_cases h0 : nn = 0
      · subst h0
        refine (post_zero s p w3.heap.size account _ hR0.ok).mono ?_
        rintro e w6 ⟨rfl, hb6⟩
        have hR2 := hR0.zero hb6
        clear hb6
        have e0 : w6.cell? ⟨w3.heap.size, 0, none⟩ = some (.int .i64 date) := by have := cell_of_row w6 w3.heap.size 0 _ _ _ hR2.e; simpa using this
        have e1 : w6.cell? ⟨w3.heap.size, 1, none⟩ = some (.string desc) := by have := cell_of_row w6 w3.heap.size 1 _ _ _ hR2.e; simpa using this
        have e2 : w6.cell? ⟨w3.heap.size, 2, none⟩ = some (.slice (some ⟨w.heap.size, 0, none⟩) M.length M.length) := by have := cell_of_row w6 w3.heap.size 2 _ _ _ hR2.e; simpa using this
        have hBe : w3.heap.size < w6.heap.size := (Array.getElem?_eq_some_iff.1 hR2.e).1
        have hBd : w4.heap.size < w6.heap.size := (Array.getElem?_eq_some_iff.1 hR2.d).1
        clear hR0
        go_wp2_with fail
        go_loopw [21] (fun i wr => ∃ k : Nat, k ≤ M.length ∧ i = .int .i64 k ∧ Below w6.heap.size w6 wr) (fun i _ => M.length - (intOf i).toNat)
        case atStart => exact ⟨0, Nat.zero_le _, rfl, Below.refl _ _⟩
        case round =>
          obtain ⟨k, hk, rfl, hnx⟩ := hrel
          by_cases hlt : k < M.length
          · obtain ⟨g2, cp2, hv2, hg2b, hg2l⟩ := hR2.bef.form (by omega)
            simp only [Value.slice.injEq, true_and] at hv2
            obtain ⟨rfl, rfl⟩ := hv2
            obtain ⟨x0, x1, x2, x3⟩ := cells_of_own hR2.own k hlt
            obtain ⟨y0, y1, y2, y3⟩ := cells_of_own hR2.bef k hlt
            have hgl := (hR2.own.lt w.heap.size rfl).2
            obtain ⟨⟨a, sk, pk⟩, hq⟩ : ∃ q, M.getD k pz = q := ⟨_, rfl⟩
            rw [hq] at x0 x1 x2 y0 y1 y2
            dsimp only at x0 x1 x2 y0 y1 y2
            rw [← hnx.cell (p := ⟨w.heap.size, k * 4, none⟩) hgl] at x0
            rw [← hnx.cell (p := ⟨w.heap.size, k * 4 + 1, none⟩) hgl] at x1
            rw [← hnx.cell (p := ⟨w.heap.size, k * 4 + 2, none⟩) hgl] at x2
            rw [← hnx.cell (p := ⟨w.heap.size, k * 4 + 3, none⟩) hgl] at x3
            rw [← hnx.cell (p := ⟨g2, k * 4, none⟩) hg2l] at y0
            rw [← hnx.cell (p := ⟨g2, k * 4 + 1, none⟩) hg2l] at y1
            rw [← hnx.cell (p := ⟨g2, k * 4 + 2, none⟩) hg2l] at y2
            rw [← hnx.cell (p := ⟨g2, k * 4 + 3, none⟩) hg2l] at y3
            have f2 := e2
            rw [← hnx.cell (p := ⟨w3.heap.size, 2, none⟩) hBe] at f2
            have hk4 : (k : Int) < (M.length : Int) := by omega
            have n30 := neq30 a sk pk
            clear hq e0 e1 e2
            go_wp2_with fail
            go_region_held3 (fun w' => w'.cell? ⟨w3.heap.size, 2, none⟩ = some (.slice (some ⟨w.heap.size, 0, none⟩) M.length M.length) ∧ w'.cell? ⟨w.heap.size, k * 4, none⟩ = some (.string a) ∧ w'.cell? ⟨w.heap.size, k * 4 + 1, none⟩ = some (.int .i64 sk) ∧ w'.cell? ⟨w.heap.size, k * 4 + 2, none⟩ = some (.pointer pk) ∧ w'.cell? ⟨w.heap.size, k * 4 + 3, none⟩ = some (.int .i64 0) ∧ w'.cell? ⟨g2, k * 4, none⟩ = some (.string a) ∧ w'.cell? ⟨g2, k * 4 + 1, none⟩ = some (.int .i64 sk) ∧ w'.cell? ⟨g2, k * 4 + 2, none⟩ = some (.pointer pk) ∧ w'.cell? ⟨g2, k * 4 + 3, none⟩ = some (.int .i64 0)) (go_keep) (fail)
            go_wp2
            go_roundw
            case rel => exact ⟨k + 1, by omega, by go_num, hnx.drew⟩
            case measure => simp [intOf]; omega
          · have hkn : k = M.length := by omega
            subst hkn
            go_wp2
            go_ret
            exact ⟨rfl, hR2.below.trans (hnx.mono hR2.below.size)⟩
      · refine (post_other nn s h0 p w.heap.size w3.heap.size w.heap.size M.length date desc account M hn _ hR0.ok hR0.own (by have := hR0.hBe; omega) hR0.hlt hR0.e).mono ?_
        rintro e w6 ⟨rfl, hp6⟩
        obtain ⟨g', cap', hR2⟩ := hR0.other hp6
        clear hp6
        have e0 : w6.cell? ⟨w3.heap.size, 0, none⟩ = some (.int .i64 date) := by have := cell_of_row w6 w3.heap.size 0 _ _ _ hR2.e; simpa using this
        have e1 : w6.cell? ⟨w3.heap.size, 1, none⟩ = some (.string desc) := by have := cell_of_row w6 w3.heap.size 1 _ _ _ hR2.e; simpa using this
        have e2 : w6.cell? ⟨w3.heap.size, 2, none⟩ = some (.slice (some ⟨g', 0, none⟩) (M.length + 1) cap') := by have := cell_of_row w6 w3.heap.size 2 _ _ _ hR2.e; simpa using this
        have hBe : w3.heap.size < w6.heap.size := (Array.getElem?_eq_some_iff.1 hR2.e).1
        have hBd : w4.heap.size < w6.heap.size := (Array.getElem?_eq_some_iff.1 hR2.d).1
        have hnn : (nn != 0) = true := by simpa using h0
        clear hR0
        go_wp2_with fail
        go_loopw [21] (fun i wr => ∃ k : Nat, k ≤ M.length ∧ i = .int .i64 k ∧ Below w6.heap.size w6 wr) (fun i _ => M.length - (intOf i).toNat)
        case atStart => exact ⟨0, Nat.zero_le _, rfl, Below.refl _ _⟩
        case round =>
          obtain ⟨k, hk, rfl, hnx⟩ := hrel
          by_cases hlt : k < M.length
          · obtain ⟨g2, cp2, hv2, hg2b, hg2l⟩ := hR2.bef.form (by omega)
            simp only [Value.slice.injEq, true_and] at hv2
            obtain ⟨rfl, rfl⟩ := hv2
            obtain ⟨x0, x1, x2, x3⟩ := cells_of_own hR2.own k (by simp; omega)
            obtain ⟨y0, y1, y2, y3⟩ := cells_of_own hR2.bef k hlt
            have hgl := (hR2.own.lt g' rfl).2
            rw [getD_left _ _ k hlt] at x0 x1 x2
            obtain ⟨⟨a, sk, pk⟩, hq⟩ : ∃ q, M.getD k pz = q := ⟨_, rfl⟩
            rw [hq] at x0 x1 x2 y0 y1 y2
            dsimp only at x0 x1 x2 y0 y1 y2
            rw [← hnx.cell (p := ⟨g', k * 4, none⟩) hgl] at x0
            rw [← hnx.cell (p := ⟨g', k * 4 + 1, none⟩) hgl] at x1
            rw [← hnx.cell (p := ⟨g', k * 4 + 2, none⟩) hgl] at x2
            rw [← hnx.cell (p := ⟨g', k * 4 + 3, none⟩) hgl] at x3
            rw [← hnx.cell (p := ⟨g2, k * 4, none⟩) hg2l] at y0
            rw [← hnx.cell (p := ⟨g2, k * 4 + 1, none⟩) hg2l] at y1
            rw [← hnx.cell (p := ⟨g2, k * 4 + 2, none⟩) hg2l] at y2
            rw [← hnx.cell (p := ⟨g2, k * 4 + 3, none⟩) hg2l] at y3
            have f2 := e2
            rw [← hnx.cell (p := ⟨w3.heap.size, 2, none⟩) hBe] at f2
            have hk4 : (k : Int) < (M.length : Int) := by omega
            have hk5 : (k : Int) < (M.length : Int) + 1 := by omega
            have hk6 : k < M.length + 1 := by omega
            have n30 := neq30 a sk pk
            clear hq e0 e1 e2
            go_wp2_with fail
            go_region_held3 (fun w' => w'.cell? ⟨w3.heap.size, 2, none⟩ = some (.slice (some ⟨g', 0, none⟩) (M.length + 1) cap') ∧ w'.cell? ⟨g', k * 4, none⟩ = some (.string a) ∧ w'.cell? ⟨g', k * 4 + 1, none⟩ = some (.int .i64 sk) ∧ w'.cell? ⟨g', k * 4 + 2, none⟩ = some (.pointer pk) ∧ w'.cell? ⟨g', k * 4 + 3, none⟩ = some (.int .i64 0) ∧ w'.cell? ⟨g2, k * 4, none⟩ = some (.string a) ∧ w'.cell? ⟨g2, k * 4 + 1, none⟩ = some (.int .i64 sk) ∧ w'.cell? ⟨g2, k * 4 + 2, none⟩ = some (.pointer pk) ∧ w'.cell? ⟨g2, k * 4 + 3, none⟩ = some (.int .i64 0)) (go_keep) (fail)
            go_wp2
            go_roundw
            case rel => exact ⟨k + 1, by omega, by go_num, hnx.drew⟩
            case measure => simp [intOf]; omega
          · have hkn : k = M.length := by omega
            subst hkn
            obtain ⟨x0, x1, x2, x3⟩ := cells_of_own hR2.own M.length (by simp)
            have hgl := (hR2.own.lt g' rfl).2
            rw [getD_last] at x0 x1 x2
            dsimp only at x0 x1 x2
            rw [← hnx.cell (p := ⟨g', M.length * 4, none⟩) hgl] at x0
            rw [← hnx.cell (p := ⟨g', M.length * 4 + 1, none⟩) hgl] at x1
            rw [← hnx.cell (p := ⟨g', M.length * 4 + 2, none⟩) hgl] at x2
            rw [← hnx.cell (p := ⟨g', M.length * 4 + 3, none⟩) hgl] at x3
            have f2 := e2
            rw [← hnx.cell (p := ⟨w3.heap.size, 2, none⟩) hBe] at f2
            have d0 : wr.cell? ⟨w4.heap.size, 0, none⟩ = some (.int .i64 s) := (hnx.cell (p := ⟨w4.heap.size, 0, none⟩) hBd).trans (by have := cell_of_row w6 w4.heap.size 0 _ _ _ hR2.d; simpa using this)
            have d1 : wr.cell? ⟨w4.heap.size, 1, none⟩ = some (.pointer p) := (hnx.cell (p := ⟨w4.heap.size, 1, none⟩) hBd).trans (by have := cell_of_row w6 w4.heap.size 1 _ _ _ hR2.d; simpa using this)
            have d2 : wr.cell? ⟨w4.heap.size, 2, none⟩ = some (.int .i64 0) := (hnx.cell (p := ⟨w4.heap.size, 2, none⟩) hBd).trans (by have := cell_of_row w6 w4.heap.size 2 _ _ _ hR2.d; simpa using this)
            have hB6 : w4.heap.size < wr.heap.size := Nat.lt_of_lt_of_le hBd hnx.size
            have n27 := neq27 s p
            have Hfin := hideIt (hR2.below.trans (hnx.mono hR2.below.size))
            have hsz : w.heap.size ≤ wr.heap.size := Nat.le_trans hR2.below.size hnx.size
            clear e0 e1 e2 hR2
            go_wp2
            go_ret
            exact ⟨rfl, Hfin.out.alloc hsz _⟩

end Go.Proofs.Ybulkcsqy
