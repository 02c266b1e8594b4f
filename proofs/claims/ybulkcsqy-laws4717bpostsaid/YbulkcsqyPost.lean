/- The contracts of 'slices.Clone' and '(*entry).post'. -/
import Derived.Test.YbulkcsqyLeaves
import Derived.Deep.AppendLies
import Derived.Deep.RegionLaw
namespace Go.Proofs.Ybulkcsqy
open Go Go.RowKit
set_option linter.unusedVariables false

abbrev Pst := ByteArray × Int × Option Addr
abbrev pz : Pst := (⟨#[]⟩, 0, none)
/-- A posting's four cells. -/
def pcell (q : Pst) : List Value := [.string q.1, .int .i64 q.2.1, .pointer q.2.2, .int .i64 0]
def pcells (M : List Pst) : List Value := M.flatMap pcell
theorem pcells_snoc (M : List Pst) (q : Pst) : pcells (M ++ [q]) = pcells M ++ pcell q := by simp [pcells]
theorem pcell_oneCell (q : Pst) : ∀ u ∈ pcell q, u.oneCell' = true := by
  intro u hu
  simp only [pcell, List.mem_cons, List.not_mem_nil, or_false] at hu
  rcases hu with rfl | rfl | rfl | rfl <;> rfl
theorem pcells_oneCell (M : List Pst) : ∀ u ∈ pcells M, u.oneCell' = true := by
  intro u hu
  obtain ⟨q, _, hq⟩ := List.mem_flatMap.1 hu
  exact pcell_oneCell q u hq
theorem pcells_length (M : List Pst) : (pcells M).length = M.length * 4 := by
  induction M with
  | nil => rfl
  | cons m M ih =>
    have : pcells (m :: M) = pcell m ++ pcells M := by simp [pcells]
    rw [this, List.length_append, ih]
    simp [pcell]
    omega
theorem info30 : (Yba.prog.info? 30).map (fun i => (i.zero, i.size, i.bytes)) = some (some (.agg #[.string ⟨#[]⟩, .int .i64 0, .pointer none, .int .i64 0]), 4, 40) := by kernel_rfl

theorem ownsRow_shape {w : World} {base : Nat} {e : TypeId} {size : Nat} {v : Value} {n : Nat} {xs : List Value} (h : w.ownsRow base e size v n xs) : ∃ ao c, v = .slice ao n c := by
  rcases h.2 with ⟨rfl, rfl⟩ | ⟨g, cap, cur, rfl, _⟩
  · exact ⟨_, _, rfl⟩
  · exact ⟨_, _, rfl⟩

theorem clone_any (M : List Pst) (hM : M.length ≤ 1024) (base g cap : Nat) (w : World) (hown : w.ownsRow base 30 4 (.slice (some ⟨g, 0, none⟩) M.length cap) M.length (pcells M)) :
    Calls Yba.prog 5 #[.slice (some ⟨g, 0, none⟩) M.length cap] w fun e w' => ∃ v, e = .returned v ∧ w'.ownsRow w.heap.size 30 4 v M.length (pcells M) ∧ Below w.heap.size w w' := by
  obtain ⟨i0, hi, hz0, hz1, hz2⟩ := info_parts info30
  have q24 := fun (w : World) (a : Option Addr) (n c : Nat) => Lib.run_eql_slice_nil (P := Yba.prog) w 24 30 a n c 0 0 Yba.underlying24
  have hcells := (hown.alloc (.cells #[] 30)).cells (g := g) rfl
  have HC := hideIt hcells
  have h0 : (w.alloc (.cells #[] 30)).ownsRow w.heap.size 30 4 (.slice (some ⟨w.heap.size, 0, none⟩) 0 0) 0 [] := World.ownsRow_made w #[] 0 (Nat.le_refl _) (by simp [maxLen]) rfl
  clear hown hcells
  go_enter Yba.func5, Yba.ntmps5
  go_wp2_with (at_builtin; refine wpList_append_own _ rfl (.tmp 5) (.tmp 6) 24 rfl w.heap.size 30 i0 _ 4 40 Yba.underlying24 hi hz0 hz1 hz2 rfl (by decide) _ 0 [] rfl h0 ⟨g, 0, none⟩ M.length cap (pcells M) rfl (pcells_length M) HC.out (pcells_oneCell M) (by unfold maxLen; omega) (by omega) (by simp) ?_)
  intro v' w1 hown' hgrow _
  go_wp2
  go_ret
  refine ⟨_, rfl, by simpa using hown', ?_⟩
  exact ((Below.refl _ _).alloc (Nat.le_refl _) _).grown hgrow (by simp) (fun k hk => by simp [Value.ownBlock] at hk; omega)

/-- 'e.post' at 0: nothing is posted. -/
theorem post_zero (s : Int) (p : Option Addr) (Be : Nat) (account : ByteArray) (w : World) (hd : DecOk 0 s p w) :
    Calls Yba.prog 6 #[.pointer (some ⟨Be, 0, none⟩), .string account, dec s p] w fun e w' => e = .returned (.tuple #[]) ∧ Below w.heap.size w w' := by
  have hd1 : DecOk 0 s p (w.alloc (.cells #[.int .i64 s, .pointer p, .int .i64 0] 27)) := hd.below ((Below.refl _ _).alloc (Nat.le_refl _) _) (Nat.le_refl _)
  go_enter Yba.func6, Yba.ntmps6
  go_wp2_with (go_at_call 8; refine (sign_any 0 s p _ hd1).mono ?_; rintro e w' ⟨⟨c, rfl, hc⟩, rfl⟩; simp only [bne_self_eq_false] at hc)
  go_end0
  exact ⟨rfl, ((Below.refl _ _).alloc (Nat.le_refl _) _).alloc (by simp) _⟩

/-- The world in which the posting is appended: two boxes of the amount, the one-posting slice; a draw. -/
abbrev Wp (w : World) (account : ByteArray) (s : Int) (p : Option Addr) : World :=
  (((w.alloc (.cells #[.int .i64 s, .pointer p, .int .i64 0] 27)).alloc (.cells #[.int .i64 s, .pointer p, .int .i64 0] 27)).alloc (.cells #[.string account, .int .i64 s, .pointer p, .int .i64 0] 30)).drew
theorem wp_news (w : World) (account : ByteArray) (s : Int) (p : Option Addr) : ∀ j u, (pcell (account, s, p))[j]? = some u → (Wp w account s p).cell? ((⟨w.heap.size + 1 + 1, 0, none⟩ : Addr).add j) = some u := by
  refine World.news_of_block (cs := #[.string account, .int .i64 s, .pointer p, .int .i64 0]) (t := 30) (fr := (0, 0)) ?_
  have := heap_alloc_new ((w.alloc (.cells #[.int .i64 s, .pointer p, .int .i64 0] 27)).alloc (.cells #[.int .i64 s, .pointer p, .int .i64 0] 27)) (.cells #[.string account, .int .i64 s, .pointer p, .int .i64 0] 30)
  have e : ((w.alloc (.cells #[.int .i64 s, .pointer p, .int .i64 0] 27)).alloc (.cells #[.int .i64 s, .pointer p, .int .i64 0] 27)).heap.size = w.heap.size + 1 + 1 := by simp
  rw [e] at this
  exact this

/-- What 'post' leaves: the entry bears the longer slice; of old blocks the entry and the slice's own row alone may have turned. -/
structure Posted (base Be g : Nat) (w w' : World) (date : Int) (desc : ByteArray) (L : List Pst) : Prop where
  out : ∃ g' cap', w'.heap[Be]? = some (.cells #[.int .i64 date, .string desc, .slice (some ⟨g', 0, none⟩) L.length cap'] 34 (0, 0)) ∧ w'.ownsRow base 30 4 (.slice (some ⟨g', 0, none⟩) L.length cap') L.length (pcells L)
  kept : ∀ k, k < w.heap.size → k ≠ Be → k ≠ g → w'.heap[k]? = w.heap[k]?
  below : Below base w w'

theorem posted_of {base Be g cap g' cap' : Nat} {w w1 : World} {date : Int} {desc account : ByteArray} {s : Int} {p : Option Addr} {M : List Pst}
    (hown : w.ownsRow base 30 4 (.slice (some ⟨g, 0, none⟩) M.length cap) M.length (pcells M)) (hB : base ≤ Be) (hBs : Be < w.heap.size)
    (he : w.heap[Be]? = some (.cells #[.int .i64 date, .string desc, .slice (some ⟨g, 0, none⟩) M.length cap] 34 (0, 0)))
    (ho : w1.ownsRow base 30 4 (.slice (some ⟨g', 0, none⟩) (M.length + 1) cap') (M.length + 1) (pcells M ++ pcell (account, s, p)))
    (hg : (Wp w account s p).grownBy w1 (some g)) :
    w1.cell? ⟨Be, 2, none⟩ = some (.slice (some ⟨g, 0, none⟩) M.length cap) ∧ w1.frozen? ⟨Be, 2, none⟩ = false ∧
      Posted base Be g w (w1.setCell ⟨Be, 2, none⟩ (.slice (some ⟨g', 0, none⟩) (M.length + 1) cap')) date desc (M ++ [(account, s, p)]) := by
  have hgl := hown.lt g rfl
  have hne : Be ≠ g := by
    intro e
    subst e
    rcases hown.2 with ⟨h, _⟩ | ⟨g2, c2, cur, h, _, hh, _⟩
    · cases h
    · simp at h
      rw [← h.1, he] at hh
      simp at hh
  have hW : ∀ k, k < w.heap.size → (Wp w account s p).heap[k]? = w.heap[k]? := fun k hk => by
    show (((w.alloc _).alloc _).alloc _).heap[k]? = _
    rw [Below.heap_alloc _ _ _ (by simp; omega), Below.heap_alloc _ _ _ (by simp; omega), Below.heap_alloc _ _ _ hk]
  have hWs : (Wp w account s p).heap.size = w.heap.size + 3 := by simp
  have hk1 : ∀ k, k < w.heap.size → k ≠ g → w1.heap[k]? = w.heap[k]? := fun k hk hkg => (hg.block k (by omega) (by simpa using hkg)).trans (hW k hk)
  have he1 : w1.heap[Be]? = some (.cells #[.int .i64 date, .string desc, .slice (some ⟨g, 0, none⟩) M.length cap] 34 (0, 0)) := (hk1 Be hBs hne).trans he
  refine ⟨by have := cell_of_row w1 Be 2 _ _ _ he1; simpa using this, frozen_of_row w1 Be 2 _ _ he1, ?_⟩
  have hne' : Be ≠ g' := by
    intro e
    subst e
    rcases ho.2 with ⟨h, _⟩ | ⟨g2, c2, cur, h, _, hh, _⟩
    · cases h
    · simp at h
      rw [← h.1, he1] at hh
      simp at hh
  refine ⟨⟨g', cap', ?_, ?_⟩, fun k hk h1 h2 => ?_, ?_⟩
  · rw [heap_setCell_same w1 Be 2 _ 34 _ he1]
    simp
  · have : (w1.setCell ⟨Be, 2, none⟩ (.slice (some ⟨g', 0, none⟩) (M.length + 1) cap')).ownsRow base 30 4 (.slice (some ⟨g', 0, none⟩) (M.length + 1) cap') (M.length + 1) (pcells M ++ pcell (account, s, p)) := by
      refine ⟨ho.1, ?_⟩
      rcases ho.2 with h | ⟨g2, c2, cur, h, hb, hh, r⟩
      · exact .inl h
      · refine .inr ⟨g2, c2, cur, h, hb, ?_, r⟩
        simp at h
        rw [← h.1, heap_setCell_other w1 _ _ _ (by simpa using fun e => hne' e.symm)]
        rw [h.1]; exact hh
    rw [pcells_snoc]
    simpa using this
  · rw [heap_setCell_other w1 _ _ _ (by simpa using h1)]
    exact hk1 k hk h2
  · have hb1 : Below base w w1 := ((((Below.refl base w).alloc (by omega) _).alloc (by simp; omega) _).alloc (by simp; omega) _).drew.grown hg (by show base ≤ (Wp w account s p).heap.size; omega) (fun k hk => by simp at hk; omega)
    exact hb1.setCell (by simpa using hB) _

/-- 'e.post' at another number. -/
theorem post_other (n s : Int) (hn : n ≠ 0) (p : Option Addr) (base Be g cap : Nat) (date : Int) (desc account : ByteArray) (M : List Pst) (hM : M.length ≤ 1024) (w : World) (hd : DecOk n s p w)
    (hown : w.ownsRow base 30 4 (.slice (some ⟨g, 0, none⟩) M.length cap) M.length (pcells M)) (hB : base ≤ Be) (hBs : Be < w.heap.size)
    (he : w.heap[Be]? = some (.cells #[.int .i64 date, .string desc, .slice (some ⟨g, 0, none⟩) M.length cap] 34 (0, 0))) :
    Calls Yba.prog 6 #[.pointer (some ⟨Be, 0, none⟩), .string account, dec s p] w fun e w' => e = .returned (.tuple #[]) ∧ Posted base Be g w w' date desc (M ++ [(account, s, p)]) := by
  obtain ⟨i0, hi, hz0, hz1, hz2⟩ := info_parts info30
  have hd1 : DecOk n s p (w.alloc (.cells #[.int .i64 s, .pointer p, .int .i64 0] 27)) := hd.below ((Below.refl _ _).alloc (Nat.le_refl _) _) (Nat.le_refl _)
  have hn' : (n != 0) = true := by simpa using hn
  have e2 : w.cell? ⟨Be, 2, none⟩ = some (.slice (some ⟨g, 0, none⟩) M.length cap) := by have := cell_of_row w Be 2 _ _ _ he; simpa using this
  have e2a : ∀ o, (w.alloc o).cell? ⟨Be, 2, none⟩ = some (.slice (some ⟨g, 0, none⟩) M.length cap) := fun o => (World.cell?_alloc_lt _ _ _ hBs).trans e2
  have e2b : ∀ o o', ((w.alloc o).alloc o').cell? ⟨Be, 2, none⟩ = some (.slice (some ⟨g, 0, none⟩) M.length cap) := fun o o' => (World.cell?_alloc_lt _ _ _ (by simp; omega)).trans (e2a o)
  have e2c : ∀ o o' o'', (((w.alloc o).alloc o').alloc o'').cell? ⟨Be, 2, none⟩ = some (.slice (some ⟨g, 0, none⟩) M.length cap) := fun o o' o'' => (World.cell?_alloc_lt _ _ _ (by simp; omega)).trans (e2b o o')
  have hbase : base ≤ w.heap.size := by omega
  have HO := hideIt (show (Wp w account s p).ownsRow base 30 4 (.slice (some ⟨g, 0, none⟩) M.length cap) M.length (pcells M) from (((hown.alloc _).alloc _).alloc _).drew)
  have HP := hideIt (fun (g' cap' : Nat) (w1 : World) => posted_of (w1 := w1) (g' := g') (cap' := cap') (account := account) (s := s) (p := p) hown hB hBs he)
  have Hnews := hideIt (wp_news w account s p)
  clear hown he hd e2
  go_enter Yba.func6, Yba.ntmps6
  go_wp2_with (go_at_call 8; refine (sign_any n s p _ hd1).mono ?_; rintro e w' ⟨⟨c, rfl, hc⟩, rfl⟩; rw [hn'] at hc)
  go_region_law (refine step_append_lies _ rfl (.tmp 13) (.tmp 17) 24 rfl base 30 i0 _ 4 40 Yba.underlying24 hi hz0 hz1 hz2 rfl (by decide) (.slice (some ⟨g, 0, none⟩) M.length cap) _ _ (by simp [Act.eval]) HO.out ⟨w.heap.size + 1 + 1, 0, none⟩ 1 1 (pcell (account, s, p)) (by simp [Act.eval]) rfl Hnews.out (pcell_oneCell _) (by decide) (by unfold maxLen; omega) (by omega) (by simp; omega) _ rfl ?_; intro g2 cap2 w1 hown' hgrow _ _; obtain ⟨f1, f2, hst⟩ := HP.out g2 cap2 w1 hown' hgrow; clear hown' hgrow)
  all_goals
    go_wp2
    go_end0
    exact ⟨rfl, hst⟩

end Go.Proofs.Ybulkcsqy
