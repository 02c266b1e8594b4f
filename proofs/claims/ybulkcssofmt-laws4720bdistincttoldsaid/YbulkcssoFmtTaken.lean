/- The codes made so far: the slice that holds them, the map 'taken', and that a free code is always left. -/
import Derived.Test.YbulkcssoFmtCounts
import Derived.Test.YbulkcssoFmtDraw
import Derived.Test.YbulkcssoFmtCode
import Derived.Deep.OwnRows
namespace Go.Proofs.YbulkcssoFmt
open Go Go.RowKit Go.Maps Go.Extern.Stop Go.Stop Go.Extern
set_option linter.unusedVariables false

/-! ### Plain: a free code is left -/
theorem pigeon : ∀ (k N : Nat) (h : Nat → Nat), (∀ v, v < N → h v < k) → (∀ u v, u < v → v < N → h u ≠ h v) → N ≤ k
  | 0, N, h, hlt, _ => by
    rcases Nat.eq_zero_or_pos N with e | e
    · omega
    · exact absurd (hlt 0 e) (Nat.not_lt_zero _)
  | k + 1, 0, _, _, _ => Nat.zero_le _
  | k + 1, N + 1, h, hlt, hne => by
    have ih := pigeon k N (fun v => if h v = k then h N else h v) (fun v hv => by
      have h1 := hlt v (by omega)
      have h2 := hlt N (by omega)
      have h3 := hne v N hv (by omega)
      show (if h v = k then h N else h v) < k
      split <;> omega) (fun u v huv hv => by
      have h1 := hne u v huv (by omega)
      have h2 := hne u N (by omega) (by omega)
      have h3 := hne v N hv (by omega)
      show (if h u = k then h N else h u) ≠ (if h v = k then h N else h v)
      split <;> split <;> omega)
    omega
/-- Fewer than N texts do not use up N that are distinct. -/
theorem free_left (k N : Nat) (hk : k < N) (f c : Nat → ByteArray) (hc : ∀ u v, u < v → v < N → c u ≠ c v) : ∃ v, v < N ∧ ∀ i, i < k → f i ≠ c v := by
  by_cases hx : ∃ v, v < N ∧ ∀ i, i < k → f i ≠ c v
  · exact hx
  · exfalso
    have hy : ∀ v, ∃ i, v < N → i < k ∧ f i = c v := fun v => by
      by_cases hv : v < N
      · by_cases hi : ∃ i, i < k ∧ f i = c v
        · obtain ⟨i, h⟩ := hi
          exact ⟨i, fun _ => h⟩
        · exact absurd ⟨v, hv, fun i h1 h2 => hi ⟨i, h1, h2⟩⟩ hx
      · exact ⟨0, fun h => absurd h hv⟩
    have := pigeon k N (fun v => Classical.choose (hy v)) (fun v hv => (Classical.choose_spec (hy v) hv).1) (fun u v huv hv e => by
      have h1 := (Classical.choose_spec (hy u) (by omega)).2
      have h2 := (Classical.choose_spec (hy v) hv).2
      have e' : Classical.choose (hy u) = Classical.choose (hy v) := e
      rw [e'] at h1
      exact hc u v huv hv (h1.symm.trans h2))
    omega
/-- .. so a state of the generator is left that gives a free code. -/
theorem target_left (k : Nat) (hk : k < 10000) (f : Nat → ByteArray) (pr : Int) (s : Nat) : ∃ t g, 1 ≤ g ∧ Pcg.iter g s = t ∧ Pcg.Acc t ∧ ∀ i, i < k → f i ≠ codeB pr ((Pcg.val t : Nat) : Int) := by
  obtain ⟨v, hv, hf⟩ := free_left k 10000 hk f (fun v => codeB pr ((v : Nat) : Int)) (fun u v huv hv e => by
    have := codeB_inj (by omega) (by omega) e
    omega)
  obtain ⟨t, ht, ha, rfl⟩ := Pcg.target v hv
  obtain ⟨g, hg, hgt⟩ := Pcg.reach s t ht
  exact ⟨t, g, hg, hgt, ha, hf⟩

theorem wf_code {x : Int} (h0 : 0 ≤ x) (h1 : x < 10000) : (Lit.int .i64 x).wf = true := WalkArith.wf_i64 (by omega)
theorem codeB_size {a0 a1 : Int} (w0 : (Lit.int .i64 a0).wf = true) (w1 : (Lit.int .i64 a1).wf = true) : (codeB a0 a1).size ≤ 100 := by
  have k0 := FmtText.zeros_length_le' 2 w0
  have k1 := FmtText.zeros_length_le' 4 w1
  have e : (codeB a0 a1).size = (FmtText.zeros 2 a0).length + (FmtText.zeros 4 a1).length := by
    show (codeB a0 a1).data.size = _
    simp [codeB, codeL]
  omega

/-! ### The map 'taken' -/
theorem law9 : Keyed Ybaf.prog 9 := string_keyed Ybaf.underlying9
theorem zero4 (w : World) : (zeroValue 4).run Ybaf.prog w = .ok (.bool false) w := by kernel_rfl
theorem keyOf_code {e : ByteArray} (h : e.size ≤ maxLen) : keyOf Ybaf.prog 9 (.string e) = some (key e) := WideMaps.keyOf_string_mk Ybaf.underlying9 h
/-- The map says 'true' at the first k texts, and at no other. -/
def Marks (D : DataW Unit) (k : Nat) (f : Nat → ByteArray) : Prop :=
  IsMap D ∧ (∀ i, i < k → D.atKey (key (f i)) (.lit (.bool false)) = .lit (.bool true)) ∧ (∀ e, (∀ i, i < k → f i ≠ e) → D.atKey (key e) (.lit (.bool false)) = .lit (.bool false))
theorem marks_zero (f : Nat → ByteArray) : Marks (.map []) 0 f := ⟨isMap_empty, fun i h => absurd h (Nat.not_lt_zero _), fun e _ => rfl⟩
theorem Marks.congr {D : DataW Unit} {k : Nat} {f g : Nat → ByteArray} (h : Marks D k f) (e : ∀ i, i < k → f i = g i) : Marks D k g :=
  ⟨h.1, fun i hi => by rw [← e i hi]; exact h.2.1 i hi, fun x hx => h.2.2 x fun i hi => by rw [e i hi]; exact hx i hi⟩
theorem Marks.step {D : DataW Unit} {k : Nat} {f : Nat → ByteArray} (h : Marks D k f) : Marks (D.put (key (f k)) (.lit (.bool true))) (k + 1) f := by
  refine ⟨h.1.put _ _, fun i hi => ?_, fun e he => ?_⟩
  · by_cases hx : f i = f k
    · rw [hx, atKey_put_same h.1 (by simp [WideAt.IsKeyLit])]
    · rw [atKey_put_other (fun e' => hx (key_inj e'))]
      exact h.2.1 i (by
        rcases Nat.lt_or_ge i k with h1 | h1
        · exact h1
        · obtain rfl : i = k := by omega
          exact absurd rfl hx)
  · rw [atKey_put_other (fun e' => he k (by omega) (key_inj e').symm)]
    exact h.2.2 e fun i hi => he i (by omega)

theorem plainElem_bool_inv {P : Program} {e : TypeId} (he : P.underlying e = some .bool) {v : Value} {b : Bool} {ps : List MemPlace} (h : plainElem (H := Unit) P e v = some (.lit (.bool b), ps)) : v = .bool b := by
  unfold plainElem at h
  rw [he] at h
  cases v <;> simp at h
  rw [h.1]
theorem lookup_bool {w : World} {b n : Nat} {D : DataW Unit} (h : w.ownsMap Ybaf.prog 9 (plainElem Ybaf.prog 4) b n D) {e : ByteArray} (he : e.size ≤ maxLen) {x : Bool} (hx : D.atKey (key e) (.lit (.bool false)) = .lit (.bool x)) :
    (Instr.lookup 32 (.map (some b)) (.string e) false).run Ybaf.prog w = .ok (.bool x) w := by
  obtain ⟨v, ps, hrun, hv⟩ := h.lookup law9 Ybaf.underlying32 (zero4 w) (plainElem_bool Ybaf.underlying4 false) (keyOf_code he)
  rw [hx] at hv
  rw [hrun, plainElem_bool_inv Ybaf.underlying4 hv]

/-! ### What holds while codes are made -/
structure RT (w wr : World) (r p tk cb n k s : Nat) (f : Nat → ByteArray) : Prop where
  pre : wr.ownsMap Ybaf.prog 33 (plainElem (H := Unit) Ybaf.prog 3) w.heap.size 2 pref
  rand : RandAt wr r p s
  set : ∃ D : DataW Unit, wr.ownsMap Ybaf.prog 9 (plainElem Ybaf.prog 4) tk k D ∧ Marks D k f
  row : wr.rowIs cb 9 n (fun i => .string (f i))
  below : Below w.heap.size w wr
  apart : w.heap.size < p ∧ p < r ∧ r < tk ∧ tk < cb

section
variable {w wr w1 : World} {r p tk cb n k s s' : Nat} {f : Nat → ByteArray}

theorem PcgAt.of_block (h : PcgAt wr p s) (e : w1.heap[p]? = wr.heap[p]?) : PcgAt w1 p s := ⟨h.1, e.trans h.2⟩
theorem RandAt.of_block (h : RandAt wr r p s) (e1 : w1.heap[p]? = wr.heap[p]?) (e2 : w1.heap[r]? = wr.heap[r]?) : RandAt w1 r p s := ⟨e2.trans h.1, h.2.1, h.2.2.of_block e1⟩
theorem RT.lt (h : RT w wr r p tk cb n k s f) : cb < wr.heap.size := h.row.lt

/-- A draw of the generator. -/
theorem RT.draw (h : RT w wr r p tk cb n k s f) (hr : RandAt w1 r p s') (hg : wr.grownBy w1 (some p)) : RT w w1 r p tk cb n k s' f := by
  obtain ⟨D, hD, hM⟩ := h.set
  have ha := h.apart
  have hlt := h.lt
  refine ⟨h.pre.kept hg (by simp; omega), hr, ⟨D, hD.kept hg (by simp; omega), hM⟩, h.row.of_block (hg.block _ hlt (by simp; omega)), h.below.grown hg h.below.size (fun j hj => by simp at hj; omega), ha⟩
/-- A new block. -/
theorem RT.alloc (h : RT w wr r p tk cb n k s f) (o : Obj) : RT w (wr.alloc o) r p tk cb n k s f := by
  obtain ⟨D, hD, hM⟩ := h.set
  have ha := h.apart
  have hlt := h.lt
  exact ⟨h.pre.alloc o, h.rand.of_block (Deep.blk_alloc_lt _ _ _ (by omega)) (Deep.blk_alloc_lt _ _ _ (by omega)), ⟨D, hD.alloc o, hM⟩, h.row.alloc o, h.below.alloc h.below.size o, ha⟩
theorem RT.drew (h : RT w wr r p tk cb n k s f) : RT w wr.drew r p tk cb n k s f :=
  ⟨h.pre, h.rand, h.set, h.row, h.below.drew, h.apart⟩
/-- The code at k is laid. -/
theorem RT.put (h : RT w wr r p tk cb n k s f) (c : ByteArray) : RT w (wr.setCell ⟨cb, k, none⟩ (.string c)) r p tk cb n k s (fun j => if j = k then c else f j) := by
  obtain ⟨D, hD, hM⟩ := h.set
  have ha := h.apart
  have hlt := h.lt
  have hg : wr.grownBy (wr.setCell ⟨cb, k, none⟩ (.string c)) (some cb) := Lib.Hx.grownBy_set (Lib.Hx.grownBy_refl wr _) ⟨cb, k, none⟩ rfl _
  refine ⟨h.pre.kept hg (by simp; omega), h.rand.of_block (hg.block _ (by omega) (by simp; omega)) (hg.block _ (by omega) (by simp; omega)), ⟨D, hD.kept hg (by simp; omega), hM.congr fun i hi => by rw [if_neg (by omega)]⟩, (h.row.set k (.string c)).congr fun i _ => by split <;> rfl, h.below.grown hg h.below.size (fun j hj => by simp at hj; omega), ha⟩
theorem RT.congr2 {g : Nat → ByteArray} (h : RT w wr r p tk cb n k s f) (e : f = g) : RT w wr r p tk cb n k s g := e ▸ h
/-- The code at k is marked. -/
theorem RT.mark (h : RT w wr r p tk cb n k s f) (hk : k < 10000) (hs : (f k).size ≤ maxLen) : ∃ w2, (Instr.mapUpdate 32 (.map (some tk)) (.string (f k)) (.bool true)).run Ybaf.prog wr = .ok () w2 ∧ RT w w2 r p tk cb n (k + 1) s f := by
  obtain ⟨D, hD, hM⟩ := h.set
  have ha := h.apart
  have hlt := h.lt
  obtain ⟨w2, hrun, ho, ht⟩ := hD.store law9 Ybaf.underlying32 (by unfold maxLen; omega) (keyOf_code hs) (plainElem_bool Ybaf.underlying4 true)
  have hg := ht.grown
  refine ⟨w2, hrun, h.pre.kept hg (by simp; omega), h.rand.of_block (hg.block _ (by omega) (by simp; omega)) (hg.block _ (by omega) (by simp; omega)), ⟨_, ho, hM.step⟩, h.row.of_block (hg.block _ hlt (by simp; omega)), h.below.grown hg h.below.size (fun j hj => by simp at hj; omega), ha⟩
theorem RT.taken (h : RT w wr r p tk cb n k s f) {e : ByteArray} (he : e.size ≤ maxLen) (i : Nat) (hi : i < k) (hx : f i = e) : (Instr.lookup 32 (.map (some tk)) (.string e) false).run Ybaf.prog wr = .ok (.bool true) wr := by
  obtain ⟨D, hD, hM⟩ := h.set
  exact lookup_bool hD he (by rw [← hx]; exact hM.2.1 i hi)
theorem RT.free (h : RT w wr r p tk cb n k s f) {e : ByteArray} (he : e.size ≤ maxLen) (hx : ∀ i, i < k → f i ≠ e) : (Instr.lookup 32 (.map (some tk)) (.string e) false).run Ybaf.prog wr = .ok (.bool false) wr := by
  obtain ⟨D, hD, hM⟩ := h.set
  exact lookup_bool hD he (hM.2.2 e hx)
end

/-- The first k codes: none is empty, no two are alike. -/
def Good (k : Nat) (f : Nat → ByteArray) : Prop := ∀ i, i < k → f i ≠ ⟨#[]⟩ ∧ (f i).size ≤ maxLen ∧ ∀ j, j < i → f j ≠ f i
theorem Good.step {k : Nat} {f : Nat → ByteArray} (h : Good k f) (h0 : f k ≠ ⟨#[]⟩) (h1 : (f k).size ≤ maxLen) (h2 : ∀ j, j < k → f j ≠ f k) : Good (k + 1) f := fun i hi => by
  rcases Nat.lt_or_ge i k with h' | h'
  · exact h i h'
  · obtain rfl : i = k := by omega
    exact ⟨h0, h1, h2⟩
theorem Good.congr {k : Nat} {f g : Nat → ByteArray} (h : Good k f) (e : ∀ i, i < k → f i = g i) : Good k g := fun i hi => by
  obtain ⟨a, b, c⟩ := h i hi
  rw [e i hi] at a b
  refine ⟨a, b, fun j hj => ?_⟩
  rw [← e j (by omega), ← e i hi]
  exact c j hj

end Go.Proofs.YbulkcssoFmt
