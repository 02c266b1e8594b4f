/- The counts of bonds by exchange: plain facts, and the map that holds them. -/
import Derived.Test.YbulkcssoFmtFacts
import Derived.Maps.Own
import Derived.Maps.OwnOps
import Derived.Maps.OwnSet
import Derived.Maps.RangeWalk
import Derived.StringKeys
namespace Go.Proofs.YbulkcssoFmt
open Go Go.RowKit Go.Maps Go.Extern.Stop Go.Stop Go.Extern
set_option linter.unusedVariables false

theorem law33 : Keyed Ybaf.prog 33 := string_keyed Ybaf.underlying33
theorem zero3 (w : World) : (zeroValue 3).run Ybaf.prog w = .ok (.int .i64 0) w := by kernel_rfl

/-- How many of the first k bonds are of exchange e. -/
def cnt (ex : Nat → ByteArray) (m : Nat) : Nat → ByteArray → Nat
  | 0, _ => 0
  | k + 1, e => cnt ex m k e + (if ex (k % m) = e then 1 else 0)
theorem cnt_le (ex : Nat → ByteArray) (m : Nat) : ∀ k e, cnt ex m k e ≤ k
  | 0, _ => Nat.le_refl _
  | k + 1, e => by
    have := cnt_le ex m k e
    simp only [cnt]
    split <;> omega
/-- The bonds 0, m, 2m, .. are of source 0's exchange. -/
theorem cnt_first (ex : Nat → ByteArray) (m : Nat) (hm : 0 < m) : ∀ k, k ≤ m * cnt ex m k (ex 0)
  | 0 => Nat.zero_le _
  | k + 1 => by
    have ih := cnt_first ex m hm k
    simp only [cnt]
    by_cases h : k % m = 0
    · rw [h, if_pos rfl, Nat.mul_add]
      omega
    · have hd := Nat.div_add_mod k m
      have hlt : k < m * cnt ex m k (ex 0) := by
        rcases Nat.lt_or_eq_of_le ih with h' | h'
        · exact h'
        · exfalso
          apply h
          conv => lhs; rw [h']
          exact Nat.mul_mod_right _ _
      split
      · rw [Nat.mul_add]; omega
      · simp only [Nat.add_zero]; omega

abbrev key (e : ByteArray) : Lit := .string e.data.toList
theorem key_inj {a b : ByteArray} (h : key a = key b) : a = b := by
  obtain ⟨⟨x⟩⟩ := a
  obtain ⟨⟨y⟩⟩ := b
  simp at h
  rw [h]

/-- The map reads as the counts of the first k bonds. -/
def Counts (D : DataW Unit) (ex : Nat → ByteArray) (m k : Nat) : Prop :=
  IsMap D ∧ ∀ e, D.atKey (key e) (.lit (.int .i64 0)) = .lit (.int .i64 (cnt ex m k e))
theorem counts_zero (ex : Nat → ByteArray) (m : Nat) : Counts (.map []) ex m 0 := ⟨isMap_empty, fun e => rfl⟩
theorem Counts.step {D : DataW Unit} {ex : Nat → ByteArray} {m k : Nat} (h : Counts D ex m k) {c : Int} (hc : D.atKey (key (ex (k % m))) (.lit (.int .i64 0)) = .lit (.int .i64 c)) :
    Counts (D.put (key (ex (k % m))) (.lit (.int .i64 (c + 1)))) ex m (k + 1) ∧ c = cnt ex m k (ex (k % m)) := by
  have hcc : c = cnt ex m k (ex (k % m)) := by
    have := h.2 (ex (k % m))
    rw [hc] at this
    simpa using this
  refine ⟨⟨h.1.put _ _, fun e => ?_⟩, hcc⟩
  simp only [cnt]
  by_cases he : ex (k % m) = e
  · subst he
    rw [atKey_put_same h.1 (by simp [WideAt.IsKeyLit]), hcc, if_pos rfl]
    rfl
  · rw [atKey_put_other (fun e' => he (key_inj e').symm), if_neg he, h.2 e]
    rfl

theorem keyOf_ex {e : ByteArray} (h : e.size ≤ maxLen) : keyOf Ybaf.prog 33 (.string e) = some (key e) := WideMaps.keyOf_string_mk Ybaf.underlying33 h
theorem keyOf_inv {v : Value} {kl : Lit} (h : keyOf Ybaf.prog 33 v = some kl) : ∃ x : ByteArray, v = .string x ∧ kl = key x := by
  rw [keyOf_string Ybaf.underlying33] at h
  cases v <;> simp [mapKey, Ybaf.underlying33] at h
  exact ⟨_, rfl, h.2.symm⟩
/-- The table of prefixes. -/
def pref : DataW Unit := ((DataW.map []).put (key ⟨#[115, 104, 97, 110, 103, 104, 97, 105]⟩) (.lit (.int .i64 11))).put (key ⟨#[115, 104, 101, 110, 122, 104, 101, 110]⟩) (.lit (.int .i64 12))

/-- What holds in the first loop of 'madeCodes': the table of prefixes (block B), the counts (block B + 1). -/
structure RM (w wr : World) (k : Nat) (ex : Nat → ByteArray) (m : Nat) (D : DataW Unit) : Prop where
  pre : wr.ownsMap Ybaf.prog 33 (plainElem Ybaf.prog 3) w.heap.size 2 pref
  own : wr.ownsMap Ybaf.prog 33 (plainElem Ybaf.prog 3) (w.heap.size + 1) k D
  cts : Counts D ex m k
  below : Below w.heap.size w wr

theorem RM.step {w wr w1 : World} {k : Nat} {ex : Nat → ByteArray} {m : Nat} {D D' : DataW Unit} (h : RM w wr k ex m D) (hc : Counts D' ex m (k + 1))
    (ho : w1.ownsMap Ybaf.prog 33 (plainElem Ybaf.prog 3) (w.heap.size + 1) (k + 1) D') (hg : wr.grownBy w1 (some (w.heap.size + 1))) : RM w w1 (k + 1) ex m D' :=
  ⟨h.pre.kept hg (by simp), ho, hc, h.below.grown hg h.below.size (fun j hj => by simp at hj; omega)⟩
theorem invV {v : Value} {y : DataW Unit × List MemPlace} (h : plainElem Ybaf.prog 3 v = some y) : ∃ c, v = .int .i64 c := by
  obtain ⟨c, rfl, _⟩ := plainElem_int_inv Ybaf.underlying3 h
  exact ⟨c, rfl⟩
theorem invK {v : Value} {kl : Lit} (h : keyOf Ybaf.prog 33 v = some kl) : ∃ x : ByteArray, v = .string x := by
  obtain ⟨x, rfl, _⟩ := keyOf_inv h
  exact ⟨x, rfl⟩

/-- The head's three worlds: the map of prefixes made and filled. -/
theorem head (w : World) : ∃ w1 w2,
    (Instr.mapUpdate 65 (.map (some w.heap.size)) (.string ⟨#[115, 104, 97, 110, 103, 104, 97, 105]⟩) (.int .i64 11)).run Ybaf.prog (w.alloc (.map #[] 0)) = .ok () w1 ∧
    (Instr.mapUpdate 65 (.map (some w.heap.size)) (.string ⟨#[115, 104, 101, 110, 122, 104, 101, 110]⟩) (.int .i64 12)).run Ybaf.prog w1 = .ok () w2 ∧
    w2.heap.size = w.heap.size + 1 ∧ ∀ ex m, RM w (w2.alloc (.map #[] 0)) 0 ex m (.map []) := by
  have h0 : (w.alloc (.map #[] 0)).ownsMap Ybaf.prog 33 (plainElem (H := Unit) Ybaf.prog 3) w.heap.size 0 (.map []) := World.ownsMap_made w _ _ _
  obtain ⟨w1, r1, o1, g1⟩ := h0.store law33 Ybaf.underlying65 (by simp [maxLen]) (key := .string ⟨#[115, 104, 97, 110, 103, 104, 97, 105]⟩) (val := .int .i64 11) (keyOf_ex (by decide)) (plainElem_int Ybaf.underlying3 (by decide))
  obtain ⟨w2, r2, o2, g2⟩ := o1.store law33 Ybaf.underlying65 (by simp [maxLen]) (key := .string ⟨#[115, 104, 101, 110, 122, 104, 101, 110]⟩) (val := .int .i64 12) (keyOf_ex (by decide)) (plainElem_int Ybaf.underlying3 (by decide))
  have hs : w2.heap.size = w.heap.size + 1 := by
    obtain ⟨es, c, es', c', _, rfl⟩ := g1
    obtain ⟨es, c, es', c', _, rfl⟩ := g2
    simp [ChangeMaps.setBlock]
  have hb : Below w.heap.size w w2 := (((Below.refl _ _).alloc (Nat.le_refl _) _).grown g1.grown (by simp) (fun k hk => by cases hk; exact Nat.le_refl _)).grown g2.grown (by have := g1.grown.size; simp at this; omega) (fun k hk => by cases hk; exact Nat.le_refl _)
  refine ⟨w1, w2, r1, r2, hs, fun ex m => ⟨o2.alloc _, ?_, counts_zero ex m, hb.alloc (by omega) _⟩⟩
  rw [← hs]
  exact World.ownsMap_made w2 _ _ _

end Go.Proofs.YbulkcssoFmt
