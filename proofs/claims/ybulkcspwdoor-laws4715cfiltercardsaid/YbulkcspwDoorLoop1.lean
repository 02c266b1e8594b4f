/- 'LawS4715CFilter': the relation of its first loop. -/
import Derived.Test.YbulkcspwDoorSpread
import Derived.Deep.RegionLaw
namespace Go.Proofs.YbulkcspwDoor
open Go Go.RowKit
set_option linter.unusedVariables false

abbrev D3 := Int × ByteArray × ByteArray
abbrev dz : D3 := (0, sEmpty, sEmpty)
/-- The member that the law makes of one drawn datum. -/
def mem1 (d : D3) : ByteArray × ByteArray := (P.keyB d.1 d.2.1, d.2.2)
def mems (ds : List D3) : List (ByteArray × ByteArray) := ds.map mem1
theorem mems_length (ds : List D3) : (mems ds).length = ds.length := by simp [mems]
theorem mems_take_snoc (ds : List D3) (k : Nat) (h : k < ds.length) : mems (ds.take (k + 1)) = mems (ds.take k) ++ [mem1 (ds.getD k dz)] := by
  rw [List.take_succ_eq_append_getElem h]
  simp only [mems, List.map_append, List.map_cons, List.map_nil, List.getD, List.getElem?_eq_getElem h, Option.getD_some]
theorem mems_getD (ds : List D3) (k : Nat) (h : k < ds.length) : (mems ds).getD k (sEmpty, sEmpty) = mem1 (ds.getD k dz) := by
  simp [mems, List.getD, h]

/-- The drawn data lie at ⟨mb, mo⟩ in w: three cells each. -/
def Lies (w : World) (mb mo : Nat) (ds : List D3) : Prop := ∀ k, k < ds.length →
  w.cell? ⟨mb, mo + k * 3, none⟩ = some (.int .u8 (ds.getD k dz).1) ∧ w.cell? ⟨mb, mo + k * 3 + 1, none⟩ = some (.string (ds.getD k dz).2.1) ∧ w.cell? ⟨mb, mo + k * 3 + 2, none⟩ = some (.string (ds.getD k dz).2.2) ∧ 0 ≤ (ds.getD k dz).1 ∧ (ds.getD k dz).1 ≤ 255

/-- What holds of the call's own memory in the first loop. -/
structure RP (B : Nat) (w wr : World) (kd : ByteArray) (v : Value) (M : List (ByteArray × ByteArray)) : Prop where
  own : wr.ownsRow (B + 1) 37 5 v M.length (mcells M)
  pl : wr.heap[B]? = some (.cells #[.string kd, .string sEmpty, v, nilS] 32 (0, 0))
  below : Below B w wr
  size : B + 1 ≤ wr.heap.size

theorem RP.alloc {B : Nat} {w wr : World} {kd : ByteArray} {v : Value} {M : List (ByteArray × ByteArray)} (h : RP B w wr kd v M) (o : Obj) : RP B w (wr.alloc o) kd v M :=
  ⟨h.own.alloc o, by rw [Below.heap_alloc _ _ _ (by have := h.size; omega)]; exact h.pl, h.below.alloc (by have := h.size; omega) o, by have := h.size; simp; omega⟩
theorem RP.drew {B : Nat} {w wr : World} {kd : ByteArray} {v : Value} {M : List (ByteArray × ByteArray)} (h : RP B w wr kd v M) : RP B w wr.drew kd v M :=
  ⟨h.own.drew, h.pl, h.below.drew, h.size⟩
theorem RP.ne {B : Nat} {w wr : World} {kd : ByteArray} {v : Value} {M : List (ByteArray × ByteArray)} (h : RP B w wr kd v M) (j : Nat) (hj : j < B + 1) : some j ≠ v.ownBlock := by
  intro e
  have := (h.own.lt j e.symm).1
  omega
theorem RP.after {B : Nat} {w wr w1 : World} {kd : ByteArray} {v : Value} {M : List (ByteArray × ByteArray)} (h : RP B w wr kd v M) (hg : wr.grownBy w1 v.ownBlock) :
    w1.heap[B]? = some (.cells #[.string kd, .string sEmpty, v, nilS] 32 (0, 0)) :=
  (hg.block _ (by have := h.size; omega) (h.ne _ (by omega))).trans h.pl
theorem RP.step {B : Nat} {w wr w1 : World} {kd : ByteArray} {v v' : Value} {M : List (ByteArray × ByteArray)} {m : ByteArray × ByteArray} (h : RP B w wr kd v M)
    (ho : w1.ownsRow (B + 1) 37 5 v' (M.length + 1) (mcells M ++ mcell m)) (hg : wr.grownBy w1 v.ownBlock) : RP B w (w1.setCell ⟨B, 2, none⟩ v') kd v' (M ++ [m]) := by
  have h1 := h.after hg
  refine ⟨?_, ?_, ?_, ?_⟩
  · have := ownsRow_setCell_below ho (a := ⟨B, 2, none⟩) (by simp) v'
    simpa [mcells_snoc] using this
  · rw [heap_setCell_same w1 B 2 _ 32 v' h1]
    simp
  · exact (h.below.grown hg (by have := h.size; omega) (fun k hk => by have := (h.own.lt k hk).1; omega)).setCell (by simp) v'
  · have := hg.size
    have := h.size
    simp [World.setCell]
    omega
theorem RP.start {w : World} {kd : ByteArray} : RP w.heap.size w (w.alloc (.cells #[.string kd, .string sEmpty, nilS, nilS] 32)) kd nilS [] :=
  ⟨World.ownsRow_nil _ _ _ _, heap_alloc_new w _, (Below.refl _ _).alloc (Nat.le_refl _) _, by simp⟩

theorem hideIt {p : Prop} (h : p) : Hid p := h

/-- The world in which the member is appended: the variable m, the box of zzs4715ckey's parameter, the one-member slice; a draw. -/
abbrev Wd (wr : World) (sl : Int) (ky tt : ByteArray) : World :=
  (((wr.alloc (.cells #[.int .u8 sl, .string ky, .string tt] 34)).alloc (.cells #[.int .u8 sl, .string ky, .string tt] 34)).alloc (.cells #[.string (P.keyB sl ky), .string sString, .string tt, nilS, nilS] 37)).drew
theorem RP.wd {B : Nat} {w wr : World} {kd : ByteArray} {v : Value} {M : List (ByteArray × ByteArray)} (h : RP B w wr kd v M) (sl : Int) (ky tt : ByteArray) : RP B w (Wd wr sl ky tt) kd v M :=
  (((h.alloc _).alloc _).alloc _).drew
theorem wd_size (wr : World) (sl : Int) (ky tt : ByteArray) : (Wd wr sl ky tt).heap.size = wr.heap.size + 3 := by simp
theorem wd_news (wr : World) (sl : Int) (ky tt : ByteArray) : ∀ j u, (mcell (P.keyB sl ky, tt))[j]? = some u → (Wd wr sl ky tt).cell? ((⟨wr.heap.size + 1 + 1, 0, none⟩ : Addr).add j) = some u := by
  refine World.news_of_block (cs := #[.string (P.keyB sl ky), .string sString, .string tt, nilS, nilS]) (t := 37) (fr := (0, 0)) ?_
  have := heap_alloc_new ((wr.alloc (.cells #[.int .u8 sl, .string ky, .string tt] 34)).alloc (.cells #[.int .u8 sl, .string ky, .string tt] 34)) (.cells #[.string (P.keyB sl ky), .string sString, .string tt, nilS, nilS] 37)
  have e : ((wr.alloc (.cells #[.int .u8 sl, .string ky, .string tt] 34)).alloc (.cells #[.int .u8 sl, .string ky, .string tt] 34)).heap.size = wr.heap.size + 1 + 1 := by simp
  rw [e] at this
  exact this
/-- Behind the append: the payload's cell, and what the store will leave. -/
theorem RP.behind {B : Nat} {w wr w1 : World} {kd : ByteArray} {v v' : Value} {M : List (ByteArray × ByteArray)} {m : ByteArray × ByteArray} {sl : Int} {ky tt : ByteArray} (h : RP B w wr kd v M)
    (ho : w1.ownsRow (B + 1) 37 5 v' (M.length + 1) (mcells M ++ mcell m)) (hg : (Wd wr sl ky tt).grownBy w1 v.ownBlock) :
    w1.cell? ⟨B, 2, none⟩ = some v ∧ w1.frozen? ⟨B, 2, none⟩ = false ∧ RP B w (w1.setCell ⟨B, 2, none⟩ v') kd v' (M ++ [m]) := by
  have h3 := h.wd sl ky tt
  have h1 := h3.after hg
  refine ⟨?_, frozen_of_row w1 B 2 _ _ h1, h3.step ho hg⟩
  have := cell_of_row w1 B 2 _ _ _ h1
  simpa using this

/-! ### Plain facts on the members' cells and on what is kept -/
theorem mcells_length (M : List (ByteArray × ByteArray)) : (mcells M).length = M.length * 5 := by
  induction M with
  | nil => rfl
  | cons m M ih =>
    have : mcells (m :: M) = mcell m ++ mcells M := by simp [mcells]
    rw [this, List.length_append, ih]
    simp [mcell]
    omega
theorem mcells_get (M : List (ByteArray × ByteArray)) : ∀ (k j : Nat), k < M.length → j < 5 → (mcells M)[k * 5 + j]? = (mcell (M.getD k (sEmpty, sEmpty)))[j]? := by
  induction M with
  | nil => intro k j h; simp at h
  | cons m M ih =>
    intro k j hk hj
    have e : mcells (m :: M) = mcell m ++ mcells M := by simp [mcells]
    have el : (mcell m).length = 5 := rfl
    rw [e]
    cases k with
    | zero =>
      rw [List.getElem?_append_left (by omega)]
      simp
    | succ k =>
      rw [List.getElem?_append_right (by omega), el, show (k + 1) * 5 + j - 5 = k * 5 + j by omega, ih k j (by simpa using hk) hj]
      simp
theorem cells_of_own {w : World} {base g cap : Nat} {M : List (ByteArray × ByteArray)} (h : w.ownsRow base 37 5 (.slice (some ⟨g, 0, none⟩) M.length cap) M.length (mcells M)) : ∀ k, k < M.length →
    w.cell? ⟨g, k * 5, none⟩ = some (.string (M.getD k (sEmpty, sEmpty)).1) ∧ w.cell? ⟨g, k * 5 + 1, none⟩ = some (.string sString) ∧
      w.cell? ⟨g, k * 5 + 2, none⟩ = some (.string (M.getD k (sEmpty, sEmpty)).2) ∧ w.cell? ⟨g, k * 5 + 3, none⟩ = some nilS ∧ w.cell? ⟨g, k * 5 + 4, none⟩ = some nilS := by
  intro k hk
  have h0 := h.cellAt (k * 5 + 0) (by omega)
  have h1 := h.cellAt (k * 5 + 1) (by omega)
  have h2 := h.cellAt (k * 5 + 2) (by omega)
  have h3 := h.cellAt (k * 5 + 3) (by omega)
  have h4 := h.cellAt (k * 5 + 4) (by omega)
  rw [mcells_get M k _ hk (by omega)] at h0 h1 h2 h3 h4
  exact ⟨h0, h1, h2, h3, h4⟩
/-- The member at k, if it is kept, stands behind those that were kept before it. -/
theorem kept_at (M : List (ByteArray × ByteArray)) : ∀ (k : Nat), k < M.length → P.spreadB (M.getD k (sEmpty, sEmpty)).1 = true →
    (kept (M.take k)).length < (kept M).length ∧ (kept M).getD (kept (M.take k)).length (sEmpty, sEmpty) = M.getD k (sEmpty, sEmpty) := by
  intro k hk hs
  have e : M = M.take k ++ (M.getD k (sEmpty, sEmpty) :: M.drop (k + 1)) := by
    conv => lhs; rw [← List.take_append_drop k M]
    rw [List.drop_eq_getElem_cons hk]
    simp [List.getD, hk]
  have e2 : kept M = kept (M.take k) ++ (M.getD k (sEmpty, sEmpty) :: kept (M.drop (k + 1))) := by
    conv => lhs; rw [e]
    simp only [kept, List.filter_append, List.filter_cons, hs, if_true]
  rw [e2]
  refine ⟨by simp, ?_⟩
  rw [List.getD_eq_getElem?_getD, List.getElem?_append_right (Nat.le_refl _)]
  simp

end Go.Proofs.YbulkcspwDoor
