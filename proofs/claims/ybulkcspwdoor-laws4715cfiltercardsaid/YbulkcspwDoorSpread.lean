/- The contract of 'spreadOf'. -/
import Derived.Test.YbulkcspwDoorLeaves
import Derived.Deep.AppendLies
namespace Go.Proofs.YbulkcspwDoor
open Go Go.RowKit
set_option linter.unusedVariables false

abbrev nilS : Value := .slice none 0 0
abbrev sObject : ByteArray := ⟨#[111, 98, 106, 101, 99, 116]⟩
abbrev sString : ByteArray := ⟨#[115, 116, 114, 105, 110, 103]⟩
abbrev sEmpty : ByteArray := ⟨#[]⟩
/-- A member's five cells. -/
def mcell (m : ByteArray × ByteArray) : List Value := [.string m.1, .string sString, .string m.2, nilS, nilS]
def mcells (ms : List (ByteArray × ByteArray)) : List Value := ms.flatMap mcell
def kept (ms : List (ByteArray × ByteArray)) : List (ByteArray × ByteArray) := ms.filter fun m => P.spreadB m.1

theorem mcells_snoc (ms : List (ByteArray × ByteArray)) (m : ByteArray × ByteArray) : mcells (ms ++ [m]) = mcells ms ++ mcell m := by simp [mcells]
theorem kept_snoc_yes (ms : List (ByteArray × ByteArray)) (m : ByteArray × ByteArray) (h : P.spreadB m.1 = true) : kept (ms ++ [m]) = kept ms ++ [m] := by simp [kept, h]
theorem kept_snoc_no (ms : List (ByteArray × ByteArray)) (m : ByteArray × ByteArray) (h : P.spreadB m.1 = false) : kept (ms ++ [m]) = kept ms := by simp [kept, h]
theorem kept_length_le (ms : List (ByteArray × ByteArray)) : (kept ms).length ≤ ms.length := List.length_filter_le _ _
theorem take_snoc (ms : List (ByteArray × ByteArray)) (k : Nat) (h : k < ms.length) : ms.take (k + 1) = ms.take k ++ [ms.getD k (sEmpty, sEmpty)] := by
  rw [List.take_succ_eq_append_getElem h]
  simp [List.getD, h]
theorem mcell_oneCell (m : ByteArray × ByteArray) : ∀ u ∈ mcell m, u.oneCell' = true := by
  intro u hu
  simp only [mcell, List.mem_cons, List.not_mem_nil, or_false] at hu
  rcases hu with rfl | rfl | rfl | rfl | rfl <;> rfl

theorem info37 : (Ybad.prog.info? 37).map (fun i => (i.zero, i.size, i.bytes)) = some (some (.agg #[.string sEmpty, .string sEmpty, .string sEmpty, nilS, nilS]), 5, 96) := by kernel_rfl

/-- What holds of the call's own memory in 'spreadOf': the variable 'spread' (block B + 2) bears the slice v, which owns the members K; the result's box (block B + 1) is empty still. -/
structure RS (B : Nat) (w wr : World) (v : Value) (K : List (ByteArray × ByteArray)) : Prop where
  own : wr.ownsRow (B + 3) 37 5 v K.length (mcells K)
  sp : wr.heap[B + 2]? = some (.cells #[.string sObject, .string sEmpty, v, nilS] 32 (0, 0))
  res : wr.heap[B + 1]? = some (.cells #[.string sEmpty, .string sEmpty, nilS, nilS] 32 (0, 0))
  nil : K = [] → v = nilS
  below : Below B w wr
  size : B + 3 ≤ wr.heap.size

theorem RS.alloc {B : Nat} {w wr : World} {v : Value} {K : List (ByteArray × ByteArray)} (h : RS B w wr v K) (o : Obj) : RS B w (wr.alloc o) v K :=
  ⟨h.own.alloc o, by rw [Below.heap_alloc _ _ _ (by have := h.size; omega)]; exact h.sp, by rw [Below.heap_alloc _ _ _ (by have := h.size; omega)]; exact h.res, h.nil,
    h.below.alloc (by have := h.size; omega) o, by have := h.size; simp; omega⟩

theorem ownsRow_shape {w : World} {base : Nat} {e : TypeId} {size : Nat} {v : Value} {n : Nat} {xs : List Value} (h : w.ownsRow base e size v n xs) : ∃ ao c, v = .slice ao n c := by
  rcases h.2 with ⟨rfl, rfl⟩ | ⟨g, cap, cur, rfl, _⟩
  · exact ⟨_, _, rfl⟩
  · exact ⟨_, _, rfl⟩

theorem RS.ne {B : Nat} {w wr : World} {v : Value} {K : List (ByteArray × ByteArray)} (h : RS B w wr v K) (j : Nat) (hj : j < B + 3) : some j ≠ v.ownBlock := by
  intro e
  have := (h.own.lt j e.symm).1
  omega

/-- Behind the append: the store's cell. -/
theorem RS.after {B : Nat} {w wr w1 : World} {v : Value} {K : List (ByteArray × ByteArray)} (h : RS B w wr v K) (hg : wr.grownBy w1 v.ownBlock) :
    w1.heap[B + 2]? = some (.cells #[.string sObject, .string sEmpty, v, nilS] 32 (0, 0)) ∧ w1.heap[B + 1]? = some (.cells #[.string sEmpty, .string sEmpty, nilS, nilS] 32 (0, 0)) :=
  ⟨(hg.block _ (by have := h.size; omega) (h.ne _ (by omega))).trans h.sp, (hg.block _ (by have := h.size; omega) (h.ne _ (by omega))).trans h.res⟩

theorem RS.step {B : Nat} {w wr w1 : World} {v v' : Value} {K : List (ByteArray × ByteArray)} {m : ByteArray × ByteArray} (h : RS B w wr v K)
    (ho : w1.ownsRow (B + 3) 37 5 v' (K.length + 1) (mcells K ++ mcell m)) (hg : wr.grownBy w1 v.ownBlock) : RS B w (w1.setCell ⟨B + 2, 2, none⟩ v') v' (K ++ [m]) := by
  obtain ⟨h1, h2⟩ := h.after hg
  refine ⟨?_, ?_, ?_, fun e => by simp at e, ?_, ?_⟩
  · have := ownsRow_setCell_below ho (a := ⟨B + 2, 2, none⟩) (by simp) v'
    simpa [mcells_snoc] using this
  · rw [heap_setCell_same w1 (B + 2) 2 _ 32 v' h1]
    simp
  · rw [heap_setCell_other w1 _ _ _ (by simp)]
    exact h2
  · exact (h.below.grown hg (by have := h.size; omega) (fun k hk => by have := (h.own.lt k hk).1; omega)).setCell (by simp) v'
  · have := hg.size
    have := h.size
    simp [World.setCell]
    omega

theorem RS.start {w : World} (a1 : Array Value) :
    RS w.heap.size w (((w.alloc (.cells a1 32)).alloc (.cells #[.string sEmpty, .string sEmpty, nilS, nilS] 32)).alloc (.cells #[.string sObject, .string sEmpty, nilS, nilS] 32)) nilS [] := by
  refine ⟨World.ownsRow_nil _ _ _ _, ?_, ?_, fun _ => rfl, ?_, ?_⟩
  · have := heap_alloc_new ((w.alloc (.cells a1 32)).alloc (.cells #[.string sEmpty, .string sEmpty, nilS, nilS] 32)) (.cells #[.string sObject, .string sEmpty, nilS, nilS] 32)
    simpa using this
  · rw [Below.heap_alloc _ _ _ (by simp)]
    have := heap_alloc_new (w.alloc (.cells a1 32)) (.cells #[.string sEmpty, .string sEmpty, nilS, nilS] 32)
    simpa using this
  · exact (((Below.refl _ _).alloc (Nat.le_refl _) _).alloc (by simp) _).alloc (by simp; omega) _
  · simp

set_option maxHeartbeats 1000000 in
theorem spreadOf_any (ms : List (ByteArray × ByteArray)) (hlen : ms.length ≤ 1024) (kd tx : ByteArray) (g cap b off c3 : Nat) (w : World)
    (hms : ∀ k, k < ms.length → w.cell? ⟨g, k * 5, none⟩ = some (.string (ms.getD k (sEmpty, sEmpty)).1) ∧ w.cell? ⟨g, k * 5 + 1, none⟩ = some (.string sString) ∧
      w.cell? ⟨g, k * 5 + 2, none⟩ = some (.string (ms.getD k (sEmpty, sEmpty)).2) ∧ w.cell? ⟨g, k * 5 + 3, none⟩ = some nilS ∧ w.cell? ⟨g, k * 5 + 4, none⟩ = some nilS)
    (hg : g < w.heap.size)
    (gc : w.cell? ⟨0, 0, none⟩ = some (.slice (some ⟨b, off, none⟩) 3 c3)) (hz : 0 < w.heap.size) (hb : b < w.heap.size)
    (c0 : w.cell? ⟨b, off, none⟩ = some (.string ⟨#[114, 101, 113, 117, 101, 115, 116]⟩))
    (c1 : w.cell? ⟨b, off + 1, none⟩ = some (.string ⟨#[114, 101, 115, 112, 111, 110, 115, 101]⟩))
    (c2 : w.cell? ⟨b, off + 2, none⟩ = some (.string ⟨#[109, 101, 116, 97, 100, 97, 116, 97]⟩)) :
    Calls Ybad.prog 10 #[.agg #[.string kd, .string tx, .slice (some ⟨g, 0, none⟩) ms.length cap, nilS]] w fun e w' =>
      ∃ v, e = .returned (.agg #[.string sObject, .string sEmpty, v, nilS]) ∧ w'.ownsRow (w.heap.size + 3) 37 5 v (kept ms).length (mcells (kept ms)) ∧
        Below w.heap.size w w' ∧ (kept ms = [] → v = nilS) := by
  obtain ⟨i0, hi, hz0, hz1, hz2⟩ := info_parts info37
  have Hms : Hid _ := hms
  clear hms
  go_enter Ybad.func10, Ybad.ntmps10
  go_wp2_with fail
  go_loopw [10] (fun i wr => ∃ k : Nat, k ≤ ms.length ∧ i = .int .i64 k ∧ ∃ v, RS w.heap.size w wr v (kept (ms.take k)))
    (fun i _ => ms.length - (intOf i).toNat)
  case atStart => exact ⟨0, Nat.zero_le _, rfl, nilS, RS.start _⟩
  case round =>
    obtain ⟨k, hk, rfl, v, hR⟩ := hrel
    have hnx := hR.below
    have hB2 : w.heap.size + 1 + 1 < wr.heap.size := hR.size
    have hB1 : w.heap.size + 1 < wr.heap.size := by omega
    have hz' : 0 < wr.heap.size := by omega
    by_cases hlt : k < ms.length
    · obtain ⟨d0, d1, d2, d3, d4⟩ := Hms.out k hlt
      have Htk : Hid _ := take_snoc ms k hlt
      obtain ⟨ky, hky⟩ : ∃ ky, ky = (ms.getD k (sEmpty, sEmpty)).1 := ⟨_, rfl⟩
      obtain ⟨tt, htt⟩ : ∃ tt, tt = (ms.getD k (sEmpty, sEmpty)).2 := ⟨_, rfl⟩
      rw [← hky] at d0
      rw [← htt] at d2
      rw [← hnx.cell (p := ⟨g, k * 5, none⟩) hg] at d0
      rw [← hnx.cell (p := ⟨g, k * 5 + 1, none⟩) hg] at d1
      rw [← hnx.cell (p := ⟨g, k * 5 + 2, none⟩) hg] at d2
      rw [← hnx.cell (p := ⟨g, k * 5 + 3, none⟩) hg] at d3
      rw [← hnx.cell (p := ⟨g, k * 5 + 4, none⟩) hg] at d4
      have gc' := gc
      rw [← hnx.cell (p := ⟨0, 0, none⟩) hz] at gc'
      have hkt : Hid (ms.getD k (sEmpty, sEmpty) = (ky, tt)) := by
        show _ = _
        rw [hky, htt]
      have q0 := c0
      have q1 := c1
      have q2 := c2
      rw [← hnx.cell (p := ⟨b, off, none⟩) hb] at q0
      rw [← hnx.cell (p := ⟨b, off + 1, none⟩) hb] at q1
      rw [← hnx.cell (p := ⟨b, off + 2, none⟩) hb] at q2
      have hb' : b < wr.heap.size := by omega
      have e2 : wr.cell? ⟨w.heap.size + 1 + 1, 2, none⟩ = some v := by
        have := cell_of_row wr (w.heap.size + 2) 2 _ _ _ hR.sp
        simpa using this
      clear hky htt gc c0 c1 c2
      have q0a : ∀ o, (wr.alloc o).cell? ⟨b, off, none⟩ = some (.string ⟨#[114, 101, 113, 117, 101, 115, 116]⟩) := fun o => (World.cell?_alloc_lt _ _ _ hb').trans q0
      have q1a : ∀ o, (wr.alloc o).cell? ⟨b, off + 1, none⟩ = some (.string ⟨#[114, 101, 115, 112, 111, 110, 115, 101]⟩) := fun o => (World.cell?_alloc_lt _ _ _ hb').trans q1
      have q2a : ∀ o, (wr.alloc o).cell? ⟨b, off + 2, none⟩ = some (.string ⟨#[109, 101, 116, 97, 100, 97, 116, 97]⟩) := fun o => (World.cell?_alloc_lt _ _ _ hb').trans q2
      clear q0 q1 q2
      cases hs : P.spreadB ky
      · go_wp2_with (go_at_call 15; refine (contains_any ky b off c3 _ (q0a _) (q1a _) (q2a _)).mono ?_; rintro e w' ⟨rfl, rfl⟩)
        go_roundw
        case rel =>
          refine ⟨k + 1, by omega, by go_num, v, ?_⟩
          rw [Htk.out, hkt.out, kept_snoc_no _ _ hs]
          exact hR.alloc _
        case measure => simp [intOf]; omega
      · have hkl := kept_length_le (ms.take k)
        have htl : (ms.take k).length ≤ k := List.length_take_le _ _
        have hown1 := (hR.own.alloc (.cells #[.string ky, .string sString, .string tt, nilS, nilS] 37)).alloc (.cells #[.string ky, .string sString, .string tt, nilS, nilS] 37)
        go_wp2_with (first
          | (go_at_call 15; refine (contains_any ky b off c3 _ (q0a _) (q1a _) (q2a _)).mono ?_; rintro e w' ⟨rfl, rfl⟩)
          | (at_builtin; refine wpList_append_lies _ rfl (.tmp 19) (.tmp 21) 29 rfl (w.heap.size + 3) 37 i0 _ 5 96 Ybad.underlying29 hi hz0 hz1 hz2 rfl (by decide) v _ _ rfl hown1 ⟨wr.heap.size + 1, 0, none⟩ 1 1 (mcell (ky, tt)) rfl rfl ?n1 ?n2 (by decide) ?n3 ?n4 ?n5 (wr.heap.size + 2) ?n6 ?_))
        case n1 =>
          refine World.news_of_block (cs := #[.string ky, .string sString, .string tt, nilS, nilS]) (t := 37) (fr := (0, 0)) ?_
          have := heap_alloc_new (wr.alloc (.cells #[.string ky, .string sString, .string tt, nilS, nilS] 37)) (.cells #[.string ky, .string sString, .string tt, nilS, nilS] 37)
          simpa using this
        case n2 => exact mcell_oneCell _
        case n3 => unfold maxLen; omega
        case n4 => omega
        case n5 => simp; omega
        case n6 => simp
        · intro g2 cap2 w1 hown' hgrow _ _
          have hR2 := (hR.alloc (.cells #[.string ky, .string sString, .string tt, nilS, nilS] 37)).alloc (.cells #[.string ky, .string sString, .string tt, nilS, nilS] 37)
          have hst := hR2.step hown' hgrow
          obtain ⟨a1, a2⟩ := hR2.after hgrow
          have f1 : w1.cell? ⟨w.heap.size + 1 + 1, 2, none⟩ = some v := by
            have := cell_of_row w1 (w.heap.size + 2) 2 _ _ _ a1
            simpa using this
          have f2 : w1.frozen? ⟨w.heap.size + 1 + 1, 2, none⟩ = false := frozen_of_row w1 (w.heap.size + 2) 2 _ _ a1
          clear hown' hgrow hR2 a1 a2 hown1 hR
          go_wp2
          go_roundw
          case rel =>
            refine ⟨k + 1, by omega, by go_num, .slice (some ⟨g2, 0, none⟩) ((kept (ms.take k)).length + 1) cap2, ?_⟩
            rw [Htk.out, hkt.out, kept_snoc_yes _ _ hs]
            exact hst
          case measure => simp [intOf]; omega
    · obtain ⟨ao, cv, rfl⟩ := ownsRow_shape hR.own
      have hkk : ms.take k = ms := List.take_of_length_le (by omega)
      rw [hkk] at hR
      have s0 : wr.cell? ⟨w.heap.size + 1 + 1, 0, none⟩ = some (.string sObject) := by
        have := cell_of_row wr (w.heap.size + 2) 0 _ _ _ hR.sp
        simpa using this
      have s1 : wr.cell? ⟨w.heap.size + 1 + 1, 1, none⟩ = some (.string sEmpty) := by
        have := cell_of_row wr (w.heap.size + 2) 1 _ _ _ hR.sp
        simpa using this
      have s2 : wr.cell? ⟨w.heap.size + 1 + 1, 2, none⟩ = some (.slice ao (kept ms).length cv) := by
        have := cell_of_row wr (w.heap.size + 2) 2 _ _ _ hR.sp
        simpa using this
      have s3 : wr.cell? ⟨w.heap.size + 1 + 1, 3, none⟩ = some nilS := by
        have := cell_of_row wr (w.heap.size + 2) 3 _ _ _ hR.sp
        simpa using this
      have r0 : wr.cell? ⟨w.heap.size + 1, 0, none⟩ = some (.string sEmpty) := by
        have := cell_of_row wr (w.heap.size + 1) 0 _ _ _ hR.res
        simpa using this
      have r1 : wr.cell? ⟨w.heap.size + 1, 1, none⟩ = some (.string sEmpty) := by
        have := cell_of_row wr (w.heap.size + 1) 1 _ _ _ hR.res
        simpa using this
      have r2 : wr.cell? ⟨w.heap.size + 1, 2, none⟩ = some nilS := by
        have := cell_of_row wr (w.heap.size + 1) 2 _ _ _ hR.res
        simpa using this
      have r3 : wr.cell? ⟨w.heap.size + 1, 3, none⟩ = some nilS := by
        have := cell_of_row wr (w.heap.size + 1) 3 _ _ _ hR.res
        simpa using this
      have z0 : ∀ j, wr.frozen? ⟨w.heap.size + 1, j, none⟩ = false := fun j => frozen_of_row wr (w.heap.size + 1) j _ _ hR.res
      clear hkk
      go_wp2
      refine bodyPost_ret (v := .agg #[.string sObject, .string sEmpty, .slice ao (kept ms).length cv, nilS]) (by simp [results, Ybad.results10, go_sem, r0, r1, r2, r3]) rfl ⟨_, rfl, ?_, ?_, hR.nil⟩
      · exact ownsRow_setCell_below (ownsRow_setCell_below (ownsRow_setCell_below (ownsRow_setCell_below hR.own (by simp) _) (by simp) _) (by simp) _) (by simp) _
      · exact (((hR.below.setCell (by simp) _).setCell (by simp) _).setCell (by simp) _).setCell (by simp) _

/-- No members: nothing is kept. -/
theorem spreadOf_nil (kd tx : ByteArray) (w : World) :
    Calls Ybad.prog 10 #[.agg #[.string kd, .string tx, nilS, nilS]] w fun e w' =>
      e = .returned (.agg #[.string sObject, .string sEmpty, nilS, nilS]) ∧ Below w.heap.size w w' := by
  go_enter Ybad.func10, Ybad.ntmps10
  go_wp2_with fail
  go_rounds 1
  refine bodyPost_ret (v := .agg #[.string sObject, .string sEmpty, nilS, nilS]) (by simp [results, Ybad.results10, go_sem]) rfl ⟨rfl, ?_⟩
  exact (((Below.refl _ _).alloc (Nat.le_refl _) _).alloc (by simp) _).alloc (by simp; omega) _

end Go.Proofs.YbulkcspwDoor
