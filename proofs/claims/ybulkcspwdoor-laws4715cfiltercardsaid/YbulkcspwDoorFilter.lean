/- 'LawS4715CFilter': the walk where there is a member. -/
import Derived.Test.YbulkcspwDoorLoop1
import Derived.Deep.RegionHeld3
import Derived.Deep.QuietTactic
import Derived.BigQuiet
namespace Go.Proofs.YbulkcspwDoor
open Go Go.RowKit
set_option linter.unusedVariables false

theorem mems_take (ds : List D3) (k : Nat) : (mems ds).take k = mems (ds.take k) := by simp [mems, List.map_take]

/-- What the last test of a round reads: the member's key, the datum's text, the five cells of the kept member. -/
abbrev S24 (n mb o : Nat) (kk tt : ByteArray) (w' : World) : Prop :=
  w'.cell? ⟨n, 0, none⟩ = some (.string kk) ∧ w'.cell? ⟨mb, o + 2, none⟩ = some (.string tt) ∧ w'.cell? ⟨n + 1 + 1, 0, none⟩ = some (.string kk) ∧ w'.cell? ⟨n + 1 + 1, 1, none⟩ = some (.string sString) ∧ w'.cell? ⟨n + 1 + 1, 2, none⟩ = some (.string tt) ∧ w'.cell? ⟨n + 1 + 1, 3, none⟩ = some nilS ∧ w'.cell? ⟨n + 1 + 1, 4, none⟩ = some nilS
theorem keep24 {wr : World} {mb o : Nat} {kk tt : ByteArray} (b : Obj) (hmb : mb < wr.heap.size) (d2 : wr.cell? ⟨mb, o + 2, none⟩ = some (.string tt)) :
    S24 wr.heap.size mb o kk tt (((wr.alloc (.cells #[.string kk, .string sString, .string tt, nilS, nilS] 37)).alloc b).alloc (.cells #[.string kk, .string sString, .string tt, nilS, nilS] 37)).drew.drew := by
  have new : ∀ j, (((wr.alloc (.cells #[.string kk, .string sString, .string tt, nilS, nilS] 37)).alloc b).alloc (.cells #[.string kk, .string sString, .string tt, nilS, nilS] 37)).cell? ⟨wr.heap.size + 1 + 1, j, none⟩ = (#[.string kk, .string sString, .string tt, nilS, nilS] : Array Value)[j]? := fun j =>
    World.cell?_alloc_at _ _ _ _ (by simp)
  refine ⟨?_, ?_, new 0, new 1, new 2, new 3, new 4⟩
  · show (((wr.alloc (.cells #[.string kk, .string sString, .string tt, nilS, nilS] 37)).alloc b).alloc (.cells #[.string kk, .string sString, .string tt, nilS, nilS] 37)).cell? ⟨wr.heap.size, 0, none⟩ = _
    rw [World.cell?_alloc_lt _ _ _ (by simp; omega), World.cell?_alloc_lt _ _ _ (by simp), World.cell?_alloc_at _ _ _ _ rfl]
    rfl
  · show (((wr.alloc (.cells #[.string kk, .string sString, .string tt, nilS, nilS] 37)).alloc b).alloc (.cells #[.string kk, .string sString, .string tt, nilS, nilS] 37)).cell? ⟨mb, o + 2, none⟩ = _
    rw [World.cell?_alloc_lt _ _ _ (by simp; omega), World.cell?_alloc_lt _ _ _ (by simp; omega), World.cell?_alloc_lt _ _ _ hmb]
    exact d2

set_option maxRecDepth 100000 in
set_option maxHeartbeats 2000000 in
theorem filter_main (ds : List D3) (hn : ds.length ≤ 1024) (hpos : 0 < ds.length) (mb mo cap : Nat) (kind : Int) (hk0 : 0 ≤ kind) (hk1 : kind ≤ 255) (w : World) (hmb : mb < w.heap.size) (hL : Lies w mb mo ds) 
    (b off c3 : Nat) (gc : w.cell? ⟨0, 0, none⟩ = some (.slice (some ⟨b, off, none⟩) 3 c3)) (hz : 0 < w.heap.size) (hb : b < w.heap.size)
    (c0 : w.cell? ⟨b, off, none⟩ = some (.string ⟨#[114, 101, 113, 117, 101, 115, 116]⟩))
    (c1 : w.cell? ⟨b, off + 1, none⟩ = some (.string ⟨#[114, 101, 115, 112, 111, 110, 115, 101]⟩))
    (c2 : w.cell? ⟨b, off + 2, none⟩ = some (.string ⟨#[109, 101, 116, 97, 100, 97, 116, 97]⟩)) :
    Calls Ybad.prog 5 #[.slice (some ⟨mb, mo, none⟩) ds.length cap, .int .u8 kind] w fun e w' => e = .returned (.bool true) ∧ Below w.heap.size w w' := by
  obtain ⟨i0, hi, hz0, hz1, hz2⟩ := info_parts info37
  obtain ⟨kd, hkd⟩ : ∃ kd, P.kindB kind = kd := ⟨_, rfl⟩
  have Hkd := hideIt hkd
  clear hkd
  have hdn : decide ((1024 : Int) < (ds.length : Int)) = false := by simp; omega
  have gcH := hideIt (And.intro gc (And.intro c0 (And.intro c1 c2)))
  clear gc c0 c1 c2
  go_enter Ybad.func5, Ybad.ntmps5
  go_wp2_with (go_at_call 8; refine (kind_any kind hk0 hk1 _).mono ?_; rintro e w' ⟨rfl, rfl⟩; rw [Hkd.out])
  go_loopw [21] (fun i wr => ∃ k : Nat, k ≤ ds.length ∧ i = .int .i64 k ∧ ∃ v, RP w.heap.size w wr kd v (mems (ds.take k)))
    (fun i _ => ds.length - (intOf i).toNat)
  case atStart => exact ⟨0, Nat.zero_le _, rfl, nilS, RP.start⟩
  case round =>
    obtain ⟨k, hk, rfl, v, hR⟩ := hrel
    by_cases hlt : k < ds.length
    · obtain ⟨d0, d1, d2, s0, s1⟩ := hL k hlt
      have hnx := hR.below
      have hB : w.heap.size < wr.heap.size := hR.size
      have Htk : Hid _ := mems_take_snoc ds k hlt
      obtain ⟨⟨sl, ky, tt⟩, hd⟩ : ∃ d, ds.getD k dz = d := ⟨_, rfl⟩
      rw [hd] at d0 d1 d2 s0 s1
      rw [← hnx.cell (p := ⟨mb, mo + k * 3, none⟩) hmb] at d0
      rw [← hnx.cell (p := ⟨mb, mo + k * 3 + 1, none⟩) hmb] at d1
      rw [← hnx.cell (p := ⟨mb, mo + k * 3 + 2, none⟩) hmb] at d2
      dsimp only at d0 d1 d2 s0 s1
      have Hd : Hid _ := hd
      clear hd
      have e2 : wr.cell? ⟨w.heap.size, 2, none⟩ = some v := by
        have := cell_of_row wr w.heap.size 2 _ _ _ hR.pl
        simpa using this
      clear hL
      have e2a : ∀ o, (wr.alloc o).cell? ⟨w.heap.size, 2, none⟩ = some v := fun o => (World.cell?_alloc_lt _ _ _ hB).trans e2
      have e2b : ∀ o o', ((wr.alloc o).alloc o').cell? ⟨w.heap.size, 2, none⟩ = some v := fun o o' => (World.cell?_alloc_lt _ _ _ (by simp; omega)).trans (e2a o)
      have e2c : ∀ o o' o'', (((wr.alloc o).alloc o').alloc o'').cell? ⟨w.heap.size, 2, none⟩ = some v := fun o o' o'' => (World.cell?_alloc_lt _ _ _ (by simp; omega)).trans (e2b o o')
      have HO := hideIt (hR.wd sl ky tt).own
      have Hnews := hideIt (wd_news wr sl ky tt)
      have hml : (mems (ds.take k)).length ≤ k := by rw [mems_length]; exact List.length_take_le _ _
      go_wp2_with fail
      go_region_law (first
        | (go_simp; go_at_call 9; refine (key_any sl ky tt s0 s1 _).mono ?_; rintro e w' ⟨rfl, rfl⟩)
        | (refine step_append_lies _ rfl (.tmp 26) (.tmp 33) 29 rfl (w.heap.size + 1) 37 i0 _ 5 96 Ybad.underlying29 hi hz0 hz1 hz2 rfl (by decide) v _ _ (by simp [Act.eval]) HO.out ⟨wr.heap.size + 1 + 1, 0, none⟩ 1 1 (mcell (P.keyB sl ky, tt)) (by simp [Act.eval]) rfl Hnews.out (mcell_oneCell _) (by decide) (by unfold maxLen; omega) (by omega) (by simp; omega) _ rfl ?_; intro g2 cap2 w1 hown' hgrow _ _; obtain ⟨f1, f2, hst⟩ := hR.behind hown' hgrow; clear hown' hgrow))
      all_goals
        clear f1 f2
        go_wp2
        go_roundw
        case rel =>
          refine ⟨k + 1, by omega, by go_num, .slice (some ⟨g2, 0, none⟩) ((mems (ds.take k)).length + 1) cap2, ?_⟩
          rw [Htk.out, Hd.out]
          exact hst
        case measure => simp [intOf]; omega
    · obtain ⟨w1, hw1⟩ : ∃ x, x = wr := ⟨wr, rfl⟩
      subst hw1
      have hkk : ds.take k = ds := List.take_of_length_le (by omega)
      rw [hkk] at hR
      have hkn : k = ds.length := by omega
      subst hkn
      clear hkk
      obtain ⟨gc, c0, c1, c2⟩ := gcH.out
      obtain ⟨g, cp, rfl, hgb, hgl⟩ := hR.own.form (by rw [mems_length]; exact hpos)
      have hnx := hR.below
      have hB : w.heap.size < w1.heap.size := hR.size
      have hcm := cells_of_own hR.own
      have hrow := hR.pl
      have p0 : w1.cell? ⟨w.heap.size, 0, none⟩ = some (.string kd) := by
        have := cell_of_row w1 w.heap.size 0 _ _ _ hrow
        simpa using this
      have p1 : w1.cell? ⟨w.heap.size, 1, none⟩ = some (.string sEmpty) := by
        have := cell_of_row w1 w.heap.size 1 _ _ _ hrow
        simpa using this
      have p2 : w1.cell? ⟨w.heap.size, 2, none⟩ = some (.slice (some ⟨g, 0, none⟩) (mems ds).length cp) := by
        have := cell_of_row w1 w.heap.size 2 _ _ _ hrow
        simpa using this
      have p3 : w1.cell? ⟨w.heap.size, 3, none⟩ = some nilS := by
        have := cell_of_row w1 w.heap.size 3 _ _ _ hrow
        simpa using this
      have Hcm := hideIt hcm
      have HL := hideIt hL
      rw [← hnx.cell (p := ⟨0, 0, none⟩) hz] at gc
      rw [← hnx.cell (p := ⟨b, off, none⟩) hb] at c0
      rw [← hnx.cell (p := ⟨b, off + 1, none⟩) hb] at c1
      rw [← hnx.cell (p := ⟨b, off + 2, none⟩) hb] at c2
      have hspread := spreadOf_any (mems ds) (by rw [mems_length]; exact hn) kd sEmpty g cp b off c3 w1 hcm hgl gc (by omega) (by omega) c0 c1 c2
      clear hcm hL gc c0 c1 c2 hrow
      have Hml := hideIt (mems_length ds)
      go_wp2_with fail
      refine hspread.mono ?_
      rintro e w2 ⟨v2, rfl, hown2, hb2, hnil2⟩
      clear hspread
      have hB2 : w.heap.size < w2.heap.size := Nat.lt_of_lt_of_le hB hb2.size
      have pp2 : w2.cell? ⟨w.heap.size, 2, none⟩ = some (.slice (some ⟨g, 0, none⟩) (mems ds).length cp) := (hb2.cell (p := ⟨w.heap.size, 2, none⟩) hB).trans p2
      have n30 := fun (w : World) (a : Option Addr) (n c : Nat) => run_neq_slice_nil_any (P := Ybad.prog) w 30 32 a n c 0 0 Ybad.underlying30
      have n29 := fun (w : World) (a : Option Addr) (n c : Nat) => run_neq_slice_nil_any (P := Ybad.prog) w 29 37 a n c 0 0 Ybad.underlying29
      have q29 := fun (w : World) (a : Option Addr) (n c : Nat) => Lib.run_eql_slice_nil (P := Ybad.prog) w 29 37 a n c 0 0 Ybad.underlying29
      have hne : (((mems ds).length : Int) != (ds.length : Int)) = false := by simp [mems_length]
      clear p0 p1 p2 p3 hnx
      by_cases hke : kept (mems ds) = []
      · have hv2 := hnil2 hke
        subst hv2
        have HK := hideIt hke
        clear hnil2 hown2 hke
        go_wp2_with fail
        go_loopw [9, 61] (fun j i wr3 => ∃ k : Nat, k ≤ ds.length ∧ i = .int .i64 k ∧ j = .int .i64 0 ∧ Below (w2.heap.size + 1) (w2.alloc (.cells #[.string sObject, .string sEmpty, nilS, nilS] 32)) wr3)
          (fun _ i _ => ds.length - (intOf i).toNat)
        case atStart => exact ⟨0, Nat.zero_le _, rfl, rfl, Below.refl _ _⟩
        case round =>
          obtain ⟨k, hk, rfl, rfl, hnx3⟩ := hrel
          by_cases hlt : k < ds.length
          · have hold : ∀ p : Addr, p.block < w2.heap.size → wr.cell? p = w2.cell? p := fun p hp => (hnx3.cell (by omega)).trans (World.cell?_alloc_lt _ _ _ hp)
            have hold1 : ∀ p : Addr, p.block < w1.heap.size → wr.cell? p = w1.cell? p := fun p hp => (hold p (Nat.lt_of_lt_of_le hp hb2.size)).trans (hb2.cell hp)
            have hold0 : ∀ p : Addr, p.block < w.heap.size → wr.cell? p = w.cell? p := fun p hp => (hold1 p (Nat.lt_trans hp hB)).trans (hR.below.cell hp)
            have hw2 : w2.heap.size < wr.heap.size := by have := hnx3.size; simp at this; omega
            obtain ⟨d0, d1, d2, s0, s1⟩ := HL.out k hlt
            obtain ⟨e0, e1, e2, e3, e4⟩ := Hcm.out k (by rw [mems_length]; exact hlt)
            have hgot : wr.cell? ⟨w2.heap.size, 2, none⟩ = some nilS := (hnx3.cell (p := ⟨w2.heap.size, 2, none⟩) (Nat.lt_succ_self _)).trans (by rw [World.cell?_alloc_new]; rfl)
            rw [mems_getD ds k hlt] at e0 e2
            rw [← hold1 ⟨g, k * 5, none⟩ hgl] at e0
            rw [← hold1 ⟨g, k * 5 + 1, none⟩ hgl] at e1
            rw [← hold1 ⟨g, k * 5 + 2, none⟩ hgl] at e2
            rw [← hold1 ⟨g, k * 5 + 3, none⟩ hgl] at e3
            rw [← hold1 ⟨g, k * 5 + 4, none⟩ hgl] at e4
            rw [← hold0 ⟨mb, mo + k * 3, none⟩ hmb] at d0
            rw [← hold0 ⟨mb, mo + k * 3 + 1, none⟩ hmb] at d1
            rw [← hold0 ⟨mb, mo + k * 3 + 2, none⟩ hmb] at d2
            have Htk := hideIt (mems_take_snoc ds k hlt)
            have Hka := hideIt (kept_at (mems ds) k (by rw [mems_length]; exact hlt))
            obtain ⟨⟨sl, ky, tt⟩, hd⟩ : ∃ d, ds.getD k dz = d := ⟨_, rfl⟩
            rw [hd] at d0 d1 d2 s0 s1 e0 e2
            have Hd := hideIt hd
            clear hd
            simp only [mem1] at e0 e2
            dsimp only at d0 d1 d2 s0 s1
            obtain ⟨kk, hkk⟩ : ∃ kk, kk = P.keyB sl ky := ⟨_, rfl⟩
            rw [← hkk] at e0
            have Hkk := hideIt hkk
            clear hkk
            have hk3 : (k : Int) < ((mems ds).length : Int) := by rw [mems_length]; omega
            have hk4 : (k : Int) < (ds.length : Int) := by omega
            have hmb3 : mb < wr.heap.size := by omega
            have HX := hideIt (And.intro hold (And.intro hold1 hold0))
            clear hold hold1 hold0
            go_wp2_with fail
            go_region_held3 (fun w' => w'.cell? ⟨wr.heap.size, 0, none⟩ = some (.string kk) ∧ w'.cell? ⟨wr.heap.size, 1, none⟩ = some (.string sString) ∧ w'.cell? ⟨wr.heap.size, 2, none⟩ = some (.string tt) ∧ w'.cell? ⟨mb, mo + k * 3, none⟩ = some (.int .u8 sl) ∧ w'.cell? ⟨mb, mo + k * 3 + 1, none⟩ = some (.string ky) ∧ w'.cell? ⟨mb, mo + k * 3 + 2, none⟩ = some (.string tt)) (go_keep)
              (first | (go_at_call 9; refine (key_any sl ky tt s0 s1 _).mono ?_; rintro e w' ⟨rfl, rfl⟩; rw [← Hkk.out]))
            cases hs : P.spreadB kk
            · go_wp2_with (go_at_call 11; refine (spread_any kk _).mono ?_; rintro e w' ⟨rfl, rfl⟩)
              go_roundw
              case rel =>
                refine ⟨k + 1, by omega, by go_num, rfl, ?_⟩
                exact (((hnx3.alloc (by omega) _).alloc (by simp; omega) _)).drew
              case measure => simp [intOf]; omega
            · exfalso
              obtain ⟨hj1, hj2⟩ := Hka.out (by rw [mems_getD ds k hlt, Hd.out]; simp only [mem1]; rw [← Hkk.out]; exact hs)
              rw [HK.out] at hj1
              simp at hj1
          · have hkk : ds.take k = ds := List.take_of_length_le (by omega)
            have hk3 : ¬ (k : Int) < ((mems ds).length : Int) := by rw [mems_length]; omega
            have hgot : wr.cell? ⟨w2.heap.size, 2, none⟩ = some nilS := (hnx3.cell (p := ⟨w2.heap.size, 2, none⟩) (Nat.lt_succ_self _)).trans (by rw [World.cell?_alloc_new]; rfl)
            clear hkk
            go_wp2
            go_ret
            exact ⟨rfl, ((hR.below.trans (hb2.mono (Nat.le_of_lt hB))).alloc (by omega) _).trans (hnx3.mono (by omega))⟩
      · have hm0 : 0 < (kept (mems ds)).length := List.length_pos_iff.2 hke
        obtain ⟨g2, cp2, rfl, hg2b, hg2l⟩ := hown2.form hm0
        have Hc2 := hideIt (cells_of_own hown2)
        clear hnil2 hown2 hke
        go_wp2_with fail
        go_loopw [9, 61] (fun j i wr3 => ∃ k : Nat, k ≤ ds.length ∧ i = .int .i64 k ∧ j = .int .i64 ((kept (mems (ds.take k))).length : Nat) ∧ Below (w2.heap.size + 1) (w2.alloc (.cells #[.string sObject, .string sEmpty, .slice (some ⟨g2, 0, none⟩) (kept (mems ds)).length cp2, nilS] 32)) wr3)
          (fun _ i _ => ds.length - (intOf i).toNat)
        case atStart => exact ⟨0, Nat.zero_le _, rfl, rfl, Below.refl _ _⟩
        case round =>
          obtain ⟨k, hk, rfl, rfl, hnx3⟩ := hrel
          by_cases hlt : k < ds.length
          · have hold : ∀ p : Addr, p.block < w2.heap.size → wr.cell? p = w2.cell? p := fun p hp => (hnx3.cell (by omega)).trans (World.cell?_alloc_lt _ _ _ hp)
            have hold1 : ∀ p : Addr, p.block < w1.heap.size → wr.cell? p = w1.cell? p := fun p hp => (hold p (Nat.lt_of_lt_of_le hp hb2.size)).trans (hb2.cell hp)
            have hold0 : ∀ p : Addr, p.block < w.heap.size → wr.cell? p = w.cell? p := fun p hp => (hold1 p (Nat.lt_trans hp hB)).trans (hR.below.cell hp)
            have hw2 : w2.heap.size < wr.heap.size := by have := hnx3.size; simp at this; omega
            obtain ⟨d0, d1, d2, s0, s1⟩ := HL.out k hlt
            obtain ⟨e0, e1, e2, e3, e4⟩ := Hcm.out k (by rw [mems_length]; exact hlt)
            have hgot : wr.cell? ⟨w2.heap.size, 2, none⟩ = some (.slice (some ⟨g2, 0, none⟩) (kept (mems ds)).length cp2) := (hnx3.cell (p := ⟨w2.heap.size, 2, none⟩) (Nat.lt_succ_self _)).trans (by rw [World.cell?_alloc_new]; rfl)
            rw [mems_getD ds k hlt] at e0 e2
            rw [← hold1 ⟨g, k * 5, none⟩ hgl] at e0
            rw [← hold1 ⟨g, k * 5 + 1, none⟩ hgl] at e1
            rw [← hold1 ⟨g, k * 5 + 2, none⟩ hgl] at e2
            rw [← hold1 ⟨g, k * 5 + 3, none⟩ hgl] at e3
            rw [← hold1 ⟨g, k * 5 + 4, none⟩ hgl] at e4
            rw [← hold0 ⟨mb, mo + k * 3, none⟩ hmb] at d0
            rw [← hold0 ⟨mb, mo + k * 3 + 1, none⟩ hmb] at d1
            rw [← hold0 ⟨mb, mo + k * 3 + 2, none⟩ hmb] at d2
            have Htk := hideIt (mems_take_snoc ds k hlt)
            have Hka := hideIt (kept_at (mems ds) k (by rw [mems_length]; exact hlt))
            obtain ⟨⟨sl, ky, tt⟩, hd⟩ : ∃ d, ds.getD k dz = d := ⟨_, rfl⟩
            rw [hd] at d0 d1 d2 s0 s1 e0 e2
            have Hd := hideIt hd
            clear hd
            simp only [mem1] at e0 e2
            dsimp only at d0 d1 d2 s0 s1
            obtain ⟨jj, hjj⟩ : ∃ jj, jj = (kept (mems (ds.take k))).length := ⟨_, rfl⟩
            rw [← hjj]
            have Hjj := hideIt hjj
            obtain ⟨kk, hkk⟩ : ∃ kk, kk = P.keyB sl ky := ⟨_, rfl⟩
            rw [← hkk] at e0
            have Hkk := hideIt hkk
            clear hjj hkk
            have hk3 : (k : Int) < ((mems ds).length : Int) := by rw [mems_length]; omega
            have hk4 : (k : Int) < (ds.length : Int) := by omega
            have hmb3 : mb < wr.heap.size := by omega
            have HX := hideIt (And.intro hold (And.intro hold1 hold0))
            clear hold hold1 hold0
            go_wp2_with fail
            go_region_held3 (fun w' => w'.cell? ⟨wr.heap.size, 0, none⟩ = some (.string kk) ∧ w'.cell? ⟨wr.heap.size, 1, none⟩ = some (.string sString) ∧ w'.cell? ⟨wr.heap.size, 2, none⟩ = some (.string tt) ∧ w'.cell? ⟨mb, mo + k * 3, none⟩ = some (.int .u8 sl) ∧ w'.cell? ⟨mb, mo + k * 3 + 1, none⟩ = some (.string ky) ∧ w'.cell? ⟨mb, mo + k * 3 + 2, none⟩ = some (.string tt)) (go_keep)
              (first | (go_at_call 9; refine (key_any sl ky tt s0 s1 _).mono ?_; rintro e w' ⟨rfl, rfl⟩; rw [← Hkk.out]))
            cases hs : P.spreadB kk
            · go_wp2_with (go_at_call 11; refine (spread_any kk _).mono ?_; rintro e w' ⟨rfl, rfl⟩)
              go_roundw
              case rel =>
                refine ⟨k + 1, by omega, by go_num, ?_, ?_⟩
                · rw [Htk.out, Hd.out, kept_snoc_no _ _ (by simp only [mem1]; rw [← Hkk.out]; exact hs), ← Hjj.out]
                · exact (((hnx3.alloc (by omega) _).alloc (by simp; omega) _)).drew
              case measure => simp [intOf]; omega
            · obtain ⟨hj1, hj2⟩ := Hka.out (by rw [mems_getD ds k hlt, Hd.out]; simp only [mem1]; rw [← Hkk.out]; exact hs)
              rw [mems_take, ← Hjj.out] at hj1 hj2
              rw [mems_getD ds k hlt, Hd.out] at hj2
              obtain ⟨m0, m1, m2, m3, m4⟩ := Hc2.out jj hj1
              rw [hj2] at m0 m2
              simp only [mem1] at m0 m2
              rw [← Hkk.out] at m0
              obtain ⟨hold, _, _⟩ := HX.out
              rw [← hold ⟨g2, jj * 5, none⟩ hg2l] at m0
              rw [← hold ⟨g2, jj * 5 + 1, none⟩ hg2l] at m1
              rw [← hold ⟨g2, jj * 5 + 2, none⟩ hg2l] at m2
              rw [← hold ⟨g2, jj * 5 + 3, none⟩ hg2l] at m3
              rw [← hold ⟨g2, jj * 5 + 4, none⟩ hg2l] at m4
              have hg3 : g2 < wr.heap.size := by omega
              have hj3 : ¬ ((kept (mems ds)).length : Int) ≤ (jj : Int) := by omega
              have hj4 : (jj : Int) < ((kept (mems ds)).length : Int) := by omega
              have hj5 : jj ≤ 1024 := by have h1 := kept_length_le (mems ds); rw [mems_length] at h1; omega
              clear hold hj2
              go_wp2_with (go_at_call 11; refine (spread_any kk _).mono ?_; rintro e w' ⟨rfl, rfl⟩)
              have HS := fun bx => hideIt (keep24 (wr := wr) (mb := mb) (o := mo + k * 3) (kk := kk) (tt := tt) bx hmb3 d2)
              go_region_held3 (fun w' => w'.cell? ⟨wr.heap.size, 0, none⟩ = some (.string kk) ∧ w'.cell? ⟨mb, mo + k * 3 + 2, none⟩ = some (.string tt) ∧ w'.cell? ⟨wr.heap.size + 1 + 1, 0, none⟩ = some (.string kk) ∧ w'.cell? ⟨wr.heap.size + 1 + 1, 1, none⟩ = some (.string sString) ∧ w'.cell? ⟨wr.heap.size + 1 + 1, 2, none⟩ = some (.string tt) ∧ w'.cell? ⟨wr.heap.size + 1 + 1, 3, none⟩ = some nilS ∧ w'.cell? ⟨wr.heap.size + 1 + 1, 4, none⟩ = some nilS) (exact (HS _).out) (fail)
              go_wp2
              go_roundw
              case rel =>
                refine ⟨k + 1, by omega, by go_num, ?_, ?_⟩
                · rw [Htk.out, Hd.out, kept_snoc_yes _ _ (by simp only [mem1]; rw [← Hkk.out]; exact hs), List.length_append, ← Hjj.out]
                  go_num
                · exact ((((hnx3.alloc (by omega) _).alloc (by simp; omega) _).alloc (by simp; omega) _).drew).drew
              case measure => simp [intOf]; omega
          · have hkk : ds.take k = ds := List.take_of_length_le (by omega)
            have hk3 : ¬ (k : Int) < ((mems ds).length : Int) := by rw [mems_length]; omega
            rw [hkk]
            have hgot : wr.cell? ⟨w2.heap.size, 2, none⟩ = some (.slice (some ⟨g2, 0, none⟩) (kept (mems ds)).length cp2) := (hnx3.cell (p := ⟨w2.heap.size, 2, none⟩) (Nat.lt_succ_self _)).trans (by rw [World.cell?_alloc_new]; rfl)
            have hj0 : (((kept (mems ds)).length : Int) == 0) = false := by rw [beq_eq_false_iff_ne]; omega
            clear hkk
            go_wp2
            go_ret
            exact ⟨rfl, ((hR.below.trans (hb2.mono (Nat.le_of_lt hB))).alloc (by omega) _).trans (hnx3.mono (by omega))⟩

end Go.Proofs.YbulkcspwDoor
