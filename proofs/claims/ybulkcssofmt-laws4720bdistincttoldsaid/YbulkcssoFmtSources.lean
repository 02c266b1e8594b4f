/- The contracts of 'zzs4720bexchange' and 'zzs4720bsources'. -/
import Derived.Test.YbulkcssoFmtProg
import Derived.WalkKit
import Derived.WalkSpells
import Derived.WalkLawsBesides
import Derived.Handy
namespace Go.Proofs.YbulkcssoFmt
open Go Go.RowKit
set_option linter.unusedVariables false

theorem hideIt {p : Prop} (h : p) : Hid p := h
/-- What 'zzs4720bexchange' gives. -/
def exB (b : Int) : ByteArray :=
  if b % 4 = 0 then ⟨#[115, 104, 97, 110, 103, 104, 97, 105]⟩ else if b % 4 = 1 then ⟨#[115, 104, 101, 110, 122, 104, 101, 110]⟩ else if b % 4 = 2 then ⟨#[]⟩ else ⟨#[98, 101, 105, 106, 105, 110, 103]⟩

theorem exchange_any (b : Int) (h0 : 0 ≤ b) (h1 : b ≤ 255) (w : World) :
    Calls Ybaf.prog 7 #[.int .u8 b] w fun e w' => e = .returned (.string (exB b)) ∧ w = w' := by
  rcases (show b % 4 = 0 ∨ b % 4 = 1 ∨ b % 4 = 2 ∨ b % 4 = 3 by omega) with h | h | h | h
  all_goals
    go_enter Ybaf.func7, Ybaf.ntmps7
    go_wp2
    go_ret
    exact ⟨by simp [exB, h], rfl⟩

/-- The exchange of source i, and that its keys are nil. -/
def SrcAt (w : World) (g m : Nat) (ex : Nat → ByteArray) : Prop :=
  g < w.heap.size ∧ ∀ i, i < m → w.cell? ⟨g, i * 69, none⟩ = some (.map none) ∧ w.cell? ⟨g, i * 69 + 1 + 2, none⟩ = some (.string (ex i))

theorem zero59 (w : World) : (zeroValue 59).run Ybaf.prog w = .ok (.agg #[.string ⟨#[]⟩, .string ⟨#[]⟩, .string ⟨#[]⟩, .string ⟨#[]⟩, .int .i64 0, .pointer none, .int .i64 0, .int .i64 0, .pointer none, .int .i64 0, .int .i64 0, .pointer none, .int .i64 0, .string ⟨#[]⟩, .int .i64 0, .pointer none, .int .i64 0, .int .i64 0, .pointer none, .int .i64 0, .int .i64 0, .pointer none, .int .i64 0, .string ⟨#[]⟩, .int .i64 0, .pointer none, .int .i64 0, .int .i64 0, .pointer none, .int .i64 0, .int .i64 0, .pointer none, .int .i64 0, .int .i64 0, .int .i64 0, .slice none 0 0, .int .i64 0, .pointer none, .int .i64 0, .int .i64 0, .int .i64 0, .string ⟨#[]⟩, .int .i64 0, .pointer none, .int .i64 0, .int .i64 0, .int .i64 0, .string ⟨#[]⟩, .int .i64 0, .pointer none, .int .i64 0, .int .i64 0, .int .i64 0, .string ⟨#[]⟩, .int .i64 0, .pointer none, .int .i64 0, .int .i64 0, .int .i64 0, .string ⟨#[]⟩, .int .i64 0, .pointer none, .int .i64 0, .int .i64 0, .pointer none, .int .i64 0, .slice none 0 0, .slice none 0 0]) w := by kernel_rfl
theorem zero62v (w : World) : (zeroValue 62).run Ybaf.prog w = .ok (.agg #[.map none, .string ⟨#[]⟩, .string ⟨#[]⟩, .string ⟨#[]⟩, .string ⟨#[]⟩, .int .i64 0, .pointer none, .int .i64 0, .int .i64 0, .pointer none, .int .i64 0, .int .i64 0, .pointer none, .int .i64 0, .string ⟨#[]⟩, .int .i64 0, .pointer none, .int .i64 0, .int .i64 0, .pointer none, .int .i64 0, .int .i64 0, .pointer none, .int .i64 0, .string ⟨#[]⟩, .int .i64 0, .pointer none, .int .i64 0, .int .i64 0, .pointer none, .int .i64 0, .int .i64 0, .pointer none, .int .i64 0, .int .i64 0, .int .i64 0, .slice none 0 0, .int .i64 0, .pointer none, .int .i64 0, .int .i64 0, .int .i64 0, .string ⟨#[]⟩, .int .i64 0, .pointer none, .int .i64 0, .int .i64 0, .int .i64 0, .string ⟨#[]⟩, .int .i64 0, .pointer none, .int .i64 0, .int .i64 0, .int .i64 0, .string ⟨#[]⟩, .int .i64 0, .pointer none, .int .i64 0, .int .i64 0, .int .i64 0, .string ⟨#[]⟩, .int .i64 0, .pointer none, .int .i64 0, .int .i64 0, .pointer none, .int .i64 0, .slice none 0 0, .slice none 0 0]) w := by kernel_rfl

set_option maxRecDepth 100000 in
theorem sources_none (ao : Option Addr) (cap : Nat) (w : World) :
    Calls Ybaf.prog 5 #[.slice ao 0 cap] w fun e w' => e = .returned (.slice (some ⟨w.heap.size, 0, none⟩) 1 1) ∧ Below w.heap.size w w' ∧ SrcAt w' w.heap.size 1 (fun _ => exB 0) := by
  have z59 := zero59
  have z62 := zero62v
  go_enter Ybaf.func5, Ybaf.ntmps5
  go_wp2
  go_ret
  refine ⟨rfl, (Below.refl _ _).alloc (Nat.le_refl _) _, by simp, fun i hi => ?_⟩
  obtain rfl : i = 0 := by omega
  exact ⟨by rw [World.cell?_alloc_at _ _ _ _ rfl]; rfl, by rw [World.cell?_alloc_at _ _ _ _ rfl]; rfl⟩

theorem i62 : Ybaf.prog.info? 62 = some Ybaf.t62 := by kernel_rfl
theorem size62 : Ybaf.t62.size = 69 := by kernel_rfl
theorem bytes62 : Ybaf.t62.bytes = 680 := by kernel_rfl
theorem zmap62 : Ybaf.t62.zero.map (fun z => (z.cells.size, z.cells[0]!, z.cells[3]!)) = some (69, .map none, .string ⟨#[]⟩) := by kernel_rfl
theorem zmap62' : Ybaf.t62.zero.map (fun z => .agg z.cells) = Ybaf.t62.zero := by kernel_rfl
theorem zero62 : ∃ cs : Array Value, Ybaf.t62.zero = some (.agg cs) ∧ cs.size = 69 ∧ cs[0]! = .map none ∧ cs[3]! = .string ⟨#[]⟩ := by
  obtain ⟨z, hz, he⟩ := Option.map_eq_some_iff.1 zmap62
  have h := zmap62'
  rw [hz] at h
  simp only [Prod.mk.injEq] at he
  exact ⟨z.cells, hz.trans h.symm, he.1, he.2.1, he.2.2⟩

/-- What a slice's row of n sources holds once the first k have their exchange. -/
def RowOf (cur : Array Value) (n k : Nat) (ex : Nat → ByteArray) : Prop :=
  cur.size = n * 69 ∧ ∀ i, i < n → cur[i * 69]? = some (.map none) ∧ cur[i * 69 + 3]? = some (.string (if i < k then ex i else ⟨#[]⟩))
theorem rowOf_made {cs : Array Value} (cells62 : cs.size = 69) (cell0 : cs[0]! = .map none) (cell3 : cs[3]! = .string ⟨#[]⟩) (n : Nat) (ex : Nat → ByteArray) : RowOf (madeCells cs (n * 69)) n 0 ex := by
  refine ⟨size_madeCells _ _, fun i hi => ?_⟩
  unfold madeCells
  constructor
  · rw [Array.getElem?_map, Array.getElem?_range, if_pos (by omega), Option.map_some, cells62, show i * 69 % 69 = 0 by omega, cell0]
  · rw [Array.getElem?_map, Array.getElem?_range, if_pos (by omega), Option.map_some, cells62, show (i * 69 + 3) % 69 = 3 by omega, cell3]
    simp
theorem RowOf.step {cur : Array Value} {n k : Nat} {ex : Nat → ByteArray} (h : RowOf cur n k ex) (hk : k < n) : RowOf (cur.setIfInBounds (k * 69 + 3) (.string (ex k))) n (k + 1) ex := by
  refine ⟨by simpa using h.1, fun i hi => ?_⟩
  obtain ⟨h0, h3⟩ := h.2 i hi
  rw [Array.getElem?_setIfInBounds, Array.getElem?_setIfInBounds, if_neg (by omega)]
  refine ⟨h0, ?_⟩
  by_cases e : k = i
  · subst e
    rw [if_pos rfl, if_pos (by have := h.1; omega), if_pos (by omega)]
  · rw [if_neg (by omega), h3]
    by_cases hik : i < k
    · rw [if_pos hik, if_pos (by omega)]
    · rw [if_neg hik, if_neg (by omega)]

/-- What the walk is told of the selectors. -/
def IsSel (w : World) (ao : Option Addr) (n : Nat) (sel : Nat → Int) : Prop :=
  n ≤ maxLen ∧ (0 < n → ∃ b off, ao = some ⟨b, off, none⟩ ∧ b < w.heap.size ∧ ∀ j, j < n → w.cell? ⟨b, off + j, none⟩ = some (.int .u8 (sel j)) ∧ 0 ≤ sel j ∧ sel j ≤ 255)

structure RS (w wr : World) (n k : Nat) (ex : Nat → ByteArray) : Prop where
  row : ∃ cur, wr.heap[w.heap.size]? = some (.cells cur 62 (0, 0)) ∧ RowOf cur n k ex
  below : Below w.heap.size w wr

theorem RS.at {w wr : World} {n k : Nat} {ex : Nat → ByteArray} (h : RS w wr n k ex) (hk : k < n) :
    wr.cell? ⟨w.heap.size, k * 69 + 1 + 2, none⟩ = some (.string ⟨#[]⟩) ∧ wr.frozen? ⟨w.heap.size, k * 69 + 1 + 2, none⟩ = false ∧ RS w (wr.setCell ⟨w.heap.size, k * 69 + 1 + 2, none⟩ (.string (ex k))) n (k + 1) ex := by
  obtain ⟨cur, hc, hr⟩ := h.row
  refine ⟨?_, frozen_of_row wr _ _ _ _ hc, ⟨_, heap_setCell_same wr _ _ _ _ _ hc, hr.step hk⟩, h.below.setCell (by simp) _⟩
  rw [cell_of_row wr _ _ _ _ _ hc, (hr.2 k hk).2, if_neg (by omega)]
theorem RS.src {w wr : World} {n : Nat} {ex : Nat → ByteArray} (h : RS w wr n n ex) : SrcAt wr w.heap.size n ex := by
  obtain ⟨cur, hc, hr⟩ := h.row
  refine ⟨(Array.getElem?_eq_some_iff.1 hc).1, fun i hi => ?_⟩
  rw [cell_of_row wr _ _ _ _ _ hc, cell_of_row wr _ _ _ _ _ hc]
  refine ⟨(hr.2 i hi).1, ?_⟩
  rw [(hr.2 i hi).2, if_pos hi]

set_option maxRecDepth 100000 in
set_option maxHeartbeats 1000000 in
theorem sources_some (b off n cap : Nat) (sel : Nat → Int) (hpos : 0 < n) (hn : n ≤ 256) (w : World) (hb : b < w.heap.size) (hsel : ∀ j, j < n → w.cell? ⟨b, off + j, none⟩ = some (.int .u8 (sel j)) ∧ 0 ≤ sel j ∧ sel j ≤ 255) :
    Calls Ybaf.prog 5 #[.slice (some ⟨b, off, none⟩) n cap] w fun e w' => e = .returned (.slice (some ⟨w.heap.size, 0, none⟩) n n) ∧ Below w.heap.size w w' ∧ SrcAt w' w.heap.size n (fun i => exB (sel i)) := by
  obtain ⟨cs, hz0, hz1, hz2, hz3⟩ := zero62
  have hne : ((n : Int) == 0) = false := by rw [beq_eq_false_iff_ne]; omega
  have Hsel := hideIt hsel
  clear hsel
  go_enter Ybaf.func5, Ybaf.ntmps5
  go_wp2_with (at_make; refine wpList_make_full _ rfl (.tmp 13) (.tmp 13) 25 rfl w.heap.size 62 Ybaf.t62 (.agg cs) 69 Ybaf.underlying25 i62 hz0 size62 _ _ _ _ n rfl rfl rfl rfl (by rw [bytes62]; omega) (by unfold maxLen; omega) (Nat.le_refl _) ?_)
  intro w1 hown1 hgrow1
  have hR0 : RS w w1 n 0 (fun i => exB (sel i)) := by
    refine ⟨?_, (Below.refl _ _).grown hgrow1 (Nat.le_refl _) (fun k hk => by cases hk)⟩
    rcases hown1.2 with ⟨h, _⟩ | ⟨g, c, cur, h, _, hh, _, _, hs, ht⟩
    · cases h
    · simp only [Value.slice.injEq, Option.some.injEq, Addr.mk.injEq, and_true, true_and] at h
      obtain ⟨rfl, rfl⟩ := h
      have e : cur = madeCells cs (n * 69) := by
        apply Array.toList_inj.1
        rw [← ht, List.take_of_length_le (by simp [hs])]
      exact ⟨cur, hh, e ▸ rowOf_made hz1 hz2 hz3 n _⟩
  clear hown1 hgrow1 hz0 hz1 hz2 hz3
  go_wp2_with fail
  go_loopw [17] (fun i wr => ∃ k : Nat, k ≤ n ∧ i = .int .i64 k ∧ RS w wr n k (fun i => exB (sel i))) (fun i _ => n - (intOf i).toNat)
  case atStart => exact ⟨0, Nat.zero_le _, rfl, hR0⟩
  case round =>
    obtain ⟨k, hk, rfl, hR⟩ := hrel
    clear hR0
    by_cases hlt : k < n
    · obtain ⟨c0, s0, s1⟩ := Hsel.out k hlt
      rw [← hR.below.cell (p := ⟨b, off + k, none⟩) hb] at c0
      obtain ⟨f1, f2, hst⟩ := hR.at hlt
      have Hst := hideIt hst
      have hk4 : (k : Int) < (n : Int) := by omega
      clear hst hR
      go_wp2_with (go_at_call 7; refine (exchange_any (sel k) s0 s1 _).mono ?_; rintro e w' ⟨rfl, rfl⟩)
      go_roundw
      case rel => exact ⟨k + 1, by omega, by go_num, Hst.out⟩
      case measure => simp [intOf]; omega
    · have hkn : k = n := by omega
      subst hkn
      go_wp2
      go_ret
      exact ⟨rfl, hR.below, hR.src⟩

/-- The sources that the law makes, whatever the selectors. -/
theorem sources_any (ao : Option Addr) (n cap : Nat) (sel : Nat → Int) (hn : n ≤ 256) (w : World) (h : IsSel w ao n sel) :
    Calls Ybaf.prog 5 #[.slice ao n cap] w fun e w' => e = .returned (.slice (some ⟨w.heap.size, 0, none⟩) (max n 1) (max n 1)) ∧ Below w.heap.size w w' ∧ SrcAt w' w.heap.size (max n 1) (fun i => if n = 0 then exB 0 else exB (sel i)) := by
  rcases Nat.eq_zero_or_pos n with rfl | hpos
  · simpa using sources_none ao cap w
  · obtain ⟨b, off, rfl, hb, hs⟩ := h.2 hpos
    have := sources_some b off n cap sel hpos hn w hb hs
    rw [Nat.max_eq_left hpos]
    have hne : n ≠ 0 := by omega
    simpa [hne] using this

end Go.Proofs.YbulkcssoFmt
