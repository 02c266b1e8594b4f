/- The generator PCG (128 bits of state, DXSM) by itself: its state goes through all 2^128 numbers, and its output comes to every value. No Go in sight. -/
namespace Go.Proofs.YbulkcssoFmt.Pcg

/-- The unreduced step, k times. -/
def it (a c : Nat) : Nat → Nat → Nat
  | 0, u => u
  | k + 1, u => it a c k (a * u + c)
theorem it_add (a c : Nat) : ∀ j k u, it a c (j + k) u = it a c k (it a c j u)
  | 0, k, u => by rw [Nat.zero_add]; rfl
  | j + 1, k, u => by rw [Nat.succ_add]; exact it_add a c j k _

theorem double (P α γ u : Nat) :
    (1 + 4 * P * α) * ((1 + 4 * P * α) * u + P * (2 * γ + 1)) + P * (2 * γ + 1) =
      (1 + 4 * (2 * P) * (α + 2 * P * (α * α))) * u + 2 * P * (2 * (γ + P * α * (2 * γ + 1)) + 1) := by
  grind

/-- 2^e steps at once. -/
theorem it_pow (a c : Nat) (ha : a % 4 = 1) (hc : c % 2 = 1) : ∀ e, ∃ α γ, ∀ u, it a c (2 ^ e) u = (1 + 4 * 2 ^ e * α) * u + 2 ^ e * (2 * γ + 1)
  | 0 => ⟨a / 4, c / 2, fun u => by
      show a * u + c = _
      have e1 : 1 + 4 * 2 ^ 0 * (a / 4) = a := by simp; omega
      have e2 : 2 ^ 0 * (2 * (c / 2) + 1) = c := by simp; omega
      rw [e1, e2]⟩
  | e + 1 => by
    obtain ⟨α, γ, h⟩ := it_pow a c ha hc e
    refine ⟨α + 2 * 2 ^ e * (α * α), γ + 2 ^ e * α * (2 * γ + 1), fun u => ?_⟩
    have e2 : 2 ^ (e + 1) = 2 ^ e + 2 ^ e := by rw [Nat.pow_succ]; omega
    rw [e2, it_add, h, h, double, show 2 ^ e + 2 ^ e = 2 * 2 ^ e by omega]

theorem split_mod (P x t : Nat) (hP : 0 < P) (h : x % P = t % P) : x % (2 * P) = t % (2 * P) ∨ (x + P) % (2 * P) = t % (2 * P) := by
  rw [Nat.mul_comm 2 P, Nat.mod_mul, Nat.mod_mul, Nat.mod_mul, Nat.add_div_right _ hP, Nat.add_mod_right, h]
  have e : ∀ a b : Nat, a % 2 = b % 2 → t % P + P * (a % 2) = t % P + P * (b % 2) := fun a b hab => by rw [hab]
  rcases (show x / P % 2 = t / P % 2 ∨ (x / P).succ % 2 = t / P % 2 by omega) with h' | h'
  · exact .inl (e _ _ h')
  · exact .inr (e _ _ h')
theorem it_congr (a c m : Nat) : ∀ k u v, u % m = v % m → it a c k u % m = it a c k v % m
  | 0, _, _, h => h
  | k + 1, u, v, h => it_congr a c m k _ _ (by rw [Nat.add_mod, Nat.mul_mod, h, ← Nat.mul_mod, ← Nat.add_mod])

/-- Every residue is come to. -/
theorem reach_mod (a c : Nat) (ha : a % 4 = 1) (hc : c % 2 = 1) : ∀ e u t, ∃ k, it a c k u % 2 ^ e = t % 2 ^ e
  | 0, u, t => ⟨0, by simp [Nat.mod_one]⟩
  | e + 1, u, t => by
    obtain ⟨k, hk⟩ := reach_mod a c ha hc e u t
    obtain ⟨α, γ, hp⟩ := it_pow a c ha hc e
    have e2 : 2 ^ (e + 1) = 2 * 2 ^ e := by rw [Nat.pow_succ]; omega
    have hstep : it a c (k + 2 ^ e) u % (2 * 2 ^ e) = (it a c k u + 2 ^ e) % (2 * 2 ^ e) := by
      rw [it_add, hp]
      have : (1 + 4 * 2 ^ e * α) * it a c k u + 2 ^ e * (2 * γ + 1) = (it a c k u + 2 ^ e) + (2 * 2 ^ e) * (2 * α * it a c k u + γ) := by grind
      rw [this, Nat.add_mul_mod_self_left]
    rw [e2]
    rcases split_mod (2 ^ e) (it a c k u) t (Nat.pow_pos (by decide)) hk with h | h
    · exact ⟨k, h⟩
    · exact ⟨k + 2 ^ e, hstep.trans h⟩

/-! ### The reduced step, whatever the numbers -/
def nx (a c m s : Nat) : Nat := (a * s + c) % m
theorem nx_lt (a c m s : Nat) (hm : 0 < m) : nx a c m s < m := Nat.mod_lt _ hm
def itm (a c m : Nat) : Nat → Nat → Nat
  | 0, s => s
  | k + 1, s => itm a c m k (nx a c m s)
theorem itm_add (a c m : Nat) : ∀ j k s, itm a c m (j + k) s = itm a c m k (itm a c m j s)
  | 0, k, s => by rw [Nat.zero_add]; rfl
  | j + 1, k, s => by rw [Nat.succ_add]; exact itm_add a c m j k _
theorem itm_mod (a c m : Nat) (hm : 0 < m) : ∀ k s, s < m → itm a c m k s = it a c k s % m
  | 0, s, h => (Nat.mod_eq_of_lt h).symm
  | k + 1, s, h => by
    show itm a c m k (nx a c m s) = it a c k (a * s + c) % m
    rw [itm_mod a c m hm k _ (nx_lt a c m s hm)]
    exact it_congr a c m k _ _ (Nat.mod_mod _ _)
theorem itm_lt (a c m : Nat) (hm : 0 < m) : ∀ k s, s < m → itm a c m k s < m
  | 0, _, h => h
  | k + 1, s, _ => itm_lt a c m hm k _ (nx_lt a c m s hm)
theorem reach_gen (a c e : Nat) (ha : a % 4 = 1) (hc : c % 2 = 1) (s t : Nat) (ht : t < 2 ^ e) : ∃ k, 1 ≤ k ∧ itm a c (2 ^ e) k s = t := by
  have hm : 0 < 2 ^ e := Nat.pow_pos (by decide)
  obtain ⟨k, hk⟩ := reach_mod a c ha hc e (nx a c (2 ^ e) s) t
  refine ⟨k + 1, Nat.le_add_left _ _, ?_⟩
  show itm a c (2 ^ e) k (nx a c (2 ^ e) s) = t
  rw [itm_mod a c (2 ^ e) hm k _ (nx_lt a c (2 ^ e) s hm), hk, Nat.mod_eq_of_lt ht]

/-! ### The output -/
def X (k v : Nat) : Nat := v ^^^ (v >>> k)
theorem X_lt {k v : Nat} (h : v < 2 ^ 64) : X k v < 2 ^ 64 :=
  Nat.xor_lt_two_pow h (Nat.lt_of_le_of_lt (by rw [Nat.shiftRight_eq_div_pow]; exact Nat.div_le_self _ _) h)
theorem X_X {k v : Nat} (h : v < 2 ^ 64) (hk : 32 ≤ k) : X k (X k v) = v := by
  have h0 : (v >>> k) >>> k = 0 := by
    rw [← Nat.shiftRight_add, Nat.shiftRight_eq_div_pow]
    exact Nat.div_eq_of_lt (Nat.lt_of_lt_of_le h (Nat.pow_le_pow_right (by decide) (by omega)))
  unfold X
  rw [Nat.shiftRight_xor_distrib, h0, Nat.xor_zero, Nat.xor_assoc, Nat.xor_self, Nat.xor_zero]
def outp (hi lo : Nat) : Nat := X 48 (X 32 hi * 15750249268501108917 % 18446744073709551616) * (lo ||| 1) % 18446744073709551616
theorem outp_lt (hi lo : Nat) : outp hi lo < 18446744073709551616 := Nat.mod_lt _ (by decide)
/-- Every word comes out, of a state whose low word is 0. -/
theorem outp_onto (y : Nat) (hy : y < 18446744073709551616) : ∃ hi, hi < 18446744073709551616 ∧ outp hi 0 = y := by
  have hK : (18446744073709551616 : Nat) = 2 ^ 64 := by decide
  obtain ⟨z, hz⟩ : ∃ z, z = X 48 y * 10053033838670173597 % 18446744073709551616 := ⟨_, rfl⟩
  have hz1 : z < 2 ^ 64 := by rw [hz, ← hK]; exact Nat.mod_lt _ (by decide)
  refine ⟨X 32 z, by rw [hK]; exact X_lt hz1, ?_⟩
  have h48 : X 48 y < 2 ^ 64 := X_lt (by rw [← hK]; exact hy)
  have hmul : z * 15750249268501108917 % 18446744073709551616 = X 48 y := by
    rw [hz, Nat.mod_mul_mod, Nat.mul_assoc, show 10053033838670173597 * 15750249268501108917 = 1 + 18446744073709551616 * 8583508733630456228 from by decide, Nat.mul_add, Nat.mul_one, ← Nat.mul_assoc, Nat.mul_comm (X 48 y) 18446744073709551616, Nat.mul_assoc, Nat.add_mul_mod_self_left]
    exact Nat.mod_eq_of_lt (by rw [hK]; exact h48)
  unfold outp
  rw [X_X hz1 (by decide), hmul, X_X (by rw [← hK]; exact hy) (by decide), Nat.zero_or, Nat.mul_one]
  exact Nat.mod_eq_of_lt hy

/-! ### The generator's own numbers -/
def nxt (s : Nat) : Nat := nx 47026247687942121848144207491837523525 117397592171526113268558934119004209487 340282366920938463463374607431768211456 s
def iter (k s : Nat) : Nat := itm 47026247687942121848144207491837523525 117397592171526113268558934119004209487 340282366920938463463374607431768211456 k s
theorem iter_add (j k s : Nat) : iter (j + k) s = iter k (iter j s) := itm_add _ _ _ j k s
theorem iter_one (s : Nat) : iter 1 s = nxt s := by unfold iter nxt; rw [itm, itm]
theorem iter_succ (k s : Nat) : iter (k + 1) s = nxt (iter k s) := by rw [iter_add, iter_one]
theorem nxt_lt (s : Nat) : nxt s < 340282366920938463463374607431768211456 := nx_lt _ _ _ s (by decide)
def word (s : Nat) : Nat := outp (s / 18446744073709551616) (s % 18446744073709551616)
def val (s : Nat) : Nat := word s * 10000 / 18446744073709551616
def low (s : Nat) : Nat := word s * 10000 % 18446744073709551616
def Acc (s : Nat) : Prop := 1616 ≤ low s
theorem val_lt (s : Nat) : val s < 10000 := by
  have := outp_lt (s / 18446744073709551616) (s % 18446744073709551616)
  unfold val word
  omega
/-- FULL PERIOD. -/
theorem reach (s t : Nat) (ht : t < 340282366920938463463374607431768211456) : ∃ k, 1 ≤ k ∧ iter k s = t :=
  reach_gen 47026247687942121848144207491837523525 117397592171526113268558934119004209487 128 (by decide) (by decide) s t ht
/-- Each of the 10000 values is drawn at some state that is accepted. -/
theorem target (x : Nat) (hx : x < 10000) : ∃ t, t < 340282366920938463463374607431768211456 ∧ Acc t ∧ val t = x := by
  obtain ⟨y, hy⟩ : ∃ y, y = x * 18446744073709551616 / 10000 + 2 := ⟨_, rfl⟩
  obtain ⟨hi, hhi, ho⟩ := outp_onto y (by omega)
  have hw : word (hi * 18446744073709551616) = y := by
    unfold word
    rw [Nat.mul_div_cancel _ (by decide), Nat.mul_mod_left]
    exact ho
  obtain ⟨r, hr, r0, r1⟩ : ∃ r, y * 10000 = 18446744073709551616 * x + r ∧ 10000 ≤ r ∧ r ≤ 20000 := ⟨y * 10000 - 18446744073709551616 * x, by omega, by omega, by omega⟩
  refine ⟨hi * 18446744073709551616, by omega, ?_, ?_⟩
  · unfold Acc low
    rw [hw, hr, Nat.mul_add_mod, Nat.mod_eq_of_lt (by omega)]
    omega
  · unfold val
    rw [hw, hr, Nat.mul_add_div (by decide), Nat.div_eq_of_lt (by omega)]
    rfl
/-- What one call of IntN(10000) does to the state. -/
def Drawn (s s' : Nat) : Prop := ∃ j, 1 ≤ j ∧ s' = iter j s ∧ Acc s' ∧ ∀ i, 1 ≤ i → i < j → ¬ Acc (iter i s)
/-- A goal that is g steps away and accepted: the draw comes to it, or stays ahead of it. -/
theorem Drawn.goal {s s' g t : Nat} (h : Drawn s s') (hg : 1 ≤ g) (ht : iter g s = t) (ha : Acc t) : s' = t ∨ ∃ g', 1 ≤ g' ∧ g' < g ∧ iter g' s' = t := by
  obtain ⟨j, hj, rfl, _, hno⟩ := h
  rcases Nat.lt_trichotomy j g with hlt | rfl | hgt
  · refine .inr ⟨g - j, by omega, by omega, ?_⟩
    rw [← iter_add, show j + (g - j) = g by omega]
    exact ht
  · exact .inl ht
  · exact absurd (ht ▸ ha) (hno g hg hgt)

end Go.Proofs.YbulkcssoFmt.Pcg
