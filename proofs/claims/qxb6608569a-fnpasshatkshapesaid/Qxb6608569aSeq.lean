import Derived.Test.Qxb6608569aOps
namespace Go.Proofs.Qxb6608569a

/-! ### Whole numbers as floats, and their quotients -/
def one : Nat := 1023 * 2 ^ 52
theorem one_lt : one < 2047 * 2 ^ 52 := by decide
theorem U_one : ∃ K : Nat, K = 1074 ∧ U one = 2 ^ K := by
  have h1 : ¬ one < 2 ^ 52 := by decide
  have h2 : one % 2 ^ 52 = 0 := by decide
  have h3 : 52 + (one / 2 ^ 52 - 1) = 1074 := by decide
  refine ⟨52 + (one / 2 ^ 52 - 1), h3, ?_⟩
  unfold U
  rw [if_neg h1, h2, Nat.add_zero, Nat.pow_add]
theorem U_zero : U 0 = 0 := by
  have : (0 : Nat) < 2 ^ 52 := by decide
  unfold U; rw [if_pos this]
theorem near_one : near 1 0 = one := by
  obtain ⟨K, hK, e⟩ := U_one
  have h := near_U one one_lt
  rw [e, ← Nat.one_mul (2 ^ K), near_scale, show (-1074 : Int) + (K : Int) = 0 by omega] at h
  exact h

/-- float64(c), c a whole number from 1 to 65536: its rung, and what it stands for. -/
theorem whole_read (c : Nat) (h1 : 1 ≤ c) (h2 : c ≤ 65536) :
    near c 0 < 2047 * 2 ^ 52 ∧ c.log2 ≤ 16 ∧ Ieee.double.read (near c 0) = .number false (c * 2 ^ (52 - c.log2)) ((c.log2 : Int) - 52) ∧ (c * 2 ^ (52 - c.log2)).log2 = 52 := by
  have hc : c ≠ 0 := by omega
  have l16 : c.log2 ≤ 16 := by
    have : c.log2 < 17 := by rw [Nat.log2_lt hc]; exact Nat.lt_of_le_of_lt h2 (by decide)
    omega
  have el : lastOf c 0 = (c.log2 : Int) - 52 := by unfold lastOf; omega
  have lg : (c * 2 ^ (52 - c.log2)).log2 = 52 := by rw [log2_mul_pow _ _ hc]; omega
  have m0 : c * 2 ^ (52 - c.log2) ≠ 0 := by intro e; rw [e] at lg; simp at lg
  have lo : 2 ^ 52 ≤ c * 2 ^ (52 - c.log2) := by rw [← Nat.le_log2 m0]; omega
  have hi : c * 2 ^ (52 - c.log2) < 2 ^ 53 := by rw [← Nat.log2_lt m0]; omega
  have en : near c 0 = (c.log2 + 1022) * 2 ^ 52 + c * 2 ^ (52 - c.log2) := by
    rw [near_eq c 0 hc, el]
    have s1 : ((c.log2 : Int) - 52 + 1074).toNat = c.log2 + 1022 := by omega
    have s2 : (0 - ((c.log2 : Int) - 52)).toNat = 52 - c.log2 := by omega
    have s3 : ((c.log2 : Int) - 52 - 0).toNat = 0 := by omega
    rw [s1, s2, s3, Nat.pow_zero, rhe_one]
    omega
  generalize hM : c * 2 ^ (52 - c.log2) = M at *
  have hlt : near c 0 < 2047 * 2 ^ 52 := by rw [en]; omega
  refine ⟨hlt, l16, ?_, lg⟩
  have e1 : (near c 0 / 2 ^ 63 % 2 == 1) = false := by
    have : near c 0 / 2 ^ 63 = 0 := Nat.div_eq_of_lt (by omega)
    rw [this]; rfl
  have e2 : near c 0 % 2 ^ 63 = near c 0 := Nat.mod_eq_of_lt (by omega)
  unfold Ieee.Format.read
  dsimp only
  have q : near c 0 / 2 ^ 52 - 1 = c.log2 + 1022 := by omega
  have r : 2 ^ 52 + near c 0 % 2 ^ 52 = M := by omega
  have k : -1074 + ((c.log2 + 1022 : Nat) : Int) = (c.log2 : Int) - 52 := by omega
  rw [sign_eq, binade_eq, inf_eq, least_eq, e1, e2, if_neg (by omega), if_pos hlt, q, r, k]

theorem ofInt_eq (c : Nat) : floatOfInt .f64 (c : Int) = near c 0 := by
  show Ieee.double.write (.number (decide ((c : Int) < 0)) (c : Int).natAbs 0) = _
  have : decide ((c : Int) < 0) = false := by rw [decide_eq_false_iff_not]; omega
  rw [this]
  rfl

/-- c / n in float64. -/
def divR (c n : Nat) : Nat := near (stk (c * 2 ^ (54 + n.log2)) n) (-(n.log2 : Int) - 55)

theorem div_eq (c n : Nat) (hc1 : 1 ≤ c) (hc2 : c ≤ 65536) (hn1 : 1 ≤ n) (hn2 : n ≤ 65536) : floatBits .quo .f64 (near c 0) (near n 0) = some (divR c n) := by
  obtain ⟨_, lc, rc, gc⟩ := whole_read c hc1 hc2
  obtain ⟨_, ln, rn, gn⟩ := whole_read n hn1 hn2
  show Ieee.double.div (near c 0) (near n 0) = _
  unfold Ieee.Format.div
  rw [rc, rn]
  have hn0 : n * 2 ^ (52 - n.log2) ≠ 0 := by intro e; rw [e] at gn; simp at gn
  unfold Ieee.Datum.quotient
  dsimp only
  rw [if_neg hn0, gc, gn, Nat.shiftLeft_eq]
  have ef : Ieee.double.fractionBits + 2 + 52 - 52 = 54 := rfl
  rw [ef]
  show some (near (stk (c * 2 ^ (52 - c.log2) * 2 ^ 54) (n * 2 ^ (52 - n.log2))) ((c.log2 : Int) - 52 - ((n.log2 : Int) - 52) - (54 : Nat) - 1)) = _
  have e1 : c * 2 ^ (52 - c.log2) * 2 ^ 54 = c * 2 ^ (54 + n.log2 - c.log2) * 2 ^ (52 - n.log2) := by
    rw [Nat.mul_assoc, Nat.mul_assoc, ← Nat.pow_add, ← Nat.pow_add]; congr 2; omega
  rw [e1, stk_cancel _ _ _ (Nat.two_pow_pos _)]
  have hq : 2 ^ 53 ≤ c * 2 ^ (54 + n.log2 - c.log2) / n := by
    rw [Nat.le_div_iff_mul_le (by omega)]
    have a1 : 2 ^ c.log2 ≤ c := Nat.log2_self_le (by omega)
    have a2 : n < 2 ^ (n.log2 + 1) := Nat.lt_log2_self
    have b1 : 2 ^ c.log2 * 2 ^ (54 + n.log2 - c.log2) ≤ c * 2 ^ (54 + n.log2 - c.log2) := Nat.mul_le_mul_right _ a1
    rw [← Nat.pow_add, show c.log2 + (54 + n.log2 - c.log2) = 53 + (n.log2 + 1) by omega, Nat.pow_add] at b1
    exact Nat.le_trans (Nat.mul_le_mul_left _ (Nat.le_of_lt a2)) b1
  rw [near_stk _ n c.log2 _ (by omega) hq]
  unfold divR
  rw [Nat.mul_assoc, ← Nat.pow_add, show 54 + n.log2 - c.log2 + c.log2 = 54 + n.log2 by omega]
  congr 2
  omega

theorem divR_mono (c c' n : Nat) (h : c ≤ c') : divR c n ≤ divR c' n := near_mono _ _ _ (stk_mono _ _ _ (Nat.mul_le_mul_right _ h))
theorem divR_self (n : Nat) (hn : 1 ≤ n) : divR n n = one := by
  unfold divR stk
  rw [Nat.mul_div_cancel_left _ (by omega), Nat.mul_mod_right]
  have e : 2 * 2 ^ (54 + n.log2) + ((0 : Nat) != 0).toNat = 1 * 2 ^ (55 + n.log2) := by
    have : 2 ^ (55 + n.log2) = 2 * 2 ^ (54 + n.log2) := by rw [show 55 + n.log2 = 54 + n.log2 + 1 by omega, Nat.pow_succ]; omega
    rw [this]; simp
  rw [e, near_scale, ← near_one]
  congr 1
  omega
theorem divR_le (c n : Nat) (hn : 1 ≤ n) (h : c ≤ n) : divR c n ≤ one := by
  rw [← divR_self n hn]; exact divR_mono _ _ _ h

/-! ### Products -/
theorem U_mono {a b : Nat} (hb : b < 2047 * 2 ^ 52) (h : a ≤ b) : U a ≤ U b := by
  by_cases e : a = b
  · subst e; exact Nat.le_refl _
  · exact Nat.le_of_lt (U_lt (by omega) hb (by omega))
theorem mulR_mono {x x' y y' : Nat} (hx : x' < 2047 * 2 ^ 52) (hy : y' < 2047 * 2 ^ 52) (h1 : x ≤ x') (h2 : y ≤ y') : mulR x y ≤ mulR x' y' :=
  near_mono _ _ _ (Nat.mul_le_mul (U_mono hx h1) (U_mono hy h2))
theorem mulR_one (x : Nat) (hx : x < 2047 * 2 ^ 52) : mulR x one = x := by
  obtain ⟨K, hK, e⟩ := U_one
  unfold mulR
  rw [e, near_scale, show (-2148 : Int) + (K : Int) = -1074 by omega]
  exact near_U x hx
theorem one_mulR (x : Nat) (hx : x < 2047 * 2 ^ 52) : mulR one x = x := by
  unfold mulR
  rw [Nat.mul_comm]
  exact mulR_one x hx
theorem mulR_le (x f : Nat) (hx : x < 2047 * 2 ^ 52) (hf : f ≤ one) : mulR x f ≤ x := by
  have := mulR_mono (x := x) (y := f) hx one_lt (Nat.le_refl _) hf
  rw [mulR_one x hx] at this
  exact this

/-! ### Sums -/
def dbl (p : Nat) : Nat := if p < 2 ^ 52 then 2 * p else p + 2 ^ 52
theorem U_dbl (p : Nat) : U (dbl p) = 2 * U p := by
  unfold dbl
  by_cases h : p < 2 ^ 52
  · rw [if_pos h]
    unfold U
    rw [if_pos h]
    by_cases h2 : 2 * p < 2 ^ 52
    · rw [if_pos h2]
    · rw [if_neg h2]
      have e1 : 2 * p / 2 ^ 52 - 1 = 0 := by omega
      have e2 : 2 ^ 52 + 2 * p % 2 ^ 52 = 2 * p := by omega
      rw [e1, e2, Nat.pow_zero, Nat.mul_one]
  · rw [if_neg h]
    unfold U
    rw [if_neg h, if_neg (by omega)]
    have e1 : (p + 2 ^ 52) / 2 ^ 52 - 1 = p / 2 ^ 52 - 1 + 1 := by omega
    have e2 : (p + 2 ^ 52) % 2 ^ 52 = p % 2 ^ 52 := by omega
    rw [e1, e2, Nat.pow_add, Nat.pow_one, ← Nat.mul_assoc, Nat.mul_comm _ 2]
theorem dbl_lt (p : Nat) (h : p ≤ one) : dbl p < 2047 * 2 ^ 52 := by
  unfold one at h
  unfold dbl
  split <;> omega
theorem addR_zero (p : Nat) (hp : p < 2047 * 2 ^ 52) : addR 0 p = p := by
  unfold addR
  rw [U_zero, Nat.zero_add]
  exact near_U p hp
theorem addR_self (p : Nat) (hp : p ≤ one) : addR p p = dbl p := by
  unfold addR
  rw [← Nat.two_mul, ← U_dbl]
  exact near_U _ (dbl_lt p hp)

theorem two_read : Ieee.double.read (near 2 0) = .number false (2 ^ 52) (-51) := by
  have h := (whole_read 2 (by decide) (by decide)).2.2.1
  have l : Nat.log2 2 = 1 := by decide
  rw [l] at h
  rw [h]
  rfl

/-- (p + p) / 2 is p. -/
theorem half_eq (p : Nat) (hp : p ≤ one) : floatBits .quo .f64 (dbl p) (near 2 0) = some p := by
  obtain ⟨m, k, e1, u1, hm⟩ := read_eq (dbl p) (dbl_lt p hp)
  have hl : m.log2 ≤ 52 := by
    by_cases h0 : m = 0
    · subst h0; decide
    · have : m.log2 < 53 := by rw [Nat.log2_lt h0]; exact hm
      omega
  show Ieee.double.div (dbl p) (near 2 0) = _
  unfold Ieee.Format.div
  rw [e1, two_read]
  unfold Ieee.Datum.quotient
  dsimp only
  rw [if_neg (by decide)]
  have ef : Ieee.double.fractionBits + 2 + (2 ^ 52 : Nat).log2 - m.log2 = (54 - m.log2) + 52 := by
    have : (2 ^ 52 : Nat).log2 = 52 := by decide
    rw [this]
    show 52 + 2 + 52 - m.log2 = _
    omega
  rw [ef, Nat.shiftLeft_eq, Nat.pow_add, ← Nat.mul_assoc, Nat.mul_div_cancel _ (by decide), Nat.mul_mod_left]
  show some (near (2 * (m * 2 ^ (54 - m.log2)) + 0) (-1074 + (k : Int) - -51 - ((54 - m.log2 + 52 : Nat) : Int) - 1)) = _
  congr 1
  have e2 : 2 * (m * 2 ^ (54 - m.log2)) + 0 = m * 2 ^ (54 - m.log2 + 1) := by rw [Nat.pow_succ, Nat.add_zero]; ac_rfl
  rw [e2, near_scale]
  have e3 : (-1074 + (k : Int) - -51 - ((54 - m.log2 + 52 : Nat) : Int) - 1 + ((54 - m.log2 + 1 : Nat) : Int)) = -1075 + (k : Int) := by omega
  rw [e3, ← near_scale, ← u1, U_dbl, Nat.mul_comm, ← Nat.pow_one 2, near_scale]
  exact near_U p (Nat.lt_of_le_of_lt hp one_lt)


/-! ### The figures of PassHatK: X n c k is the product behind k factors -/
def X (n c : Nat) : Nat → Nat
  | 0 => one
  | k + 1 => mulR (X n c k) (divR (c - k) (n - k))

theorem X_le_one (n c : Nat) (hcn : c ≤ n) : ∀ k, k ≤ c → X n c k ≤ one
  | 0, _ => Nat.le_refl _
  | k + 1, h => by
    have ih := X_le_one n c hcn k (by omega)
    exact Nat.le_trans (mulR_le _ _ (Nat.lt_of_le_of_lt ih one_lt) (divR_le _ _ (by omega) (by omega))) ih
theorem X_lt (n c : Nat) (hcn : c ≤ n) (k : Nat) (h : k ≤ c) : X n c k < 2047 * 2 ^ 52 := Nat.lt_of_le_of_lt (X_le_one n c hcn k h) one_lt
theorem divR_lt (c n : Nat) (hn : 1 ≤ n) (h : c ≤ n) : divR c n < 2047 * 2 ^ 52 := Nat.lt_of_le_of_lt (divR_le c n hn h) one_lt
theorem X_step (n c : Nat) (hcn : c ≤ n) (k : Nat) (h : k < c) : X n c (k + 1) ≤ X n c k :=
  mulR_le _ _ (X_lt n c hcn k (by omega)) (divR_le _ _ (by omega) (by omega))
theorem X_first (n c : Nat) (hcn : c ≤ n) (h : 1 ≤ c) : X n c 1 = divR c n := one_mulR _ (divR_lt c n (by omega) hcn)
theorem X_full (n : Nat) : ∀ k, k ≤ n → X n n k = one
  | 0, _ => rfl
  | k + 1, h => by
    show mulR (X n n k) (divR (n - k) (n - k)) = one
    rw [X_full n k (by omega), divR_self _ (by omega)]
    exact mulR_one _ one_lt
theorem X_mono (n c c' : Nat) (hcc : c ≤ c') (hcn : c' ≤ n) : ∀ k, k ≤ c → X n c k ≤ X n c' k
  | 0, _ => Nat.le_refl _
  | k + 1, h => mulR_mono (X_lt n c' hcn k (by omega)) (divR_lt _ _ (by omega) (by omega)) (X_mono n c c' hcc hcn k (by omega)) (divR_mono _ _ _ (by omega))

/-- p[j]. -/
def fig (n c j : Nat) : Nat := if j < c then X n c (j + 1) else 0
theorem fig_lt (n c : Nat) (hcn : c ≤ n) (j : Nat) : fig n c j ≤ one := by
  unfold fig
  split
  · exact X_le_one n c hcn _ (by omega)
  · exact Nat.zero_le _

end Go.Proofs.Qxb6608569a
