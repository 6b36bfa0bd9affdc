import Derived.WalkKit
import Derived.WalkLawsBesides
import Derived.Laws.FloatArith
namespace Go.Proofs.Qxb6608569a
/-! THE PLAIN LAWS OF float64 THAT THE TWO STATEMENTS LEAN ON: no Go text in sight. A finite number that is not negative is its own rung (a Nat below 'inf'); rounding is one-to-one on the format's own numbers and never turns an order round. -/

/-- n / g, to the nearest, ties to even. -/
def rhe (n g : Nat) : Nat := n / g + (if g < 2 * (n % g) ∨ (g = 2 * (n % g) ∧ n / g % 2 = 1) then 1 else 0)

theorem rhe_ge (n g : Nat) : n / g ≤ rhe n g := Nat.le_add_right _ _
theorem rhe_le (n g : Nat) : rhe n g ≤ n / g + 1 := by unfold rhe; split <;> omega

theorem rhe_mono (n n' g : Nat) (h : n ≤ n') : rhe n g ≤ rhe n' g := by
  have hq : n / g ≤ n' / g := Nat.div_le_div_right h
  by_cases e : n / g = n' / g
  · have hr : n % g ≤ n' % g := by
      have h1 := Nat.div_add_mod n g
      have h2 := Nat.div_add_mod n' g
      rw [e] at h1
      omega
    unfold rhe
    rw [e]
    by_cases c : g < 2 * (n % g) ∨ (g = 2 * (n % g) ∧ n' / g % 2 = 1)
    · rw [if_pos c, if_pos (by omega)]; exact Nat.le_refl _
    · rw [if_neg c]; omega
  · have := rhe_le n g
    have := rhe_ge n' g
    omega

theorem rhe_mul (n g c : Nat) (hc : 0 < c) : rhe (n * c) (g * c) = rhe n g := by
  unfold rhe
  rw [Nat.mul_div_mul_right _ _ hc, Nat.mul_mod_mul_right, ← Nat.mul_assoc]
  have e1 : g * c < 2 * (n % g) * c ↔ g < 2 * (n % g) := Nat.mul_lt_mul_right hc
  have e2 : g * c = 2 * (n % g) * c ↔ g = 2 * (n % g) := ⟨fun h => Nat.eq_of_mul_eq_mul_right hc h, fun h => by rw [← h]⟩
  simp only [e1, e2]

theorem rhe_one (n : Nat) : rhe n 1 = n := by
  unfold rhe
  rw [Nat.mod_one, Nat.div_one, if_neg (by omega)]; rfl

theorem rhe_exact (n g : Nat) (hg : 0 < g) : rhe (n * g) g = n := by
  have := rhe_mul n 1 g hg
  rw [Nat.one_mul, rhe_one] at this
  exact this

theorem rhe_small (n g : Nat) (h : 2 * n < g) : rhe n g = 0 := by
  unfold rhe
  rw [Nat.div_eq_of_lt (by omega), Nat.mod_eq_of_lt (by omega), if_neg (by omega)]

theorem cut_eq (neg : Bool) (n d : Nat) : Ieee.Toward.even.cut neg n d = rhe n (2 ^ d) := by
  have key : ∀ g, (n / g + (decide (g < 2 * (n % g)) || (g == 2 * (n % g) && n / g % 2 == 1)).toNat) = rhe n g := by
    intro g
    unfold rhe
    by_cases c : g < 2 * (n % g) ∨ (g = 2 * (n % g) ∧ n / g % 2 = 1)
    · rw [if_pos c]
      have : (decide (g < 2 * (n % g)) || (g == 2 * (n % g) && n / g % 2 == 1)) = true := by simpa using c
      rw [this]; rfl
    · rw [if_neg c]
      have : (decide (g < 2 * (n % g)) || (g == 2 * (n % g) && n / g % 2 == 1)) = false := by
        rw [Bool.eq_false_iff]; simpa using c
      rw [this]; rfl
  have e : Ieee.Toward.even.cut neg n d = rhe n (1 <<< min d (n.log2 + 2)) := key _
  rw [e, Nat.one_shiftLeft]
  by_cases h : d ≤ n.log2 + 2
  · rw [Nat.min_eq_left h]
  · rw [Nat.min_eq_right (by omega)]
    have h1 : n < 2 ^ (n.log2 + 1) := Nat.lt_log2_self
    have h2 : 2 ^ (n.log2 + 2) = 2 * 2 ^ (n.log2 + 1) := by rw [Nat.pow_succ]; omega
    have h3 : 2 ^ (n.log2 + 2) ≤ 2 ^ d := Nat.pow_le_pow_right (by omega) (by omega)
    rw [rhe_small _ _ (by omega), rhe_small _ _ (by omega)]


/-! ### The nearest rung -/
theorem least_eq : Ieee.double.leastPlace = -1074 := by decide
theorem binade_eq : Ieee.double.binade = 2 ^ 52 := rfl
theorem inf_eq : Ieee.double.infRung = 2047 * 2 ^ 52 := rfl

/-- The rung nearest to m * 2 ^ p. -/
def near (m : Nat) (p : Int) : Nat := Ieee.double.nearest false m p
/-- The place of the last digit that is kept. -/
def lastOf (m : Nat) (p : Int) : Int := max (p + (m.log2 : Int) - 52) (-1074)

theorem near_zero (p : Int) : near 0 p = 0 := by
  unfold near Ieee.Format.nearest; rfl

theorem word_false (r : Nat) : Ieee.double.word false r = r := by
  unfold Ieee.Format.word; rw [if_neg (by decide)]

theorem near_eq (m : Nat) (p : Int) (hm : m ≠ 0) :
    near m p = min ((lastOf m p + 1074).toNat * 2 ^ 52 + rhe (m * 2 ^ (p - lastOf m p).toNat) (2 ^ (lastOf m p - p).toNat)) (2047 * 2 ^ 52) := by
  have e : (Ieee.double.fractionBits : Int) = 52 := rfl
  have el : max (p + (m.log2 : Int) - (Ieee.double.fractionBits : Int)) Ieee.double.leastPlace = lastOf m p := by
    rw [e, least_eq]; rfl
  unfold near Ieee.Format.nearest
  rw [if_neg hm]
  dsimp only
  rw [el, word_false, cut_eq, Nat.shiftLeft_eq, least_eq, binade_eq, inf_eq, Int.sub_neg]

theorem near_le_inf (m : Nat) (p : Int) : near m p ≤ 2047 * 2 ^ 52 := by
  by_cases h : m = 0
  · subst h; rw [near_zero]; omega
  · rw [near_eq m p h]; exact Nat.min_le_right _ _

theorem log2_mul_pow (m k : Nat) (hm : m ≠ 0) : (m * 2 ^ k).log2 = m.log2 + k := by
  have h0 : m * 2 ^ k ≠ 0 := Nat.mul_ne_zero hm (Nat.ne_of_gt (Nat.two_pow_pos k))
  have a1 : 2 ^ m.log2 ≤ m := Nat.log2_self_le hm
  have a2 : m < 2 ^ (m.log2 + 1) := Nat.lt_log2_self
  have b1 : m.log2 + k ≤ (m * 2 ^ k).log2 := by
    rw [Nat.le_log2 h0, Nat.pow_add]
    exact Nat.mul_le_mul_right _ a1
  have b2 : (m * 2 ^ k).log2 < m.log2 + 1 + k := by
    rw [Nat.log2_lt h0, Nat.pow_add]
    exact Nat.mul_lt_mul_of_pos_right a2 (Nat.two_pow_pos k)
  omega

/-- The value alone counts: m * 2 ^ k at place p is m at place p + k. -/
theorem near_scale (m k : Nat) (p : Int) : near (m * 2 ^ k) p = near m (p + k) := by
  by_cases hm : m = 0
  · subst hm; rw [Nat.zero_mul, near_zero, near_zero]
  have h0 : m * 2 ^ k ≠ 0 := Nat.mul_ne_zero hm (Nat.ne_of_gt (Nat.two_pow_pos k))
  have el : lastOf (m * 2 ^ k) p = lastOf m (p + k) := by
    unfold lastOf; rw [log2_mul_pow m k hm]; congr 1; omega
  rw [near_eq _ _ h0, near_eq _ _ hm, el]
  congr 2
  generalize lastOf m (p + k) = l
  by_cases h1 : l ≤ p
  · have e1 : (l - p).toNat = 0 := by omega
    have e2 : (l - (p + k)).toNat = 0 := by omega
    have e3 : (p + k - l).toNat = k + (p - l).toNat := by omega
    rw [e1, e2, e3, Nat.pow_zero, rhe_one, rhe_one, Nat.pow_add, Nat.mul_assoc]
  · by_cases h2 : p + k ≤ l
    · have e1 : (l - p).toNat = (l - (p + k)).toNat + k := by omega
      have e2 : (p - l).toNat = 0 := by omega
      have e3 : (p + k - l).toNat = 0 := by omega
      rw [e1, e2, e3, Nat.pow_zero, Nat.mul_one, Nat.mul_one, Nat.pow_add, rhe_mul _ _ _ (Nat.two_pow_pos k)]
    · have e1 : k = (p + k - l).toNat + (l - p).toNat := by omega
      have e2 : (p - l).toNat = 0 := by omega
      have e3 : (l - (p + k)).toNat = 0 := by omega
      rw [e2, e3, Nat.pow_zero, Nat.mul_one, rhe_one]
      have e4 : m * 2 ^ k = m * 2 ^ (p + k - l).toNat * 2 ^ (l - p).toNat := by
        rw [Nat.mul_assoc, ← Nat.pow_add, ← e1]
      rw [e4, rhe_exact _ _ (Nat.two_pow_pos _)]

/-- What is kept of m at place p. -/
def kept (m : Nat) (p : Int) : Nat := rhe (m * 2 ^ (p - lastOf m p).toNat) (2 ^ (lastOf m p - p).toNat)

theorem kept_ge (m : Nat) (p : Int) (hm : m ≠ 0) (hl : lastOf m p = p + (m.log2 : Int) - 52) : 2 ^ 52 ≤ kept m p := by
  have b1 : 2 ^ m.log2 ≤ m := Nat.log2_self_le hm
  refine Nat.le_trans ?_ (rhe_ge _ _)
  rw [Nat.le_div_iff_mul_le (Nat.two_pow_pos _), ← Nat.pow_add]
  have hx : 52 + (lastOf m p - p).toNat ≤ m.log2 + (p - lastOf m p).toNat := by omega
  refine Nat.le_trans (Nat.pow_le_pow_right (by decide) hx) ?_
  rw [Nat.pow_add]
  exact Nat.mul_le_mul_right _ b1

theorem kept_le (m : Nat) (p : Int) : kept m p ≤ 2 ^ 53 := by
  have a2 : m < 2 ^ (m.log2 + 1) := Nat.lt_log2_self
  have l3 : p + (m.log2 : Int) - 52 ≤ lastOf m p := by unfold lastOf; omega
  refine Nat.le_trans (rhe_le _ _) ?_
  refine Nat.succ_le_of_lt ?_
  rw [Nat.div_lt_iff_lt_mul (Nat.two_pow_pos _), ← Nat.pow_add]
  refine Nat.lt_of_lt_of_le (Nat.mul_lt_mul_of_pos_right a2 (Nat.two_pow_pos _)) ?_
  rw [← Nat.pow_add]
  have hx : m.log2 + 1 + (p - lastOf m p).toNat ≤ 53 + (lastOf m p - p).toNat := by omega
  exact Nat.pow_le_pow_right (by decide) hx

theorem step_le (d d' x y B : Nat) (h : d < d') (hx : B ≤ x) (hy : y ≤ 2 * B) : d * B + y ≤ d' * B + x := by
  have : (d + 1) * B ≤ d' * B := Nat.mul_le_mul_right _ h
  rw [Nat.add_mul, Nat.one_mul] at this
  omega

/-- Rounding turns no order round. -/
theorem near_mono (m m' : Nat) (p : Int) (h : m ≤ m') : near m p ≤ near m' p := by
  by_cases hm : m = 0
  · subst hm; rw [near_zero]; exact Nat.zero_le _
  have hm' : m' ≠ 0 := by omega
  rw [near_eq m p hm, near_eq m' p hm']
  have hl : m.log2 ≤ m'.log2 := by
    rw [Nat.le_log2 hm']; exact Nat.le_trans (Nat.log2_self_le hm) h
  refine Nat.le_min.2 ⟨Nat.le_trans (Nat.min_le_left _ _) ?_, Nat.min_le_right _ _⟩
  by_cases e : lastOf m p = lastOf m' p
  · rw [e]
    exact Nat.add_le_add_left (rhe_mono _ _ _ (Nat.mul_le_mul_right _ h)) _
  · have l1 : lastOf m p < lastOf m' p := by unfold lastOf at e ⊢; omega
    have l2 : lastOf m' p = p + (m'.log2 : Int) - 52 := by unfold lastOf at l1 ⊢; omega
    have l4 : -1074 ≤ lastOf m p := by unfold lastOf; omega
    have up := kept_ge m' p hm' l2
    have lo := kept_le m p
    have e2 : 2 ^ 53 = 2 * 2 ^ 52 := by decide
    rw [e2] at lo
    have l5 : (lastOf m p + 1074).toNat < (lastOf m' p + 1074).toNat := by clear up lo; omega
    exact step_le _ _ _ _ _ l5 up lo

/-! ### A finite number as a whole number of units 2 ^ -1074 -/
def U (r : Nat) : Nat := if r < 2 ^ 52 then r else (2 ^ 52 + r % 2 ^ 52) * 2 ^ (r / 2 ^ 52 - 1)

/-- The format's own numbers are rounded to themselves. -/
theorem near_U (r : Nat) (h : r < 2047 * 2 ^ 52) : near (U r) (-1074) = r := by
  unfold U
  by_cases h1 : r < 2 ^ 52
  · rw [if_pos h1]
    by_cases h0 : r = 0
    · subst h0; exact near_zero _
    have hl : r.log2 < 52 := by rw [Nat.log2_lt h0]; exact h1
    rw [near_eq _ _ h0]
    have e : lastOf r (-1074) = -1074 := by unfold lastOf; omega
    rw [e]
    have e1 : ((-1074 : Int) + 1074).toNat = 0 := by decide
    have e2 : ((-1074 : Int) - -1074).toNat = 0 := by decide
    rw [e1, e2, Nat.pow_zero, Nat.mul_one, rhe_one, Nat.zero_mul, Nat.zero_add]
    omega
  · rw [if_neg h1, near_scale]
    have hk : 1 ≤ r / 2 ^ 52 := by omega
    have hm : 2 ^ 52 + r % 2 ^ 52 ≠ 0 := by omega
    have hl : (2 ^ 52 + r % 2 ^ 52).log2 = 52 := by
      have c1 : 52 ≤ (2 ^ 52 + r % 2 ^ 52).log2 := by rw [Nat.le_log2 hm]; omega
      have c2 : (2 ^ 52 + r % 2 ^ 52).log2 < 53 := by rw [Nat.log2_lt hm]; omega
      omega
    rw [near_eq _ _ hm]
    have e : lastOf (2 ^ 52 + r % 2 ^ 52) (-1074 + ((r / 2 ^ 52 - 1 : Nat) : Int)) = -1074 + ((r / 2 ^ 52 - 1 : Nat) : Int) := by unfold lastOf; rw [hl]; omega
    rw [e]
    have e1 : (-1074 + ((r / 2 ^ 52 - 1 : Nat) : Int) + 1074).toNat = r / 2 ^ 52 - 1 := by omega
    have e2 : (-1074 + ((r / 2 ^ 52 - 1 : Nat) : Int) - (-1074 + ((r / 2 ^ 52 - 1 : Nat) : Int))).toNat = 0 := by omega
    rw [e1, e2, Nat.pow_zero, Nat.mul_one, rhe_one]
    have := Nat.div_add_mod r (2 ^ 52)
    omega

theorem U_le {a b : Nat} (ha : a < 2047 * 2 ^ 52) (hb : b < 2047 * 2 ^ 52) (h : U a ≤ U b) : a ≤ b := by
  have := near_mono _ _ (-1074) h
  rw [near_U a ha, near_U b hb] at this
  exact this
theorem U_lt {a b : Nat} (ha : a < 2047 * 2 ^ 52) (hb : b < 2047 * 2 ^ 52) (h : a < b) : U a < U b := by
  by_cases c : U b ≤ U a
  · have := U_le hb ha c; omega
  · omega

end Go.Proofs.Qxb6608569a
