import Derived.Test.Qxb6608569aFloats
namespace Go.Proofs.Qxb6608569a

theorem sign_eq : Ieee.double.signWeight = 2 ^ 63 := rfl

/-- What a finite number that is not negative stands for. -/
theorem read_eq (r : Nat) (h : r < 2047 * 2 ^ 52) : ∃ m k : Nat, Ieee.double.read r = .number false m (-1074 + (k : Int)) ∧ U r = m * 2 ^ k ∧ m < 2 ^ 53 := by
  have e1 : (r / 2 ^ 63 % 2 == 1) = false := by
    have : r / 2 ^ 63 = 0 := Nat.div_eq_of_lt (by omega)
    rw [this]; rfl
  have e2 : r % 2 ^ 63 = r := Nat.mod_eq_of_lt (by omega)
  unfold Ieee.Format.read
  dsimp only
  rw [sign_eq, binade_eq, inf_eq, least_eq, e1, e2]
  unfold U
  by_cases h1 : r < 2 ^ 52
  · rw [if_pos h1, if_pos h1]
    refine ⟨r, 0, ?_, by omega, by omega⟩
    congr 1
  · rw [if_neg h1, if_neg h1, if_pos h]
    exact ⟨_, _, rfl, rfl, by omega⟩

def mulR (x y : Nat) : Nat := near (U x * U y) (-2148)
theorem mul_eq (x y : Nat) (hx : x < 2047 * 2 ^ 52) (hy : y < 2047 * 2 ^ 52) : floatBits .mul .f64 x y = some (mulR x y) := by
  obtain ⟨m, k, e1, u1, _⟩ := read_eq x hx
  obtain ⟨n, l, e2, u2, _⟩ := read_eq y hy
  show Ieee.double.mul x y = _
  unfold Ieee.Format.mul
  rw [e1, e2]
  show some (near (m * n) (-1074 + (k : Int) + (-1074 + (l : Int)))) = _
  unfold mulR
  rw [u1, u2]
  have e3 : m * 2 ^ k * (n * 2 ^ l) = m * n * 2 ^ (k + l) := by rw [Nat.pow_add]; ac_rfl
  rw [e3, near_scale]
  congr 2
  omega

theorem signed_eq (m u : Nat) : Ieee.signed false m u = ((m * 2 ^ u : Nat) : Int) := by
  unfold Ieee.signed
  rw [if_neg (by decide), Nat.shiftLeft_eq]

def addR (x y : Nat) : Nat := near (U x + U y) (-1074)
theorem add_eq (x y : Nat) (hx : x < 2047 * 2 ^ 52) (hy : y < 2047 * 2 ^ 52) : floatBits .add .f64 x y = some (addR x y) := by
  obtain ⟨m, k, e1, u1, _⟩ := read_eq x hx
  obtain ⟨n, l, e2, u2, _⟩ := read_eq y hy
  show Ieee.double.add x y = _
  unfold Ieee.Format.add
  rw [e1, e2]
  unfold Ieee.Datum.sum addR
  dsimp only
  have b : min (-1074 + (k : Int)) (-1074 + (l : Int)) = -1074 + ((min k l : Nat) : Int) := by omega
  rw [b]
  have t1 : (-1074 + (k : Int) - (-1074 + ((min k l : Nat) : Int))).toNat = k - min k l := by omega
  have t2 : (-1074 + (l : Int) - (-1074 + ((min k l : Nat) : Int))).toNat = l - min k l := by omega
  rw [t1, t2, signed_eq, signed_eq]
  generalize hA : m * 2 ^ (k - min k l) = A
  generalize hB : n * 2 ^ (l - min k l) = B
  have uA : U x = A * 2 ^ min k l := by rw [u1, ← hA, Nat.mul_assoc, ← Nat.pow_add]; congr 2; omega
  have uB : U y = B * 2 ^ min k l := by rw [u2, ← hB, Nat.mul_assoc, ← Nat.pow_add]; congr 2; omega
  have hs : (if ((A : Int) + (B : Int)) = 0 then (false && false) else decide ((A : Int) + (B : Int) < 0)) = false := by
    split
    · rfl
    · rw [decide_eq_false_iff_not]; omega
  rw [hs]
  have hn : ((A : Int) + (B : Int)).natAbs = A + B := by omega
  rw [hn]
  show some (near (A + B) _) = _
  rw [uA, uB, ← Nat.add_mul, near_scale]

theorem ord_core (x y : Nat) (hx : x < 2047 * 2 ^ 52) (hy : y < 2047 * 2 ^ 52) : ∃ A B c : Nat, 0 < c ∧ U x = A * c ∧ U y = B * c ∧ Ieee.double.order x y = some (compare (A : Int) (B : Int)) := by
  obtain ⟨m, k, e1, u1, _⟩ := read_eq x hx
  obtain ⟨n, l, e2, u2, _⟩ := read_eq y hy
  refine ⟨m * 2 ^ (k - min k l), n * 2 ^ (l - min k l), 2 ^ min k l, Nat.two_pow_pos _, ?_, ?_, ?_⟩
  · rw [u1, Nat.mul_assoc, ← Nat.pow_add]; congr 2; omega
  · rw [u2, Nat.mul_assoc, ← Nat.pow_add]; congr 2; omega
  · unfold Ieee.Format.order
    rw [e1, e2]
    unfold Ieee.Datum.order
    dsimp only
    have b : min (-1074 + (k : Int)) (-1074 + (l : Int)) = -1074 + ((min k l : Nat) : Int) := by omega
    rw [b]
    have t1 : (-1074 + (k : Int) - (-1074 + ((min k l : Nat) : Int))).toNat = k - min k l := by omega
    have t2 : (-1074 + (l : Int) - (-1074 + ((min k l : Nat) : Int))).toNat = l - min k l := by omega
    rw [t1, t2, signed_eq, signed_eq]

theorem ord_lt (x y : Nat) (hy : y < 2047 * 2 ^ 52) (h : x < y) : Ieee.double.order x y = some .lt := by
  obtain ⟨A, B, c, hc, ux, uy, e⟩ := ord_core x y (by omega) hy
  have := U_lt (by omega) hy h
  rw [ux, uy] at this
  have hAB : A < B := Nat.lt_of_mul_lt_mul_right this
  rw [e, Int.compare_eq_lt.2 (by omega)]
theorem ord_gt (x y : Nat) (hx : x < 2047 * 2 ^ 52) (h : y < x) : Ieee.double.order x y = some .gt := by
  obtain ⟨A, B, c, hc, ux, uy, e⟩ := ord_core x y hx (by omega)
  have := U_lt (by omega) hx h
  rw [ux, uy] at this
  have hAB : B < A := Nat.lt_of_mul_lt_mul_right this
  rw [e, Int.compare_eq_gt.2 (by omega)]
theorem ord_same (x : Nat) (hx : x < 2047 * 2 ^ 52) : Ieee.double.order x x = some .eq := by
  obtain ⟨A, B, c, hc, ux, uy, e⟩ := ord_core x x hx hx
  rw [ux] at uy
  have hAB : A = B := Nat.eq_of_mul_eq_mul_right hc uy
  rw [e, Int.compare_eq_eq.2 (by omega)]


/-! ### Quotients of whole numbers -/
/-- The quotient's digits and one more, which tells whether anything is left over. -/
def stk (X n : Nat) : Nat := 2 * (X / n) + (X % n != 0).toNat

theorem stk_cancel (X n c : Nat) (hc : 0 < c) : stk (X * c) (n * c) = stk X n := by
  unfold stk
  rw [Nat.mul_div_mul_right _ _ hc, Nat.mul_mod_mul_right]
  congr 2
  rw [Bool.eq_iff_iff]
  simp only [bne_iff_ne, ne_eq, Nat.mul_eq_zero]
  omega

theorem bool_nat_le (b : Bool) : b.toNat ≤ 1 := by cases b <;> decide

theorem stk_mono (X X' n : Nat) (h : X ≤ X') : stk X n ≤ stk X' n := by
  unfold stk
  have hq : X / n ≤ X' / n := Nat.div_le_div_right h
  have b1 := bool_nat_le (X % n != 0)
  by_cases e : X / n = X' / n
  · have h1 := Nat.div_add_mod X n
    have h2 := Nat.div_add_mod X' n
    rw [e] at h1
    have hr : X % n ≤ X' % n := by omega
    by_cases c : X % n = 0
    · rw [c]; simp; omega
    · have c' : (X' % n != 0) = true := by rw [bne_iff_ne]; omega
      rw [c', e]
      exact Nat.add_le_add_left b1 _
  · omega

/-- The digits below the rounding place count only by whether there are any. -/
theorem rhe_top (c h r f : Nat) (hr : r < c) :
    rhe (c * h + r) (c * (2 * f)) = h / (2 * f) + (if f < h % (2 * f) ∨ (f = h % (2 * f) ∧ (0 < r ∨ h / (2 * f) % 2 = 1)) then 1 else 0) := by
  have hc : 0 < c := by omega
  have q1 : (c * h + r) / c = h := by rw [Nat.mul_add_div hc, Nat.div_eq_of_lt hr]; omega
  have m1 : (c * h + r) % c = r := by rw [Nat.mul_add_mod, Nat.mod_eq_of_lt hr]
  have q2 : (c * h + r) / (c * (2 * f)) = h / (2 * f) := by rw [← Nat.div_div_eq_div_mul, q1]
  have m2 : (c * h + r) % (c * (2 * f)) = r + c * (h % (2 * f)) := by rw [Nat.mod_mul, q1, m1]
  unfold rhe
  rw [q2, m2]
  generalize h % (2 * f) = u
  generalize h / (2 * f) = v
  congr 1
  have lt_iff : c * (2 * f) < 2 * (r + c * u) ↔ f < u ∨ (f = u ∧ 0 < r) := by
    constructor
    · intro hh
      by_cases h1 : f < u
      · exact .inl h1
      · by_cases h2 : f = u
        · subst h2
          refine .inr ⟨rfl, ?_⟩
          have : c * (2 * f) = 2 * (c * f) := by ac_rfl
          omega
        · exfalso
          have h3 : u + 1 ≤ f := by omega
          have h4 : c * (u + 1) ≤ c * f := Nat.mul_le_mul_left _ h3
          rw [Nat.mul_add, Nat.mul_one] at h4
          have : c * (2 * f) = 2 * (c * f) := by ac_rfl
          omega
    · rintro (h1 | ⟨rfl, h2⟩)
      · have h4 : c * (f + 1) ≤ c * u := Nat.mul_le_mul_left _ h1
        rw [Nat.mul_add, Nat.mul_one] at h4
        have : c * (2 * f) = 2 * (c * f) := by ac_rfl
        omega
      · have : c * (2 * f) = 2 * (c * f) := by ac_rfl
        omega
  have eq_iff : c * (2 * f) = 2 * (r + c * u) ↔ f = u ∧ r = 0 := by
    have e : c * (2 * f) = 2 * (c * f) := by ac_rfl
    constructor
    · intro hh
      have h5 : c * f = r + c * u := by omega
      by_cases h2 : f = u
      · subst h2; exact ⟨rfl, by omega⟩
      · exfalso
        by_cases h1 : f < u
        · have h4 : c * (f + 1) ≤ c * u := Nat.mul_le_mul_left _ h1
          rw [Nat.mul_add, Nat.mul_one] at h4
          omega
        · have h4 : c * (u + 1) ≤ c * f := Nat.mul_le_mul_left _ (by omega)
          rw [Nat.mul_add, Nat.mul_one] at h4
          omega
    · rintro ⟨rfl, rfl⟩; omega
  have key : (c * (2 * f) < 2 * (r + c * u) ∨ (c * (2 * f) = 2 * (r + c * u) ∧ v % 2 = 1)) ↔ (f < u ∨ (f = u ∧ (0 < r ∨ v % 2 = 1))) := by
    rw [lt_iff, eq_iff]
    omega
  by_cases k : f < u ∨ (f = u ∧ (0 < r ∨ v % 2 = 1))
  · rw [if_pos k, if_pos (key.2 k)]
  · rw [if_neg k, if_neg (fun x => k (key.1 x))]

theorem log2_top (h t r : Nat) (hh : h ≠ 0) (hr : r < 2 ^ t) : (2 ^ t * h + r).log2 = h.log2 + t := by
  have p := Nat.two_pow_pos t
  have h0 : 2 ^ t * h + r ≠ 0 := by
    have : 0 < 2 ^ t * h := Nat.mul_pos p (Nat.pos_of_ne_zero hh)
    omega
  have a1 : 2 ^ h.log2 ≤ h := Nat.log2_self_le hh
  have a2 : h < 2 ^ (h.log2 + 1) := Nat.lt_log2_self
  have b1 : h.log2 + t ≤ (2 ^ t * h + r).log2 := by
    rw [Nat.le_log2 h0, Nat.pow_add, Nat.mul_comm]
    exact Nat.le_trans (Nat.mul_le_mul_left _ a1) (Nat.le_add_right _ _)
  have b2 : (2 ^ t * h + r).log2 < h.log2 + 1 + t := by
    rw [Nat.log2_lt h0, Nat.pow_add _ _ t, Nat.mul_comm _ (2 ^ t)]
    have : 2 ^ t * (h + 1) ≤ 2 ^ t * 2 ^ (h.log2 + 1) := Nat.mul_le_mul_left _ a2
    rw [Nat.mul_add, Nat.mul_one] at this
    omega
  omega

/-- Two numbers with the same 54 leading digits or more, both or neither with something behind them, are rounded to one rung. -/
theorem near_top (h t r r' : Nat) (P : Int) (hh : 2 ^ 53 ≤ h) (hr : r < 2 ^ t) (hr' : r' < 2 ^ t) (hz : 0 < r ↔ 0 < r') : near (2 ^ t * h + r) P = near (2 ^ t * h + r') P := by
  have p := Nat.two_pow_pos t
  have h1 : h ≠ 0 := by intro e; subst e; simp at hh
  have hpos : 0 < 2 ^ t * h := Nat.mul_pos p (Nat.pos_of_ne_zero h1)
  have n1 : 2 ^ t * h + r ≠ 0 := by omega
  have n2 : 2 ^ t * h + r' ≠ 0 := by omega
  have l53 : 53 ≤ h.log2 := by rw [Nat.le_log2 h1]; exact hh
  have el : lastOf (2 ^ t * h + r) P = lastOf (2 ^ t * h + r') P := by
    unfold lastOf; rw [log2_top h t r h1 hr, log2_top h t r' h1 hr']
  rw [near_eq _ _ n1, near_eq _ _ n2, el]
  have hl : P + ((h.log2 + t : Nat) : Int) - 52 ≤ lastOf (2 ^ t * h + r') P := by
    unfold lastOf; rw [log2_top h t r' h1 hr']; omega
  generalize lastOf (2 ^ t * h + r') P = l at *
  have s1 : (P - l).toNat = 0 := by omega
  obtain ⟨e, he⟩ : ∃ e, (l - P).toNat = t + (1 + e) := ⟨(l - P).toNat - t - 1, by omega⟩
  rw [s1, he, Nat.pow_zero, Nat.mul_one, Nat.mul_one, Nat.pow_add, Nat.pow_add 2 1 e, Nat.pow_one]
  rw [rhe_top _ _ _ _ hr, rhe_top _ _ _ _ hr']
  simp only [hz]

/-- The quotient at more digits is rounded to the same rung. -/
theorem near_stk (X n t : Nat) (p : Int) (hn : 0 < n) (hq : 2 ^ 53 ≤ X / n) : near (stk X n) p = near (stk (X * 2 ^ t) n) (p - t) := by
  have e0 : p = p - t + t := by omega
  rw [e0, ← near_scale, show p - (t : Int) + (t : Int) - (t : Int) = p - t by omega]
  have pt := Nat.two_pow_pos t
  have dm := Nat.div_add_mod X n
  have rl : X % n < n := Nat.mod_lt _ hn
  generalize X / n = h at *
  generalize hs : X % n = s at *
  have eX : X * 2 ^ t = n * (h * 2 ^ t) + s * 2 ^ t := by rw [← dm, Nat.add_mul, Nat.mul_assoc]
  have d1 : X * 2 ^ t / n = h * 2 ^ t + s * 2 ^ t / n := by rw [eX, Nat.mul_add_div hn]
  have d2 : X * 2 ^ t % n = s * 2 ^ t % n := by rw [eX, Nat.mul_add_mod]
  have lt1 : s * 2 ^ t / n < 2 ^ t := by
    rw [Nat.div_lt_iff_lt_mul hn, Nat.mul_comm]
    exact Nat.mul_lt_mul_of_pos_left rl pt
  have A : stk X n * 2 ^ t = 2 ^ (t + 1) * h + (s != 0).toNat * 2 ^ t := by
    unfold stk
    rw [hs, show X / n = h by rw [← dm, Nat.mul_add_div hn, Nat.div_eq_of_lt rl]; omega, Nat.add_mul, Nat.pow_succ]
    congr 1
    ac_rfl
  have B : stk (X * 2 ^ t) n = 2 ^ (t + 1) * h + (2 * (s * 2 ^ t / n) + (s * 2 ^ t % n != 0).toNat) := by
    unfold stk
    rw [d1, d2, Nat.pow_succ, Nat.mul_add, ← Nat.add_assoc]
    congr 2
    ac_rfl
  rw [A, B]
  have b1 := bool_nat_le (s * 2 ^ t % n != 0)
  have pe : 2 ^ (t + 1) = 2 * 2 ^ t := by rw [Nat.pow_succ]; omega
  refine near_top h (t + 1) _ _ _ hq ?_ ?_ ?_
  · rw [pe]
    have b2 := bool_nat_le (s != 0)
    have : (s != 0).toNat * 2 ^ t ≤ 1 * 2 ^ t := Nat.mul_le_mul_right _ b2
    omega
  · rw [pe]; omega
  · by_cases c : s = 0
    · subst c; simp
    · have c1 : (s != 0) = true := by rw [bne_iff_ne]; exact c
      rw [c1]
      refine ⟨fun _ => ?_, fun _ => by simpa using pt⟩
      have : 0 < s * 2 ^ t := Nat.mul_pos (Nat.pos_of_ne_zero c) pt
      have dm2 := Nat.div_add_mod (s * 2 ^ t) n
      by_cases z : s * 2 ^ t % n = 0
      · have : 0 < s * 2 ^ t / n := by
          apply Nat.pos_of_ne_zero
          intro zz
          rw [z, zz] at dm2
          omega
        omega
      · have c2 : (s * 2 ^ t % n != 0) = true := by rw [bne_iff_ne]; exact z
        rw [c2]
        exact Nat.lt_of_lt_of_le (by decide) (Nat.le_add_left _ _)

end Go.Proofs.Qxb6608569a
