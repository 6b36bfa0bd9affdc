import Derived.WalkKit
import Derived.Laws.Bits64
namespace Go.Proofs.Qxb6605904a
/-! THE PLAIN LAW OF SplitMix64: no Go text in sight. The counter goes up by an odd step modulo 2^64; the mixing is one-to-one on the numbers below 2^64; so eight words in a row are pairwise distinct. -/

def cnt (seed : Int) (k : Nat) : Int := (seed + 11400714819323198485 * (k : Int)) % 18446744073709551616
def mul1 (y : Int) : Int := IntKind.u64.wrap (bits BinOp.xor IntKind.u64 y (y / 1073741824) * 13787848793156543929)
def mul2 (y : Int) : Int := IntKind.u64.wrap (bits BinOp.xor IntKind.u64 y (y / 134217728) * 10723151780598845931)
def mix (y : Int) : Int := bits BinOp.xor IntKind.u64 (mul2 (mul1 y)) (mul2 (mul1 y) / 2147483648)
def word (seed : Int) (j : Nat) : Int := mix (cnt seed (j + 1))

theorem wrapU (n : Int) : IntKind.u64.wrap n = n % 18446744073709551616 := by
  simp [IntKind.wrap, IntKind.bits, IntKind.signed]

theorem cnt_zero (seed : Int) (h0 : 0 ≤ seed) (h1 : seed < 18446744073709551616) : cnt seed 0 = seed := by
  unfold cnt; omega
theorem cnt_succ (seed : Int) (k : Nat) : IntKind.u64.wrap (cnt seed k + 11400714819323198485) = cnt seed (k + 1) := by
  rw [wrapU]; unfold cnt; omega
theorem cnt_bd (seed : Int) (k : Nat) : 0 ≤ cnt seed k ∧ cnt seed k < 18446744073709551616 := by
  unfold cnt; omega

theorem xor_zero {x y : Nat} (h : x ^^^ y = 0) : x = y := by
  have e : x ^^^ y ^^^ y = y := by rw [h, Nat.zero_xor]
  rw [Nat.xor_assoc, Nat.xor_self, Nat.xor_zero] at e
  exact e
theorem xs_inj (s x y : Nat) (hs : 0 < s) (h : x ^^^ (x >>> s) = y ^^^ (y >>> s)) : x = y := by
  have e : (x ^^^ y) = (x ^^^ y) >>> s := by
    rw [Nat.shiftRight_xor_distrib]
    have h2 : (x ^^^ (x >>> s)) ^^^ (y ^^^ (y >>> s)) = 0 := by rw [h, Nat.xor_self]
    have h3 : (x ^^^ y) ^^^ ((x >>> s) ^^^ (y >>> s)) = 0 := by
      rw [← h2]; ac_rfl
    exact xor_zero h3
  have z : x ^^^ y = 0 := by
    by_cases c : x ^^^ y = 0
    · exact c
    · exfalso
      rw [Nat.shiftRight_eq_div_pow] at e
      have := Nat.div_lt_self (Nat.pos_of_ne_zero c) (Nat.one_lt_two_pow (by omega : s ≠ 0))
      omega
  exact xor_zero z

theorem xor_nat (s X : Nat) (hX : X < 18446744073709551616) : bits BinOp.xor IntKind.u64 (X : Int) ((X : Int) / ((2 ^ s : Nat) : Int)) = ((X ^^^ (X >>> s) : Nat) : Int) := by
  rw [xorShift_u64 X (2 ^ s) hX, Nat.shiftRight_eq_div_pow]

theorem xor_bd (s X : Nat) (hX : X < 18446744073709551616) : X ^^^ (X >>> s) < 18446744073709551616 := by
  have e : (18446744073709551616 : Nat) = 2 ^ 64 := by decide
  have h : X >>> s < 18446744073709551616 := by rw [Nat.shiftRight_eq_div_pow]; exact Nat.lt_of_le_of_lt (Nat.div_le_self _ _) hX
  rw [e] at hX h ⊢
  exact Nat.xor_lt_two_pow hX h

theorem odd_inj (m i : Int) (hmi : (m * i) % 18446744073709551616 = 1) (x y : Int) (hx : 0 ≤ x) (hx' : x < 18446744073709551616) (hy : 0 ≤ y) (hy' : y < 18446744073709551616)
    (h : (x * m) % 18446744073709551616 = (y * m) % 18446744073709551616) : x = y := by
  have k : ∀ z : Int, 0 ≤ z → z < 18446744073709551616 → ((z * m) % 18446744073709551616 * i) % 18446744073709551616 = z := by
    intro z h0 h1
    rw [Int.mul_emod, Int.emod_emod_of_dvd _ (Int.dvd_refl _), ← Int.mul_emod, Int.mul_assoc, Int.mul_emod, hmi, Int.mul_one, Int.emod_emod_of_dvd _ (Int.dvd_refl _), Int.emod_eq_of_lt h0 h1]
  rw [← k x hx hx', ← k y hy hy', h]

/-- 'y ^ (y >> s)' on a number below 2^64: below 2^64 again, and one-to-one. -/
theorem xsh_bd (s : Nat) (y : Int) (h0 : 0 ≤ y) (h1 : y < 18446744073709551616) :
    0 ≤ bits BinOp.xor IntKind.u64 y (y / ((2 ^ s : Nat) : Int)) ∧ bits BinOp.xor IntKind.u64 y (y / ((2 ^ s : Nat) : Int)) < 18446744073709551616 := by
  obtain ⟨n, rfl⟩ := Int.eq_ofNat_of_zero_le h0
  have hn : n < 18446744073709551616 := by omega
  rw [xor_nat s n hn]
  have := xor_bd s n hn
  omega
theorem xsh_inj (s : Nat) (hs : 0 < s) (x y : Int) (h0 : 0 ≤ x) (h1 : x < 18446744073709551616) (k0 : 0 ≤ y) (k1 : y < 18446744073709551616)
    (h : bits BinOp.xor IntKind.u64 x (x / ((2 ^ s : Nat) : Int)) = bits BinOp.xor IntKind.u64 y (y / ((2 ^ s : Nat) : Int))) : x = y := by
  obtain ⟨n, rfl⟩ := Int.eq_ofNat_of_zero_le h0
  obtain ⟨m, rfl⟩ := Int.eq_ofNat_of_zero_le k0
  rw [xor_nat s n (by omega), xor_nat s m (by omega)] at h
  have := xs_inj s n m hs (by exact_mod_cast h)
  omega

theorem mul1_bd (y : Int) : 0 ≤ mul1 y ∧ mul1 y < 18446744073709551616 := by
  unfold mul1; rw [wrapU]; exact ⟨Int.emod_nonneg _ (by decide), Int.emod_lt_of_pos _ (by decide)⟩
theorem mul2_bd (y : Int) : 0 ≤ mul2 y ∧ mul2 y < 18446744073709551616 := by
  unfold mul2; rw [wrapU]; exact ⟨Int.emod_nonneg _ (by decide), Int.emod_lt_of_pos _ (by decide)⟩
theorem mul1_inj (x y : Int) (h0 : 0 ≤ x) (h1 : x < 18446744073709551616) (k0 : 0 ≤ y) (k1 : y < 18446744073709551616) (h : mul1 x = mul1 y) : x = y := by
  unfold mul1 at h
  rw [wrapU, wrapU] at h
  have a := xsh_bd 30 x h0 h1
  have b := xsh_bd 30 y k0 k1
  exact xsh_inj 30 (by decide) x y h0 h1 k0 k1 (odd_inj 13787848793156543929 10871156337175269513 (by decide) _ _ a.1 a.2 b.1 b.2 h)
theorem mul2_inj (x y : Int) (h0 : 0 ≤ x) (h1 : x < 18446744073709551616) (k0 : 0 ≤ y) (k1 : y < 18446744073709551616) (h : mul2 x = mul2 y) : x = y := by
  unfold mul2 at h
  rw [wrapU, wrapU] at h
  have a := xsh_bd 27 x h0 h1
  have b := xsh_bd 27 y k0 k1
  exact xsh_inj 27 (by decide) x y h0 h1 k0 k1 (odd_inj 10723151780598845931 3573116690164977347 (by decide) _ _ a.1 a.2 b.1 b.2 h)
theorem mix_inj (x y : Int) (h0 : 0 ≤ x) (h1 : x < 18446744073709551616) (k0 : 0 ≤ y) (k1 : y < 18446744073709551616) (h : mix x = mix y) : x = y := by
  unfold mix at h
  have a := mul1_bd x
  have b := mul1_bd y
  have c := mul2_bd (mul1 x)
  have d := mul2_bd (mul1 y)
  exact mul1_inj x y h0 h1 k0 k1 (mul2_inj _ _ a.1 a.2 b.1 b.2 (xsh_inj 31 (by decide) _ _ c.1 c.2 d.1 d.2 h))

theorem shift_mod (s p q : Int) (h : (s + p) % 18446744073709551616 = (s + q) % 18446744073709551616) : p % 18446744073709551616 = q % 18446744073709551616 := by omega
theorem cnt_inj (seed : Int) (i j : Nat) (hi : i < 9) (hj : j < 9) (h : cnt seed i = cnt seed j) : i = j := by
  have i0 : 0 ≤ (i : Int) := by clear h; omega
  have i1 : (i : Int) < 18446744073709551616 := by clear h; omega
  have j0 : 0 ≤ (j : Int) := by clear h; omega
  have j1 : (j : Int) < 18446744073709551616 := by clear h; omega
  unfold cnt at h
  have h2 := shift_mod _ _ _ h
  rw [Int.mul_comm _ (i : Int), Int.mul_comm _ (j : Int)] at h2
  have := odd_inj 11400714819323198485 17428512612931826493 (by decide) (i : Int) (j : Int) i0 i1 j0 j1 h2
  clear h h2
  omega

/-- THE LAW: the eight words are pairwise distinct. -/
theorem word_ne (seed : Int) (i j : Nat) (hi : i < 8) (hj : j < 8) (hne : i ≠ j) : (word seed i == word seed j) = false := by
  rw [beq_eq_false_iff_ne]
  intro h
  unfold word at h
  have a := cnt_bd seed (i + 1)
  have b := cnt_bd seed (j + 1)
  have := cnt_inj seed (i + 1) (j + 1) (by omega) (by omega) (mix_inj _ _ a.1 a.2 b.1 b.2 h)
  omega

end Go.Proofs.Qxb6605904a
