import Derived.WalkKit
namespace Go.Proofs.Qxb6605974a
/-! THE PLAIN LAW OF newWindow: no Go text in sight. For positive numbers Go's division is the plain one, rounded down. -/

/-- a / b rounded up, for positive a and b. -/
def cd (a b : Int) : Int := (a - 1) / b + 1
/-- The step of a rolling window. -/
def stp (I B : Int) : Int := if I ≤ B then I else if (I - 1) / B < 4096 then B else (I - 1) / 4096 + 1

theorem div_pos_le (a b : Int) (ha : 0 ≤ a) (hb : 1 ≤ b) : 0 ≤ a / b ∧ a / b ≤ a :=
  ⟨Int.ediv_nonneg ha (by omega), Int.ediv_le_self _ ha⟩

/-- ceilDiv's two ways. -/
theorem cd_exact (a b : Int) (hb : 1 ≤ b) (h : a % b = 0) : a / b = cd a b := by
  unfold cd
  have h1 := Int.emod_add_mul_ediv a b
  have h2 : a - 1 = (a / b - 1) * b + (b - 1) := by
    rw [Int.sub_mul, Int.one_mul, Int.mul_comm (a / b) b]; omega
  have h3 : (a - 1) / b = a / b - 1 := by
    rw [h2, Int.add_comm, Int.add_mul_ediv_right _ _ (by omega), Int.ediv_eq_zero_of_lt (by omega) (by omega)]; omega
  omega
theorem cd_up (a b : Int) (hb : 1 ≤ b) (h : a % b ≠ 0) : a / b + 1 = cd a b := by
  unfold cd
  have h1 := Int.emod_add_mul_ediv a b
  have h4 := Int.emod_nonneg a (show b ≠ 0 by omega)
  have h5 := Int.emod_lt_of_pos a (show 0 < b by omega)
  have h2 : a - 1 = (a / b) * b + (a % b - 1) := by
    rw [Int.mul_comm (a / b) b]; omega
  have h3 : (a - 1) / b = a / b := by
    rw [h2, Int.add_comm, Int.add_mul_ediv_right _ _ (by omega), Int.ediv_eq_zero_of_lt (by omega) (by omega)]; omega
  omega

theorem cd_pos (a b : Int) (ha : 1 ≤ a) (hb : 1 ≤ b) : 1 ≤ cd a b ∧ cd a b ≤ a := by
  have := div_pos_le (a - 1) b (by omega) hb
  unfold cd; omega

theorem stp_pos (I B : Int) (hI : 1 ≤ I) (hB : 1 ≤ B) : 1 ≤ stp I B ∧ stp I B ≤ I := by
  have h := div_pos_le (I - 1) B (by omega) hB
  unfold stp
  split
  · omega
  · split <;> omega

/-- At most 4096 buckets. -/
theorem few (I B : Int) (hI : 1 ≤ I) (hB : 1 ≤ B) : (I - 1) / stp I B < 4096 := by
  unfold stp
  split
  · rename_i h
    have : (I - 1) / I = 0 := Int.ediv_eq_zero_of_lt (by omega) (by omega)
    omega
  · split
    · assumption
    · refine Int.ediv_lt_of_lt_mul (by omega) ?_
      omega

/-- The way of newWindow: the step is the lesser of the two, and where that makes too many buckets, the length over 4096. -/
theorem stp_min (I B : Int) (h : cd I (min B I) ≤ 4096) : stp I B = min B I := by
  unfold cd at h
  unfold stp
  split
  · omega
  · rename_i hlt
    have e : min B I = B := by omega
    rw [e] at h ⊢
    rw [if_pos (by omega)]
theorem stp_cap (I B : Int) (hI : 1 ≤ I) (h : 4096 < cd I (min B I)) : stp I B = cd I 4096 := by
  unfold cd at h
  unfold stp
  split
  · rename_i hle
    have e : min B I = I := by omega
    rw [e] at h
    have : (I - 1) / I = 0 := Int.ediv_eq_zero_of_lt (by omega) (by omega)
    omega
  · rename_i hlt
    have e : min B I = B := by omega
    rw [e] at h
    rw [if_neg (by omega)]
    rfl

/-- A shorter bucket period never gives a longer step. -/
theorem stp_mono (I F C : Int) (hI : 1 ≤ I) (hF : 1 ≤ F) (hFC : F ≤ C) : stp I F ≤ stp I C := by
  have hb := (stp_pos I F hI hF).2
  by_cases h1 : I ≤ C
  · have e : stp I C = I := by unfold stp; rw [if_pos h1]
    omega
  · have hlt : (I - 1) / C ≤ (I - 1) / F := by
      refine Int.le_ediv_of_mul_le (by omega) ?_
      refine Int.le_trans ?_ (Int.ediv_mul_le (I - 1) (show C ≠ 0 by omega))
      exact Int.mul_le_mul_of_nonneg_left hFC (div_pos_le (I - 1) C (by omega) (by omega)).1
    have eF : ¬ I ≤ F := by omega
    unfold stp
    rw [if_neg h1, if_neg eF]
    by_cases h2 : (I - 1) / F < 4096
    · rw [if_pos h2, if_pos (by omega)]; exact hFC
    · rw [if_neg h2]
      by_cases h3 : (I - 1) / C < 4096
      · rw [if_pos h3]
        have := Int.lt_mul_of_ediv_lt (show 0 < C by omega) h3
        omega
      · rw [if_neg h3]; omega

/-- .. nor fewer buckets. -/
theorem num_mono (I s t : Int) (hI : 1 ≤ I) (hs : 1 ≤ s) (hst : s ≤ t) : (I - 1) / t ≤ (I - 1) / s := by
  refine Int.le_ediv_of_mul_le (by omega) ?_
  refine Int.le_trans ?_ (Int.ediv_mul_le (I - 1) (show t ≠ 0 by omega))
  exact Int.mul_le_mul_of_nonneg_left hst (div_pos_le (I - 1) t (by omega) (by omega)).1

end Go.Proofs.Qxb6605974a
