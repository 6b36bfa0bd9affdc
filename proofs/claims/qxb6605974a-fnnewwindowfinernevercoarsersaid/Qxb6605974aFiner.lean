import Derived.Test.Qxb6605974aExact
namespace Go.Proofs.Qxb6605974a
open Go.RowKit

/-! rollingWindow -/
set_option maxHeartbeats 400000 in
theorem roll_none (I B : Int) (w : World) (hI : I ≤ 0) :
    Calls Try.prog 12 #[.int .i64 I, .int .i64 B] w fun e w' => e = .returned (.tuple #[.int .i64 0, .int .i64 0, .bool false]) ∧ Ext w w' := by
  go_enter Try.func12, Try.ntmps12
  go_wp2_with fail
  refine (znew_none I B w hI).mono ?_
  rintro e w1 ⟨s, p, he, hx, rfl, rfl⟩
  unfold Gave at he
  subst he
  go_wp2
  go_ret3
  exact ⟨rfl, hx.alloc _ _⟩

set_option maxHeartbeats 400000 in
theorem roll_fixed (I B : Int) (w : World) (hI : 1 ≤ I) (hB : B ≤ 0) :
    Calls Try.prog 12 #[.int .i64 I, .int .i64 B] w fun e w' => e = .returned (.tuple #[.int .i64 I, .int .i64 0, .bool false]) ∧ Ext w w' := by
  go_enter Try.func12, Try.ntmps12
  go_wp2_with fail
  refine (znew_fixed I B w hI hB).mono ?_
  rintro e w1 ⟨s, p, he, hx, rfl, rfl⟩
  unfold Gave at he
  subst he
  go_wp2
  go_ret3
  exact ⟨rfl, hx.alloc _ _⟩

theorem ret_roll {s a b : Int} (h : a = b) : Ending.returned (.tuple #[.int .i64 s, .int .i64 a, .bool true]) = .returned (.tuple #[.int .i64 s, .int .i64 b, .bool true]) := by rw [h]

set_option maxHeartbeats 400000 in
theorem roll_rolls (I B s q : Int) (w : World) (hI : 1 ≤ I) (hI2 : I ≤ 9223372036854775807) (hB : 1 ≤ B) (hB2 : B ≤ 9223372036854775807) (hs : Hid (stp I B = s)) (hq : Hid ((I - 1) / s + 1 = q)) :
    Calls Try.prog 12 #[.int .i64 I, .int .i64 B] w fun e w' => e = .returned (.tuple #[.int .i64 s, .int .i64 q, .bool true]) ∧ Ext w w' := by
  go_enter Try.func12, Try.ntmps12
  go_wp2_with fail
  refine (znew_rolls I B w hI hI2 hB hB2).mono ?_
  rintro e w1 ⟨s', p, he, hx, hs', P, R, n, rfl, hn, hc, _, _, hr⟩
  rw [hs.out] at hs' hn
  subst hs'
  unfold Gave at he
  subst he
  have HN : Hid ((n : Int) = q) := hn.trans hq.out
  clear hn
  have k1 := World.block_lt_of_cell? w1 _ hr.ptr
  have k2 : P < w1.heap.size := k1
  have hp := hr.ptr
  go_wp2_with go_in
  go_quiet (fail)
  go_wp2
  go_ret3
  exact ⟨ret_roll HN.out, (hx.alloc _ _).drewN _⟩

/-! covers, at what newWindow gives. -/
set_option maxHeartbeats 400000 in
theorem covers_any (I s q : Int) (w : World) (hI : 1 ≤ I) (hI2 : I ≤ 9223372036854775807) (hs : 1 ≤ s) (hs2 : s ≤ 9223372036854775807) (hq : (I - 1) / s + 1 = q) (hc : q ≤ 4096) :
    Calls Try.prog 13 #[.int .i64 I, .int .i64 s, .int .i64 q] w fun e w' => e = .returned (.bool true) ∧ w = w' := by
  have hd := div_pos_le (I - 1) s (by omega) hs
  have h1 : 1 ≤ q := by omega
  have h2 : (I - 1) / s < q := by omega
  have h3 : q - 1 ≤ (I - 1) / s := by omega
  clear hq
  go_enter Try.func13, Try.ntmps13
  go_wp2
  go_ret
  exact ⟨rfl, rfl⟩

set_option maxHeartbeats 400000 in
theorem finer_none (I F C : Int) (w : World) (hI : I ≤ 0) :
    Calls Try.prog 4 #[.int .i64 I, .int .i64 F, .int .i64 C] w fun e w' => e = .returned (.bool true) ∧ Ext w w' := by
  by_cases hFC : C < F
  · go_enter Try.func4, Try.ntmps4
    go_wp2_with fail
    refine (roll_none I C w hI).mono ?_
    rintro e w1 ⟨rfl, hx1⟩
    go_wp2_with fail
    refine (roll_none I F w1 hI).mono ?_
    rintro e w2 ⟨rfl, hx2⟩
    go_wp2
    go_ret
    exact ⟨rfl, hx1.trans hx2⟩
  · go_enter Try.func4, Try.ntmps4
    go_wp2_with fail
    refine (roll_none I F w hI).mono ?_
    rintro e w1 ⟨rfl, hx1⟩
    go_wp2_with fail
    refine (roll_none I C w1 hI).mono ?_
    rintro e w2 ⟨rfl, hx2⟩
    go_wp2
    go_ret
    exact ⟨rfl, hx1.trans hx2⟩

set_option maxHeartbeats 400000 in
theorem finer_fixed (I F C : Int) (w : World) (hI : 1 ≤ I) (hF : F ≤ 0) (hC : C ≤ 0) :
    Calls Try.prog 4 #[.int .i64 I, .int .i64 F, .int .i64 C] w fun e w' => e = .returned (.bool true) ∧ Ext w w' := by
  by_cases hFC : C < F
  · go_enter Try.func4, Try.ntmps4
    go_wp2_with fail
    refine (roll_fixed I C w hI hC).mono ?_
    rintro e w1 ⟨rfl, hx1⟩
    go_wp2_with fail
    refine (roll_fixed I F w1 hI hF).mono ?_
    rintro e w2 ⟨rfl, hx2⟩
    go_wp2
    go_ret
    exact ⟨rfl, hx1.trans hx2⟩
  · go_enter Try.func4, Try.ntmps4
    go_wp2_with fail
    refine (roll_fixed I F w hI hF).mono ?_
    rintro e w1 ⟨rfl, hx1⟩
    go_wp2_with fail
    refine (roll_fixed I C w1 hI hC).mono ?_
    rintro e w2 ⟨rfl, hx2⟩
    go_wp2
    go_ret
    exact ⟨rfl, hx1.trans hx2⟩

/-! One of the two periods is not positive, whichever way round they came. -/
set_option maxHeartbeats 400000 in
theorem finer_half (I F C lo hi s q : Int) (w : World) (hI : 1 ≤ I) (hI2 : I ≤ 9223372036854775807) (hlo : lo ≤ 0) (hhi : 1 ≤ hi) (hhi2 : hi ≤ 9223372036854775807)
    (hv : (F = lo ∧ C = hi) ∨ (F = hi ∧ C = lo)) (hs : Hid (stp I hi = s)) (hq : Hid ((I - 1) / s + 1 = q)) (hs1 : 1 ≤ s) (hs2 : s ≤ I) (hc : q ≤ 4096) :
    Calls Try.prog 4 #[.int .i64 I, .int .i64 F, .int .i64 C] w fun e w' => e = .returned (.bool true) ∧ Ext w w' := by
  have K := fun w => covers_any I s q w hI hI2 hs1 (by omega) hq.out hc
  rcases hv with ⟨rfl, rfl⟩ | ⟨rfl, rfl⟩
  · have hFC : ¬ C < F := by omega
    go_enter Try.func4, Try.ntmps4
    go_wp2_with fail
    refine (roll_fixed I F w hI hlo).mono ?_
    rintro e w1 ⟨rfl, hx1⟩
    go_wp2_with fail
    refine (roll_rolls I C s q w1 hI hI2 hhi hhi2 hs hq).mono ?_
    rintro e w2 ⟨rfl, hx2⟩
    go_wp2_with (go_at_call 13; refine (K _).mono ?_; rintro e w' ⟨rfl, rfl⟩)
    go_ret
    exact ⟨rfl, hx1.trans hx2⟩
  · have hFC : C < F := by omega
    go_enter Try.func4, Try.ntmps4
    go_wp2_with fail
    refine (roll_fixed I C w hI hlo).mono ?_
    rintro e w1 ⟨rfl, hx1⟩
    go_wp2_with fail
    refine (roll_rolls I F s q w1 hI hI2 hhi hhi2 hs hq).mono ?_
    rintro e w2 ⟨rfl, hx2⟩
    go_wp2_with (go_at_call 13; refine (K _).mono ?_; rintro e w' ⟨rfl, rfl⟩)
    go_ret
    exact ⟨rfl, hx1.trans hx2⟩

set_option maxHeartbeats 400000 in
theorem finer_both (I F C lo hi s q t r : Int) (w : World) (hI : 1 ≤ I) (hI2 : I ≤ 9223372036854775807) (hlo : 1 ≤ lo) (hhi : lo ≤ hi) (hhi2 : hi ≤ 9223372036854775807)
    (hv : (F = lo ∧ C = hi) ∨ (F = hi ∧ C = lo ∧ lo < hi)) (hs : Hid (stp I lo = s)) (hq : Hid ((I - 1) / s + 1 = q)) (ht : Hid (stp I hi = t)) (hr : Hid ((I - 1) / t + 1 = r))
    (hs1 : 1 ≤ s) (_hs2 : s ≤ I) (ht1 : 1 ≤ t) (ht2 : t ≤ I) (hqc : q ≤ 4096) (hrc : r ≤ 4096) (hst : s ≤ t) (hqr : r ≤ q) :
    Calls Try.prog 4 #[.int .i64 I, .int .i64 F, .int .i64 C] w fun e w' => e = .returned (.bool true) ∧ Ext w w' := by
  have K1 := fun w => covers_any I s q w hI hI2 hs1 (by omega) hq.out hqc
  have K2 := fun w => covers_any I t r w hI hI2 ht1 (by omega) hr.out hrc
  rcases hv with ⟨rfl, rfl⟩ | ⟨rfl, rfl, hlt⟩
  · have hFC : ¬ C < F := by omega
    go_enter Try.func4, Try.ntmps4
    go_wp2_with fail
    refine (roll_rolls I F s q w hI hI2 hlo (by omega) hs hq).mono ?_
    rintro e w1 ⟨rfl, hx1⟩
    go_wp2_with fail
    refine (roll_rolls I C t r w1 hI hI2 (by omega) hhi2 ht hr).mono ?_
    rintro e w2 ⟨rfl, hx2⟩
    go_wp2_with fail
    refine (K1 _).mono ?_
    rintro e w' ⟨rfl, rfl⟩
    go_wp2_with fail
    refine (K2 _).mono ?_
    rintro e w' ⟨rfl, rfl⟩
    go_wp2
    go_ret
    exact ⟨rfl, hx1.trans hx2⟩
  · go_enter Try.func4, Try.ntmps4
    go_wp2_with fail
    refine (roll_rolls I C s q w hI hI2 hlo (by omega) hs hq).mono ?_
    rintro e w1 ⟨rfl, hx1⟩
    go_wp2_with fail
    refine (roll_rolls I F t r w1 hI hI2 (by omega) hhi2 ht hr).mono ?_
    rintro e w2 ⟨rfl, hx2⟩
    go_wp2_with fail
    refine (K1 _).mono ?_
    rintro e w' ⟨rfl, rfl⟩
    go_wp2_with fail
    refine (K2 _).mono ?_
    rintro e w' ⟨rfl, rfl⟩
    go_wp2
    go_ret
    exact ⟨rfl, hx1.trans hx2⟩

theorem finer_any (I F C : Int) (w : World) (hI2 : I ≤ 9223372036854775807) (hF2 : F ≤ 9223372036854775807) (hC2 : C ≤ 9223372036854775807) :
    Calls Try.prog 4 #[.int .i64 I, .int .i64 F, .int .i64 C] w fun e w' => e = .returned (.bool true) ∧ Grown w w' := by
  have fin : ∀ (e : Ending) w', (e = .returned (.bool true) ∧ Ext w w') → e = .returned (.bool true) ∧ Grown w w' := fun e w' h => ⟨h.1, h.2.grown⟩
  by_cases hI : I ≤ 0
  · exact (finer_none I F C w hI).mono fin
  have hI1 : 1 ≤ I := by omega
  obtain ⟨lo, hi, hv, hlh, hhi2⟩ : ∃ lo hi, ((F = lo ∧ C = hi) ∨ (F = hi ∧ C = lo ∧ lo < hi)) ∧ lo ≤ hi ∧ hi ≤ 9223372036854775807 := by
    by_cases h : C < F
    · exact ⟨C, F, .inr ⟨rfl, rfl, h⟩, by omega, hF2⟩
    · exact ⟨F, C, .inl ⟨rfl, rfl⟩, by omega, hC2⟩
  by_cases h1 : hi ≤ 0
  · exact (finer_fixed I F C w hI1 (by omega) (by omega)).mono fin
  have ph := stp_pos I hi hI1 (by omega)
  have fh := few I hi hI1 (by omega)
  by_cases h0 : lo ≤ 0
  · exact (finer_half I F C lo hi _ _ w hI1 hI2 h0 (by omega) hhi2 (by rcases hv with h | h; exact .inl h; exact .inr ⟨h.1, h.2.1⟩) rfl rfl ph.1 ph.2 (by omega)).mono fin
  have pl := stp_pos I lo hI1 (by omega)
  have fl := few I lo hI1 (by omega)
  have hm := stp_mono I lo hi hI1 (by omega) hlh
  have hn := num_mono I _ _ hI1 pl.1 hm
  exact (finer_both I F C lo hi _ _ _ _ w hI1 hI2 (by omega) hlh hhi2 hv rfl rfl rfl rfl pl.1 pl.2 ph.1 ph.2 (by omega) (by omega) hm (by omega)).mono fin
end Go.Proofs.Qxb6605974a
