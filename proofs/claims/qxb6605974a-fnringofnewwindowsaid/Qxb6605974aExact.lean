import Derived.Test.Qxb6605974aNew
namespace Go.Proofs.Qxb6605974a
open Go.RowKit

set_option maxHeartbeats 400000 in
theorem fields_any (a b c : Int) (w : World) :
    Calls Try.prog 11 #[.agg #[.int .u32 a, .int .u32 b, .int .u32 c]] w fun e w' => e = .returned (.tuple #[.int .u32 a, .int .u32 b, .int .u32 c]) ∧ Ext w w' := by
  go_enter Try.func11, Try.ntmps11
  go_wp2_with fail
  go_quiet (fail)
  go_wp2
  go_ret3
  exact ⟨rfl, ((Ext.refl w).alloc _ _).drewN _⟩

set_option maxHeartbeats 400000 in
theorem want_any (I B : Int) (w : World) (hI : 1 ≤ I) (hI2 : I ≤ 9223372036854775807) (hB : 1 ≤ B) (hB2 : B ≤ 9223372036854775807) :
    Calls Try.prog 10 #[.int .i64 I, .int .i64 B] w fun e w' => e = .returned (.int .i64 (stp I B)) ∧ w = w' := by
  have h0 := div_pos_le (I - 1) B (by omega) hB
  by_cases h1 : I ≤ B
  · have H : Hid (I = stp I B) := by unfold stp; rw [if_pos h1]; rfl
    generalize stp I B = r at H
    go_enter Try.func10, Try.ntmps10
    go_wp2
    go_ret
    exact ⟨ret_int H.out, rfl⟩
  · by_cases h2 : (I - 1) / B < 4096
    · have H : Hid (B = stp I B) := by unfold stp; rw [if_neg h1, if_pos h2]; rfl
      generalize stp I B = r at H
      go_enter Try.func10, Try.ntmps10
      go_wp2
      go_ret
      exact ⟨ret_int H.out, rfl⟩
    · have H : Hid ((I - 1) / 4096 + 1 = stp I B) := by unfold stp; rw [if_neg h1, if_neg h2]; rfl
      generalize stp I B = r at H
      go_enter Try.func10, Try.ntmps10
      go_wp2
      go_ret
      exact ⟨ret_int H.out, rfl⟩

set_option maxHeartbeats 400000 in
theorem exact_none (I B : Int) (w : World) (hI : I ≤ 0) :
    Calls Try.prog 3 #[.int .i64 I, .int .i64 B] w fun e w' => e = .returned (.bool true) ∧ Ext w w' := by
  go_enter Try.func3, Try.ntmps3
  go_wp2_with fail
  refine (znew_none I B w hI).mono ?_
  rintro e w1 ⟨s, p, he, hx, rfl, rfl⟩
  unfold Gave at he
  subst he
  go_wp2
  go_ret
  exact ⟨rfl, hx.alloc _ _⟩

set_option maxHeartbeats 400000 in
theorem exact_fixed (I B : Int) (w : World) (hI : 1 ≤ I) (hB : B ≤ 0) :
    Calls Try.prog 3 #[.int .i64 I, .int .i64 B] w fun e w' => e = .returned (.bool true) ∧ Ext w w' := by
  go_enter Try.func3, Try.ntmps3
  go_wp2_with fail
  refine (znew_fixed I B w hI hB).mono ?_
  rintro e w1 ⟨s, p, he, hx, rfl, rfl⟩
  unfold Gave at he
  subst he
  go_wp2
  go_ret
  exact ⟨rfl, hx.alloc _ _⟩

set_option maxHeartbeats 400000 in
theorem exact_rolls (I B : Int) (w : World) (hI : 1 ≤ I) (hI2 : I ≤ 9223372036854775807) (hB : 1 ≤ B) (hB2 : B ≤ 9223372036854775807) :
    Calls Try.prog 3 #[.int .i64 I, .int .i64 B] w fun e w' => e = .returned (.bool true) ∧ Ext w w' := by
  have C10 := fun w => want_any I B w hI hI2 hB hB2
  have hs := stp_pos I B hI hB
  go_enter Try.func3, Try.ntmps3
  go_wp2_with fail
  refine (znew_rolls I B w hI hI2 hB hB2).mono ?_
  rintro e w1 ⟨s, p, he, hx, rfl, P, R, n, rfl, hn, hc, _, _, hr⟩
  unfold Gave at he
  subst he
  generalize stp I B = s at *
  have hd := div_pos_le (I - 1) s (by omega) hs.1
  have hne : ((n : Int) == (I - 1) / s + 1) = true := by rw [hn]; simp
  have hcI : (n : Int) ≤ 4096 := by omega
  have HN : Hid ((n : Int) = (I - 1) / s + 1) := hn
  clear hn
  have k1 := World.block_lt_of_cell? w1 _ hr.ptr
  have k2 : P < w1.heap.size := k1
  have hp := hr.ptr
  go_wp2_with (first | (go_at_call 10; refine (C10 _).mono ?_; rintro e w' ⟨rfl, rfl⟩) | go_in)
  have R0 : Ring (w1.alloc (.cells #[.int .i64 s, .int .i64 0, .pointer (some ⟨P, 0, none⟩)] 25)) P R n := hr.ext ((Ext.refl _).alloc _ _)
  have X0 : Ext w (w1.alloc (.cells #[.int .i64 s, .int .i64 0, .pointer (some ⟨P, 0, none⟩)] 25)) := hx.alloc _ _
  clear hne hr hp C10
  go_loopw [11] (fun i wr => ∃ k : Nat, k ≤ n ∧ i = .int .i64 k ∧ Ring wr P R n ∧ Ext w wr) (fun i _ => n - (intOf i).toNat)
  case atStart => exact ⟨0, Nat.zero_le _, rfl, R0, X0⟩
  case round =>
    obtain ⟨k, hk, rfl, hm, hxr⟩ := hrel
    clear R0 X0
    have hp := hm.ptr
    by_cases hlt : k < n
    · have c0 := hm.cell (k * 3) (by omega)
      have c1 := hm.cell (k * 3 + 1) (by omega)
      have c2 := hm.cell (k * 3 + 2) (by omega)
      go_wp2_with fail
      refine (fields_any 0 0 0 _).mono ?_
      rintro e w2 ⟨rfl, hx2⟩
      go_wp2
      go_roundw
      case rel => exact ⟨k + 1, by omega, by go_num, hm.ext hx2, hxr.trans hx2⟩
      case measure => simp [intOf]; omega
    · go_wp2
      go_ret
      exact ⟨rfl, hxr⟩

theorem exact_any (I B : Int) (w : World) (hI2 : I ≤ 9223372036854775807) (hB2 : B ≤ 9223372036854775807) :
    Calls Try.prog 3 #[.int .i64 I, .int .i64 B] w fun e w' => e = .returned (.bool true) ∧ Grown w w' := by
  have fin : ∀ (e : Ending) w', (e = .returned (.bool true) ∧ Ext w w') → e = .returned (.bool true) ∧ Grown w w' := fun e w' h => ⟨h.1, h.2.grown⟩
  by_cases hI : I ≤ 0
  · exact (exact_none I B w hI).mono fin
  · by_cases hB : B ≤ 0
    · exact (exact_fixed I B w (by omega) hB).mono fin
    · exact (exact_rolls I B w (by omega) hI2 (by omega) hB2).mono fin
end Go.Proofs.Qxb6605974a
