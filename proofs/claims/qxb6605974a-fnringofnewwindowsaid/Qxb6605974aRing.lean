import Derived.Test.Qxb6605974aExact
import Derived.LaidEqlPtr
namespace Go.Proofs.Qxb6605974a
open Go.RowKit

set_option maxHeartbeats 400000 in
theorem ring_none (I B : Int) (w : World) (hI : I ≤ 0) :
    Calls Try.prog 5 #[.int .i64 I, .int .i64 B] w fun e w' => e = .returned (.bool true) ∧ Ext w w' := by
  have q := fun (w : World) (a : Option Addr) (n c n' c' : Nat) => Lib.run_eql_slice_nil (P := Try.prog) w 32 37 a n c n' c' Try.underlying32
  go_enter Try.func5, Try.ntmps5
  go_wp2_with fail
  refine (znew_none I B w hI).mono ?_
  rintro e w1 ⟨s, p, he, hx, rfl, rfl⟩
  unfold Gave at he
  subst he
  go_wp2
  go_ret
  exact ⟨rfl, hx.alloc _ _⟩

set_option maxHeartbeats 400000 in
theorem ring_fixed (I B : Int) (w : World) (hI : 1 ≤ I) (hB : B ≤ 0) :
    Calls Try.prog 5 #[.int .i64 I, .int .i64 B] w fun e w' => e = .returned (.bool true) ∧ Ext w w' := by
  have q := fun (w : World) (a : Option Addr) (n c n' c' : Nat) => Lib.run_eql_slice_nil (P := Try.prog) w 32 37 a n c n' c' Try.underlying32
  go_enter Try.func5, Try.ntmps5
  go_wp2_with fail
  refine (znew_fixed I B w hI hB).mono ?_
  rintro e w1 ⟨s, p, he, hx, rfl, rfl⟩
  unfold Gave at he
  subst he
  go_wp2
  go_ret
  exact ⟨rfl, hx.alloc _ _⟩

set_option maxHeartbeats 400000 in
theorem ring_rolls (I B : Int) (w : World) (hI : 1 ≤ I) (hI2 : I ≤ 9223372036854775807) (hB : 1 ≤ B) (hB2 : B ≤ 9223372036854775807) :
    Calls Try.prog 5 #[.int .i64 I, .int .i64 B] w fun e w' => e = .returned (.bool true) ∧ Ext w w' := by
  have q := fun (w : World) (a : Option Addr) (n c n' c' : Nat) => Lib.run_eql_slice_nil (P := Try.prog) w 32 37 a n c n' c' Try.underlying32
  have hs := stp_pos I B hI hB
  go_enter Try.func5, Try.ntmps5
  go_wp2_with fail
  refine (znew_rolls I B w hI hI2 hB hB2).mono ?_
  rintro e w1 ⟨s, p, he, hx, rfl, P, R, n, rfl, hn, hc, _, _, hr⟩
  unfold Gave at he
  subst he
  generalize stp I B = s at *
  have hd := div_pos_le (I - 1) s (by omega) hs.1
  have hne : ((n : Int) != (I - 1) / s + 1) = false := by rw [hn]; simp
  have hcI : (n : Int) ≤ 4096 := by omega
  have hn1 : 1 ≤ (n : Int) := by omega
  have HN : Hid ((n : Int) = (I - 1) / s + 1) := hn
  clear hn
  have k1 := World.block_lt_of_cell? w1 _ hr.ptr
  have k2 : P < w1.heap.size := k1
  have hp := hr.ptr
  go_wp2_with go_in
  have R0 : Ring (w1.alloc (.cells #[.int .i64 s, .int .i64 0, .pointer (some ⟨P, 0, none⟩)] 25)) P R n := hr.ext ((Ext.refl _).alloc _ _)
  have X0 : Ext w (w1.alloc (.cells #[.int .i64 s, .int .i64 0, .pointer (some ⟨P, 0, none⟩)] 25)) := hx.alloc _ _
  have W0 : (w1.alloc (.cells #[.int .i64 s, .int .i64 0, .pointer (some ⟨P, 0, none⟩)] 25)).cell? ⟨w1.heap.size, 2, none⟩ = some (.pointer (some ⟨P, 0, none⟩)) := by simp
  generalize w1.heap.size = V at *
  clear hne hr hp q hx
  go_loopw [9] (fun i wr => ∃ k : Nat, k ≤ n ∧ i = .int .i64 k ∧ Ring wr P R n ∧ Ext w wr ∧ wr.cell? ⟨V, 2, none⟩ = some (.pointer (some ⟨P, 0, none⟩))) (fun i _ => n - (intOf i).toNat)
  case atStart => exact ⟨0, Nat.zero_le _, rfl, R0, X0, W0⟩
  case round =>
    obtain ⟨k, hk, rfl, hm, hxr, hwr⟩ := hrel
    clear R0 X0 W0
    have hp := hm.ptr
    by_cases hlt : k < n
    · have c0 := hm.cell (k * 3) (by omega)
      have c1 := hm.cell (k * 3 + 1) (by omega)
      have c2 := hm.cell (k * 3 + 2) (by omega)
      go_wp2_with fail
      refine (fields_any 0 0 0 _).mono ?_
      rintro e w2 ⟨rfl, hx2⟩
      have hwr2 := hx2.cell hwr
      go_wp2
      go_roundw
      case rel => exact ⟨k + 1, by omega, by go_num, hm.ext hx2, hxr.trans hx2, hwr2⟩
      case measure => simp [intOf]; omega
    · have h0n : 0 < n := by omega
      obtain ⟨i37, hi37, _, _, _⟩ := info_parts info37
      have qp := fun (w : World) (a : Addr) => run_eql_ptr_same (P := Try.prog) w a Try.underlying43 hi37
      clear hi37
      go_wp2_with go_in
      go_quiet (fail)
      go_wp2
      go_ret
      exact ⟨rfl, hxr.drewN _⟩

theorem ring_any (I B : Int) (w : World) (hI2 : I ≤ 9223372036854775807) (hB2 : B ≤ 9223372036854775807) :
    Calls Try.prog 5 #[.int .i64 I, .int .i64 B] w fun e w' => e = .returned (.bool true) ∧ Grown w w' := by
  have fin : ∀ (e : Ending) w', (e = .returned (.bool true) ∧ Ext w w') → e = .returned (.bool true) ∧ Grown w w' := fun e w' h => ⟨h.1, h.2.grown⟩
  by_cases hI : I ≤ 0
  · exact (ring_none I B w hI).mono fin
  · by_cases hB : B ≤ 0
    · exact (ring_fixed I B w (by omega) hB).mono fin
    · exact (ring_rolls I B w (by omega) hI2 (by omega) hB2).mono fin
end Go.Proofs.Qxb6605974a
