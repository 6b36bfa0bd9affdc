import Derived.Test.Qxb6605974aRows
import Derived.Test.Qxb6605974aPlain
import Derived.WalkKit
import Derived.WalkSpells
import Derived.WalkLawsBesides
import Derived.Deep.OwnRows
import Derived.Deep.QuietTactic
import Derived.BigQuiet
namespace Go.Proofs.Qxb6605974a
open Go.RowKit

theorem ret_int {k : IntKind} {a b : Int} (h : a = b) : Ending.returned (.int k a) = .returned (.int k b) := by rw [h]

set_option maxHeartbeats 400000 in
theorem ceil_any (a b : Int) (w : World) (ha : 1 ≤ a) (ha2 : a ≤ 9223372036854775807) (hb : 1 ≤ b) (hb2 : b ≤ 9223372036854775807) :
    Calls Try.prog 17 #[.int .i64 a, .int .i64 b] w fun e w' => e = .returned (.int .i64 (cd a b)) ∧ w = w' := by
  have h1 := div_pos_le a b (by omega) hb
  by_cases h : a % b = 0
  · have H : Hid (a / b = cd a b) := cd_exact a b hb h
    generalize cd a b = r at H
    go_enter Try.func17, Try.ntmps17
    go_wp2
    go_ret
    exact ⟨ret_int H.out, rfl⟩
  · have H : Hid (a / b + 1 = cd a b) := cd_up a b hb h
    have h' : (a % b == 0) = false := by rw [beq_eq_false_iff_ne]; exact h
    have h3 : a / b + 1 ≤ 9223372036854775807 := by rw [H.out]; have := cd_pos a b ha hb; omega
    generalize cd a b = r at H
    go_enter Try.func17, Try.ntmps17
    go_wp2
    go_ret
    exact ⟨ret_int H.out, rfl⟩

/-- w' is w with new blocks behind it, none of them frozen. -/
def Ext (w w' : World) : Prop := Below w.heap.size w w' ∧ ∀ a, w'.frozen? a = w.frozen? a
theorem Ext.refl (w : World) : Ext w w := ⟨Below.refl _ _, fun _ => rfl⟩
theorem Ext.trans {a b c : World} (h : Ext a b) (k : Ext b c) : Ext a c := ⟨h.1.trans (k.1.mono h.1.size), fun x => (k.2 x).trans (h.2 x)⟩
theorem Ext.alloc {a b : World} (h : Ext a b) (c : Array Value) (t : TypeId) : Ext a (b.alloc (.cells c t)) := ⟨h.1.alloc h.1.size _, fun x => (frozen?_alloc_cells _ _ _ x).trans (h.2 x)⟩
theorem Ext.drewN {a b : World} (h : Ext a b) (n : Nat) : Ext a (b.drewN n) := ⟨⟨h.1.os, h.1.tape, h.1.output, h.1.size, h.1.block⟩, h.2⟩
theorem Ext.grown {a b : World} (h : Ext a b) : Grown a b := ⟨h.1.frame _, h.2, h.1.size⟩

theorem info37 : (Try.prog.info? 37).map (fun i => (i.zero, i.size, i.bytes)) = some (some (.agg #[.int .u32 0, .int .u32 0, .int .u32 0]), 3, 12) := by kernel_rfl

/-- 'make([]bucket, n)': a new row of 3 n zeros. -/
def zeros (n : Nat) : Obj := .cells (madeCells #[.int .u32 0, .int .u32 0, .int .u32 0] (n * 3)) 37
theorem make_buckets (n : Nat) (hn : n ≤ 4096) (w : World) :
    (Instr.makeSlice 32 (.int .i64 (n : Int)) (.int .i64 (n : Int))).run Try.prog w = .ok (.slice (some ⟨w.heap.size, 0, none⟩) n n) (w.alloc (zeros n)) := by
  obtain ⟨i, hi, hz, hs, hb⟩ := info_parts info37
  have hr := run_make (P := Try.prog) w 32 37 i _ Try.underlying32 hi hz .i64 .i64 n n (by omega) (Int.le_refl _) (by rw [hb]; omega) (by omega)
  simp only [Int.toNat_natCast, hs] at hr
  exact hr
theorem zeros_at (n j : Nat) (w : World) (hj : j < n * 3) : (w.alloc (zeros n)).cell? ⟨w.heap.size, j, none⟩ = some (.int .u32 0) := by
  unfold zeros
  rw [World.cell?_alloc_new]
  have h3 : j % 3 = 0 ∨ j % 3 = 1 ∨ j % 3 = 2 := by omega
  rcases h3 with h | h | h <;> simp [madeCells, hj, h]

set_option maxHeartbeats 400000 in
theorem new_none (I B : Int) (w : World) (hI : I ≤ 0) :
    Calls Try.prog 15 #[.int .i64 I, .int .i64 B] w fun e w' => e = .returned (.agg #[.int .i64 0, .int .i64 0, .pointer none]) ∧ Ext w w' := by
  go_enter Try.func15, Try.ntmps15
  go_wp2
  exact bodyPost_ret (v := .agg #[.int .i64 0, .int .i64 0, .pointer none]) (by simp [results, Try.results15, go_sem]) rfl ⟨rfl, (Ext.refl _).alloc _ _⟩

set_option maxHeartbeats 400000 in
theorem new_fixed (I B : Int) (w : World) (hI : 1 ≤ I) (hB : B ≤ 0) :
    Calls Try.prog 15 #[.int .i64 I, .int .i64 B] w fun e w' => e = .returned (.agg #[.int .i64 I, .int .i64 0, .pointer none]) ∧ Ext w w' := by
  go_enter Try.func15, Try.ntmps15
  go_wp2
  exact bodyPost_ret (v := .agg #[.int .i64 I, .int .i64 0, .pointer none]) (by simp [results, Try.results15, go_sem]) rfl ⟨rfl, (Ext.refl _).alloc _ _⟩

/-- P holds a slice of n buckets, each of them three zeros, which lie in block R. -/
structure Ring (w : World) (P R n : Nat) : Prop where
  ptr : w.cell? ⟨P, 0, none⟩ = some (.slice (some ⟨R, 0, none⟩) n n)
  cell : ∀ j, j < n * 3 → w.cell? ⟨R, j, none⟩ = some (.int .u32 0)
theorem Ext.cell {w w' : World} (h : Ext w w') {a : Addr} {v : Value} (hc : w.cell? a = some v) : w'.cell? a = some v := (h.1.cell (World.block_lt_of_cell? w a hc)).trans hc
theorem Ring.ext {w w' : World} {P R n : Nat} (h : Ring w P R n) (k : Ext w w') : Ring w' P R n := ⟨k.cell h.ptr, fun j hj => k.cell (h.cell j hj)⟩

/-- What newWindow gives for two positive numbers. -/
structure Rolled (I B : Int) (w : World) (e : Ending) (w' : World) : Prop where
  mk :: (out : ∃ P R n : Nat, e = .returned (.agg #[.int .i64 (stp I B), .int .i64 0, .pointer (some ⟨P, 0, none⟩)]) ∧ (n : Int) = (I - 1) / stp I B + 1 ∧ n ≤ 4096 ∧ w.heap.size ≤ P ∧ w.heap.size ≤ R ∧ Ring w' P R n ∧ Ext w w')

theorem Rolled.make (I B st : Int) (n : Nat) (w : World) (h1 : st = stp I B) (h2 : (n : Int) = cd I st) (h3 : n ≤ 4096) :
    Rolled I B w (.returned (.agg #[.int .i64 st, .int .i64 0, .pointer (some ⟨w.heap.size + 1 + 1, 0, none⟩)]))
      (((w.alloc (.cells #[.int .i64 st, .int .i64 0, .pointer (some ⟨w.heap.size + 1 + 1, 0, none⟩)] 25)).alloc (zeros n)).alloc (.cells #[.slice (some ⟨w.heap.size + 1, 0, none⟩) n n] 32)) := by
  subst h1
  refine ⟨w.heap.size + 1 + 1, w.heap.size + 1, n, rfl, h2, h3, by omega, by omega, ⟨?_, fun j hj => ?_⟩, (((Ext.refl _).alloc _ _).alloc _ _).alloc _ _⟩
  · rw [World.cell?_alloc_at _ _ _ _ (by simp)]; rfl
  · rw [World.cell?_alloc_lt _ _ _ (by simp)]
    have := zeros_at n j (w.alloc (.cells #[.int .i64 (stp I B), .int .i64 0, .pointer (some ⟨w.heap.size + 1 + 1, 0, none⟩)] 25)) hj
    simpa using this

set_option maxHeartbeats 400000 in
theorem new_rolls_min (I B : Int) (n : Nat) (w : World) (hI : 1 ≤ I) (hI2 : I ≤ 9223372036854775807) (hB : 1 ≤ B) (hB2 : B ≤ 9223372036854775807) (hBI : B ≤ I) (hn : cd I B = n) (hc : n ≤ 4096) :
    Calls Try.prog 15 #[.int .i64 I, .int .i64 B] w (Rolled I B w) := by
  have C := fun w => ceil_any I B w hI hI2 hB hB2
  have M := make_buckets n hc
  have R := Rolled.make I B B n w (by rw [stp_min I B (by rw [show min B I = B by omega, hn]; omega)]; omega) hn.symm hc
  rw [hn] at C
  clear hn
  have hcI : (n : Int) ≤ 4096 := by omega
  go_enter Try.func15, Try.ntmps15
  go_wp2_with (go_at_call 17; refine (C _).mono ?_; rintro e w' ⟨rfl, rfl⟩)
  exact bodyPost_ret (v := .agg #[.int .i64 B, .int .i64 0, .pointer (some ⟨w.heap.size + 1 + 1, 0, none⟩)]) (by simp [results, Try.results15, go_sem]) rfl R

set_option maxHeartbeats 400000 in
theorem new_rolls_one (I B : Int) (n : Nat) (w : World) (hI : 1 ≤ I) (hI2 : I ≤ 9223372036854775807) (hBI : I < B) (hn : cd I I = n) (hc : n ≤ 4096) :
    Calls Try.prog 15 #[.int .i64 I, .int .i64 B] w (Rolled I B w) := by
  have C := fun w => ceil_any I I w hI hI2 hI hI2
  have M := make_buckets n hc
  have R := Rolled.make I B I n w (by unfold stp; rw [if_pos (by omega)]) hn.symm hc
  rw [hn] at C
  clear hn
  have hcI : (n : Int) ≤ 4096 := by omega
  go_enter Try.func15, Try.ntmps15
  go_wp2_with (go_at_call 17; refine (C _).mono ?_; rintro e w' ⟨rfl, rfl⟩)
  exact bodyPost_ret (v := .agg #[.int .i64 I, .int .i64 0, .pointer (some ⟨w.heap.size + 1 + 1, 0, none⟩)]) (by simp [results, Try.results15, go_sem]) rfl R

set_option maxHeartbeats 400000 in
theorem new_rolls_cap (I B st : Int) (n m : Nat) (w : World) (hI : 1 ≤ I) (hI2 : I ≤ 9223372036854775807) (hB : 1 ≤ B) (hB2 : B ≤ 9223372036854775807) (hBI : B ≤ I) (hm : cd I B = m) (hmc : 4096 < m)
    (hst : cd I 4096 = st) (hn : cd I st = n) (hc : n ≤ 4096) :
    Calls Try.prog 15 #[.int .i64 I, .int .i64 B] w (Rolled I B w) := by
  have hp := cd_pos I 4096 hI (by omega)
  have C1 := fun w => ceil_any I B w hI hI2 hB hB2
  have C2 := fun w => ceil_any I 4096 w hI hI2 (by omega) (by omega)
  have C3 := fun w => ceil_any I st w hI hI2 (by omega) (by omega)
  have M := make_buckets n hc
  have R := Rolled.make I B st n w (by rw [stp_cap I B hI (by rw [show min B I = B by omega, hm]; omega), hst]) hn.symm hc
  rw [hn] at C3
  rw [hm] at C1
  rw [hst] at C2 hp
  clear hn hm hst
  have hcI : (n : Int) ≤ 4096 := by omega
  have hmI : 4096 < (m : Int) := by omega
  go_enter Try.func15, Try.ntmps15
  go_wp2_with fail
  refine (C1 _).mono ?_
  rintro e w' ⟨rfl, rfl⟩
  go_wp2_with fail
  refine (C2 _).mono ?_
  rintro e w' ⟨rfl, rfl⟩
  go_wp2_with fail
  refine (C3 _).mono ?_
  rintro e w' ⟨rfl, rfl⟩
  go_wp2
  exact bodyPost_ret (v := .agg #[.int .i64 st, .int .i64 0, .pointer (some ⟨w.heap.size + 1 + 1, 0, none⟩)]) (by simp [results, Try.results15, go_sem]) rfl R

theorem new_rolls (I B : Int) (w : World) (hI : 1 ≤ I) (hI2 : I ≤ 9223372036854775807) (hB : 1 ≤ B) (hB2 : B ≤ 9223372036854775807) :
    Calls Try.prog 15 #[.int .i64 I, .int .i64 B] w (Rolled I B w) := by
  by_cases hBI : B ≤ I
  · obtain ⟨m, hm⟩ : ∃ m : Nat, cd I B = m := Int.eq_ofNat_of_zero_le (by have := cd_pos I B hI hB; omega)
    by_cases hc : m ≤ 4096
    · exact new_rolls_min I B m w hI hI2 hB hB2 hBI hm hc
    · have h4 := cd_pos I 4096 hI (by omega)
      have hs : stp I B = cd I 4096 := stp_cap I B hI (by rw [show min B I = B by omega, hm]; omega)
      have hf := few I B hI hB
      obtain ⟨n, hn⟩ : ∃ n : Nat, cd I (cd I 4096) = n := Int.eq_ofNat_of_zero_le (by have := cd_pos I (cd I 4096) hI (by omega); omega)
      refine new_rolls_cap I B _ n m w hI hI2 hB hB2 hBI hm (by omega) rfl hn ?_
      rw [hs] at hf
      have : cd I (cd I 4096) = (I - 1) / cd I 4096 + 1 := rfl
      omega
  · exact new_rolls_one I B 1 w hI hI2 (by omega) (by unfold cd; rw [Int.ediv_eq_zero_of_lt (by omega) (by omega)]; rfl) (by omega)

/-! ZZNewWindow: the window is copied into the caller's result. -/
def win (s : Int) (p : Option Addr) : Array Value := #[.int .i64 s, .int .i64 0, .pointer p]
/-- A window has been given back: its step s and its buckets' pointer p; of the world w' behind it K holds. -/
def Gave (s : Int) (p : Option Addr) (e : Ending) : Prop := e = .returned (.agg #[.int .i64 s, .int .i64 0, .pointer p])
def Wins (K : Int → Option Addr → World → Prop) (w : World) (e : Ending) (w' : World) : Prop := ∃ s p, Gave s p e ∧ Ext w w' ∧ K s p w'

theorem Ext.set {w w' : World} (h : Ext w w') {a : Addr} (ha : w.heap.size ≤ a.block) (v : Value) : Ext w (w'.setCell a v) :=
  ⟨h.1.setCell ha v, fun x => (World.frozen?_setCell _ _ _ _).trans (h.2 x)⟩
theorem frozen_out (w : World) (a : Addr) (h : w.heap.size ≤ a.block) : w.frozen? a = false := by
  have e : w.heap[a.block]? = none := by simp [h]
  simp [World.frozen?, e]

theorem ext_fields {w w1 : World} (h : Ext (w.alloc (.cells #[.int .i64 0, .int .i64 0, .pointer none] 25)) w1) :
    (w1.cell? ⟨w.heap.size, 0, none⟩ = some (.int .i64 0) ∧ w1.cell? ⟨w.heap.size, 1, none⟩ = some (.int .i64 0) ∧ w1.cell? ⟨w.heap.size, 2, none⟩ = some (.pointer none)) ∧
    ∀ j, w1.frozen? ⟨w.heap.size, j, none⟩ = false := by
  refine ⟨⟨h.cell (by simp), h.cell (by simp), h.cell (by simp)⟩, fun j => ?_⟩
  rw [h.2, frozen?_alloc_cells]
  exact frozen_out _ _ (Nat.le_refl _)

set_option maxHeartbeats 400000 in
theorem zcopy (I B : Int) (w : World) (K K' : Int → Option Addr → World → Prop)
    (hC : Calls Try.prog 15 #[.int .i64 I, .int .i64 B] (w.alloc (.cells #[.int .i64 0, .int .i64 0, .pointer none] 25)) (Wins K (w.alloc (.cells #[.int .i64 0, .int .i64 0, .pointer none] 25))))
    (hK : ∀ s p w1, K s p w1 → K' s p (((w1.setCell ⟨w.heap.size, 0, none⟩ (.int .i64 s)).setCell ⟨w.heap.size, 1, none⟩ (.int .i64 0)).setCell ⟨w.heap.size, 2, none⟩ (.pointer p))) :
    Calls Try.prog 6 #[.int .i64 I, .int .i64 B] w (Wins K' w) := by
  go_enter Try.func6, Try.ntmps6
  go_wp2_with fail
  refine hC.mono ?_
  rintro e w1 ⟨s, p, he, hx, hk⟩
  unfold Gave at he
  subst he
  obtain ⟨⟨k0, k1, k2⟩, kf⟩ := ext_fields hx
  have f0 := kf 0
  have f1 := kf 1
  have f2 := kf 2
  have hz := hx.1.size
  have hK1 := hK s p w1 hk
  have hx2 : Ext w w1 := ((Ext.refl w).alloc _ _).trans hx
  have hx3 := ((hx2.set (a := ⟨w.heap.size, 0, none⟩) (Nat.le_refl _) (.int .i64 s)).set (a := ⟨w.heap.size, 1, none⟩) (Nat.le_refl _) (.int .i64 0)).set (a := ⟨w.heap.size, 2, none⟩) (Nat.le_refl _) (.pointer p)
  clear hK hk hx hx2 kf
  go_wp2
  exact bodyPost_ret (v := .agg #[.int .i64 s, .int .i64 0, .pointer p]) (by simp [results, Try.results6, go_sem, k0, k1, k2]) rfl ⟨s, p, rfl, hx3, hK1⟩

theorem znew_none (I B : Int) (w : World) (hI : I ≤ 0) : Calls Try.prog 6 #[.int .i64 I, .int .i64 B] w (Wins (fun s p _ => s = 0 ∧ p = none) w) :=
  zcopy I B w (fun s p _ => s = 0 ∧ p = none) _ ((new_none I B _ hI).mono fun _ _ h => ⟨0, none, h.1, h.2, rfl, rfl⟩) (fun _ _ _ h => h)
theorem znew_fixed (I B : Int) (w : World) (hI : 1 ≤ I) (hB : B ≤ 0) : Calls Try.prog 6 #[.int .i64 I, .int .i64 B] w (Wins (fun s p _ => s = I ∧ p = none) w) :=
  zcopy I B w (fun s p _ => s = I ∧ p = none) _ ((new_fixed I B _ hI hB).mono fun _ _ h => ⟨I, none, h.1, h.2, rfl, rfl⟩) (fun _ _ _ h => h)

/-- A rolling window's pointer. -/
def Rolls (I B : Int) (lo : Nat) (s : Int) (p : Option Addr) (w : World) : Prop :=
  s = stp I B ∧ ∃ P R n : Nat, p = some ⟨P, 0, none⟩ ∧ (n : Int) = (I - 1) / stp I B + 1 ∧ n ≤ 4096 ∧ lo ≤ P ∧ lo ≤ R ∧ Ring w P R n

theorem Ring.set {w : World} {P R n : Nat} (h : Ring w P R n) {a : Addr} (hP : a.block ≠ P) (hR : a.block ≠ R) (v : Value) : Ring (w.setCell a v) P R n :=
  ⟨(World.cell?_setCell_other _ _ _ _ (by intro e; subst e; exact hP rfl)).trans h.ptr, fun j hj => (World.cell?_setCell_other _ _ _ _ (by intro e; subst e; exact hR rfl)).trans (h.cell j hj)⟩

theorem znew_rolls (I B : Int) (w : World) (hI : 1 ≤ I) (hI2 : I ≤ 9223372036854775807) (hB : 1 ≤ B) (hB2 : B ≤ 9223372036854775807) :
    Calls Try.prog 6 #[.int .i64 I, .int .i64 B] w (Wins (Rolls I B (w.heap.size + 1)) w) := by
  refine zcopy I B w (Rolls I B (w.heap.size + 1)) _ ((new_rolls I B _ hI hI2 hB hB2).mono fun e w1 h => ?_) ?_
  · obtain ⟨P, R, n, he, hn, hc, hP, hR, hr, hx⟩ := h.out
    exact ⟨_, _, he, hx, rfl, P, R, n, rfl, hn, hc, by simpa using hP, by simpa using hR, hr⟩
  · rintro s p w1 ⟨rfl, P, R, n, rfl, hn, hc, hP, hR, hr⟩
    exact ⟨rfl, P, R, n, rfl, hn, hc, hP, hR, ((hr.set (by show w.heap.size ≠ P; omega) (by show w.heap.size ≠ R; omega) _).set (by show w.heap.size ≠ P; omega) (by show w.heap.size ≠ R; omega) _).set (by show w.heap.size ≠ P; omega) (by show w.heap.size ≠ R; omega) _⟩
end Go.Proofs.Qxb6605974a
