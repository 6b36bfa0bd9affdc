import Derived.Test.Qxb6608569aPass
namespace Go.Proofs.Qxb6608569a
open Go.RowKit

theorem quo0 (n c : Nat) (hn : n ≤ 65536) (hcn : c ≤ n) (hc : 1 ≤ c) (w : World) :
    (binOp .quo 28 (.float .f64 (floatOfInt .f64 (c : Int))) (.float .f64 (floatOfInt .f64 (n : Int)))).run Try.prog w = .ok (.float .f64 (divR c n)) w := by
  refine run_float_arith w .quo 28 .f64 _ _ _ ?_
  rw [ofInt_eq, ofInt_eq]
  exact div_eq _ _ hc (by omega) (by omega) hn

theorem fig_first (n c : Nat) (hcn : c ≤ n) (hc : 1 ≤ c) : fig n c 0 = divR c n := by
  unfold fig; rw [if_pos (by omega)]; exact X_first n c hcn hc

theorem rowIs_below {w w' : World} {B g n : Nat} {f : Nat → Value} (h : w.rowIs g 28 n f) (hb : Below B w w') (hg : g < B) : w'.rowIs g 28 n f := h.of_block (hb.block g hg)

/-! Comparisons, as the walk spells them. -/
theorem same_neq (x : Nat) (hx : x < 2047 * 2 ^ 52) : (FloatKind.f64.format.order x x != some .eq) = false := by
  rw [show FloatKind.f64.format.order x x = some .eq from ord_same x hx]; rfl
theorem ge_zero (x : Nat) (hx : x < 2047 * 2 ^ 52) : (FloatKind.f64.format.order x 0 == some .gt || FloatKind.f64.format.order x 0 == some .eq) = true := by
  by_cases h : x = 0
  · subst h; rw [show FloatKind.f64.format.order 0 0 = some .eq from ord_same 0 hx]; rfl
  · rw [show FloatKind.f64.format.order x 0 = some .gt from ord_gt x 0 hx (by omega)]; rfl
theorem le_ngt (x y : Nat) (hy : y < 2047 * 2 ^ 52) (h : x ≤ y) : (FloatKind.f64.format.order x y == some .gt) = false := by
  by_cases e : x = y
  · subst e; rw [show FloatKind.f64.format.order x x = some .eq from ord_same x hy]; rfl
  · rw [show FloatKind.f64.format.order x y = some .lt from ord_lt x y hy (by omega)]; rfl
theorem le_leq (x y : Nat) (hy : y < 2047 * 2 ^ 52) (h : x ≤ y) : (FloatKind.f64.format.order x y == some .lt || FloatKind.f64.format.order x y == some .eq) = true := by
  by_cases e : x = y
  · subst e; rw [show FloatKind.f64.format.order x x = some .eq from ord_same x hy]; rfl
  · rw [show FloatKind.f64.format.order x y = some .lt from ord_lt x y hy (by omega)]; rfl

theorem fig_mono (n lo hi : Nat) (hlh : lo ≤ hi) (hhn : hi ≤ n) (j : Nat) : fig n lo j ≤ fig n hi j := by
  unfold fig
  by_cases h : j < lo
  · rw [if_pos h, if_pos (by omega)]; exact X_mono n lo hi hlh hhn (j + 1) (by omega)
  · rw [if_neg h]; exact Nat.zero_le _
theorem fig_past (n c j : Nat) (h : c ≤ j) : fig n c j = 0 := by unfold fig; rw [if_neg (by omega)]
theorem fig_inf (n c : Nat) (hcn : c ≤ n) (j : Nat) : fig n c j < 2047 * 2 ^ 52 := Nat.lt_of_le_of_lt (fig_lt n c hcn j) one_lt

/-- The loop's world: the two lists of figures. -/
structure Lists (A B n lo hi : Nat) (N : Nat) (w wr : World) : Prop where
  a : wr.rowIs A 28 n (fun j => .float .f64 (fig n lo j))
  b : wr.rowIs B 28 n (fun j => .float .f64 (fig n hi j))
  below : Below N w wr
theorem Lists.drewN {A B n lo hi N : Nat} {w wr : World} (h : Lists A B n lo hi N w wr) (k : Nat) : Lists A B n lo hi N w (wr.drewN k) :=
  ⟨h.a, h.b, ⟨h.below.os, h.below.tape, h.below.output, h.below.size, h.below.block⟩⟩

theorem past_zero (n c k : Nat) (h : c ≤ k) : (FloatKind.f64.format.order (fig n c k) 0 != some .eq) = false := by
  rw [fig_past n c k h]; exact same_neq 0 (by decide)

set_option maxHeartbeats 1000000 in
theorem mono_both (n lo hi : Nat) (hn : n ≤ 65536) (hlh : lo ≤ hi) (hhn : hi ≤ n) (h1 : 1 ≤ lo) (w : World) :
    Calls Try.prog 4 #[.int .i64 n, .int .i64 lo, .int .i64 hi] w fun e w' => e = .returned (.bool true) ∧ Below w.heap.size w w' := by
  have h2 : 1 ≤ hi := by omega
  have qlo := quo0 n lo hn (by omega) h1
  have olo := same_neq (divR lo n) (divR_lt lo n (by omega) (by omega))
  have qhi := quo0 n hi hn (by omega) h2
  have ohi := same_neq (divR hi n) (divR_lt hi n (by omega) (by omega))
  have hI : ¬ (hi : Int) < (lo : Int) := by omega
  go_enter Try.func4, Try.ntmps4
  go_wp2_with fail
  refine (pass_any n lo hn (by omega) w).mono ?_
  rintro e w1 ⟨rfl, ra, hb1⟩
  have za := ra.lt
  go_wp2_with fail
  refine (pass_any n hi hn (by omega) w1).mono ?_
  rintro e w2 ⟨rfl, rb, hb2⟩
  have ra2 := rowIs_below ra hb2 za
  have ca := ra2.cell (i := 0) (by omega)
  rw [fig_first n lo (by omega) h1] at ca
  have cb := rb.cell (i := 0) (by omega)
  rw [fig_first n hi (by omega) h2] at cb
  have hbb : Below w.heap.size w w2 := hb1.trans (hb2.mono (by omega))
  clear hb1 hb2 ra
  go_wp2
  have L0 : Lists (w.heap.size + 1) (w1.heap.size + 1) n lo hi w.heap.size w w2 := ⟨ra2, rb, hbb⟩
  clear ra2 rb hbb ca cb olo ohi qlo qhi
  generalize hN : w.heap.size = N at *
  have HN : Hid (w.heap.size = N) := hN
  clear hN
  generalize w1.heap.size = M at *
  go_loopw [11] (fun i wr => ∃ k : Nat, k ≤ n ∧ i = .int .i64 k ∧ Lists (N + 1) (M + 1) n lo hi N w wr) (fun i _ => n - (intOf i).toNat)
  case atStart => exact ⟨0, Nat.zero_le _, rfl, L0⟩
  case round =>
    obtain ⟨k, hk, rfl, hm⟩ := hrel
    clear L0
    by_cases hkn : k < n
    · have hkI : (k : Int) < n := by omega
      have ca := hm.a.cell hkn
      have cb := hm.b.cell hkn
      have g0 := ge_zero (fig n lo k) (fig_inf n lo (by omega) k)
      have gt := le_ngt (fig n lo k) (fig n hi k) (fig_inf n hi hhn k) (fig_mono n lo hi hlh hhn k)
      have zx : lo ≤ k → (FloatKind.f64.format.order (fig n lo k) 0 != some .eq) = false := past_zero n lo k
      have zy : hi ≤ k → (FloatKind.f64.format.order (fig n hi k) 0 != some .eq) = false := past_zero n hi k
      generalize fig n lo k = x at *
      generalize fig n hi k = y at *
      rcases (show k < lo ∨ (lo ≤ k ∧ k < hi) ∨ hi ≤ k by omega) with hc | ⟨hc, hd⟩ | hd
      · clear zx zy
        go_wp2_with fail
        go_quiet (fail)
        go_wp2
        go_roundw
        case rel => exact ⟨k + 1, by omega, by go_num, hm.drewN _⟩
        case measure => simp [intOf]; omega
      · replace zx := zx hc
        clear zy
        go_wp2_with fail
        go_quiet (fail)
        go_wp2
        go_roundw
        case rel => exact ⟨k + 1, by omega, by go_num, hm.drewN _⟩
        case measure => simp [intOf]; omega
      · replace zx := zx (by omega)
        replace zy := zy hd
        go_wp2_with fail
        go_quiet (fail)
        go_wp2
        go_roundw
        case rel => exact ⟨k + 1, by omega, by go_num, hm.drewN _⟩
        case measure => simp [intOf]; omega
    · go_wp2
      go_ret
      exact ⟨rfl, by rw [HN.out]; exact hm.below⟩

set_option maxHeartbeats 1000000 in
theorem mono_both_swapped (n lo hi : Nat) (hn : n ≤ 65536) (hlh : lo ≤ hi) (hhn : hi ≤ n) (h1 : 1 ≤ lo) (hlt : lo < hi) (w : World) :
    Calls Try.prog 4 #[.int .i64 n, .int .i64 hi, .int .i64 lo] w fun e w' => e = .returned (.bool true) ∧ Below w.heap.size w w' := by
  have h2 : 1 ≤ hi := by omega
  have qlo := quo0 n lo hn (by omega) h1
  have olo := same_neq (divR lo n) (divR_lt lo n (by omega) (by omega))
  have qhi := quo0 n hi hn (by omega) h2
  have ohi := same_neq (divR hi n) (divR_lt hi n (by omega) (by omega))
  go_enter Try.func4, Try.ntmps4
  go_wp2_with fail
  refine (pass_any n lo hn (by omega) w).mono ?_
  rintro e w1 ⟨rfl, ra, hb1⟩
  have za := ra.lt
  go_wp2_with fail
  refine (pass_any n hi hn (by omega) w1).mono ?_
  rintro e w2 ⟨rfl, rb, hb2⟩
  have ra2 := rowIs_below ra hb2 za
  have ca := ra2.cell (i := 0) (by omega)
  rw [fig_first n lo (by omega) h1] at ca
  have cb := rb.cell (i := 0) (by omega)
  rw [fig_first n hi (by omega) h2] at cb
  have hbb : Below w.heap.size w w2 := hb1.trans (hb2.mono (by omega))
  clear hb1 hb2 ra
  go_wp2
  have L0 : Lists (w.heap.size + 1) (w1.heap.size + 1) n lo hi w.heap.size w w2 := ⟨ra2, rb, hbb⟩
  clear ra2 rb hbb ca cb olo ohi qlo qhi
  generalize hN : w.heap.size = N at *
  have HN : Hid (w.heap.size = N) := hN
  clear hN
  generalize w1.heap.size = M at *
  go_loopw [11] (fun i wr => ∃ k : Nat, k ≤ n ∧ i = .int .i64 k ∧ Lists (N + 1) (M + 1) n lo hi N w wr) (fun i _ => n - (intOf i).toNat)
  case atStart => exact ⟨0, Nat.zero_le _, rfl, L0⟩
  case round =>
    obtain ⟨k, hk, rfl, hm⟩ := hrel
    clear L0
    by_cases hkn : k < n
    · have hkI : (k : Int) < n := by omega
      have ca := hm.a.cell hkn
      have cb := hm.b.cell hkn
      have g0 := ge_zero (fig n lo k) (fig_inf n lo (by omega) k)
      have gt := le_ngt (fig n lo k) (fig n hi k) (fig_inf n hi hhn k) (fig_mono n lo hi hlh hhn k)
      have zx : lo ≤ k → (FloatKind.f64.format.order (fig n lo k) 0 != some .eq) = false := past_zero n lo k
      have zy : hi ≤ k → (FloatKind.f64.format.order (fig n hi k) 0 != some .eq) = false := past_zero n hi k
      generalize fig n lo k = x at *
      generalize fig n hi k = y at *
      rcases (show k < lo ∨ (lo ≤ k ∧ k < hi) ∨ hi ≤ k by omega) with hc | ⟨hc, hd⟩ | hd
      · clear zx zy
        go_wp2_with fail
        go_quiet (fail)
        go_wp2
        go_roundw
        case rel => exact ⟨k + 1, by omega, by go_num, hm.drewN _⟩
        case measure => simp [intOf]; omega
      · replace zx := zx hc
        clear zy
        go_wp2_with fail
        go_quiet (fail)
        go_wp2
        go_roundw
        case rel => exact ⟨k + 1, by omega, by go_num, hm.drewN _⟩
        case measure => simp [intOf]; omega
      · replace zx := zx (by omega)
        replace zy := zy hd
        go_wp2_with fail
        go_quiet (fail)
        go_wp2
        go_roundw
        case rel => exact ⟨k + 1, by omega, by go_num, hm.drewN _⟩
        case measure => simp [intOf]; omega
    · go_wp2
      go_ret
      exact ⟨rfl, by rw [HN.out]; exact hm.below⟩

set_option maxHeartbeats 1000000 in
theorem mono_hi (n lo hi : Nat) (hn : n ≤ 65536) (hlh : lo ≤ hi) (hhn : hi ≤ n) (h1 : lo = 0) (h2 : 1 ≤ hi) (w : World) :
    Calls Try.prog 4 #[.int .i64 n, .int .i64 lo, .int .i64 hi] w fun e w' => e = .returned (.bool true) ∧ Below w.heap.size w w' := by
  have qhi := quo0 n hi hn (by omega) h2
  have ohi := same_neq (divR hi n) (divR_lt hi n (by omega) (by omega))
  have l0 : ¬ 1 ≤ (lo : Int) := by omega
  have l1 : lo ≤ 0 := by omega
  clear h1
  have hI : ¬ (hi : Int) < (lo : Int) := by omega
  go_enter Try.func4, Try.ntmps4
  go_wp2_with fail
  refine (pass_any n lo hn (by omega) w).mono ?_
  rintro e w1 ⟨rfl, ra, hb1⟩
  have za := ra.lt
  go_wp2_with fail
  refine (pass_any n hi hn (by omega) w1).mono ?_
  rintro e w2 ⟨rfl, rb, hb2⟩
  have ra2 := rowIs_below ra hb2 za
  have cb := rb.cell (i := 0) (by omega)
  rw [fig_first n hi (by omega) h2] at cb
  have hbb : Below w.heap.size w w2 := hb1.trans (hb2.mono (by omega))
  clear hb1 hb2 ra
  go_wp2
  have L0 : Lists (w.heap.size + 1) (w1.heap.size + 1) n lo hi w.heap.size w w2 := ⟨ra2, rb, hbb⟩
  clear ra2 rb hbb cb ohi qhi
  generalize hN : w.heap.size = N at *
  have HN : Hid (w.heap.size = N) := hN
  clear hN
  generalize w1.heap.size = M at *
  go_loopw [11] (fun i wr => ∃ k : Nat, k ≤ n ∧ i = .int .i64 k ∧ Lists (N + 1) (M + 1) n lo hi N w wr) (fun i _ => n - (intOf i).toNat)
  case atStart => exact ⟨0, Nat.zero_le _, rfl, L0⟩
  case round =>
    obtain ⟨k, hk, rfl, hm⟩ := hrel
    clear L0
    by_cases hkn : k < n
    · have hkI : (k : Int) < n := by omega
      have ca := hm.a.cell hkn
      have cb := hm.b.cell hkn
      have g0 := ge_zero (fig n lo k) (fig_inf n lo (by omega) k)
      have gt := le_ngt (fig n lo k) (fig n hi k) (fig_inf n hi hhn k) (fig_mono n lo hi hlh hhn k)
      have zx : lo ≤ k → (FloatKind.f64.format.order (fig n lo k) 0 != some .eq) = false := past_zero n lo k
      have zy : hi ≤ k → (FloatKind.f64.format.order (fig n hi k) 0 != some .eq) = false := past_zero n hi k
      generalize fig n lo k = x at *
      generalize fig n hi k = y at *
      rcases (show k < lo ∨ (lo ≤ k ∧ k < hi) ∨ hi ≤ k by omega) with hc | ⟨hc, hd⟩ | hd
      · exfalso; omega
      · replace zx := zx hc
        clear zy
        go_wp2_with fail
        go_quiet (fail)
        go_wp2
        go_roundw
        case rel => exact ⟨k + 1, by omega, by go_num, hm.drewN _⟩
        case measure => simp [intOf]; omega
      · replace zx := zx (by omega)
        replace zy := zy hd
        go_wp2_with fail
        go_quiet (fail)
        go_wp2
        go_roundw
        case rel => exact ⟨k + 1, by omega, by go_num, hm.drewN _⟩
        case measure => simp [intOf]; omega
    · go_wp2
      go_ret
      exact ⟨rfl, by rw [HN.out]; exact hm.below⟩

set_option maxHeartbeats 1000000 in
theorem mono_hi_swapped (n lo hi : Nat) (hn : n ≤ 65536) (hlh : lo ≤ hi) (hhn : hi ≤ n) (h1 : lo = 0) (h2 : 1 ≤ hi) (hlt : lo < hi) (w : World) :
    Calls Try.prog 4 #[.int .i64 n, .int .i64 hi, .int .i64 lo] w fun e w' => e = .returned (.bool true) ∧ Below w.heap.size w w' := by
  have qhi := quo0 n hi hn (by omega) h2
  have ohi := same_neq (divR hi n) (divR_lt hi n (by omega) (by omega))
  have l0 : ¬ 1 ≤ (lo : Int) := by omega
  have l1 : lo ≤ 0 := by omega
  clear h1
  go_enter Try.func4, Try.ntmps4
  go_wp2_with fail
  refine (pass_any n lo hn (by omega) w).mono ?_
  rintro e w1 ⟨rfl, ra, hb1⟩
  have za := ra.lt
  go_wp2_with fail
  refine (pass_any n hi hn (by omega) w1).mono ?_
  rintro e w2 ⟨rfl, rb, hb2⟩
  have ra2 := rowIs_below ra hb2 za
  have cb := rb.cell (i := 0) (by omega)
  rw [fig_first n hi (by omega) h2] at cb
  have hbb : Below w.heap.size w w2 := hb1.trans (hb2.mono (by omega))
  clear hb1 hb2 ra
  go_wp2
  have L0 : Lists (w.heap.size + 1) (w1.heap.size + 1) n lo hi w.heap.size w w2 := ⟨ra2, rb, hbb⟩
  clear ra2 rb hbb cb ohi qhi
  generalize hN : w.heap.size = N at *
  have HN : Hid (w.heap.size = N) := hN
  clear hN
  generalize w1.heap.size = M at *
  go_loopw [11] (fun i wr => ∃ k : Nat, k ≤ n ∧ i = .int .i64 k ∧ Lists (N + 1) (M + 1) n lo hi N w wr) (fun i _ => n - (intOf i).toNat)
  case atStart => exact ⟨0, Nat.zero_le _, rfl, L0⟩
  case round =>
    obtain ⟨k, hk, rfl, hm⟩ := hrel
    clear L0
    by_cases hkn : k < n
    · have hkI : (k : Int) < n := by omega
      have ca := hm.a.cell hkn
      have cb := hm.b.cell hkn
      have g0 := ge_zero (fig n lo k) (fig_inf n lo (by omega) k)
      have gt := le_ngt (fig n lo k) (fig n hi k) (fig_inf n hi hhn k) (fig_mono n lo hi hlh hhn k)
      have zx : lo ≤ k → (FloatKind.f64.format.order (fig n lo k) 0 != some .eq) = false := past_zero n lo k
      have zy : hi ≤ k → (FloatKind.f64.format.order (fig n hi k) 0 != some .eq) = false := past_zero n hi k
      generalize fig n lo k = x at *
      generalize fig n hi k = y at *
      rcases (show k < lo ∨ (lo ≤ k ∧ k < hi) ∨ hi ≤ k by omega) with hc | ⟨hc, hd⟩ | hd
      · exfalso; omega
      · replace zx := zx hc
        clear zy
        go_wp2_with fail
        go_quiet (fail)
        go_wp2
        go_roundw
        case rel => exact ⟨k + 1, by omega, by go_num, hm.drewN _⟩
        case measure => simp [intOf]; omega
      · replace zx := zx (by omega)
        replace zy := zy hd
        go_wp2_with fail
        go_quiet (fail)
        go_wp2
        go_roundw
        case rel => exact ⟨k + 1, by omega, by go_num, hm.drewN _⟩
        case measure => simp [intOf]; omega
    · go_wp2
      go_ret
      exact ⟨rfl, by rw [HN.out]; exact hm.below⟩

set_option maxHeartbeats 1000000 in
theorem mono_none (n lo hi : Nat) (hn : n ≤ 65536) (hlh : lo ≤ hi) (hhn : hi ≤ n) (h1 : lo = 0) (h2 : hi = 0) (w : World) :
    Calls Try.prog 4 #[.int .i64 n, .int .i64 lo, .int .i64 hi] w fun e w' => e = .returned (.bool true) ∧ Below w.heap.size w w' := by
  have l0 : ¬ 1 ≤ (lo : Int) := by omega
  have l1 : lo ≤ 0 := by omega
  clear h1
  have l2 : ¬ 1 ≤ (hi : Int) := by omega
  have l3 : hi ≤ 0 := by omega
  clear h2
  have hI : ¬ (hi : Int) < (lo : Int) := by omega
  go_enter Try.func4, Try.ntmps4
  go_wp2_with fail
  refine (pass_any n lo hn (by omega) w).mono ?_
  rintro e w1 ⟨rfl, ra, hb1⟩
  have za := ra.lt
  go_wp2_with fail
  refine (pass_any n hi hn (by omega) w1).mono ?_
  rintro e w2 ⟨rfl, rb, hb2⟩
  have ra2 := rowIs_below ra hb2 za
  have hbb : Below w.heap.size w w2 := hb1.trans (hb2.mono (by omega))
  clear hb1 hb2 ra
  go_wp2
  have L0 : Lists (w.heap.size + 1) (w1.heap.size + 1) n lo hi w.heap.size w w2 := ⟨ra2, rb, hbb⟩
  clear ra2 rb hbb
  generalize hN : w.heap.size = N at *
  have HN : Hid (w.heap.size = N) := hN
  clear hN
  generalize w1.heap.size = M at *
  go_loopw [11] (fun i wr => ∃ k : Nat, k ≤ n ∧ i = .int .i64 k ∧ Lists (N + 1) (M + 1) n lo hi N w wr) (fun i _ => n - (intOf i).toNat)
  case atStart => exact ⟨0, Nat.zero_le _, rfl, L0⟩
  case round =>
    obtain ⟨k, hk, rfl, hm⟩ := hrel
    clear L0
    by_cases hkn : k < n
    · have hkI : (k : Int) < n := by omega
      have ca := hm.a.cell hkn
      have cb := hm.b.cell hkn
      have g0 := ge_zero (fig n lo k) (fig_inf n lo (by omega) k)
      have gt := le_ngt (fig n lo k) (fig n hi k) (fig_inf n hi hhn k) (fig_mono n lo hi hlh hhn k)
      have zx : lo ≤ k → (FloatKind.f64.format.order (fig n lo k) 0 != some .eq) = false := past_zero n lo k
      have zy : hi ≤ k → (FloatKind.f64.format.order (fig n hi k) 0 != some .eq) = false := past_zero n hi k
      generalize fig n lo k = x at *
      generalize fig n hi k = y at *
      rcases (show k < lo ∨ (lo ≤ k ∧ k < hi) ∨ hi ≤ k by omega) with hc | ⟨hc, hd⟩ | hd
      · exfalso; omega
      · exfalso; omega
      · replace zx := zx (by omega)
        replace zy := zy hd
        go_wp2_with fail
        go_quiet (fail)
        go_wp2
        go_roundw
        case rel => exact ⟨k + 1, by omega, by go_num, hm.drewN _⟩
        case measure => simp [intOf]; omega
    · go_wp2
      go_ret
      exact ⟨rfl, by rw [HN.out]; exact hm.below⟩

set_option maxHeartbeats 400000 in
theorem mono_out (n p q : Int) (h : n < 0 ∨ 65536 < n) (w : World) :
    Calls Try.prog 4 #[.int .i64 n, .int .i64 p, .int .i64 q] w fun e w' => e = .returned (.bool true) ∧ Below w.heap.size w w' := by
  rcases h with h | h
  · go_enter Try.func4, Try.ntmps4
    go_wp2
    go_ret
    exact ⟨rfl, Below.refl _ _⟩
  · have h' : ¬ n < 0 := by omega
    go_enter Try.func4, Try.ntmps4
    go_wp2
    go_ret
    exact ⟨rfl, Below.refl _ _⟩

set_option maxHeartbeats 400000 in
theorem mono_bad (n p q : Int) (h0 : 0 ≤ n) (h1 : n ≤ 65536) (h : p < 0 ∨ (0 ≤ p ∧ n < p) ∨ (0 ≤ p ∧ p ≤ n ∧ q < 0) ∨ (0 ≤ p ∧ p ≤ n ∧ 0 ≤ q ∧ n < q)) (w : World) :
    Calls Try.prog 4 #[.int .i64 n, .int .i64 p, .int .i64 q] w fun e w' => e = .returned (.bool true) ∧ Below w.heap.size w w' := by
  rcases h with h | ⟨ha, h⟩ | ⟨ha, hb, h⟩ | ⟨ha, hb, hc, h⟩
  all_goals
    go_enter Try.func4, Try.ntmps4
    go_wp2
    go_ret
    exact ⟨rfl, Below.refl _ _⟩

theorem mono_any (n p q : Int) (w : World) :
    Calls Try.prog 4 #[.int .i64 n, .int .i64 p, .int .i64 q] w fun e w' => e = .returned (.bool true) ∧ Below w.heap.size w w' := by
  by_cases h0 : n < 0 ∨ 65536 < n
  · exact mono_out n p q h0 w
  by_cases h1 : p < 0 ∨ (0 ≤ p ∧ n < p) ∨ (0 ≤ p ∧ p ≤ n ∧ q < 0) ∨ (0 ≤ p ∧ p ≤ n ∧ 0 ≤ q ∧ n < q)
  · exact mono_bad n p q (by omega) (by omega) h1 w
  obtain ⟨N, rfl⟩ := Int.eq_ofNat_of_zero_le (show 0 ≤ n by omega)
  obtain ⟨P, rfl⟩ := Int.eq_ofNat_of_zero_le (show 0 ≤ p by omega)
  obtain ⟨Q, rfl⟩ := Int.eq_ofNat_of_zero_le (show 0 ≤ q by omega)
  by_cases hs : Q < P
  · by_cases hz : 1 ≤ Q
    · exact mono_both_swapped N Q P (by omega) (by omega) (by omega) hz hs w
    · exact mono_hi_swapped N Q P (by omega) (by omega) (by omega) (by omega) (by omega) hs w
  · by_cases hz : 1 ≤ P
    · exact mono_both N P Q (by omega) (by omega) (by omega) hz w
    · by_cases hy : 1 ≤ Q
      · exact mono_hi N P Q (by omega) (by omega) (by omega) (by omega) hy w
      · exact mono_none N P Q (by omega) (by omega) (by omega) (by omega) (by omega) w
end Go.Proofs.Qxb6608569a
