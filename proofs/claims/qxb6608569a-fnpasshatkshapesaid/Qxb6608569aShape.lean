import Derived.Test.Qxb6608569aMean
namespace Go.Proofs.Qxb6608569a
open Go.RowKit

set_option maxHeartbeats 400000 in
theorem shape_out (n p : Int) (h : n < 0 ∨ 65536 < n) (w : World) :
    Calls Try.prog 3 #[.int .i64 n, .int .i64 p] w fun e w' => e = .returned (.bool true) ∧ Below w.heap.size w w' := by
  rcases h with h | h
  · go_enter Try.func3, Try.ntmps3
    go_wp2
    go_ret
    exact ⟨rfl, Below.refl _ _⟩
  · have h' : ¬ n < 0 := by omega
    go_enter Try.func3, Try.ntmps3
    go_wp2
    go_ret
    exact ⟨rfl, Below.refl _ _⟩

set_option maxHeartbeats 400000 in
theorem shape_bad (n p : Int) (h0 : 0 ≤ n) (h1 : n ≤ 65536) (h : p < 0 ∨ (0 ≤ p ∧ n < p)) (w : World) :
    Calls Try.prog 3 #[.int .i64 n, .int .i64 p] w fun e w' => e = .returned (.bool true) ∧ Below w.heap.size w w' := by
  rcases h with h | ⟨ha, h⟩
  all_goals
    go_enter Try.func3, Try.ntmps3
    go_wp2
    go_ret
    exact ⟨rfl, Below.refl _ _⟩

set_option maxHeartbeats 400000 in
theorem shape_zero (w : World) :
    Calls Try.prog 3 #[.int .i64 0, .int .i64 0] w fun e w' => e = .returned (.bool true) ∧ Below w.heap.size w w' := by
  have q := fun (w : World) (a : Option Addr) (n c n' c' : Nat) => Lib.run_eql_slice_nil (P := Try.prog) w 24 28 a n c n' c' Try.underlying24
  have C : ∀ w : World, Calls Try.prog 5 #[.agg #[.int .i64 0, .int .i64 0]] w (fun e w' => e = .returned (.slice (some ⟨w.heap.size + 1, 0, none⟩) 0 0) ∧ Below w.heap.size w w') :=
    fun w => (pass_any 0 0 (by omega) (Nat.le_refl _) w).mono fun e w' h => ⟨h.1, h.2.2⟩
  go_enter Try.func3, Try.ntmps3
  go_wp2_with fail
  refine (C _).mono ?_
  rintro e w1 ⟨rfl, hb1⟩
  have t0 : w1.cell? ⟨w.heap.size, 0, none⟩ = some (.int .i64 0) := (hb1.cell (p := ⟨w.heap.size, 0, none⟩) (by simp)).trans (by simp)
  have t1 : w1.cell? ⟨w.heap.size, 1, none⟩ = some (.int .i64 0) := (hb1.cell (p := ⟨w.heap.size, 1, none⟩) (by simp)).trans (by simp)
  have hz := hb1.size
  have hB : Below w.heap.size w w1 := ((Below.refl _ _).alloc (Nat.le_refl _) _).trans (hb1.mono (by simp))
  clear hb1 C
  go_wp2_with fail
  refine (mean_none w1.heap.size _ ?_).mono ?_
  · refine ⟨by simp, ?_, ?_, ?_, ?_⟩ <;> simp
  rintro e w2 ⟨rfl, hb2⟩
  go_wp2
  go_ret
  exact ⟨rfl, (hB.alloc (by simp at hz; omega) _).trans (hb2.mono (by simp at hz ⊢; omega))⟩

/-- The loop's world: the list of figures and the list of means. -/
structure Pair (P G n c cap N : Nat) (w wr : World) : Prop where
  p : wr.rowIs P 28 n (fun j => .float .f64 (fig n c j))
  m : Own wr N 28 n (.slice (some ⟨G, 0, none⟩) n cap) (fun j => .float .f64 (fig n c j))
  below : Below N w wr

theorem fig_down (n c : Nat) (hcn : c ≤ n) (j : Nat) : fig n c (j + 1) ≤ fig n c j := by
  unfold fig
  by_cases h : j + 1 < c
  · rw [if_pos h, if_pos (by omega)]; exact X_step n c hcn (j + 1) h
  · rw [if_neg h]; exact Nat.zero_le _
theorem fig_full (n j : Nat) (h : j < n) : fig n n j = one := by unfold fig; rw [if_pos h]; exact X_full n (j + 1) (by omega)
theorem le_one_at (x : Nat) (h : x ≤ one) : (FloatKind.f64.format.order x 4607182418800017408 == some .lt || FloatKind.f64.format.order x 4607182418800017408 == some .eq) = true := by
  rw [one_lit]; exact le_leq x one one_lt h
theorem full_neq (n j : Nat) (h : j < n) : (FloatKind.f64.format.order (fig n n j) 4607182418800017408 != some .eq) = false := by
  rw [fig_full n j h, one_lit]; exact same_neq one one_lt

set_option maxHeartbeats 1000000 in
theorem shape_some (n c : Nat) (hn1 : 1 ≤ n) (hn : n ≤ 65536) (hcn : c ≤ n) (hc : 1 ≤ c) (w : World) :
    Calls Try.prog 3 #[.int .i64 n, .int .i64 c] w fun e w' => e = .returned (.bool true) ∧ Below w.heap.size w w' := by
  have q0 := quo0 n c hn hcn hc
  have oc := same_neq (divR c n) (divR_lt c n hn1 hcn)
  go_enter Try.func3, Try.ntmps3
  go_wp2_with fail
  refine (pass_any n c hn hcn _).mono ?_
  rintro e w1 ⟨rfl, rp, hb1⟩
  have t0 : w1.cell? ⟨w.heap.size, 0, none⟩ = some (.int .i64 n) := (hb1.cell (p := ⟨w.heap.size, 0, none⟩) (by simp)).trans (by simp)
  have t1 : w1.cell? ⟨w.heap.size, 1, none⟩ = some (.int .i64 c) := (hb1.cell (p := ⟨w.heap.size, 1, none⟩) (by simp)).trans (by simp)
  have hz := hb1.size
  simp only [World.size_alloc] at rp hz
  have zp := rp.lt
  have hB : Below w.heap.size w w1 := ((Below.refl _ _).alloc (Nat.le_refl _) _).trans (hb1.mono (by simp))
  clear hb1
  go_wp2_with fail
  refine (mean_some w1.heap.size n c hn1 hn hcn _ ?_).mono ?_
  · refine ⟨by simp, ?_, ?_, ?_, ?_⟩ <;> simp
  rintro e w2 ⟨g, cap, rfl, om, hb2⟩
  have L0 : Pair (w.heap.size + 1 + 1) g n c cap w.heap.size w w2 := ⟨rowIs_below (rp.alloc _) hb2 (by simp; omega), om.base (by simp; omega), (hB.alloc (by omega) _).trans (hb2.mono (by simp; omega))⟩
  clear om hb2 hB t0 t1 rp
  have c0 := L0.p.cell (i := 0) (by omega)
  rw [fig_first n c hcn hc] at c0
  generalize hN : w.heap.size = N at *
  have HN : Hid (w.heap.size = N) := hN
  clear hN
  go_wp2
  clear c0 q0 oc
  go_loopw [8] (fun i wr => ∃ k : Nat, k ≤ n ∧ i = .int .i64 k ∧ Pair (N + 1 + 1) g n c cap N w wr) (fun i _ => n - (intOf i).toNat)
  case atStart => exact ⟨0, Nat.zero_le _, rfl, L0⟩
  case round =>
    obtain ⟨k, hk, rfl, hm⟩ := hrel
    clear L0
    by_cases hkn : k < n
    · have hkI : (k : Int) < n := by omega
      have cp := hm.p.cell hkn
      have cm := hm.m.cell hkn
      have g0 := ge_zero (fig n c k) (fig_inf n c hcn k)
      have g1 := le_one_at (fig n c k) (fig_lt n c hcn k)
      have gs := same_neq (fig n c k) (fig_inf n c hcn k)
      have zx : c ≤ k → (FloatKind.f64.format.order (fig n c k) 0 != some .eq) = false := past_zero n c k
      have fu : c = n → (FloatKind.f64.format.order (fig n c k) 4607182418800017408 != some .eq) = false := fun e => by subst e; exact full_neq c k hkn
      have pv : 1 ≤ k → ∃ y, wr.cell? ⟨N + 1 + 1, k - 1, none⟩ = some (.float .f64 y) ∧ (FloatKind.f64.format.order (fig n c k) y == some .gt) = false := by
        intro h1
        obtain ⟨j, rfl⟩ : ∃ j, k = j + 1 := ⟨k - 1, by omega⟩
        exact ⟨_, hm.p.cell (i := j) (by omega), le_ngt _ _ (fig_inf n c hcn j) (fig_down n c hcn j)⟩
      generalize fig n c k = x at *
      have C2 : ((c : Int) == (n : Int)) = true ∧ c = n ∨ ((c : Int) == (n : Int)) = false := by
        by_cases e : c = n
        · exact .inl ⟨by rw [beq_iff_eq]; omega, e⟩
        · exact .inr (by rw [beq_eq_false_iff_ne]; omega)
      by_cases hk1 : 1 ≤ k
      · obtain ⟨y, cy, gy⟩ := pv hk1
        have hk1I : 1 ≤ (k : Int) := by omega
        have hkm : ((k : Int) - 1).toNat = k - 1 := by omega
        by_cases hck : c ≤ k
        · replace zx := zx hck
          have hckI : (c : Int) ≤ k := by omega
          have hcn2 : ((c : Int) == (n : Int)) = false := by rw [beq_eq_false_iff_ne]; omega
          clear fu pv C2
          go_wp2
          go_roundw
          case rel => exact ⟨k + 1, by omega, by go_num, hm⟩
          case measure => simp [intOf]; omega
        · have hckI : ¬ (c : Int) ≤ k := by omega
          rcases C2 with ⟨hcn2, e⟩ | hcn2
          · replace fu := fu e
            clear zx pv e
            go_wp2
            go_roundw
            case rel => exact ⟨k + 1, by omega, by go_num, hm⟩
            case measure => simp [intOf]; omega
          · clear fu zx pv
            go_wp2
            go_roundw
            case rel => exact ⟨k + 1, by omega, by go_num, hm⟩
            case measure => simp [intOf]; omega
      · have hk1I : ¬ 1 ≤ (k : Int) := by omega
        by_cases hck : c ≤ k
        · replace zx := zx hck
          have hckI : (c : Int) ≤ k := by omega
          have hcn2 : ((c : Int) == (n : Int)) = false := by rw [beq_eq_false_iff_ne]; omega
          clear fu pv C2
          go_wp2
          go_roundw
          case rel => exact ⟨k + 1, by omega, by go_num, hm⟩
          case measure => simp [intOf]; omega
        · have hckI : ¬ (c : Int) ≤ k := by omega
          rcases C2 with ⟨hcn2, e⟩ | hcn2
          · replace fu := fu e
            clear zx pv e
            go_wp2
            go_roundw
            case rel => exact ⟨k + 1, by omega, by go_num, hm⟩
            case measure => simp [intOf]; omega
          · clear fu zx pv
            go_wp2
            go_roundw
            case rel => exact ⟨k + 1, by omega, by go_num, hm⟩
            case measure => simp [intOf]; omega
    · go_wp2
      go_ret
      exact ⟨rfl, by rw [HN.out]; exact hm.below⟩

set_option maxHeartbeats 1000000 in
theorem shape_nought (n c : Nat) (hn1 : 1 ≤ n) (hn : n ≤ 65536) (hcn : c ≤ n) (hc : c ≤ 0) (w : World) :
    Calls Try.prog 3 #[.int .i64 n, .int .i64 c] w fun e w' => e = .returned (.bool true) ∧ Below w.heap.size w w' := by
  have ncI : ¬ 1 ≤ (c : Int) := by omega
  go_enter Try.func3, Try.ntmps3
  go_wp2_with fail
  refine (pass_any n c hn hcn _).mono ?_
  rintro e w1 ⟨rfl, rp, hb1⟩
  have t0 : w1.cell? ⟨w.heap.size, 0, none⟩ = some (.int .i64 n) := (hb1.cell (p := ⟨w.heap.size, 0, none⟩) (by simp)).trans (by simp)
  have t1 : w1.cell? ⟨w.heap.size, 1, none⟩ = some (.int .i64 c) := (hb1.cell (p := ⟨w.heap.size, 1, none⟩) (by simp)).trans (by simp)
  have hz := hb1.size
  simp only [World.size_alloc] at rp hz
  have zp := rp.lt
  have hB : Below w.heap.size w w1 := ((Below.refl _ _).alloc (Nat.le_refl _) _).trans (hb1.mono (by simp))
  clear hb1
  go_wp2_with fail
  refine (mean_some w1.heap.size n c hn1 hn hcn _ ?_).mono ?_
  · refine ⟨by simp, ?_, ?_, ?_, ?_⟩ <;> simp
  rintro e w2 ⟨g, cap, rfl, om, hb2⟩
  have L0 : Pair (w.heap.size + 1 + 1) g n c cap w.heap.size w w2 := ⟨rowIs_below (rp.alloc _) hb2 (by simp; omega), om.base (by simp; omega), (hB.alloc (by omega) _).trans (hb2.mono (by simp; omega))⟩
  clear om hb2 hB t0 t1 rp
  generalize hN : w.heap.size = N at *
  have HN : Hid (w.heap.size = N) := hN
  clear hN
  go_wp2
  clear ncI
  go_loopw [8] (fun i wr => ∃ k : Nat, k ≤ n ∧ i = .int .i64 k ∧ Pair (N + 1 + 1) g n c cap N w wr) (fun i _ => n - (intOf i).toNat)
  case atStart => exact ⟨0, Nat.zero_le _, rfl, L0⟩
  case round =>
    obtain ⟨k, hk, rfl, hm⟩ := hrel
    clear L0
    by_cases hkn : k < n
    · have hkI : (k : Int) < n := by omega
      have cp := hm.p.cell hkn
      have cm := hm.m.cell hkn
      have g0 := ge_zero (fig n c k) (fig_inf n c hcn k)
      have g1 := le_one_at (fig n c k) (fig_lt n c hcn k)
      have gs := same_neq (fig n c k) (fig_inf n c hcn k)
      have zx : c ≤ k → (FloatKind.f64.format.order (fig n c k) 0 != some .eq) = false := past_zero n c k
      have fu : c = n → (FloatKind.f64.format.order (fig n c k) 4607182418800017408 != some .eq) = false := fun e => by subst e; exact full_neq c k hkn
      have pv : 1 ≤ k → ∃ y, wr.cell? ⟨N + 1 + 1, k - 1, none⟩ = some (.float .f64 y) ∧ (FloatKind.f64.format.order (fig n c k) y == some .gt) = false := by
        intro h1
        obtain ⟨j, rfl⟩ : ∃ j, k = j + 1 := ⟨k - 1, by omega⟩
        exact ⟨_, hm.p.cell (i := j) (by omega), le_ngt _ _ (fig_inf n c hcn j) (fig_down n c hcn j)⟩
      generalize fig n c k = x at *
      replace zx := zx (by omega)
      have hckI : (c : Int) ≤ k := by omega
      have hcn2 : ((c : Int) == (n : Int)) = false := by rw [beq_eq_false_iff_ne]; omega
      clear fu
      by_cases hk1 : 1 ≤ k
      · obtain ⟨y, cy, gy⟩ := pv hk1
        have hk1I : 1 ≤ (k : Int) := by omega
        have hkm : ((k : Int) - 1).toNat = k - 1 := by omega
        clear pv
        go_wp2
        go_roundw
        case rel => exact ⟨k + 1, by omega, by go_num, hm⟩
        case measure => simp [intOf]; omega
      · have hk1I : ¬ 1 ≤ (k : Int) := by omega
        clear pv
        go_wp2
        go_roundw
        case rel => exact ⟨k + 1, by omega, by go_num, hm⟩
        case measure => simp [intOf]; omega
    · go_wp2
      go_ret
      exact ⟨rfl, by rw [HN.out]; exact hm.below⟩

theorem shape_any (n p : Int) (w : World) :
    Calls Try.prog 3 #[.int .i64 n, .int .i64 p] w fun e w' => e = .returned (.bool true) ∧ Below w.heap.size w w' := by
  by_cases h0 : n < 0 ∨ 65536 < n
  · exact shape_out n p h0 w
  by_cases h1 : p < 0 ∨ (0 ≤ p ∧ n < p)
  · exact shape_bad n p (by omega) (by omega) h1 w
  by_cases hz : n = 0
  · obtain rfl := hz
    obtain rfl : p = 0 := by omega
    exact shape_zero w
  obtain ⟨N, rfl⟩ := Int.eq_ofNat_of_zero_le (show 0 ≤ n by omega)
  obtain ⟨P, rfl⟩ := Int.eq_ofNat_of_zero_le (show 0 ≤ p by omega)
  by_cases hp : 1 ≤ P
  · exact shape_some N P (by omega) (by omega) (by omega) hp w
  · exact shape_nought N P (by omega) (by omega) (by omega) (by omega) w
end Go.Proofs.Qxb6608569a
