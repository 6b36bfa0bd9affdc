import Derived.Test.Qxb6605961aDashes
namespace Go.Proofs.Qxb6605961a
open Go.RowKit

/-- The loop's world of FnShownIdempotentAndCounts: the clone lies in N0, the first 'shown' in N2, the second in N4. -/
structure Trio (N0 N2 N4 : Nat) (w : World) (n : Nat) (f : Nat → ByteArray) (wr : World) : Prop where
  one : wr.rowIs N0 9 n (fun j => .string (f j))
  two : wr.rowIs N2 9 n (fun j => .string (sh (f j)))
  three : wr.rowIs N4 9 n (fun j => .string (sh (sh (f j))))
  below : Below N0 w wr

theorem Trio.drewN {N0 N2 N4 : Nat} {w : World} {n : Nat} {f : Nat → ByteArray} {wr : World} (h : Trio N0 N2 N4 w n f wr) (k : Nat) : Trio N0 N2 N4 w n f (wr.drewN k) :=
  ⟨h.one, h.two, h.three, ⟨h.below.os, h.below.tape, h.below.output, h.below.size, h.below.block⟩⟩

theorem dash_some : (ByteArray.mk #[45]).toList.isEmpty = false := by simp [go_sem]
theorem sh_none {s : ByteArray} (h : s.toList.isEmpty = true) : sh s = ⟨#[45]⟩ := by unfold sh; rw [if_pos h]
theorem none_not_dash {s : ByteArray} (h : s.toList.isEmpty = true) : (s.toList == [45]) = false := by
  rw [List.isEmpty_iff.1 h]; rfl
theorem sh_some {s : ByteArray} (h : s.toList.isEmpty = false) : sh s = s := by unfold sh; rw [if_neg (by rw [h]; decide)]

set_option maxHeartbeats 1000000 in
theorem counts_some (w : World) (x : Addr) (n cap : Nat) (f : Nat → ByteArray) (hv : View w (some x) n f) (hn : n ≤ maxLen) (hf : ∀ j, j < n → (f j).size ≤ maxLen) :
    Calls Try.prog 4 #[.slice (some x) n cap] w fun e w' => e = .returned (.bool true) ∧ Below w.heap.size w w' := by
  have C5 := bytes9_any w (some x) n cap f hv hn hf
  have C6 := add_any w (some x) n cap f hv hn hf
  go_enter Try.func4, Try.ntmps4
  go_wp2_with fail
  refine C5.mono ?_
  rintro e w' ⟨⟨r5, rfl⟩, hw⟩
  have hw := hw.symm
  subst hw
  cases r5
  · go_wp2
    go_ret
    exact ⟨rfl, Below.refl _ _⟩
  go_wp2_with fail
  refine C6.mono ?_
  rintro e w' ⟨⟨t6, r6, rfl, hr6⟩, hw⟩
  have hw := hw.symm
  subst hw
  cases r6
  case true =>
    go_wp2
    go_ret
    exact ⟨rfl, Below.refl _ _⟩
  have hn6 := hr6 rfl
  clear hr6 C5 C6 hn hf
  go_wp2_with fail
  refine (clone_any w x n cap f hv hn6).mono ?_
  rintro e w1 ⟨rfl, ha1, hb1, hs1⟩
  replace hs1 : w.heap.size < w1.heap.size := by omega
  clear hv
  go_wp2_with fail
  refine (clone_any w1 _ n n f (View.ofRow ha1) hn6).mono ?_
  rintro e w2 ⟨rfl, ha2, hb2, hs2⟩
  replace hs2 : w1.heap.size < w2.heap.size := by omega
  go_wp2_with fail
  refine (zshown_any w2 _ n n f (View.ofRow ha2) hn6).mono ?_
  rintro e w3 ⟨rfl, ha3, hb3, hs3⟩
  go_wp2_with fail
  refine (clone_any w3 _ n n (fun j => sh (f j)) (View.ofRow ha3) hn6).mono ?_
  rintro e w4 ⟨rfl, ha4, hb4, hs4⟩
  replace hs4 : w3.heap.size < w4.heap.size := by omega
  go_wp2_with fail
  refine (zshown_any w4 _ n n (fun j => sh (f j)) (View.ofRow ha4) hn6).mono ?_
  rintro e w5 ⟨rfl, ha5, hb5, hs5⟩
  go_wp2_with fail
  have T0 : Trio w.heap.size w2.heap.size w4.heap.size w n f w5 :=
    ⟨rowIs_below (rowIs_below (rowIs_below (rowIs_below ha1 hb2 (by omega)) hb3 (by omega)) hb4 (by omega)) hb5 (by omega), rowIs_below (rowIs_below ha3 hb4 (by omega)) hb5 (by omega), ha5,
      (((hb1.trans (hb2.mono (by omega))).trans (hb3.mono (by omega))).trans (hb4.mono (by omega))).trans (hb5.mono (by omega))⟩
  clear ha1 hb1 hs1 ha2 hb2 hs2 ha3 hb3 hs3 ha4 hb4 hs4 ha5 hb5 hs5
  generalize hN0 : w.heap.size = N0 at *
  have HN0 : Hid (w.heap.size = N0) := hN0
  clear hN0
  generalize w2.heap.size = N2 at *
  generalize w4.heap.size = N4 at *
  go_loopw [7, 8, 9, 10] (fun o e d i wr => ∃ k p q : Nat, k ≤ n ∧ p + q ≤ k ∧ i = .int .i64 k ∧ e = .int .i64 p ∧ d = .int .i64 q ∧ o = .int .i64 ((p : Int) + (q : Int)) ∧ Trio N0 N2 N4 w n f wr) (fun _ _ _ i _ => n - (intOf i).toNat)
  case atStart => exact ⟨0, 0, 0, Nat.zero_le _, by omega, rfl, rfl, rfl, rfl, T0⟩
  case round =>
    obtain ⟨k, p, q, hk, hpq, rfl, rfl, rfl, rfl, hm⟩ := hrel
    clear T0
    by_cases hlt : k < n
    · have c1 := hm.one.cell hlt
      have c2 := hm.two.cell hlt
      have c3 := hm.three.cell hlt
      have hkI : (k : Int) < n := by omega
      generalize f k = s at c1 c2 c3
      cases hs : s.toList.isEmpty
      · rw [sh_some hs] at c2 c3
        rw [sh_some hs] at c3
        go_wp2_with fail
        go_quiet (fail)
        go_wp2
        all_goals go_roundw
        case rel => exact ⟨k + 1, p, q + 1, by omega, by omega, by go_num, by go_num, by go_num, by go_num, hm.drewN _⟩
        case measure => simp [intOf]; omega
        case rel => exact ⟨k + 1, p, q, by omega, by omega, by go_num, by go_num, by go_num, by go_num, hm.drewN _⟩
        case measure => simp [intOf]; omega
      · rw [sh_none hs] at c2 c3
        rw [sh_some dash_some] at c3
        have hd := dash_some
        have hnd := none_not_dash hs
        go_wp2_with fail
        go_quiet (fail)
        go_wp2
        go_roundw
        case rel => exact ⟨k + 1, p + 1, q, by omega, by omega, by go_num, by go_num, by go_num, by go_num, hm.drewN _⟩
        case measure => simp [intOf]; omega
    · go_wp2
      go_ret
      exact ⟨rfl, by rw [HN0.out]; exact hm.below⟩

set_option maxHeartbeats 1000000 in
theorem counts_nil (w : World) : Calls Try.prog 4 #[.slice none 0 0] w fun e w' => e = .returned (.bool true) ∧ Below w.heap.size w w' := by
  have C5 := bytes9_any w none 0 0 (fun _ => ⟨#[]⟩) (.inl rfl) (Nat.zero_le _) (fun j h => by omega)
  have C6 := add_any w none 0 0 (fun _ => ⟨#[]⟩) (.inl rfl) (Nat.zero_le _) (fun j h => by omega)
  go_enter Try.func4, Try.ntmps4
  go_wp2_with fail
  refine C5.mono ?_
  rintro e w' ⟨⟨r5, rfl⟩, hw⟩
  have hw := hw.symm
  subst hw
  cases r5
  · go_wp2
    go_ret
    exact ⟨rfl, Below.refl _ _⟩
  go_wp2_with fail
  refine C6.mono ?_
  rintro e w' ⟨⟨t6, r6, rfl, hr6⟩, hw⟩
  have hw := hw.symm
  subst hw
  cases r6
  case true =>
    go_wp2
    go_ret
    exact ⟨rfl, Below.refl _ _⟩
  clear hr6 C5 C6
  go_wp2_with fail
  refine (clone_nil w 0 0).mono ?_
  rintro e w' ⟨rfl, hw⟩
  have hw := hw.symm
  subst hw
  go_wp2_with fail
  refine (clone_nil w 0 0).mono ?_
  rintro e w' ⟨rfl, hw⟩
  have hw := hw.symm
  subst hw
  go_wp2_with fail
  refine (zshown_any w none 0 0 (fun _ => ⟨#[]⟩) (.inl rfl) (by omega)).mono ?_
  rintro e w3 ⟨rfl, ha3, hb3, hs3⟩
  go_wp2_with fail
  refine (clone_any w3 _ 0 0 (fun _ => ⟨#[]⟩) (.inl rfl) (by omega)).mono ?_
  rintro e w4 ⟨rfl, ha4, hb4, hs4⟩
  replace hs4 : w3.heap.size < w4.heap.size := by omega
  go_wp2_with fail
  refine (zshown_any w4 _ 0 0 (fun _ => ⟨#[]⟩) (.inl rfl) (by omega)).mono ?_
  rintro e w5 ⟨rfl, ha5, hb5, hs5⟩
  go_wp2_with fail
  refine wp_loop_rounds 1 ?_
  rw [rounds_succ]
  go_wp2
  go_ret
  exact ⟨rfl, (hb3.trans (hb4.mono (by omega))).trans (hb5.mono (by omega))⟩
end Go.Proofs.Qxb6605961a
