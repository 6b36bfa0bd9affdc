import Derived.Test.Qxb6605961aShown
namespace Go.Proofs.Qxb6605961a
open Go.RowKit

theorem View.ofRow {w : World} {g n : Nat} {f : Nat → ByteArray} (h : w.rowIs g 9 n (fun j => .string (f j))) : View w (some ⟨g, 0, none⟩) n f :=
  .inr ⟨g, 0, rfl, h.lt, fun j hj => by rw [Nat.zero_add]; exact h.cell hj⟩

theorem rowIs_below {w w' : World} {B g n : Nat} {f : Nat → Value} (h : w.rowIs g 9 n f) (hb : Below B w w') (hg : g < B) : w'.rowIs g 9 n f := h.of_block (hb.block g hg)

/-- The loops' world of FnShownDashesEmptyFields: the two clones lie in N0 and N1, what 'shown' gave lies in N2. -/
structure Three (N0 N1 N2 : Nat) (w : World) (n : Nat) (f : Nat → ByteArray) (g : Nat → Value) (wr : World) : Prop where
  one : wr.rowIs N0 9 n (fun j => .string (f j))
  two : wr.rowIs N1 9 n (fun j => .string (f j))
  three : wr.rowIs N2 9 n g
  below : Below N0 w wr

theorem Three.drewN {N0 N1 N2 : Nat} {w : World} {n : Nat} {f : Nat → ByteArray} {g : Nat → Value} {wr : World} (h : Three N0 N1 N2 w n f g wr) (k : Nat) : Three N0 N1 N2 w n f g (wr.drewN k) :=
  ⟨h.one, h.two, h.three, ⟨h.below.os, h.below.tape, h.below.output, h.below.size, h.below.block⟩⟩

theorem Three.store {N0 N1 N2 : Nat} {w : World} {n : Nat} {f : Nat → ByteArray} {g : Nat → Value} {wr : World} (h : Three N0 N1 N2 w n f g wr) (h0 : N0 < N2) (h1 : N1 < N2) (k : Nat) (v : Value) : ∃ g', Three N0 N1 N2 w n f g' (wr.setCell ⟨N2, k, none⟩ v) :=
  ⟨_, h.one.setOther (by show N0 ≠ N2; omega) v, h.two.setOther (by show N1 ≠ N2; omega) v, h.three.set k v, h.below.setCell (by show N0 ≤ N2; omega) v⟩

set_option maxHeartbeats 1000000 in
theorem dashes_some (w : World) (x : Addr) (n cap : Nat) (f : Nat → ByteArray) (hv : View w (some x) n f) (hn : n ≤ maxLen) (hf : ∀ j, j < n → (f j).size ≤ maxLen) :
    Calls Try.prog 3 #[.slice (some x) n cap] w fun e w' => e = .returned (.bool true) ∧ Below w.heap.size w w' := by
  have C5 := bytes5_any w (some x) n cap f hv hn hf
  have C6 := add_any w (some x) n cap f hv hn hf
  go_enter Try.func3, Try.ntmps3
  go_wp2_with fail
  refine C5.mono ?_
  rintro e w' ⟨⟨r5, rfl⟩, hw⟩
  have hw := hw.symm
  subst hw
  cases r5
  · go_wp2
    go_ret
    exact ⟨rfl, Below.refl _ _⟩
  go_wp2_with fail
  refine C6.mono ?_
  rintro e w' ⟨⟨t6, r6, rfl, hr6⟩, hw⟩
  have hw := hw.symm
  subst hw
  cases r6
  case true =>
    go_wp2
    go_ret
    exact ⟨rfl, Below.refl _ _⟩
  have hn6 := hr6 rfl
  clear hr6 C5 C6 hn hf
  go_wp2_with fail
  refine (clone_any w x n cap f hv hn6).mono ?_
  rintro e w1 ⟨rfl, ha1, hb1, hs1⟩
  replace hs1 : w.heap.size < w1.heap.size := by omega
  clear hv
  go_wp2_with fail
  refine (clone_any w1 _ n n f (View.ofRow ha1) hn6).mono ?_
  rintro e w2 ⟨rfl, ha2, hb2, hs2⟩
  replace hs2 : w1.heap.size < w2.heap.size := by omega
  go_wp2_with fail
  refine (zshown_any w2 _ n n f (View.ofRow ha2) hn6).mono ?_
  rintro e w3 ⟨rfl, ha3, hb3, hs3⟩
  have T0 : Three w.heap.size w1.heap.size w2.heap.size w n f (fun j => .string (sh (f j))) w3 := 
    ⟨rowIs_below (rowIs_below ha1 hb2 (by omega)) hb3 (by omega), rowIs_below ha2 hb3 (by omega), ha3, (hb1.trans (hb2.mono (by omega))).trans (hb3.mono (by omega))⟩
  have l0 : w.heap.size < w2.heap.size := by omega
  have l1 : w1.heap.size < w2.heap.size := by omega
  clear ha1 hb1 hs1 ha2 hb2 hs2 ha3 hb3 hs3
  generalize hN0 : w.heap.size = N0 at *
  have HN0 : Hid (w.heap.size = N0) := hN0
  clear hN0
  generalize w1.heap.size = N1 at *
  generalize w2.heap.size = N2 at *
  go_wp2_with fail
  go_loopw [7] (fun i wr => ∃ k : Nat, k ≤ n ∧ i = .int .i64 k ∧ Three N0 N1 N2 w n f (fun j => .string (sh (f j))) wr) (fun i _ => n - (intOf i).toNat)
  case atStart => exact ⟨0, Nat.zero_le _, rfl, T0⟩
  case round =>
    obtain ⟨k, hk, rfl, hm⟩ := hrel
    clear T0
    by_cases hlt : k < n
    · have c1 := hm.one.cell hlt
      have c3 := hm.three.cell hlt
      have H : ∀ b : Bool, (f k).toList.isEmpty = b → sh (f k) = if b = true then ⟨#[45]⟩ else f k := fun b h => by unfold sh; rw [h]
      have hkI : (k : Int) < n := by omega
      generalize sh (f k) = r at H c3
      generalize f k = s at H c1
      cases hs : s.toList.isEmpty
      · obtain rfl := H _ hs
        clear H
        go_wp2_with fail
        go_quiet (fail)
        go_wp2
        go_roundw
        case rel => exact ⟨k + 1, by omega, by go_num, hm.drewN _⟩
        case measure => simp [intOf]; omega
      · obtain rfl := H _ hs
        clear H
        go_wp2
        go_roundw
        case rel => exact ⟨k + 1, by omega, by go_num, hm⟩
        case measure => simp [intOf]; omega
    · go_wp2_with fail
      go_loopw [8] (fun i wr => ∃ k : Nat, k ≤ n ∧ i = .int .i64 k ∧ ∃ g, Three N0 N1 N2 w n f g wr) (fun i _ => n - (intOf i).toNat)
      case atStart => exact ⟨0, Nat.zero_le _, rfl, _, hm⟩
      case round =>
        clear hm
        obtain ⟨i, hi, rfl, g, hm⟩ := hrel
        by_cases hlt2 : i < n
        · have c3 := hm.three.cell hlt2
          have f3 := hm.three.frozen i
          have S := hm.store l0 l1 i (.string ⟨#[45, 120]⟩)
          generalize g i = v at c3
          go_wp2
          go_roundw
          case rel => exact ⟨i + 1, by omega, by go_num, S⟩
          case measure => simp [intOf]; omega
        · go_wp2_with fail
          go_loopw [9] (fun i wr => ∃ k : Nat, k ≤ n ∧ i = .int .i64 k ∧ ∃ g, Three N0 N1 N2 w n f g wr) (fun i _ => n - (intOf i).toNat)
          case atStart => exact ⟨0, Nat.zero_le _, rfl, _, hm⟩
          case round =>
            clear hm
            obtain ⟨j, hj, rfl, g', hm⟩ := hrel
            by_cases hlt3 : j < n
            · have c1 := hm.one.cell hlt3
              have c2 := hm.two.cell hlt3
              have hjI : (j : Int) < n := by omega
              generalize f j = s at c1 c2
              go_wp2_with fail
              go_quiet (fail)
              go_wp2
              go_roundw
              case rel => exact ⟨j + 1, by omega, by go_num, _, hm.drewN _⟩
              case measure => simp [intOf]; omega
            · go_wp2
              go_ret
              exact ⟨rfl, by rw [HN0.out]; exact hm.below⟩

set_option maxHeartbeats 1000000 in
theorem dashes_nil (w : World) : Calls Try.prog 3 #[.slice none 0 0] w fun e w' => e = .returned (.bool true) ∧ Below w.heap.size w w' := by
  have C5 := bytes5_any w none 0 0 (fun _ => ⟨#[]⟩) (.inl rfl) (Nat.zero_le _) (fun j h => by omega)
  have C6 := add_any w none 0 0 (fun _ => ⟨#[]⟩) (.inl rfl) (Nat.zero_le _) (fun j h => by omega)
  go_enter Try.func3, Try.ntmps3
  go_wp2_with fail
  refine C5.mono ?_
  rintro e w' ⟨⟨r5, rfl⟩, hw⟩
  have hw := hw.symm
  subst hw
  cases r5
  · go_wp2
    go_ret
    exact ⟨rfl, Below.refl _ _⟩
  go_wp2_with fail
  refine C6.mono ?_
  rintro e w' ⟨⟨t6, r6, rfl, hr6⟩, hw⟩
  have hw := hw.symm
  subst hw
  cases r6
  case true =>
    go_wp2
    go_ret
    exact ⟨rfl, Below.refl _ _⟩
  clear hr6 C5 C6
  go_wp2_with fail
  refine (clone_nil w 0 0).mono ?_
  rintro e w' ⟨rfl, hw⟩
  have hw := hw.symm
  subst hw
  go_wp2_with fail
  refine (clone_nil w 0 0).mono ?_
  rintro e w' ⟨rfl, hw⟩
  have hw := hw.symm
  subst hw
  go_wp2_with fail
  refine (zshown_any w none 0 0 (fun _ => ⟨#[]⟩) (.inl rfl) (by omega)).mono ?_
  rintro e w3 ⟨rfl, ha3, hb3, hs3⟩
  go_wp2_with fail
  refine wp_loop_rounds 1 ?_
  rw [rounds_succ]
  go_wp2_with fail
  refine wp_loop_rounds 1 ?_
  rw [rounds_succ]
  go_wp2_with fail
  refine wp_loop_rounds 1 ?_
  rw [rounds_succ]
  go_wp2
  go_ret
  exact ⟨rfl, hb3⟩
end Go.Proofs.Qxb6605961a
