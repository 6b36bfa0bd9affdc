import Derived.Test.Qxb6605961aSums
namespace Go.Proofs.Qxb6605961a
open Go.RowKit

/-- What 'show' gives. -/
def sh (s : ByteArray) : ByteArray := if s.toList.isEmpty = true then ⟨#[45]⟩ else s

theorem ret_str {a b : ByteArray} (h : a = b) : Ending.returned (.string a) = .returned (.string b) := by rw [h]

set_option maxHeartbeats 400000 in
theorem show_any (s : ByteArray) (w : World) :
    Calls Try.prog 11 #[.string s] w fun e w' => e = .returned (.string (sh s)) ∧ w' = w := by
  have H : ∀ b : Bool, s.toList.isEmpty = b → sh s = if b = true then ⟨#[45]⟩ else s := fun b h => by unfold sh; rw [h]
  generalize sh s = r at H
  cases hs : s.toList.isEmpty
  · obtain rfl := H _ hs
    clear H
    go_enter Try.func11, Try.ntmps11
    go_wp2
    go_ret
    exact ⟨rfl, rfl⟩
  · obtain rfl := H _ hs
    clear H
    go_enter Try.func11, Try.ntmps11
    go_wp2
    go_ret
    exact ⟨rfl, rfl⟩

theorem info9 : (Try.prog.info? 9).map (fun i => (i.zero, i.size, i.bytes)) = some (some (.string ⟨#[]⟩), 1, 16) := by kernel_rfl

set_option maxHeartbeats 400000 in
theorem clone_nil (w : World) (n c : Nat) : Calls Try.prog 7 #[.slice none n c] w fun e w' => e = .returned (.slice none 0 0) ∧ w' = w := by
  have q := fun (w : World) (a : Option Addr) (n c n' c' : Nat) => Lib.run_eql_slice_nil (P := Try.prog) w 22 9 a n c n' c' Try.underlying22
  go_enter Try.func7, Try.ntmps7
  go_wp2
  go_ret
  exact ⟨rfl, rfl⟩

/-- The round's world in zzCloneStrings: the first k strings are laid. -/
structure Cloned (N : Nat) (w : World) (n : Nat) (f : Nat → ByteArray) (k : Nat) (wr : World) : Prop where
  row : wr.rowIs N 9 n (fun j => if j < k then .string (f j) else .string ⟨#[]⟩)
  below : Below N w wr
  size : wr.heap.size = N + 1

theorem Cloned.start (w : World) (n : Nat) (f : Nat → ByteArray) : Cloned w.heap.size w n f 0 (w.alloc (.cells (madeCells #[.string ⟨#[]⟩] n) 9)) :=
  ⟨(World.rowIs_made w (.string ⟨#[]⟩) n 9).congr (fun i _ => by simp), (Below.refl _ _).alloc (Nat.le_refl _) _, by simp⟩

theorem Cloned.next {N : Nat} {w : World} {n : Nat} {f : Nat → ByteArray} {k : Nat} {wr : World} (h : Cloned N w n f k wr) : Cloned N w n f (k + 1) (wr.setCell ⟨N, k, none⟩ (.string (f k))) := by
  refine ⟨(h.row.set k (.string (f k))).congr (fun i _ => ?_), h.below.setCell (Nat.le_refl _) _, by simpa using h.size⟩
  by_cases e : i = k
  · subst e; simp
  · by_cases l : i < k
    · simp [e, l, Nat.lt_succ_of_lt l]
    · simp [e, l]; omega

set_option maxHeartbeats 400000 in
theorem clone_any (w : World) (x : Addr) (n cap : Nat) (f : Nat → ByteArray) (hv : View w (some x) n f) (hn : n ≤ 65536) :
    Calls Try.prog 7 #[.slice (some x) n cap] w fun e w' => e = .returned (.slice (some ⟨w.heap.size, 0, none⟩) n n) ∧ w'.rowIs w.heap.size 9 n (fun j => .string (f j)) ∧ Below w.heap.size w w' ∧ w'.heap.size = w.heap.size + 1 := by
  have q := fun (w : World) (a : Option Addr) (n c n' c' : Nat) => Lib.run_eql_slice_nil (P := Try.prog) w 22 9 a n c n' c' Try.underlying22
  have hmk := fun w : World => run_make_row' (P := Try.prog) 22 9 (.string ⟨#[]⟩) 16 Try.underlying22 info9 rfl .i64 .i64 n (by omega) (by omega) w
  have C0 := Cloned.start w n f
  have fin : ∀ wr, Cloned w.heap.size w n f n wr → wr.rowIs w.heap.size 9 n (fun j => .string (f j)) ∧ Below w.heap.size w wr ∧ wr.heap.size = w.heap.size + 1 := fun wr h => ⟨h.row.congr (fun i hi => by simp [hi]), h.below, h.size⟩
  rcases hv with rfl | ⟨b, off, hx, hb, hc⟩
  · have hmk0 : ∀ w : World, (Instr.makeSlice 22 (.int .i64 0) (.int .i64 0)).run Try.prog w = .ok (.slice (some ⟨w.heap.size, 0, none⟩) 0 0) (w.alloc (.cells (madeCells #[.string ⟨#[]⟩] 0) 9)) := hmk
    clear hmk
    go_enter Try.func7, Try.ntmps7
    go_wp2
    refine wp_loop_rounds 1 ?_
    rw [rounds_succ]
    go_wp2
    go_ret
    exact ⟨rfl, fin _ C0⟩
  · obtain rfl : x = ⟨b, off, none⟩ := by simpa using hx
    clear hx
    generalize hN : w.heap.size = N at *
    go_enter Try.func7, Try.ntmps7
    go_wp2
    go_loopw [4] (fun i wr => ∃ k : Nat, k ≤ n ∧ i = .int .i64 k ∧ Cloned N w n f k wr) (fun i _ => n - (intOf i).toNat)
    case atStart => exact ⟨0, Nat.zero_le _, rfl, C0⟩
    case round =>
      obtain ⟨k, hk, rfl, hm⟩ := hrel
      clear hmk q C0
      by_cases hlt : k < n
      · have c1 : wr.cell? ⟨b, off + k, none⟩ = some (.string (f k)) := (hm.below.cell (p := ⟨b, off + k, none⟩) hb).trans (hc k hlt)
        have c2 := hm.row.cell hlt
        have f2 := hm.row.frozen k
        have R := hm.next
        generalize f k = s at c1 R
        clear hc
        go_wp2
        go_roundw
        case rel => exact ⟨k + 1, by omega, by go_num, R⟩
        case measure => simp [intOf]; omega
      · obtain rfl : k = n := by omega
        go_wp2
        go_ret
        exact ⟨rfl, fin _ hm⟩

/-- The round's world in 'shown': of the row's n cells the first k hold what 'show' gave. -/
structure Shown (N : Nat) (w : World) (n : Nat) (f : Nat → ByteArray) (k : Nat) (wr : World) : Prop where
  row : wr.ownsRow N 9 1 (.slice (some ⟨N, 0, none⟩) k n) k ((List.range k).map (fun j => .string (sh (f j))))
  below : Below N w wr
  size : N < wr.heap.size

theorem Shown.fin {N : Nat} {w : World} {n : Nat} {f : Nat → ByteArray} {wr : World} (h : Shown N w n f n wr) : wr.rowIs N 9 n (fun j => .string (sh (f j))) := by
  rcases h.row.2 with ⟨h', _⟩ | ⟨g, cap, cur, h', hb, hg, hnc, hcm, hcs, htake⟩
  · simp at h'
  · simp only [Value.slice.injEq, Option.some.injEq, Addr.mk.injEq, and_true, true_and] at h'
    obtain ⟨rfl, rfl⟩ := h'
    refine ⟨cur, hg, by omega, fun i hi => ?_⟩
    rw [← Array.getElem?_toList]
    have e : cur.toList = (List.range n).map (fun j => Value.string (sh (f j))) := by
      rw [← htake, List.take_of_length_le (by simp; omega)]
    rw [e]
    simp [hi]

theorem Shown.start {N : Nat} {w : World} {n : Nat} (f : Nat → ByteArray) {w1 : World} (hN : w.heap.size = N) (h : w1.ownsRow N 9 1 (.slice (some ⟨N, 0, none⟩) 0 n) 0 []) (hg : w.grownBy w1 none) : Shown N w n f 0 w1 :=
  ⟨by simpa using h, (Below.refl N w).grown hg (by omega) (fun k e => by cases e), (h.lt N rfl).2⟩

theorem Shown.next {N : Nat} {w : World} {n : Nat} {f : Nat → ByteArray} {k : Nat} {wr w1 : World} {o : Obj} (h : Shown N w n f k wr)
    (h1 : w1.ownsRow N 9 1 (.slice (some ⟨N, 0, none⟩) (k + 1) n) (k + 1) ((List.range k).map (fun j => Value.string (sh (f j))) ++ [.string (sh (f k))])) (hg : (wr.alloc o).grownBy w1 (some N)) : Shown N w n f (k + 1) w1 := by
  have hs := h.size
  refine ⟨by rw [List.range_succ, List.map_append]; exact h1, (h.below.alloc (by omega) o).grown hg (by simp; omega) (fun k e => by injection e; omega), (h1.lt N rfl).2⟩

set_option maxHeartbeats 400000 in
theorem shown_any (w : World) (ad : Option Addr) (n cap : Nat) (f : Nat → ByteArray) (hv : View w ad n f) (hn : n ≤ 65536) :
    Calls Try.prog 10 #[.slice ad n cap] w fun e w' => e = .returned (.slice (some ⟨w.heap.size, 0, none⟩) n n) ∧ w'.rowIs w.heap.size 9 n (fun j => .string (sh (f j))) ∧ Below w.heap.size w w' ∧ w.heap.size < w'.heap.size := by
  obtain ⟨i0, hi, hz0, hz1, hz2⟩ := info_parts info9
  rcases hv with rfl | ⟨b, off, rfl, hb, hc⟩
  · generalize hN : w.heap.size = N at *
    go_enter Try.func10, Try.ntmps10
    go_wp2_with (at_make; refine wpList_make_own _ rfl _ _ 22 rfl N 9 i0 (.string ⟨#[]⟩) 1 Try.underlying22 hi hz0 hz1 .i64 .i64 _ 0 rfl rfl rfl ?b1 ?b2 ?b3 ?_)
    case b1 => rw [hz2]; omega
    case b2 => unfold maxLen; omega
    case b3 => omega
    intro w1 hown hgrow
    have S0 := Shown.start f hN hown hgrow
    clear hown hgrow
    go_wp2_with fail
    refine wp_loop_rounds 1 ?_
    rw [rounds_succ]
    go_wp2
    go_ret
    exact ⟨rfl, S0.fin, S0.below, S0.size⟩
  · generalize hN : w.heap.size = N at *
    go_enter Try.func10, Try.ntmps10
    go_wp2_with (at_make; refine wpList_make_own _ rfl _ _ 22 rfl N 9 i0 (.string ⟨#[]⟩) 1 Try.underlying22 hi hz0 hz1 .i64 .i64 _ n rfl rfl rfl ?c1 ?c2 ?c3 ?_)
    case c1 => rw [hz2]; omega
    case c2 => unfold maxLen; omega
    case c3 => omega
    intro w1 hown hgrow
    have S0 := Shown.start f hN hown hgrow
    clear hown hgrow
    go_wp2_with fail
    go_loopw [3, 11] (fun v i wr => ∃ k : Nat, k ≤ n ∧ i = .int .i64 k ∧ v = .slice (some ⟨N, 0, none⟩) k n ∧ Shown N w n f k wr) (fun _ i _ => n - (intOf i).toNat)
    case atStart => exact ⟨0, Nat.zero_le _, rfl, rfl, S0⟩
    case round =>
      obtain ⟨k, hk, rfl, rfl, hm⟩ := hrel
      by_cases hlt : k < n
      · have c1 : wr.cell? ⟨b, off + k, none⟩ = some (.string (f k)) := (hm.below.cell (p := ⟨b, off + k, none⟩) hb).trans (hc k hlt)
        have R := fun w1 h1 hg => Shown.next (w1 := w1) (o := .cells #[.string (sh (f k))] 9) hm h1 hg
        have hrow := hm.row
        clear S0 hc hm
        have C := show_any (f k)
        generalize sh (f k) = r at R C
        generalize f k = s at c1 C
        go_wp2_with (first | (go_at_call 11; refine (C _).mono ?_; rintro e w' ⟨rfl, rfl⟩) | (at_builtin; refine wpList_append_fits _ rfl _ _ 22 rfl N 9 i0 1 Try.underlying22 hi hz1 N k n _ rfl (hrow.alloc _) ⟨_, 0, none⟩ 1 1 [.string r] rfl rfl ?d1 ?d2 ?d3 ?_))
        case d1 => exact cell_one_new _ _ _
        case d2 => intro u hu; simp at hu; subst hu; rfl
        case d3 => omega
        intro w2 h2 hg2
        have S2 := R w2 h2 hg2
        clear h2 hg2 R hrow C c1
        go_wp2
        go_roundw
        case rel => exact ⟨k + 1, by omega, by go_num, rfl, S2⟩
        case measure => simp [intOf]; omega
      · obtain rfl : k = n := by omega
        go_wp2
        go_ret
        exact ⟨rfl, hm.fin, hm.below, hm.size⟩

set_option maxHeartbeats 400000 in
theorem zshown_any (w : World) (ad : Option Addr) (n cap : Nat) (f : Nat → ByteArray) (hv : View w ad n f) (hn : n ≤ 65536) :
    Calls Try.prog 8 #[.slice ad n cap] w fun e w' => e = .returned (.slice (some ⟨w.heap.size, 0, none⟩) n n) ∧ w'.rowIs w.heap.size 9 n (fun j => .string (sh (f j))) ∧ Below w.heap.size w w' ∧ w.heap.size < w'.heap.size := by
  have C := shown_any w ad n cap f hv hn
  clear hv
  go_enter Try.func8, Try.ntmps8
  go_wp2_with (go_at_call 10; refine C.mono ?_; rintro e w1 ⟨rfl, h1, h2, h3⟩)
  go_ret
  exact ⟨rfl, h1, h2, h3⟩
end Go.Proofs.Qxb6605961a
