import Derived.Test.Qxb6608569aRows
import Derived.Test.Qxb6608569aSeq
import Derived.WalkKit
import Derived.WalkSpells
import Derived.WalkLawsBesides
import Derived.Deep.OwnRows
import Derived.Deep.QuietTactic
import Derived.BigQuiet
namespace Go.Proofs.Qxb6608569a
open Go.RowKit

/-- A float stored into a cell (the kit has this law for integers, bools, pointers, slices and strings). -/
theorem run_store_float (P : Program) (w : World) (a : Addr) (m : Mode) (k : FloatKind) (b : Nat) : (store a (.float k b) m).run P w = stored P w a (.float k b) m := run_store P w a _ m rfl
attribute [local go_sem] run_store_float

theorem info28 : (Try.prog.info? 28).map (fun i => (i.zero, i.size, i.bytes)) = some (some (.float .f64 0), 1, 8) := by kernel_rfl

theorem one_lit : (4607182418800017408 : Nat) = one := by decide

/-- The two operations of one round, as the walk asks them. -/
theorem quo_at (n c k : Nat) (hn : n ≤ 65536) (hcn : c ≤ n) (hk : k < c) (w : World) :
    (binOp .quo 28 (.float .f64 (floatOfInt .f64 ((c : Int) - (k : Int)))) (.float .f64 (floatOfInt .f64 ((n : Int) - (k : Int))))).run Try.prog w = .ok (.float .f64 (divR (c - k) (n - k))) w := by
  refine run_float_arith w .quo 28 .f64 _ _ _ ?_
  rw [show (c : Int) - (k : Int) = ((c - k : Nat) : Int) by omega, show (n : Int) - (k : Int) = ((n - k : Nat) : Int) by omega, ofInt_eq, ofInt_eq]
  exact div_eq _ _ (by omega) (by omega) (by omega) (by omega)
theorem mul_at (n c k : Nat) (hcn : c ≤ n) (hk : k < c) (w : World) :
    (binOp .mul 28 (.float .f64 (X n c k)) (.float .f64 (divR (c - k) (n - k)))).run Try.prog w = .ok (.float .f64 (X n c (k + 1))) w :=
  run_float_arith w .mul 28 .f64 _ _ _ (mul_eq _ _ (X_lt n c hcn k (by omega)) (divR_lt _ _ (by omega) (by omega)))

/-- The round's world in PassHatK. -/
structure Passed (N n c : Nat) (w : World) (k : Nat) (wr : World) : Prop where
  runs : wr.cell? ⟨N, 0, none⟩ = some (.int .i64 n)
  passed : wr.cell? ⟨N, 1, none⟩ = some (.int .i64 c)
  row : wr.rowIs (N + 1) 28 n (fun j => .float .f64 (if j < k then X n c (j + 1) else 0))
  below : Below N w wr

theorem Passed.start (n c : Nat) (w : World) : Passed w.heap.size n c w 0 ((w.alloc (.cells #[.int .i64 n, .int .i64 c] 23)).alloc (.cells (madeCells #[.float .f64 0] n) 28)) := by
  refine ⟨?_, ?_, ?_, ((Below.refl _ _).alloc (Nat.le_refl _) _).alloc (by simp) _⟩
  · rw [World.cell?_alloc_lt _ _ _ (by simp)]; simp
  · rw [World.cell?_alloc_lt _ _ _ (by simp)]; simp
  · have := World.rowIs_made (w.alloc (.cells #[.int .i64 n, .int .i64 c] 23)) (.float .f64 0) n 28
    simp only [World.size_alloc] at this
    exact this.congr (fun i _ => by simp)

theorem Passed.next {N n c : Nat} {w : World} {k : Nat} {wr : World} (h : Passed N n c w k wr) : Passed N n c w (k + 1) (wr.setCell ⟨N + 1, k, none⟩ (.float .f64 (X n c (k + 1)))) := by
  have ne : ∀ o, (⟨N + 1, k, none⟩ : Addr) ≠ ⟨N, o, none⟩ := fun o e => by injection e; omega
  refine ⟨(World.cell?_setCell_other _ _ _ _ (ne 0)).trans h.runs, (World.cell?_setCell_other _ _ _ _ (ne 1)).trans h.passed, (h.row.set k _).congr (fun i _ => ?_), h.below.setCell (by show N ≤ N + 1; omega) _⟩
  by_cases e : i = k
  · subst e; simp
  · by_cases l : i < k
    · simp [e, l, Nat.lt_succ_of_lt l]
    · simp [e, l]; omega

set_option maxHeartbeats 400000 in
theorem pass_any (n c : Nat) (hn : n ≤ 65536) (hcn : c ≤ n) (w : World) :
    Calls Try.prog 5 #[.agg #[.int .i64 n, .int .i64 c]] w fun e w' => e = .returned (.slice (some ⟨w.heap.size + 1, 0, none⟩) n n) ∧ w'.rowIs (w.heap.size + 1) 28 n (fun j => .float .f64 (fig n c j)) ∧ Below w.heap.size w w' := by
  have hmk := fun w : World => run_make_row' (P := Try.prog) 24 28 (.float .f64 0) 8 Try.underlying24 info28 rfl .i64 .i64 n (by omega) (by omega) w
  have P0 := Passed.start n c w
  have fin : ∀ wr, Passed w.heap.size n c w c wr → wr.rowIs (w.heap.size + 1) 28 n (fun j => .float .f64 (fig n c j)) ∧ Below w.heap.size w wr := fun wr h => ⟨h.row, h.below⟩
  generalize hN : w.heap.size = N at *
  go_enter Try.func5, Try.ntmps5
  go_wp2
  go_loopw [4, 11] (fun ch i wr => ∃ k : Nat, k ≤ c ∧ i = .int .i64 k ∧ ch = .float .f64 (X n c k) ∧ Passed N n c w k wr) (fun _ i _ => c - (intOf i).toNat)
  case atStart => exact ⟨0, Nat.zero_le _, rfl, by rw [one_lit]; rfl, P0⟩
  case round =>
    obtain ⟨k, hk, rfl, rfl, hm⟩ := hrel
    clear hmk P0
    by_cases hlt : k < c
    · have q := quo_at n c k hn hcn hlt
      have m := mul_at n c k hcn hlt
      have c1 := hm.runs
      have c2 := hm.passed
      have c3 := hm.row.cell (i := k) (by omega)
      have f3 := hm.row.frozen k
      have R := hm.next
      generalize hX : X n c (k + 1) = y at m R
      have HX : Hid (X n c (k + 1) = y) := hX
      clear hX
      generalize X n c k = x at *
      generalize divR (c - k) (n - k) = d at *
      have hkn : k < n := by omega
      go_wp2
      go_roundw
      case rel => exact ⟨k + 1, by omega, by go_num, by rw [HX.out], R⟩
      case measure => simp [intOf]; omega
    · obtain rfl : k = c := by omega
      go_wp2
      go_ret
      exact ⟨rfl, fin _ hm⟩
end Go.Proofs.Qxb6608569a
