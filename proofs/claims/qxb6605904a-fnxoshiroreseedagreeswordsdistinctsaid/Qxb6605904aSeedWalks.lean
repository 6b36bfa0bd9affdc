import Derived.Test.Qxb6605904aRows
import Derived.Test.Qxb6605904aPlain
import Derived.WalkKit
import Derived.WalkSpells
import Derived.WalkLawsBesides
import Derived.Deep.QuietTactic
import Derived.BigQuiet
namespace Go.Proofs.Qxb6605904a
open Go.RowKit
set_option maxHeartbeats 400000 in
theorem u64_any (b : Nat) (x : Int) (w : World) (hc : w.cell? ⟨b, 0, none⟩ = some (.int .u64 x)) (hf : w.frozen? ⟨b, 0, none⟩ = false) :
    Calls Try.prog 19 #[.pointer (some ⟨b, 0, none⟩)] w fun e w' => e = .returned (.int .u64 (mix (IntKind.u64.wrap (x + 11400714819323198485)))) ∧ w' = w.setCell ⟨b, 0, none⟩ (.int .u64 (IntKind.u64.wrap (x + 11400714819323198485))) := by
  go_enter Try.func19, Try.ntmps19
  go_wp2
  go_ret
  exact ⟨rfl, rfl⟩

/-- What the call of seedState on the eight words of block b leaves: block b and new blocks alone have turned. -/
structure Seeded (b : Nat) (seed : Int) (w w' : World) : Prop where
  os : w'.os = w.os
  output : w'.output = w.output
  size : w.heap.size ≤ w'.heap.size
  other : ∀ k, k < w.heap.size → k ≠ b → w'.heap[k]? = w.heap[k]?
  frozen : ∀ a, w'.frozen? a = w.frozen? a
  cell : ∀ j, j < 8 → w'.cell? ⟨b, j, none⟩ = some (.int .u64 (word seed j))

/-- The round's world: the first k words are laid, the others are as they were; the counter stands in the call's own block N. -/
structure Mid (b N : Nat) (seed : Int) (w : World) (k : Nat) (wr : World) : Prop where
  os : wr.os = w.os
  output : wr.output = w.output
  size : wr.heap.size = N + 1
  other : ∀ k, k < N → k ≠ b → wr.heap[k]? = w.heap[k]?
  frozen : ∀ a, wr.frozen? a = w.frozen? a
  done : ∀ j, j < k → wr.cell? ⟨b, j, none⟩ = some (.int .u64 (word seed j))
  rest : ∀ j, k ≤ j → j < 8 → wr.cell? ⟨b, j, none⟩ = w.cell? ⟨b, j, none⟩
  ctr : wr.cell? ⟨N, 0, none⟩ = some (.int .u64 (cnt seed k))


theorem frozen_out (w : World) (a : Addr) (h : w.heap.size ≤ a.block) : w.frozen? a = false := by
  have e : w.heap[a.block]? = none := by simp [h]
  simp [World.frozen?, e]

theorem Mid.start {b : Nat} {seed : Int} {w : World} (hb : b < w.heap.size) (h0 : 0 ≤ seed) (h1 : seed < 18446744073709551616) :
    Mid b w.heap.size seed w 0 (w.alloc (.cells #[.int .u64 seed] 50)) := by
  have hsz : (w.alloc (.cells #[.int .u64 seed] 50)).heap.size = w.heap.size + 1 := by simp
  refine ⟨rfl, rfl, hsz, fun k hk _ => Below.heap_alloc _ _ _ hk, fun a => frozen?_alloc_cells _ _ _ a, fun j hj => by omega, fun j _ _ => ?_, ?_⟩
  · exact World.cell?_of_block (w := w) (Below.heap_alloc _ _ _ hb)
  · rw [cnt_zero seed h0 h1]; simp

theorem Mid.next {b N : Nat} {seed : Int} {w : World} {k : Nat} {wr : World} (h : Mid b N seed w k wr) (hb : b < N) (hk : k < 8) {v : Value} (hc : wr.cell? ⟨b, k, none⟩ = some v) :
    Mid b N seed w (k + 1) ((wr.setCell ⟨N, 0, none⟩ (.int .u64 (IntKind.u64.wrap (cnt seed k + 11400714819323198485)))).setCell ⟨b, k, none⟩ (.int .u64 (mix (IntKind.u64.wrap (cnt seed k + 11400714819323198485))))) := by
  rw [cnt_succ]
  have bn : ∀ j, (⟨N, 0, none⟩ : Addr) ≠ ⟨b, j, none⟩ := fun j e => by injection e; omega
  have nb : ∀ j, (⟨b, j, none⟩ : Addr) ≠ ⟨N, 0, none⟩ := fun j e => by injection e; omega
  refine ⟨h.os, h.output, ?_, ?_, ?_, ?_, ?_, ?_⟩
  · simpa [World.setCell] using h.size
  · intro i hi hne
    rw [Below.heap_setCell _ _ _ _ hne, Below.heap_setCell _ _ _ _ (by show i ≠ N; omega)]
    exact h.other i hi hne
  · intro a
    rw [World.frozen?_setCell, World.frozen?_setCell]
    exact h.frozen a
  · intro j hj
    by_cases e : j = k
    · subst e
      exact World.cell?_setCell_same _ _ _ ((World.cell?_setCell_other _ _ _ _ (bn j)).trans hc)
    · rw [World.cell?_setCell_other (h := by intro x; injection x; omega), World.cell?_setCell_other (h := bn j)]
      exact h.done j (by omega)
  · intro j hj hj8
    rw [World.cell?_setCell_other (h := by intro x; injection x; omega), World.cell?_setCell_other (h := bn j)]
    exact h.rest j (by omega) hj8
  · rw [World.cell?_setCell_other (h := nb k)]
    exact World.cell?_setCell_same _ _ _ h.ctr

theorem Mid.fin {b N : Nat} {seed : Int} {w : World} {wr : World} (h : Mid b N seed w 8 wr) (hN : w.heap.size = N) : Seeded b seed w wr :=
  ⟨h.os, h.output, by rw [h.size]; omega, fun k hk hne => h.other k (by omega) hne, h.frozen, h.done⟩

set_option maxHeartbeats 400000 in
theorem seed_any (b : Nat) (seed : Int) (w : World) (hb : b < w.heap.size) (h0 : 0 ≤ seed) (h1 : seed < 18446744073709551616)
    (hc : ∀ j, j < 8 → ∃ v, w.cell? ⟨b, j, none⟩ = some v) (hf : ∀ j, j < 8 → w.frozen? ⟨b, j, none⟩ = false) :
    Calls Try.prog 16 #[.slice (some ⟨b, 0, none⟩) 8 8, .int .u64 seed] w fun e w' => e = .returned (.tuple #[]) ∧ Seeded b seed w w' := by
  have M0 := Mid.start hb h0 h1
  generalize hN : w.heap.size = N at M0 hb
  go_enter Try.func16, Try.ntmps16
  go_wp2
  go_loopw [10] (fun i wr => ∃ k : Nat, k ≤ 8 ∧ i = .int .i64 k ∧ Mid b N seed w k wr) (fun i _ => 8 - (intOf i).toNat)
  case atStart => exact ⟨0, by omega, rfl, M0⟩
  case round =>
    obtain ⟨k, hk, rfl, hm⟩ := hrel
    by_cases hlt : k < 8
    · obtain ⟨v, hv⟩ := hc k hlt
      have c1 := hm.ctr
      have c2 := (hm.rest k (Nat.le_refl _) hlt).trans hv
      have f1 : wr.frozen? ⟨N, 0, none⟩ = false := (hm.frozen _).trans (frozen_out _ _ (by show w.heap.size ≤ N; omega))
      have f2 : wr.frozen? ⟨b, k, none⟩ = false := (hm.frozen _).trans (hf k hlt)
      have hbN : (b == N) = false := by rw [beq_eq_false_iff_ne]; omega
      go_wp2_with (go_at_call 19; refine (u64_any _ _ _ c1 f1).mono ?_; rintro e w' ⟨rfl, rfl⟩)
      go_roundw
      case rel => exact ⟨k + 1, by omega, by go_num, hm.next hb hlt c2⟩
      case measure => simp [intOf]; omega
    · obtain rfl : k = 8 := by omega
      go_wp2
      go_end0
      exact ⟨rfl, hm.fin hN⟩

/-! (*Xoshiro512PP).Seed -/
set_option maxHeartbeats 400000 in
theorem reseed_any (b : Nat) (seed : Int) (w : World) (hb : b < w.heap.size) (h0 : 0 ≤ seed) (h1 : seed < 18446744073709551616)
    (hc : ∀ j, j < 8 → ∃ v, w.cell? ⟨b, j, none⟩ = some v) (hf : ∀ j, j < 8 → w.frozen? ⟨b, j, none⟩ = false) :
    Calls Try.prog 13 #[.pointer (some ⟨b, 0, none⟩), .int .u64 seed] w fun e w' => e = .returned (.tuple #[]) ∧ Seeded b seed w w' := by
  go_enter Try.func13, Try.ntmps13
  go_wp2_with (go_at_call 16; refine (seed_any b seed _ hb h0 h1 hc hf).mono ?_; rintro e w' ⟨rfl, hs⟩)
  go_end0
  exact ⟨rfl, hs⟩

/-! NewXoshiro512PP -/
def zero8 : Obj := .cells #[.int .u64 0, .int .u64 0, .int .u64 0, .int .u64 0, .int .u64 0, .int .u64 0, .int .u64 0, .int .u64 0] 45
theorem zero8_cell (w : World) (j : Nat) (hj : j < 8) : ∃ v, (w.alloc zero8).cell? ⟨w.heap.size, j, none⟩ = some v := by
  unfold zero8
  simp only [World.cell?_alloc_new]
  exact ⟨_, Array.getElem?_eq_getElem (by simpa using hj)⟩
theorem zero8_frozen (w : World) (j : Nat) : (w.alloc zero8).frozen? ⟨w.heap.size, j, none⟩ = false := by
  unfold zero8
  rw [frozen?_alloc_cells]
  exact frozen_out _ _ (Nat.le_refl _)
theorem Seeded.ofNew {seed : Int} {w w' : World} (h : Seeded w.heap.size seed (w.alloc zero8) w') : Seeded w.heap.size seed w w' := by
  have hs := h.size
  rw [show (w.alloc zero8).heap.size = w.heap.size + 1 by simp] at hs
  refine ⟨h.os, h.output, by omega, fun k hk hne => ?_, fun a => ?_, h.cell⟩
  · rw [h.other k (by simp; omega) hne]; exact Below.heap_alloc _ _ _ hk
  · rw [h.frozen]; exact frozen?_alloc_cells _ _ _ a
set_option maxHeartbeats 400000 in
theorem new_any (seed : Int) (w : World) (h0 : 0 ≤ seed) (h1 : seed < 18446744073709551616) :
    Calls Try.prog 12 #[.int .u64 seed] w fun e w' => e = .returned (.pointer (some ⟨w.heap.size, 0, none⟩)) ∧ Seeded w.heap.size seed w w' ∧ w.heap.size < w'.heap.size := by
  have R := reseed_any w.heap.size seed (w.alloc zero8) (by simp) h0 h1 (zero8_cell w) (fun j _ => zero8_frozen w j)
  have hz : ∀ w' : World, Seeded w.heap.size seed (w.alloc zero8) w' → Seeded w.heap.size seed w w' ∧ w.heap.size < w'.heap.size := fun w' h => ⟨h.ofNew, by have := h.size; simp at this; omega⟩
  unfold zero8 at R hz
  go_enter Try.func12, Try.ntmps12
  go_wp2_with (go_at_call 13; refine R.mono ?_; rintro e w' ⟨rfl, hs⟩)
  go_ret
  exact ⟨rfl, hz _ hs⟩

/-! ZZxoshiroState -/
def eight (c : Nat → Int) : Array Value := #[.int .u64 (c 0), .int .u64 (c 1), .int .u64 (c 2), .int .u64 (c 3), .int .u64 (c 4), .int .u64 (c 5), .int .u64 (c 6), .int .u64 (c 7)]
theorem eight_at (c : Nat → Int) (j : Nat) (hj : j < 8) : (eight c)[j]? = some (.int .u64 (c j)) := by
  match j, hj with
  | 0, _ => rfl
  | 1, _ => rfl
  | 2, _ => rfl
  | 3, _ => rfl
  | 4, _ => rfl
  | 5, _ => rfl
  | 6, _ => rfl
  | 7, _ => rfl
set_option maxHeartbeats 400000 in
theorem state_any (b : Nat) (w : World) (hb : b < w.heap.size) (c : Nat → Int) (hc : ∀ j, j < 8 → w.cell? ⟨b, j, none⟩ = some (.int .u64 (c j))) :
    Calls Try.prog 14 #[.pointer (some ⟨b, 0, none⟩)] w fun e w' => e = .returned (.agg #[.int .u64 (c 0), .int .u64 (c 1), .int .u64 (c 2), .int .u64 (c 3), .int .u64 (c 4), .int .u64 (c 5), .int .u64 (c 6), .int .u64 (c 7)]) ∧ w' = w.alloc (.cells (eight c) 34) := by
  have h0 := hc 0 (by omega)
  have h1 := hc 1 (by omega)
  have h2 := hc 2 (by omega)
  have h3 := hc 3 (by omega)
  have h4 := hc 4 (by omega)
  have h5 := hc 5 (by omega)
  have h6 := hc 6 (by omega)
  have h7 := hc 7 (by omega)
  clear hc
  go_enter Try.func14, Try.ntmps14
  go_wp2
  exact bodyPost_ret (v := .agg #[.int .u64 (c 0), .int .u64 (c 1), .int .u64 (c 2), .int .u64 (c 3), .int .u64 (c 4), .int .u64 (c 5), .int .u64 (c 6), .int .u64 (c 7)]) (by simp [results, Try.results14, go_sem]) rfl ⟨rfl, rfl⟩

theorem Seeded.grown {b : Nat} {seed : Int} {w0 w w' : World} (h : Seeded b seed w w') (g : Grown w0 w) (hb : w0.heap.size ≤ b) : Grown w0 w' := by
  obtain ⟨⟨h1, h2, h3⟩, hf, hs⟩ := g
  refine ⟨⟨by rw [h.os]; exact h1, by rw [h.output]; exact h2, fun i hi => ?_⟩, fun a => (h.frozen a).trans (hf a), Nat.le_trans hs h.size⟩
  rw [h.other i (by omega) (by omega)]
  exact h3 i hi

/-- The loops' world: the two copies of the eight words lie in blocks P and Q; of what was there ahead of the call nothing has turned. -/
structure Two (P Q : Nat) (b : Int) (w wr : World) : Prop where
  one : ∀ j, j < 8 → wr.cell? ⟨P, j, none⟩ = some (.int .u64 (word b j))
  two : ∀ j, j < 8 → wr.cell? ⟨Q, j, none⟩ = some (.int .u64 (word b j))
  grown : Grown w wr

theorem Two.drewN {P Q : Nat} {b : Int} {w wr : World} (h : Two P Q b w wr) (n : Nat) : Two P Q b w (wr.drewN n) := ⟨h.one, h.two, h.grown⟩

theorem Two.mk4 {b : Int} {w w3 : World} (g : Grown w w3) :
    Two (w3.heap.size + 1) (w3.heap.size + 1 + 1 + 1) b w ((((w3.alloc (.cells (eight (word b)) 34)).alloc (.cells (eight (word b)) 34)).alloc (.cells (eight (word b)) 34)).alloc (.cells (eight (word b)) 34)) := by
  refine ⟨fun j hj => ?_, fun j hj => ?_, (((g.alloc _ _).alloc _ _).alloc _ _).alloc _ _⟩
  · rw [World.cell?_alloc_lt _ _ _ (by simp), World.cell?_alloc_lt _ _ _ (by simp), World.cell?_alloc_at _ _ _ _ (by simp)]
    exact eight_at _ j hj
  · rw [World.cell?_alloc_at _ _ _ _ (by simp)]
    exact eight_at _ j hj

set_option maxHeartbeats 1000000 in
theorem law_any (a b : Int) (w : World) (ha0 : 0 ≤ a) (ha1 : a < 18446744073709551616) (hb0 : 0 ≤ b) (hb1 : b < 18446744073709551616) :
    Calls Try.prog 5 #[.int .u64 a, .int .u64 b] w fun e w' => e = .returned (.bool true) ∧ Grown w w' := by
  go_enter Try.func5, Try.ntmps5
  go_wp2_with fail
  refine (new_any a _ ha0 ha1).mono ?_
  rintro e w1 ⟨rfl, hs1, hz1⟩
  go_wp2_with fail
  refine (new_any b _ hb0 hb1).mono ?_
  rintro e w2 ⟨rfl, hs2, hz2⟩
  have g1 := hs1.grown (Grown.refl w) (Nat.le_refl _)
  have g2 := hs2.grown g1 (Nat.le_of_lt hz1)
  have c2 : ∀ j, j < 8 → ∃ v, w2.cell? ⟨w.heap.size, j, none⟩ = some v := fun j hj => ⟨_, (World.cell?_of_block (w := w1) (hs2.other _ hz1 (Nat.ne_of_lt hz1))).trans (hs1.cell j hj)⟩
  have f2 : ∀ j, j < 8 → w2.frozen? ⟨w.heap.size, j, none⟩ = false := fun j _ => (g2.2.1 _).trans (frozen_out _ _ (Nat.le_refl _))
  have G2 : Hid (Grown w w2) := g2
  clear g1 g2
  go_wp2_with fail
  refine (reseed_any w.heap.size b w2 (by omega) hb0 hb1 c2 f2).mono ?_
  rintro e w3 ⟨rfl, hs3⟩
  have c3 := hs3.cell
  have d3 : ∀ j, j < 8 → w3.cell? ⟨w1.heap.size, j, none⟩ = some (.int .u64 (word b j)) := fun j hj => (World.cell?_of_block (w := w2) (hs3.other _ hz2 (Nat.ne_of_gt hz1))).trans (hs2.cell j hj)
  have z3 := hs3.size
  have g3 : Hid (Grown w w3) := hs3.grown G2.out (Nat.le_refl _)
  clear hs1 hs2 hs3 c2 f2 G2
  go_wp2_with fail
  refine (state_any w.heap.size w3 (by omega) (word b) c3).mono ?_
  rintro e w4 ⟨rfl, rfl⟩
  go_wp2_with fail
  refine (state_any w1.heap.size _ (by simp; omega) (word b) (fun j hj => ?_)).mono ?_
  · rw [World.cell?_alloc_lt _ _ _ (by simp; omega), World.cell?_alloc_lt _ _ _ (by show w1.heap.size < _; omega)]
    exact d3 j hj
  rintro e w4 ⟨rfl, rfl⟩
  go_wp2_with fail
  have T0 := Two.mk4 (b := b) g3.out
  unfold eight at T0
  have hne : ∀ i j : Nat, i < 8 → j < 8 → i ≠ j → (word b i == word b j) = false := fun i j hi hj h => word_ne b i j hi hj h
  have Hne : Hid (∀ i j : Nat, i < 8 → j < 8 → i ≠ j → (word b i == word b j) = false) := hne
  clear hne c3 d3 g3
  go_loopw [9] (fun i wr => ∃ k : Nat, k ≤ 8 ∧ i = .int .i64 k ∧ Two (w3.heap.size + 1) (w3.heap.size + 1 + 1 + 1) b w wr) (fun i _ => 8 - (intOf i).toNat)
  case atStart => exact ⟨0, by omega, rfl, T0⟩
  case round =>
    obtain ⟨k, hk, rfl, ht⟩ := hrel
    by_cases hlt : k < 8
    · have c1 := ht.one k hlt
      have c2 := ht.two k hlt
      have hkI : (k : Int) < 8 := by omega
      go_wp2_with fail
      go_quiet (fail)
      go_wp2
      go_roundw
      case rel => exact ⟨k + 1, by omega, by go_num, ht.drewN _⟩
      case measure => simp [intOf]; omega
    · go_wp2_with fail
      go_loopw [10] (fun i wr => ∃ k : Nat, k ≤ 8 ∧ i = .int .i64 k ∧ Two (w3.heap.size + 1) (w3.heap.size + 1 + 1 + 1) b w wr) (fun i _ => 8 - (intOf i).toNat)
      case atStart => exact ⟨0, by omega, rfl, ht⟩
      case round =>
        obtain ⟨i, hi, rfl, ht2⟩ := hrel
        by_cases hlt2 : i < 8
        · have hiI : (i : Int) < 8 := by omega
          go_wp2_with fail
          go_loopw [11] (fun x wr => ∃ j : Nat, i < j ∧ j ≤ 8 ∧ x = .int .i64 j ∧ Two (w3.heap.size + 1) (w3.heap.size + 1 + 1 + 1) b w wr) (fun i _ => 8 - (intOf i).toNat)
          case atStart => exact ⟨i + 1, by omega, by omega, by go_num, ht2⟩
          case round =>
            obtain ⟨j, hij, hj, rfl, ht3⟩ := hrel
            by_cases hlt3 : j < 8
            · have c1 := ht3.two i hlt2
              have c2 := ht3.two j hlt3
              have hjI : (j : Int) < 8 := by omega
              have hne := Hne.out i j hlt2 hlt3 (by omega)
              go_wp2_with fail
              go_quiet (fail)
              go_wp2
              go_roundw
              case rel => exact ⟨j + 1, by omega, by omega, by go_num, ht3.drewN _⟩
              case measure => simp [intOf]; omega
            · go_wp2
              go_roundw
              case rel => exact ⟨i + 1, by omega, by go_num, ht3⟩
              case measure => simp [intOf]; omega
        · go_wp2
          go_ret
          exact ⟨rfl, ht2.grown⟩
end Go.Proofs.Qxb6605904a
