import Derived.Test.Qxb6605961aRows
import Derived.WalkKit
import Derived.WalkSpells
import Derived.WalkLawsBesides
import Derived.Deep.OwnRows
import Derived.Deep.QuietTactic
import Derived.BigQuiet
namespace Go.Proofs.Qxb6605961a
open Go.RowKit

/-- WHAT A WALK IS TOLD OF A SLICE OF STRINGS THAT IT READS: n elements, element j is 'f j'. -/
def View (w : World) (ad : Option Addr) (n : Nat) (f : Nat → ByteArray) : Prop :=
  n = 0 ∨ ∃ b off, ad = some ⟨b, off, none⟩ ∧ b < w.heap.size ∧ ∀ j, j < n → w.cell? ⟨b, off + j, none⟩ = some (.string (f j))

def SomeBool (e : Ending) : Prop := ∃ r, e = .returned (.bool r)
/-- zzAddStrings' answer: 'not too big' only of a short slice. -/
def Summed (n : Nat) (e : Ending) : Prop := ∃ t r, e = .returned (.tuple #[.int .i64 t, .bool r]) ∧ (r = false → n ≤ 65536)

set_option maxHeartbeats 400000 in
theorem bytes5_any (w : World) (ad : Option Addr) (n cap : Nat) (f : Nat → ByteArray) (hv : View w ad n f) (hn : n ≤ maxLen) (hf : ∀ j, j < n → (f j).size ≤ maxLen) :
    Calls Try.prog 5 #[.slice ad n cap] w fun e w' => SomeBool e ∧ w' = w := by
  unfold maxLen at hn hf
  rcases hv with rfl | ⟨b, off, rfl, hb, hc⟩
  · go_enter Try.func5, Try.ntmps5
    go_wp2
    refine wp_loop_rounds 1 ?_
    rw [rounds_succ]
    go_wp2
    go_ret
    exact ⟨⟨_, rfl⟩, rfl⟩
  · by_cases hbig : 1048576 < n
    · go_enter Try.func5, Try.ntmps5
      go_wp2
      go_ret
      exact ⟨⟨_, rfl⟩, rfl⟩
    go_enter Try.func5, Try.ntmps5
    go_wp2
    go_loop [3, 4] (fun t i => ∃ k : Nat, k ≤ n ∧ i = .int .i64 k ∧ ∃ z : Int, 0 ≤ z ∧ z ≤ 1048576 ∧ t = .int .i64 z) (fun _ i => n - (intOf i).toNat)
    case atStart => exact ⟨0, Nat.zero_le _, rfl, n, by omega, by omega, rfl⟩
    case round =>
      obtain ⟨k, hk, rfl, z, hz0, hz1, rfl⟩ := hrel
      by_cases hlt : k < n
      · have hck := hc k hlt
        have hsz := hf k hlt
        generalize f k = s at hck hsz
        clear hf hc
        go_wp2
        · go_ret
          exact ⟨⟨_, rfl⟩, rfl⟩
        · go_ret
          exact ⟨⟨_, rfl⟩, rfl⟩
        · go_round
          case rel => exact ⟨k + 1, by omega, by go_num, _, by omega, by omega, rfl⟩
          case measure => simp [intOf]; omega
      · go_wp2
        go_ret
        exact ⟨⟨_, rfl⟩, rfl⟩

set_option maxHeartbeats 400000 in
theorem bytes9_any (w : World) (ad : Option Addr) (n cap : Nat) (f : Nat → ByteArray) (hv : View w ad n f) (hn : n ≤ maxLen) (hf : ∀ j, j < n → (f j).size ≤ maxLen) :
    Calls Try.prog 9 #[.slice ad n cap] w fun e w' => SomeBool e ∧ w' = w := by
  unfold maxLen at hn hf
  rcases hv with rfl | ⟨b, off, rfl, hb, hc⟩
  · go_enter Try.func9, Try.ntmps9
    go_wp2
    refine wp_loop_rounds 1 ?_
    rw [rounds_succ]
    go_wp2
    go_ret
    exact ⟨⟨_, rfl⟩, rfl⟩
  · by_cases hbig : 1048576 < n
    · go_enter Try.func9, Try.ntmps9
      go_wp2
      go_ret
      exact ⟨⟨_, rfl⟩, rfl⟩
    go_enter Try.func9, Try.ntmps9
    go_wp2
    go_loop [3, 4] (fun t i => ∃ k : Nat, k ≤ n ∧ i = .int .i64 k ∧ ∃ z : Int, 0 ≤ z ∧ z ≤ 1048576 ∧ t = .int .i64 z) (fun _ i => n - (intOf i).toNat)
    case atStart => exact ⟨0, Nat.zero_le _, rfl, n, by omega, by omega, rfl⟩
    case round =>
      obtain ⟨k, hk, rfl, z, hz0, hz1, rfl⟩ := hrel
      by_cases hlt : k < n
      · have hck := hc k hlt
        have hsz := hf k hlt
        generalize f k = s at hck hsz
        clear hf hc
        go_wp2
        · go_ret
          exact ⟨⟨_, rfl⟩, rfl⟩
        · go_ret
          exact ⟨⟨_, rfl⟩, rfl⟩
        · go_round
          case rel => exact ⟨k + 1, by omega, by go_num, _, by omega, by omega, rfl⟩
          case measure => simp [intOf]; omega
      · go_wp2
        go_ret
        exact ⟨⟨_, rfl⟩, rfl⟩

set_option maxHeartbeats 400000 in
theorem add_any (w : World) (ad : Option Addr) (n cap : Nat) (f : Nat → ByteArray) (hv : View w ad n f) (hn : n ≤ maxLen) (hf : ∀ j, j < n → (f j).size ≤ maxLen) :
    Calls Try.prog 6 #[.int .i64 0, .slice ad n cap] w fun e w' => Summed n e ∧ w' = w := by
  unfold maxLen at hn hf
  rcases hv with rfl | ⟨b, off, rfl, hb, hc⟩
  · go_enter Try.func6, Try.ntmps6
    go_wp2
    refine wp_loop_rounds 1 ?_
    rw [rounds_succ]
    go_wp2
    go_ret2
    exact ⟨⟨_, _, rfl, fun _ => by omega⟩, rfl⟩
  · by_cases hbig : 65536 < n
    · by_cases hbig2 : 1048576 < n
      · go_enter Try.func6, Try.ntmps6
        go_wp2
        go_ret2
        exact ⟨⟨_, _, rfl, fun h => by cases h⟩, rfl⟩
      · have h16 : (1048576 : Int) < 16 * (n : Int) := by omega
        go_enter Try.func6, Try.ntmps6
        go_wp2
        go_ret2
        exact ⟨⟨_, _, rfl, fun h => by cases h⟩, rfl⟩
    have h16 : ¬ (1048576 : Int) < 16 * (n : Int) := by omega
    go_enter Try.func6, Try.ntmps6
    go_wp2
    go_loop [0, 6] (fun t i => ∃ k : Nat, k ≤ n ∧ i = .int .i64 k ∧ ∃ z : Int, 0 ≤ z ∧ z ≤ 1048576 ∧ t = .int .i64 z) (fun _ i => n - (intOf i).toNat)
    case atStart => exact ⟨0, Nat.zero_le _, rfl, _, by omega, by omega, rfl⟩
    case round =>
      obtain ⟨k, hk, rfl, z, hz0, hz1, rfl⟩ := hrel
      by_cases hlt : k < n
      · have hck := hc k hlt
        have hsz := hf k hlt
        generalize f k = s at hck hsz
        clear hf hc
        go_wp2
        · go_ret2
          exact ⟨⟨_, _, rfl, fun _ => by omega⟩, rfl⟩
        · go_ret2
          exact ⟨⟨_, _, rfl, fun _ => by omega⟩, rfl⟩
        · go_round
          case rel => exact ⟨k + 1, by omega, by go_num, _, by omega, by omega, rfl⟩
          case measure => simp [intOf]; omega
      · go_wp2
        go_ret2
        exact ⟨⟨_, _, rfl, fun _ => by omega⟩, rfl⟩
end Go.Proofs.Qxb6605961a
