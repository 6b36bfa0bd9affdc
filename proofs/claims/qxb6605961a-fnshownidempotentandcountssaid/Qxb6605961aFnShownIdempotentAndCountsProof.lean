/-
  The proof of 'Rows.FnShownIdempotentAndCountsSaid': the frame is the guide's (proof-skeleton's print for a slice of integers, turned to strings); the walk lies in Qxb6605961aCounts.
-/
import Derived.Test.Qxb6605961aRows
import Derived.WalkKit
import Derived.ProofKit
import Derived.OpenShut
import Derived.ShutString
import Derived.ChangeOld
import Derived.Below
import Derived.SliceStrings
import Derived.Test.Qxb6605961aCounts
namespace Go.Proofs.Qxb6605961a.fnShownIdempotentAndCounts
open Go.ChangeShapes Go.WideShapes Go.ChangeAt Go.RowKit
open Go.ChangeMaps (open_string shut_string)
set_option linter.unusedVariables false

theorem own : ownKnob Try.prog.godebug = none := by kernel_rfl
theorem laidOut : laidOutB Try.prog = true := by kernel_rfl

/-- The cells that 'open_strings' gives, as the walks ask them. -/
theorem view_of {w : World} {x : Addr} {ss : List ByteArray} {n : Nat} (hc : ∀ i, i < ss.length → w.cell? (x.add i) = some (.string (ss.getD i ByteArray.empty))) (hn : n ≤ ss.length) : View w (some x) n (fun j => ss.getD j ByteArray.empty) := by
  by_cases h0 : n = 0
  · exact .inl h0
  · have h1 := hc 0 (by omega)
    obtain ⟨b, off, sp⟩ := x
    have hsp : sp = none := by
      cases sp with
      | none => rfl
      | some q => simp [World.cell?, Addr.add] at h1; split at h1 <;> simp_all
    subst hsp
    refine .inr ⟨b, off, rfl, World.block_lt_of_cell? w _ h1, fun j hj => ?_⟩
    have h2 := hc j (by omega)
    have e : (⟨b, off, none⟩ : Addr).add j = ⟨b, off + j, none⟩ := by unfold Addr.add; split <;> simp_all
    rw [e] at h2
    exact h2

theorem getD_mem (ss : List ByteArray) (j : Nat) (h : j < ss.length) : ss.getD j ByteArray.empty ∈ ss := by
  rw [List.getD_eq_getElem?_getD, List.getElem?_eq_getElem h]
  exact List.getElem_mem h

theorem walk (a0 : Option Addr) (len0 cap0 : Nat) (f : Nat → ByteArray) (w : World) (hnil : a0 = none → len0 = 0 ∧ cap0 = 0) (hn : len0 ≤ maxLen) (hv : View w a0 len0 f) (hf : ∀ j, j < len0 → (f j).size ≤ maxLen) :
    Calls Try.prog 4 #[.slice a0 len0 cap0] w fun e w' => e = .returned (.bool true) ∧ Below w.heap.size w w' := by
  cases a0 with
  | none => obtain ⟨rfl, rfl⟩ := hnil rfl; exact counts_nil w
  | some x => exact counts_some w x len0 cap0 f hv hn hf

/-! ### THE ROW's STEP: WRITTEN OUT: LEAVE IT -/
set_option maxRecDepth 100000 in
theorem lifted (os : Os) (started : os.Started) (H : Type) (enc : TypeId × Value → H) :
    ReturnsInHanded {} Try.checked os 4 .any (Rows.fnShownIdempotentAndCountsSpec.pre6 enc Try.prog Try.f4 Rows.fnShownIdempotentAndCountsRow.domain false) (Rows.fnShownIdempotentAndCountsSpec.post enc Try.prog Try.f4 false true false false) := by
  refine returnsInHanded_of_change (C := Try.checked) own started (by kernel_rfl) Try.func4
    (ChangeSpec.witness6 (enc := enc) (C := Try.checked) false ⟨#[], #[.slice none 0 0], []⟩ 8 (by kernel_rfl) (by kernel_rfl) (by kernel_rfl) (by kernel_rfl)) ?_
  intro W base args ds gs before hval0 hW hcnd _
  have hval : ∀ (j : Nat) t v, Try.f4.params[j]? = some t → args[j]? = some v → Value.okWide Try.prog W .any base t v := hval0
  have hW' := hW
  obtain ⟨p, q, hA0, hV, rfl, hfz, hnd⟩ := hW
  have hA : DataW.TrodAll enc Try.prog W 0 (fun _ => true) true Try.f4.params.toList args.toList ds p := hA0
  rw [Try.params4] at hA hval
  obtain ⟨v0, vs0, d0, ds0, p0, q0, hargs, rfl, rfl, h0, r0⟩ := trodAll_cons hA
  obtain ⟨rfl, rfl, rfl⟩ := trodAll_nil r0
  obtain rfl : args = #[v0] := by cases args; simp_all
  obtain ⟨rfl, rfl⟩ := trodVars_none hV
  obtain ⟨a0, len0, cap0, rfl⟩ := okWide_slice Try.underlying22 (hval 0 22 v0 rfl rfl)
  have k0 := h0
  have lt0 : ∀ x ∈ p0, x.block < W.heap.size := by obtain ⟨m, hm⟩ := k0; exact DataW.trod_lt m _ _ _ hm
  obtain ⟨f, hnil, hlen, hv, hf⟩ : ∃ f : Nat → ByteArray, (a0 = none → len0 = 0 ∧ cap0 = 0) ∧ len0 ≤ maxLen ∧ View W a0 len0 f ∧ ∀ j, j < len0 → (f j).size ≤ maxLen := by
    obtain ⟨fuel, hf⟩ := h0
    rcases open_strings Try.underlying22 Try.underlying9 (by kernel_rfl) hf with ⟨hcs, _⟩ | ⟨x, l, c, ss, hcs, _, hl, hm, hz, _, hcell, hws⟩
    · simp [Value.cells] at hcs
      obtain ⟨rfl, rfl, rfl⟩ := hcs
      exact ⟨fun _ => ByteArray.empty, fun _ => ⟨rfl, rfl⟩, Nat.zero_le _, .inl rfl, fun j h => by omega⟩
    · simp [Value.cells] at hcs
      obtain ⟨rfl, rfl, rfl⟩ := hcs
      have hz' : ss.length = cap0 := by simpa using hz
      exact ⟨fun j => ss.getD j ByteArray.empty, (fun h => by cases h), Nat.le_trans hl hm, view_of hcell (by omega), fun j hj => hws _ (getD_mem ss j (by omega))⟩
  clear hA0 hval0
  refine (walk a0 len0 cap0 f W hnil hlen hv hf).mono fun e W' ⟨he, bel⟩ => ?_
  subst he
  exact ⟨_, rfl, _, _, _, [], _, [], hW', trodAll_mk1 (shut_bool Try.underlying4 _), (trodAll_cons_mk (Below.trod laidOut (by kernel_rfl) (of_decide_eq_true (by kernel_rfl)) k0 bel lt0) trodAll_mk0), rfl, bel.frame _, fun h => by cases h⟩

theorem over : Rows.fnShownIdempotentAndCountsRow.holds Try.pinned (OpenSpec.ofChange Rows.fnShownIdempotentAndCountsSpec) :=
  OpenClaim.holds_of_wide 4 Try.f4 rfl rfl rfl rfl rfl rfl rfl ⟨rfl, rfl, rfl, rfl, rfl⟩ rfl rfl rfl rfl rfl (by kernel_rfl) Try.func4 (by kernel_rfl)
    (of_decide_eq_true (by kernel_rfl)) (by unfold Func.isWrapper; first | (rw [if_pos (by decide +kernel)]; kernel_rfl) | (rw [if_neg (by decide +kernel)]; exact ⟨rfl, rfl⟩))
    (fun os started H enc _ => lifted os started H enc)

/-- ████ THE STATEMENT ████ -/
theorem proved : Rows.FnShownIdempotentAndCountsSaid := over
#print axioms proved
end Go.Proofs.Qxb6605961a.fnShownIdempotentAndCounts
