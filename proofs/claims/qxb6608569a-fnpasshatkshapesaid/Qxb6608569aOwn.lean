import Derived.Test.Qxb6608569aMono
namespace Go.Proofs.Qxb6608569a
open Go.RowKit

/-- The slice v of k elements (one cell each, of type e) lies in a block of the call's own, from number B on; element j is f j. -/
def Own (w : World) (B e k : Nat) (v : Value) (f : Nat → Value) : Prop := w.ownsRow B e 1 v k ((List.range k).map f)

theorem Own.nil (w : World) (B e : Nat) (f : Nat → Value) : Own w B e 0 (.slice none 0 0) f := World.ownsRow_nil w B e 1

theorem Own.congr {w : World} {B e k : Nat} {v : Value} {f g : Nat → Value} (h : Own w B e k v f) (hfg : ∀ j, j < k → f j = g j) : Own w B e k v g := by
  unfold Own at h ⊢
  have : (List.range k).map f = (List.range k).map g := List.map_congr_left (fun j hj => hfg j (List.mem_range.1 hj))
  rw [← this]; exact h

theorem Own.grow {w : World} {B e k : Nat} {v : Value} {f : Nat → Value} {u : Value} (h : w.ownsRow B e 1 v (k + 1) ((List.range k).map f ++ [u])) : Own w B e (k + 1) v (fun j => if j < k then f j else u) := by
  unfold Own
  rw [List.range_succ, List.map_append]
  have e1 : (List.range k).map (fun j => if j < k then f j else u) = (List.range k).map f := List.map_congr_left (fun j hj => by rw [if_pos (List.mem_range.1 hj)])
  rw [e1]
  simpa using h

theorem Own.shape {w : World} {B e k : Nat} {v : Value} {f : Nat → Value} (h : Own w B e k v f) (hk : 0 < k) : ∃ g cap, v = .slice (some ⟨g, 0, none⟩) k cap ∧ B ≤ g := by
  rcases h.2 with ⟨_, h0⟩ | ⟨g, cap, cur, hv, hb, _⟩
  · omega
  · exact ⟨g, cap, hv, hb⟩

theorem Own.cell {w : World} {B e k g cap : Nat} {f : Nat → Value} (h : Own w B e k (.slice (some ⟨g, 0, none⟩) k cap) f) {j : Nat} (hj : j < k) : w.cell? ⟨g, j, none⟩ = some (f j) := by
  have := World.ownsRow.cellAt h j (by omega)
  rw [this]
  simp [hj]
theorem Own.frozen {w : World} {B e k g cap : Nat} {f : Nat → Value} (h : Own w B e k (.slice (some ⟨g, 0, none⟩) k cap) f) (j : Nat) : w.frozen? ⟨g, j, none⟩ = false := World.ownsRow.frozenAt h j

theorem Own.set {w : World} {B e k g cap : Nat} {f : Nat → Value} (h : Own w B e k (.slice (some ⟨g, 0, none⟩) k cap) f) (j : Nat) (u : Value) :
    Own (w.setCell ⟨g, j, none⟩ u) B e k (.slice (some ⟨g, 0, none⟩) k cap) (fun i => if i = j then u else f i) := by
  have h1 := (World.ownsRow.stored h j u).1
  unfold Own
  have e1 : ((List.range k).map f).set j u = (List.range k).map (fun i => if i = j then u else f i) := by
    apply List.ext_getElem?
    intro i
    rw [List.getElem?_set]
    by_cases hi : i < k
    · by_cases e : j = i
      · subst e; simp [hi]
      · have e' : ¬ i = j := fun x => e x.symm
        simp [hi, e, e']
    · by_cases e : j = i
      · subst e; simp [hi]
      · simp [hi, e]
  rw [← e1]
  exact h1

theorem Own.kept {w w' : World} {B e k : Nat} {v : Value} {f : Nat → Value} {row : Option Nat} (h : Own w B e k v f) (hg : w.grownBy w' row) (hne : v.ownBlock = none ∨ v.ownBlock ≠ row) : Own w' B e k v f := World.ownsRow.kept h hg hne

theorem Own.below {w w' : World} {B C e k : Nat} {v : Value} {f : Nat → Value} (h : Own w B e k v f) (hb : Below C w w') (hC : ∀ g, v.ownBlock = some g → g < C) : Own w' B e k v f := by
  refine ⟨h.1, ?_⟩
  rcases h.2 with hn | ⟨g, cap, cur, rfl, hbg, hgg, rest⟩
  · exact .inl hn
  · exact .inr ⟨g, cap, cur, rfl, hbg, by rw [hb.block g (hC g rfl)]; exact hgg, rest⟩

theorem Own.lt {w : World} {B e k : Nat} {v : Value} {f : Nat → Value} (h : Own w B e k v f) : ∀ g, v.ownBlock = some g → B ≤ g ∧ g < w.heap.size := World.ownsRow.lt h

theorem Own.setOther {w : World} {B e k g cap : Nat} {f : Nat → Value} (h : Own w B e k (.slice (some ⟨g, 0, none⟩) k cap) f) {a : Addr} (ha : g ≠ a.block) (u : Value) : Own (w.setCell a u) B e k (.slice (some ⟨g, 0, none⟩) k cap) f := by
  refine ⟨h.1, ?_⟩
  rcases h.2 with hn | ⟨g', cap', cur, hv, hbg, hgg, rest⟩
  · exact .inl hn
  · simp only [Value.slice.injEq, Option.some.injEq, Addr.mk.injEq, and_true, true_and] at hv
    obtain ⟨rfl, rfl⟩ := hv
    exact .inr ⟨g, cap, cur, rfl, hbg, by rw [Below.heap_setCell _ _ _ _ ha]; exact hgg, rest⟩

theorem Own.base {w : World} {B C e k : Nat} {v : Value} {f : Nat → Value} (h : Own w B e k v f) (hc : C ≤ B) : Own w C e k v f := by
  refine ⟨h.1, ?_⟩
  rcases h.2 with hn | ⟨g, cap, cur, hv, hbg, rest⟩
  · exact .inl hn
  · exact .inr ⟨g, cap, cur, hv, by omega, rest⟩

theorem Own.alloc {w : World} {B e k : Nat} {v : Value} {f : Nat → Value} (h : Own w B e k v f) (o : Obj) : Own (w.alloc o) B e k v f := World.ownsRow.alloc h o
theorem Own.drewN {w : World} {B e k : Nat} {v : Value} {f : Nat → Value} (h : Own w B e k v f) (n : Nat) : Own (w.drewN n) B e k v f := h
theorem Own.drew {w : World} {B e k : Nat} {v : Value} {f : Nat → Value} (h : Own w B e k v f) : Own w.drew B e k v f := h

/-- Slices of different element types lie in different blocks. -/
theorem Own.apart {w : World} {B B' e e' k k' : Nat} {v v' : Value} {f f' : Nat → Value} (h : Own w B e k v f) (h' : Own w B' e' k' v' f') (hne : e ≠ e') : v.ownBlock = none ∨ v.ownBlock ≠ v'.ownBlock := by
  rcases h.2 with ⟨rfl, _⟩ | ⟨g, cap, cur, rfl, _, hg, _⟩
  · exact .inl rfl
  · rcases h'.2 with ⟨rfl, _⟩ | ⟨g', cap', cur', rfl, _, hg', _⟩
    · exact .inr (by simp [Value.ownBlock])
    · refine .inr ?_
      simp only [Value.ownBlock, ne_eq, Option.some.injEq]
      intro e1
      subst e1
      rw [hg] at hg'
      simp at hg'
      exact hne hg'.2
end Go.Proofs.Qxb6608569a
