import Derived.Test.Qxb6608569aOwn
import Derived.RegionTactic
import Derived.ChangeAlike
namespace Go.Proofs.Qxb6608569a
open Go.RowKit
attribute [local go_sem] run_store_float

theorem info3 : (Try.prog.info? 3).map (fun i => (i.zero, i.size, i.bytes)) = some (some (.int .i64 0), 1, 8) := by kernel_rfl

/-- The two tallies that MeanPassHatK reads. -/
structure Tallies (T n c : Nat) (w : World) : Prop where
  lt : T < w.heap.size
  c0 : w.cell? ⟨T, 0, none⟩ = some (.int .i64 n)
  c1 : w.cell? ⟨T, 1, none⟩ = some (.int .i64 c)
  c2 : w.cell? ⟨T, 2, none⟩ = some (.int .i64 n)
  c3 : w.cell? ⟨T, 3, none⟩ = some (.int .i64 c)
theorem Tallies.below {T n c : Nat} {w w' : World} (h : Tallies T n c w) (hb : Below w.heap.size w w') : Tallies T n c w' :=
  ⟨Nat.lt_of_lt_of_le h.lt hb.size, (hb.cell (p := ⟨T, 0, none⟩) h.lt).trans h.c0, (hb.cell (p := ⟨T, 1, none⟩) h.lt).trans h.c1, (hb.cell (p := ⟨T, 2, none⟩) h.lt).trans h.c2, (hb.cell (p := ⟨T, 3, none⟩) h.lt).trans h.c3⟩

def nilS : Value := .slice none 0 0

/-- Where the outer loop stands: nothing gathered; each figure once; each figure twice. -/
structure Got (N n : Nat) (w : World) (F : Nat → Value) (C : Nat → Value) (v3 v4 : Value) (wr : World) : Prop where
  out : ∃ g3 c3 g4 c4, v3 = .slice (some ⟨g3, 0, none⟩) n c3 ∧ v4 = .slice (some ⟨g4, 0, none⟩) n c4
  own3 : Own wr N 28 n v3 F
  own4 : Own wr N 3 n v4 C
  below : Below N w wr

theorem add_zero_at (p : Nat) (hp : p < 2047 * 2 ^ 52) (w : World) : (binOp .add 28 (.float .f64 0) (.float .f64 p)).run Try.prog w = .ok (.float .f64 p) w := by
  have h := add_eq 0 p (by decide) hp
  rw [addR_zero p hp] at h
  exact run_float_arith w .add 28 .f64 _ _ _ h

/-- What MeanPassHatK gives: a slice of its own, holding the figures. -/
def MeanGave (n c : Nat) (w : World) (e : Ending) (w' : World) : Prop :=
  ∃ g cap, e = .returned (.slice (some ⟨g, 0, none⟩) n cap) ∧ Own w' w.heap.size 28 n (.slice (some ⟨g, 0, none⟩) n cap) (fun j => .float .f64 (fig n c j)) ∧ Below w.heap.size w w'

/-- The first inner loop's world: k figures have been gathered. -/
structure In1 (B n c : Nat) (W : World) (k : Nat) (v3 v4 : Value) (wr : World) : Prop where
  own3 : Own wr B 28 k v3 (fun j => .float .f64 (fig n c j))
  own4 : Own wr B 3 k v4 (fun _ => .int .i64 1)
  below : Below B W wr

theorem In1.next {B n c : Nat} {W w3 : World} {k g3 g4 k3 k4 x : Nat} (h3 : Own w3 B 28 (k + 1) (.slice (some ⟨g3, 0, none⟩) (k + 1) k3) (fun j => if j < k then .float .f64 (fig n c j) else .float .f64 0))
    (h4 : Own w3 B 3 (k + 1) (.slice (some ⟨g4, 0, none⟩) (k + 1) k4) (fun j => if j < k then .int .i64 1 else .int .i64 0)) (hb : Below B W w3) (hne : g3 ≠ g4) (b3 : B ≤ g3) (b4 : B ≤ g4) (hx : fig n c k = x) :
    In1 B n c W (k + 1) (.slice (some ⟨g3, 0, none⟩) (k + 1) k3) (.slice (some ⟨g4, 0, none⟩) (k + 1) k4) ((w3.setCell ⟨g3, k, none⟩ (.float .f64 x)).setCell ⟨g4, k, none⟩ (.int .i64 1)) := by
  refine ⟨((h3.set k _).setOther hne _).congr (fun j hj => ?_), ((h4.setOther (fun e => hne e.symm) _).set k _).congr (fun j hj => ?_), (hb.setCell b3 _).setCell b4 _⟩
  · by_cases e : j = k
    · subst e; simp [hx]
    · have : j < k := by omega
      simp [e, this]
  · by_cases e : j = k
    · subst e; simp
    · have : j < k := by omega
      simp [e, this]

theorem Got.ofIn1 {N B n c : Nat} {w w1 wr : World} {v3 v4 : Value} (hn : 1 ≤ n) (hNB : N ≤ B) (hb : Below N w w1) (h : In1 B n c w1 n v3 v4 wr) : Got N n w (fun j => .float .f64 (fig n c j)) (fun _ => .int .i64 1) v3 v4 wr := by
  obtain ⟨g3, k3, e3, _⟩ := h.own3.shape hn
  obtain ⟨g4, k4, e4, _⟩ := h.own4.shape hn
  exact ⟨⟨g3, k3, g4, k4, e3, e4⟩, h.own3.base hNB, h.own4.base hNB, hb.trans (h.below.mono hNB)⟩

/-- The second inner loop's world: the first k figures have been added once more. -/
structure In2 (N P n c g3 k3 g4 k4 : Nat) (w : World) (k : Nat) (wr : World) : Prop where
  own3 : Own wr N 28 n (.slice (some ⟨g3, 0, none⟩) n k3) (fun j => .float .f64 (if j < k then dbl (fig n c j) else fig n c j))
  own4 : Own wr N 3 n (.slice (some ⟨g4, 0, none⟩) n k4) (fun j => .int .i64 (if j < k then 2 else 1))
  row : wr.rowIs P 28 n (fun j => .float .f64 (fig n c j))
  below : Below N w wr

theorem In2.start {N P n c g3 k3 g4 k4 : Nat} {w wx w1 : World} (h3 : Own wx N 28 n (.slice (some ⟨g3, 0, none⟩) n k3) (fun j => .float .f64 (fig n c j))) (h4 : Own wx N 3 n (.slice (some ⟨g4, 0, none⟩) n k4) (fun _ => .int .i64 1))
    (hb1 : Below wx.heap.size wx w1) (l3 : g3 < wx.heap.size) (l4 : g4 < wx.heap.size) (rp : w1.rowIs P 28 n (fun j => .float .f64 (fig n c j))) (hb : Below N w w1) : In2 N P n c g3 k3 g4 k4 w 0 w1 := by
  refine ⟨(h3.below hb1 (fun g e => ?_)).congr (fun j _ => by simp), (h4.below hb1 (fun g e => ?_)).congr (fun j _ => by simp), rp, hb⟩
  · simp [Value.ownBlock] at e; omega
  · simp [Value.ownBlock] at e; omega

theorem In2.next {N P n c g3 k3 g4 k4 : Nat} {w : World} {k : Nat} {wr : World} (h : In2 N P n c g3 k3 g4 k4 w k wr) (_hk : k < n) (hne : g3 ≠ g4) (b3 : N ≤ g3) (b4 : N ≤ g4) (l3 : g3 < P) (l4 : g4 < P) :
    In2 N P n c g3 k3 g4 k4 w (k + 1) ((wr.setCell ⟨g3, k, none⟩ (.float .f64 (dbl (fig n c k)))).setCell ⟨g4, k, none⟩ (.int .i64 2)) := by
  refine ⟨((h.own3.set k _).setOther hne _).congr (fun j hj => ?_), ((h.own4.setOther (fun e => hne e.symm) _).set k _).congr (fun j hj => ?_),
    (h.row.setOther (by show P ≠ g3; omega) _).setOther (by show P ≠ g4; omega) _, (h.below.setCell b3 _).setCell b4 _⟩
  · by_cases e : j = k
    · subst e; simp
    · by_cases l : j < k
      · simp [e, l, Nat.lt_succ_of_lt l]
      · have : ¬ j < k + 1 := by omega
        simp [e, l, this]
  · by_cases e : j = k
    · subst e; simp
    · by_cases l : j < k
      · simp [e, l, Nat.lt_succ_of_lt l]
      · have : ¬ j < k + 1 := by omega
        simp [e, l, this]

theorem Got.ofIn2 {N P n c g3 k3 g4 k4 : Nat} {w wr : World} (h : In2 N P n c g3 k3 g4 k4 w n wr) :
    Got N n w (fun j => .float .f64 (dbl (fig n c j))) (fun _ => .int .i64 2) (.slice (some ⟨g3, 0, none⟩) n k3) (.slice (some ⟨g4, 0, none⟩) n k4) wr :=
  ⟨⟨g3, k3, g4, k4, rfl, rfl⟩, h.own3.congr (fun j hj => by simp [hj]), h.own4.congr (fun j hj => by simp [hj]), h.below⟩

theorem add_self_at (p : Nat) (hp : p ≤ one) (w : World) : (binOp .add 28 (.float .f64 p) (.float .f64 p)).run Try.prog w = .ok (.float .f64 (dbl p)) w := by
  have h := add_eq p p (Nat.lt_of_le_of_lt hp one_lt) (Nat.lt_of_le_of_lt hp one_lt)
  rw [addR_self p hp] at h
  exact run_float_arith w .add 28 .f64 _ _ _ h

theorem half_at (p : Nat) (hp : p ≤ one) (w : World) : (binOp .quo 28 (.float .f64 (dbl p)) (.float .f64 (floatOfInt .f64 2))).run Try.prog w = .ok (.float .f64 p) w := by
  refine run_float_arith w .quo 28 .f64 _ _ _ ?_
  have e : floatOfInt .f64 2 = near 2 0 := ofInt_eq 2
  rw [e]
  exact half_eq p hp

/-- The third loop's world: the first k sums have been halved. -/
structure In3 (N n c g3 k3 g4 k4 : Nat) (w : World) (k : Nat) (wr : World) : Prop where
  own3 : Own wr N 28 n (.slice (some ⟨g3, 0, none⟩) n k3) (fun j => .float .f64 (if j < k then fig n c j else dbl (fig n c j)))
  own4 : Own wr N 3 n (.slice (some ⟨g4, 0, none⟩) n k4) (fun _ => .int .i64 2)
  below : Below N w wr
theorem In3.drewN {N n c g3 k3 g4 k4 : Nat} {w : World} {k : Nat} {wr : World} (h : In3 N n c g3 k3 g4 k4 w k wr) (q : Nat) : In3 N n c g3 k3 g4 k4 w k (wr.drewN q) :=
  ⟨h.own3.drewN q, h.own4.drewN q, ⟨h.below.os, h.below.tape, h.below.output, h.below.size, h.below.block⟩⟩
theorem In3.drew {N n c g3 k3 g4 k4 : Nat} {w : World} {k : Nat} {wr : World} (h : In3 N n c g3 k3 g4 k4 w k wr) : In3 N n c g3 k3 g4 k4 w k wr.drew :=
  ⟨h.own3.drew, h.own4.drew, h.below.drew⟩
theorem In3.next {N n c g3 k3 g4 k4 : Nat} {w : World} {k : Nat} {wr : World} (h : In3 N n c g3 k3 g4 k4 w k wr) (_hk : k < n) (hne : g3 ≠ g4) (b3 : N ≤ g3) :
    In3 N n c g3 k3 g4 k4 w (k + 1) (wr.setCell ⟨g3, k, none⟩ (.float .f64 (fig n c k))) := by
  refine ⟨(h.own3.set k _).congr (fun j hj => ?_), h.own4.setOther (fun e => hne e.symm) _, h.below.setCell b3 _⟩
  by_cases e : j = k
  · subst e; simp
  · by_cases l : j < k
    · simp [e, l, Nat.lt_succ_of_lt l]
    · have : ¬ j < k + 1 := by omega
      simp [e, l, this]

set_option maxHeartbeats 400000 in
theorem mean_some (T n c : Nat) (hn1 : 1 ≤ n) (hn : n ≤ 65536) (hcn : c ≤ n) (w : World) (hT : Tallies T n c w) :
    Calls Try.prog 6 #[.slice (some ⟨T, 0, none⟩) 2 2] w (MeanGave n c w) := by
  generalize hN : w.heap.size = N
  have HN : Hid (w.heap.size = N) := hN
  clear hN
  go_enter Try.func6, Try.ntmps6
  go_wp2_with fail
  go_loopw [3, 4, 12] (fun v3 v4 i wr => (i = .int .i64 0 ∧ v3 = .slice none 0 0 ∧ v4 = .slice none 0 0 ∧ Below N w wr) ∨
      (i = .int .i64 1 ∧ Got N n w (fun j => .float .f64 (fig n c j)) (fun _ => .int .i64 1) v3 v4 wr) ∨
      (i = .int .i64 2 ∧ Got N n w (fun j => .float .f64 (dbl (fig n c j))) (fun _ => .int .i64 2) v3 v4 wr)) (fun _ _ i _ => 2 - (intOf i).toNat)
  case atStart => exact .inl ⟨rfl, rfl, rfl, Below.refl _ _⟩
  case round =>
    rcases hrel with ⟨rfl, rfl, rfl, hb⟩ | ⟨rfl, hg⟩ | ⟨rfl, hg⟩
    · have hT' := hT.below (by rw [HN.out]; exact hb)
      have t0 := hT'.c0
      have t1 := hT'.c1
      have tl := hT'.lt
      go_wp2_with fail
      refine (pass_any n c hn hcn _).mono ?_
      rintro e w1 ⟨rfl, rp, hb1⟩
      have zp := rp.lt
      have hbB : Below N w w1 := (hb.alloc (by have := hb.size; have := HN.out; omega) _).trans (hb1.mono (by have := hb.size; have := HN.out; simp; omega))
      generalize hP : (wr.alloc (.cells #[.int .i64 n, .int .i64 c] 23)).heap.size + 1 = P at *
      clear hP hb1 t0 t1 tl hT' hb
      have I0 : In1 w1.heap.size n c w1 0 (.slice none 0 0) (.slice none 0 0) w1 := ⟨Own.nil _ _ _ _, Own.nil _ _ _ _, Below.refl _ _⟩
      generalize hB : w1.heap.size = B at *
      have HB : Hid (w1.heap.size = B) := hB
      clear hB
      go_wp2_with fail
      go_loopw [3, 4, 19] (fun v3 v4 i wr => ∃ k : Nat, k ≤ n ∧ i = .int .i64 k ∧ (∃ a3 c3 a4 c4, v3 = .slice a3 k c3 ∧ v4 = .slice a4 k c4) ∧ In1 B n c w1 k v3 v4 wr) (fun _ _ i _ => n - (intOf i).toNat)
      case atStart => exact ⟨0, Nat.zero_le _, rfl, ⟨_, _, _, _, rfl, rfl⟩, I0⟩
      case round =>
        obtain ⟨k, hk, rfl, ⟨a3, c3, a4, c4, rfl, rfl⟩, hm⟩ := hrel
        clear I0
        by_cases hlt : k < n
        · have cp : wr.cell? ⟨P, k, none⟩ = some (.float .f64 (fig n c k)) := (hm.below.cell (p := ⟨P, k, none⟩) zp).trans (rp.cell hlt)
          have ad := add_zero_at (fig n c k) (fig_inf n c hcn k)
          generalize hx : fig n c k = x at cp ad
          have HX : Hid (fig n c k = x) := hx
          clear hx
          have o3 := hm.own3
          have o4 := hm.own4
          have bz := hm.below.size
          have hBz : B ≤ wr.heap.size := by have := HB.out; omega
          clear rp hbB bz
          obtain ⟨i8, hi8, hy0, hy1, hy2⟩ := info_parts info28
          obtain ⟨i3, hi3, hz0, hz1, hz2⟩ := info_parts info3
          go_wp2_with (at_builtin; refine wpList_append_own _ rfl (.tmp 28) (.tmp 29) 24 rfl B 28 i8 (.float .f64 0) 1 8 Try.underlying24 hi8 hy0 hy1 hy2 rfl (by decide) _ _ _ rfl (o3.alloc _) ⟨_, 0, none⟩ 1 1 [.float .f64 0] rfl rfl ?c1 ?c2 ?c3 ?c4 ?c5 ?_)
          case c1 => exact cell_one_new _ _ _
          case c2 => intro u hu; simp at hu; subst hu; rfl
          case c3 => unfold maxLen; omega
          case c4 => omega
          case c5 => simp; omega
          intro v3 w2 h3 hg2 _
          have S3 := Own.grow h3
          have Q4 := (o4.alloc _).kept hg2 (o4.apart o3 (by decide))
          have B2 : Below B w1 w2 := (hm.below.alloc hBz _).grown hg2 (by simp; omega) (fun g e => (o3.lt g e).1)
          have z2 : B ≤ w2.heap.size := by have := B2.size; have := HB.out; omega
          clear h3 hg2 o3 o4 cp hm
          go_wp2_with (at_builtin; refine wpList_append_own _ rfl (.tmp 31) (.tmp 32) 31 rfl B 3 i3 (.int .i64 0) 1 8 Try.underlying31 hi3 hz0 hz1 hz2 rfl (by decide) _ _ _ rfl (Q4.alloc _) ⟨_, 0, none⟩ 1 1 [.int .i64 0] rfl rfl ?d1 ?d2 ?d3 ?d4 ?d5 ?_)
          case d1 => exact cell_one_new _ _ _
          case d2 => intro u hu; simp at hu; subst hu; rfl
          case d3 => unfold maxLen; omega
          case d4 => omega
          case d5 => simp; omega
          intro v4 w3 h4 hg3 _
          have S4 := Own.grow h4
          have T3 := (S3.alloc _).kept hg3 (S3.apart Q4 (by decide))
          have B3 : Below B w1 w3 := (B2.alloc z2 _).grown hg3 (by simp; omega) (fun g e => (Q4.lt g e).1)
          clear h4 hg3 Q4 S3 B2 z2
          obtain ⟨g3, k3, hv3, hb3⟩ := T3.shape (by omega)
          obtain ⟨g4, k4, hv4, hb4⟩ := S4.shape (by omega)
          have hap := T3.apart S4 (by decide)
          rw [hv3] at T3 hap ⊢
          rw [hv4] at S4 hap ⊢
          have hne : g3 ≠ g4 := by
            rcases hap with h | h
            · cases h
            · intro e; exact h (by rw [e]; rfl)
          clear hap hv3 hv4
          have e3 := T3.cell (j := k) (by omega)
          have e4 := S4.cell (j := k) (by omega)
          have f3 := T3.frozen k
          have f4 := S4.frozen k
          simp only [Nat.lt_irrefl, if_false] at e3 e4
          have kz : (k : Int) < ((k + 1 : Nat) : Int) := by omega
          go_wp2
          go_roundw
          case rel => exact ⟨k + 1, by omega, by go_num, ⟨_, _, _, _, rfl, rfl⟩, In1.next T3 S4 B3 hne hb3 hb4 HX.out⟩
          case measure => simp [intOf]; omega
        · obtain rfl : k = n := by omega
          have G := Got.ofIn1 hn1 (by have := hbB.size; have := HN.out; have := HB.out; omega) hbB hm
          clear hm hbB rp
          go_wp2
          go_roundw
          case rel => exact .inr (.inl ⟨rfl, G⟩)
          case measure => simp [intOf]
    · obtain ⟨⟨g3, k3, g4, k4, rfl, rfl⟩, own3, own4, hb⟩ := hg
      have hT' := hT.below (by rw [HN.out]; exact hb)
      have t0 := hT'.c2
      have t1 := hT'.c3
      have tl := hT'.lt
      have l3 := (own3.lt g3 rfl).2
      have l4 := (own4.lt g4 rfl).2
      have b3 := (own3.lt g3 rfl).1
      have b4 := (own4.lt g4 rfl).1
      have hne : g3 ≠ g4 := by
        rcases own3.apart own4 (by decide) with h | h
        · cases h
        · intro e; exact h (by rw [e]; rfl)
      go_wp2_with fail
      refine (pass_any n c hn hcn _).mono ?_
      rintro e w1 ⟨rfl, rp, hb1⟩
      have hbB : Below N w w1 := (hb.alloc (by have := hb.size; have := HN.out; omega) _).trans (hb1.mono (by have := hb.size; have := HN.out; simp; omega))
      have I0 := In2.start (own3.alloc _) (own4.alloc _) hb1 (by simp; omega) (by simp; omega) rp hbB
      have lp : g3 < (wr.alloc (.cells #[.int .i64 n, .int .i64 c] 23)).heap.size + 1 ∧ g4 < (wr.alloc (.cells #[.int .i64 n, .int .i64 c] 23)).heap.size + 1 := by simp; omega
      generalize hP : (wr.alloc (.cells #[.int .i64 n, .int .i64 c] 23)).heap.size + 1 = P at *
      clear hP hb1 t0 t1 tl hT' hb own3 own4 hbB rp l3 l4
      go_wp2_with fail
      go_loopw [3, 4, 19] (fun v3 v4 i wr => ∃ k : Nat, k ≤ n ∧ i = .int .i64 k ∧ v3 = .slice (some ⟨g3, 0, none⟩) n k3 ∧ v4 = .slice (some ⟨g4, 0, none⟩) n k4 ∧ In2 N P n c g3 k3 g4 k4 w k wr) (fun _ _ i _ => n - (intOf i).toNat)
      case atStart => exact ⟨0, Nat.zero_le _, rfl, rfl, rfl, I0⟩
      case round =>
        obtain ⟨k, hk, rfl, rfl, rfl, hm⟩ := hrel
        clear I0
        by_cases hlt : k < n
        · have cp := hm.row.cell hlt
          have e3 := hm.own3.cell hlt
          have e4 := hm.own4.cell hlt
          have f3 := hm.own3.frozen k
          have f4 := hm.own4.frozen k
          simp only [Nat.lt_irrefl, if_false] at e3 e4
          have R := hm.next hlt hne b3 b4 lp.1 lp.2
          have ad := add_self_at (fig n c k) (fig_lt n c hcn k)
          generalize dbl (fig n c k) = y at R ad
          generalize fig n c k = x at cp e3 ad
          have hkI : (k : Int) < n := by omega
          have hkn : ((k : Int) == (n : Int)) = false := by rw [beq_eq_false_iff_ne]; omega
          clear hm
          go_wp2
          go_roundw
          case rel => exact ⟨k + 1, by omega, by go_num, rfl, rfl, R⟩
          case measure => simp [intOf]; omega
        · obtain rfl : k = n := by omega
          have G := Got.ofIn2 hm
          clear hm
          go_wp2
          go_roundw
          case rel => exact .inr (.inr ⟨rfl, G⟩)
          case measure => simp [intOf]
    · obtain ⟨⟨g3, k3, g4, k4, rfl, rfl⟩, own3, own4, hb⟩ := hg
      have b3 := (own3.lt g3 rfl).1
      have hne : g3 ≠ g4 := by
        rcases own3.apart own4 (by decide) with h | h
        · cases h
        · intro e; exact h (by rw [e]; rfl)
      have I0 : In3 N n c g3 k3 g4 k4 w 0 wr := ⟨own3.congr (fun j _ => by simp), own4, hb⟩
      clear own3 own4 hb
      go_wp2_with fail
      go_loopw [51] (fun i wr => ∃ k : Nat, k ≤ n ∧ i = .int .i64 k ∧ In3 N n c g3 k3 g4 k4 w k wr) (fun i _ => n - (intOf i).toNat)
      case atStart => exact ⟨0, Nat.zero_le _, rfl, I0⟩
      case round =>
        obtain ⟨k, hk, rfl, hm⟩ := hrel
        clear I0
        by_cases hlt : k < n
        · have e3 := hm.own3.cell hlt
          have e4 := hm.own4.cell hlt
          have f3 := hm.own3.frozen k
          simp only [Nat.lt_irrefl, if_false] at e3
          have R := (hm.next hlt hne b3).drew
          have hf := half_at (fig n c k) (fig_lt n c hcn k)
          generalize dbl (fig n c k) = y at e3 hf
          generalize fig n c k = x at R hf
          have hkI : (k : Int) < n := by omega
          clear hm
          go_wp2_with fail
          go_region
          go_wp2
          go_roundw
          case rel => exact ⟨k + 1, by omega, by go_num, R⟩
          case measure => simp [intOf]; omega
        · obtain rfl : k = n := by omega
          go_wp2
          go_ret
          exact ⟨g3, k3, rfl, by rw [HN.out]; exact hm.own3.congr (fun j hj => by simp [hj]), by rw [HN.out]; exact hm.below⟩

set_option maxHeartbeats 400000 in
theorem mean_none (T : Nat) (w : World) (hT : Tallies T 0 0 w) :
    Calls Try.prog 6 #[.slice (some ⟨T, 0, none⟩) 2 2] w fun e w' => e = .returned (.slice none 0 0) ∧ Below w.heap.size w w' := by
  generalize hN : w.heap.size = N
  have HN : Hid (w.heap.size = N) := hN
  clear hN
  go_enter Try.func6, Try.ntmps6
  go_wp2_with fail
  go_loopw [3, 4, 12] (fun v3 v4 i wr => ∃ k : Nat, k ≤ 2 ∧ i = .int .i64 k ∧ v3 = .slice none 0 0 ∧ v4 = .slice none 0 0 ∧ Below N w wr) (fun _ _ i _ => 2 - (intOf i).toNat)
  case atStart => exact ⟨0, by omega, rfl, rfl, rfl, Below.refl _ _⟩
  case round =>
    obtain ⟨k, hk, rfl, rfl, rfl, hb⟩ := hrel
    by_cases hlt : k < 2
    · have hT' := hT.below (by rw [HN.out]; exact hb)
      have t0 : wr.cell? ⟨T, k * 2, none⟩ = some (.int .i64 0) := by
        rcases (show k = 0 ∨ k = 1 by omega) with rfl | rfl
        · exact hT'.c0
        · exact hT'.c2
      have t1 : wr.cell? ⟨T, k * 2 + 1, none⟩ = some (.int .i64 0) := by
        rcases (show k = 0 ∨ k = 1 by omega) with rfl | rfl
        · exact hT'.c1
        · exact hT'.c3
      have tl := hT'.lt
      have hkI : (k : Int) < 2 := by omega
      have C : ∀ w : World, Calls Try.prog 5 #[.agg #[.int .i64 0, .int .i64 0]] w (fun e w' => e = .returned (.slice (some ⟨w.heap.size + 1, 0, none⟩) 0 0) ∧ Below w.heap.size w w') :=
        fun w => (pass_any 0 0 (by omega) (Nat.le_refl _) w).mono fun e w' h => ⟨h.1, h.2.2⟩
      go_wp2_with fail
      refine (C _).mono ?_
      rintro e w1 ⟨rfl, hb1⟩
      have hbB : Below N w w1 := (hb.alloc (by have := hb.size; have := HN.out; omega) _).trans (hb1.mono (by have := hb.size; have := HN.out; simp; omega))
      clear hb1 hb C t0 t1 tl hT'
      go_wp2_with fail
      refine wp_loop_rounds 1 ?_
      rw [rounds_succ]
      go_wp2
      go_roundw
      case rel => exact ⟨k + 1, by omega, by go_num, rfl, rfl, hbB⟩
      case measure => simp [intOf]; omega
    · go_wp2_with fail
      refine wp_loop_rounds 1 ?_
      rw [rounds_succ]
      go_wp2
      go_ret
      exact ⟨rfl, hb⟩
end Go.Proofs.Qxb6608569a
