/-
  DERIVED. THE WALK of the law.
-/
import Derived.Test.Qxb6604684aW3
import Derived.Deep.RegionHeld3
namespace Go.Proofs.Qxb6604684a
open Go.RowKit Fl

/-- A []float64 of n floats X, as the law meets it. -/
def SlF (w : World) (va : Value) (n : Nat) (X : Nat → Nat) : Prop :=
  (va = .slice none 0 0 ∧ n = 0) ∨ ∃ a c, va = .slice (some a) n c ∧ (n = 0 ∨ ∃ b off, a = ⟨b, off, none⟩ ∧ b < w.heap.size ∧ ∀ i, i < n → w.cell? ⟨b, off + i, none⟩ = some (.float .f64 (X i)))

theorem SlF.shape {w : World} {va : Value} {n : Nat} {X : Nat → Nat} (h : SlF w va n X) : ∃ ao c, va = .slice ao n c := by
  rcases h with ⟨rfl, rfl⟩ | ⟨a, c, rfl, _⟩
  · exact ⟨none, 0, rfl⟩
  · exact ⟨some a, c, rfl⟩
theorem SlF.later {w w' : World} {va : Value} {n : Nat} {X : Nat → Nat} (h : SlF w va n X) (hb : Below w.heap.size w w') : SlF w' va n X := by
  rcases h with h | ⟨a, c, e, h | ⟨b, off, ea, hlt, hc⟩⟩
  · exact .inl h
  · exact .inr ⟨a, c, e, .inl h⟩
  · exact .inr ⟨a, c, e, .inr ⟨b, off, ea, Nat.lt_of_lt_of_le hlt hb.size, fun i hi => (hb.cell (p := ⟨b, off + i, none⟩) hlt).trans (hc i hi)⟩⟩

/-- What cloneFloats gives. -/
def ClRes (w : World) (n : Nat) (X : Nat → Nat) (e : Ending) (w' : World) : Prop :=
  ∃ ao c', e = .returned (.slice ao n c') ∧ Below w.heap.size w w' ∧ (1 ≤ n → ao = some ⟨w.heap.size, 0, none⟩ ∧ w'.rowIs w.heap.size 29 n (fv X))

theorem clone5 (va : Value) (n : Nat) (X : Nat → Nat) (w : World) (hn : n ≤ 131072) (h : SlF w va n X) : Calls Try.prog 5 #[va] w (ClRes w n X) := by
  rcases h with ⟨rfl, rfl⟩ | ⟨a, c, rfl, rfl | ⟨b, off, rfl, hlt, hc⟩⟩
  · exact (clone_nil w).mono fun e w' ⟨he, hw⟩ => ⟨none, 0, he, by rw [hw]; exact Below.refl _ _, fun h => absurd h (by omega)⟩
  · exact (clone_zero a c w).mono fun e w' ⟨he, hw⟩ => ⟨_, _, he, hw, fun h => absurd h (by omega)⟩
  · exact (clone_some b off n c X w (by omega) hlt hc).mono fun e w' ⟨he, hr, hw⟩ => ⟨_, _, he, hw, fun _ => ⟨rfl, hr⟩⟩

theorem meter_new (w : World) : (w.alloc (.cells #[.float .f64 0, .float .f64 0, .float .f64 0, .float .f64 0] 36)).rowIs w.heap.size 36 4 (mf 0 0 0) :=
  World.rowIs_alloc w #[.float .f64 0, .float .f64 0, .float .f64 0, .float .f64 0] 36 (mf 0 0 0) (fun i hi => by
    have hi' : i < 4 := hi
    rcases (show i = 0 ∨ i = 1 ∨ i = 2 ∨ i = 3 from by omega) with rfl | rfl | rfl | rfl <;> rfl)

theorem zero_eq : (FloatKind.f64.format.order 0 0 == some .eq) = true := by decide +kernel

set_option maxHeartbeats 1000000 in
theorem law3_early (v0 v1 : Value) (n0 n1 : Nat) (ao0 ao1 : Option Addr) (c0 c1 : Nat) (e0 : v0 = .slice ao0 n0 c0) (e1 : v1 = .slice ao1 n1 c1) (w : World) (h0 : n0 ≤ maxLen) (h1 : n1 ≤ maxLen) (h : ¬ n0 + n1 ≤ 131072) :
    Calls Try.prog 3 #[v0, v1] w fun e w' => e = .returned (.bool true) ∧ Below w.heap.size w w' := by
  subst e0 e1
  have H0 : Hid _ := h0
  have H1 : Hid _ := h1
  unfold maxLen at h0 h1
  have hsum : 131072 < n0 + n1 := by omega
  clear h
  cases hf : decide (n0 + n1 ≤ 1048576)
  · go_enter Try.func3, Try.ntmps3
    go_wp2_with fail
    refine (bytes4 ao0 ao1 n0 n1 c0 c1 _ H0.out H1.out).mono ?_
    rintro e w1 ⟨rfl, rfl⟩
    rw [hf]
    clear hf
    go_wp2
    go_ret
    exact ⟨rfl, Below.refl _ _⟩
  · have hle : n0 + n1 ≤ 1048576 := by simpa using hf
    go_enter Try.func3, Try.ntmps3
    go_wp2_with fail
    refine (bytes4 ao0 ao1 n0 n1 c0 c1 _ H0.out H1.out).mono ?_
    rintro e w1 ⟨rfl, rfl⟩
    rw [hf]
    clear hf
    go_wp2
    all_goals (go_ret; exact ⟨rfl, Below.refl _ _⟩)

set_option maxHeartbeats 1000000 in
theorem law3_zero (v0 v1 : Value) (n0 n1 : Nat) (X Y : Nat → Nat) (w : World) (hs : n0 + n1 ≤ 131072) (hz : min n0 n1 = 0) (h0 : SlF w v0 n0 X) (h1 : SlF w v1 n1 Y) :
    Calls Try.prog 3 #[v0, v1] w fun e w' => e = .returned (.bool true) ∧ Below w.heap.size w w' := by
  obtain ⟨ao0, c0, rfl⟩ := h0.shape
  obtain ⟨ao1, c1, rfl⟩ := h1.shape
  have H0 : Hid (SlF w (.slice ao0 n0 c0) n0 X) := h0
  have H1 : Hid (SlF w (.slice ao1 n1 c1) n1 Y) := h1
  have HZ : Hid (min n0 n1 = 0) := hz
  clear h0 h1 hz
  have hf : decide (n0 + n1 ≤ 1048576) = true := by simp; omega
  go_enter Try.func3, Try.ntmps3
  go_wp2_with fail
  refine (bytes4 ao0 ao1 n0 n1 c0 c1 _ (by unfold maxLen; omega) (by unfold maxLen; omega)).mono ?_
  rintro e w1 ⟨rfl, rfl⟩
  rw [hf]
  clear hf
  go_wp2_with fail
  refine (clone5 _ n0 X _ (by omega) H0.out).mono ?_
  rintro e w2 ⟨g0, d0, rfl, b2, -⟩
  have B2 : Hid (Below w1.heap.size w1 w2) := b2
  clear b2
  go_wp2_with fail
  refine (clone5 _ n1 Y _ (by omega) (SlF.later H1.out B2.out)).mono ?_
  rintro e w3 ⟨g1, d1, rfl, b3, -⟩
  have B3 : Hid (Below w1.heap.size w1 w3) := B2.out.trans (b3.mono B2.out.size)
  clear b3 B2
  go_wp2_with fail
  refine (pair6 _ _ n0 n1 _ _ _).mono ?_
  rintro e w4 ⟨rfl, rfl⟩
  rw [HZ.out]
  go_wp2_with fail
  refine (new7 _).mono ?_
  rintro e w5 ⟨rfl, rfl⟩
  have HM : Hid ((w4.alloc (.cells #[.float .f64 0, .float .f64 0, .float .f64 0, .float .f64 0] 36)).rowIs w4.heap.size 36 4 (mf 0 0 0)) := meter_new w4
  have B5 : Hid (Below w1.heap.size w1 (w4.alloc (.cells #[.float .f64 0, .float .f64 0, .float .f64 0, .float .f64 0] 36))) := B3.out.alloc B3.out.size _
  have hz := zero_eq
  generalize w4.alloc (.cells #[.float .f64 0, .float .f64 0, .float .f64 0, .float .f64 0] 36) = W at HM B5 ⊢
  generalize w4.heap.size = mb at HM ⊢
  clear B3
  go_wp2_with fail
  go_loopw [7] (fun vi wr => vi = .int .i64 0 ∧ wr = W) (fun _ _ => 0)
  case atStart => exact ⟨rfl, rfl⟩
  case round =>
    obtain ⟨rfl, rfl⟩ := hrel
    go_wp2_with fail
    refine (fields9 mb 0 0 0 _ HM.out).mono ?_
    rintro e w6 ⟨rfl, rfl⟩
    go_wp2_with fail
    refine (same10 0 _).mono ?_
    rintro e w7 ⟨rfl, rfl⟩
    go_wp2_with fail
    refine (same10 0 _).mono ?_
    rintro e w8 ⟨rfl, rfl⟩
    go_wp2_with fail
    refine (exact11_zero _ _ X Y _).mono ?_
    rintro e w9 ⟨r, rfl, rfl, -⟩
    cases r
    · go_wp2
      go_ret
      exact ⟨rfl, B5.out.drew⟩
    · go_wp2_with fail
      refine (cake12_small _ _ 0 _ (by omega)).mono ?_
      rintro e w10 ⟨rfl, rfl⟩
      have hl : (FloatKind.f64.format.order 0 (floatOfInt .f64 0) == some .eq) = true := by decide +kernel
      go_wp2
      go_ret
      exact ⟨rfl, B5.out.drew⟩
end Go.Proofs.Qxb6604684a
