/-
  DERIVED. THE WALK of the law where there is a pair.
-/
import Derived.Test.Qxb6604684aW4
namespace Go.Proofs.Qxb6604684a
open Go.RowKit Fl

/-- What holds of the meter before step k. -/
def Inv (X Y : Nat → Nat) (n b k : Nat) (wr : World) : Prop := ∃ tv, wr.rowIs b 36 4 (mf (prB Y k) (prB X k) tv) ∧ ∀ ts ls, Ok X Y ts ls n → Den64 tv (S ts ls k)

theorem inv_step {X Y : Nat → Nat} {n b k tv T : Nat} {w1 : World} (hk : k < n) (hn : n ≤ 131072) (h : ∀ ts ls, Ok X Y ts ls n → Den64 tv (S ts ls k)) (hr : w1.rowIs b 36 4 (mf (Y k) (X k) T))
    (he : ∀ r1 r2 r3, floatBits .sub .f64 (X k) (prB X k) = some r1 → floatBits .mul .f64 (prB Y k) r1 = some r2 → floatBits .add .f64 tv r2 = some r3 → T = r3) : Inv X Y n b (k + 1) w1 := by
  refine ⟨T, hr, fun ts ls ho => ?_⟩
  obtain ⟨r1, r2, r3, e1, e2, e3, d⟩ := set_exact ho hk hn (h ts ls ho)
  rw [he r1 r2 r3 e1 e2 e3]
  exact d

set_option maxHeartbeats 2000000 in
theorem law3_pos (v0 v1 : Value) (n0 n1 n : Nat) (X Y : Nat → Nat) (w : World) (hs : n0 + n1 ≤ 131072) (hmin : min n0 n1 = n) (hpos : 1 ≤ n) (h0 : SlF w v0 n0 X) (h1 : SlF w v1 n1 Y) :
    Calls Try.prog 3 #[v0, v1] w fun e w' => e = .returned (.bool true) ∧ Below w.heap.size w w' := by
  obtain ⟨ao0, c0, rfl⟩ := h0.shape
  obtain ⟨ao1, c1, rfl⟩ := h1.shape
  have H0 : Hid (SlF w (.slice ao0 n0 c0) n0 X) := h0
  have H1 : Hid (SlF w (.slice ao1 n1 c1) n1 Y) := h1
  have HZ : Hid (min n0 n1 = n) := hmin
  have hn0 : n ≤ n0 := by omega
  have hn1 : n ≤ n1 := by omega
  clear h0 h1 hmin
  have hf : decide (n0 + n1 ≤ 1048576) = true := by simp; omega
  go_enter Try.func3, Try.ntmps3
  go_wp2_with fail
  refine (bytes4 ao0 ao1 n0 n1 c0 c1 _ (by unfold maxLen; omega) (by unfold maxLen; omega)).mono ?_
  rintro e w1 ⟨rfl, rfl⟩
  rw [hf]
  clear hf
  go_wp2_with fail
  refine (clone5 _ n0 X _ (by omega) H0.out).mono ?_
  rintro e w2 ⟨g0, d0, rfl, b2, hr0⟩
  obtain ⟨eg0, hR0⟩ := hr0 (by omega)
  subst eg0
  have B2 : Hid (Below w1.heap.size w1 w2) := b2
  have R0 : Hid (w2.rowIs w1.heap.size 29 n0 (fv X)) := hR0
  clear b2 hr0 hR0
  go_wp2_with fail
  refine (clone5 _ n1 Y _ (by omega) (SlF.later H1.out B2.out)).mono ?_
  rintro e w3 ⟨g1, d1, rfl, b3, hr1⟩
  obtain ⟨eg1, hR1⟩ := hr1 (by omega)
  subst eg1
  clear hr1
  have hlt0 : w1.heap.size < w2.heap.size := R0.out.lt
  have hlt1 : w2.heap.size < w3.heap.size := hR1.lt
  have B3 : Hid (Below w1.heap.size w1 w3) := B2.out.trans (b3.mono B2.out.size)
  have CX : Hid (∀ i, i < n → w3.cell? ⟨w1.heap.size, i, none⟩ = some (.float .f64 (X i))) := fun i hi => (b3.cell (p := ⟨w1.heap.size, i, none⟩) hlt0).trans (R0.out.cell (by omega))
  have CY : Hid (∀ i, i < n → w3.cell? ⟨w2.heap.size, i, none⟩ = some (.float .f64 (Y i))) := fun i hi => hR1.cell (by omega)
  clear b3 hR1 B2 R0
  go_wp2_with fail
  refine (pair6 _ _ n0 n1 _ _ _).mono ?_
  rintro e w4 ⟨rfl, rfl⟩
  rw [HZ.out]
  go_wp2_with fail
  refine (new7 _).mono ?_
  rintro e w5 ⟨rfl, rfl⟩
  have HM : Hid (Inv X Y n w4.heap.size 0 (w4.alloc (.cells #[.float .f64 0, .float .f64 0, .float .f64 0, .float .f64 0] 36))) := ⟨0, meter_new w4, fun _ _ _ => den_zero⟩
  have B5 : Hid (Below w1.heap.size w1 (w4.alloc (.cells #[.float .f64 0, .float .f64 0, .float .f64 0, .float .f64 0] 36))) := B3.out.alloc B3.out.size _
  have CX5 : Hid (∀ i, i < n → (w4.alloc (.cells #[.float .f64 0, .float .f64 0, .float .f64 0, .float .f64 0] 36)).cell? ⟨w1.heap.size, i, none⟩ = some (.float .f64 (X i))) := fun i hi => (((Below.refl _ w4).alloc (Nat.le_refl _) _).cell (p := ⟨w1.heap.size, i, none⟩) (by show w1.heap.size < w4.heap.size; omega)).trans (CX.out i hi)
  have CY5 : Hid (∀ i, i < n → (w4.alloc (.cells #[.float .f64 0, .float .f64 0, .float .f64 0, .float .f64 0] 36)).cell? ⟨w2.heap.size, i, none⟩ = some (.float .f64 (Y i))) := fun i hi => (((Below.refl _ w4).alloc (Nat.le_refl _) _).cell (p := ⟨w2.heap.size, i, none⟩) hlt1).trans (CY.out i hi)
  have hz := zero_eq
  clear B3 CX CY
  generalize w4.alloc (.cells #[.float .f64 0, .float .f64 0, .float .f64 0, .float .f64 0] 36) = W at HM B5 CX5 CY5 ⊢
  generalize w4.heap.size = mb at HM hlt1 ⊢
  generalize w2.heap.size = gb at CY5 hlt0 hlt1 ⊢
  go_wp2_with fail
  go_loopw [7] (fun vi wr => ∃ k : Nat, k ≤ n ∧ vi = .int .i64 k ∧ Hid (Inv X Y n mb k wr) ∧ Hid (Below mb W wr)) (fun vi _ => n - (intOf vi).toNat)
  case atStart => exact ⟨0, Nat.zero_le _, rfl, HM, Below.refl _ _⟩
  case round =>
    obtain ⟨k, hk, rfl, HI, HB⟩ := hrel
    by_cases hlt : k < n
    · have cx : wr.cell? ⟨w1.heap.size, k, none⟩ = some (.float .f64 (X k)) := (HB.out.cell (p := ⟨w1.heap.size, k, none⟩) (by show w1.heap.size < mb; omega)).trans (CX5.out k hlt)
      have cy : wr.cell? ⟨gb, k, none⟩ = some (.float .f64 (Y k)) := (HB.out.cell (p := ⟨gb, k, none⟩) hlt1).trans (CY5.out k hlt)
      have i0 : (k : Int) < (n0 : Int) := by omega
      have i1 : (k : Int) < (n1 : Int) := by omega
      have ik : (k : Int) < (n : Int) := by omega
      obtain ⟨tv, hm, hd⟩ := HI.out
      have HMM : Hid (wr.drew.rowIs mb 36 4 (mf (prB Y k) (prB X k) tv)) := hm
      have HD : Hid (∀ ts ls, Ok X Y ts ls n → Den64 tv (S ts ls k)) := hd
      clear hm hd HI
      go_wp2
      go_region_held3 (fun w' => w'.cell? ⟨w1.heap.size, k, none⟩ = some (.float .f64 (X k)) ∧ w'.cell? ⟨gb, k, none⟩ = some (.float .f64 (Y k))) (first | exact ⟨cx, cy⟩ | exact ⟨q0, q1⟩) ((go_at_call 8; refine (set8 mb (prB Y k) (prB X k) tv (X k) (Y k) _ HMM.out).mono ?_; rintro e w6 ⟨rfl, T, hr, hb6, he⟩; have q0 : w6.cell? ⟨w1.heap.size, k, none⟩ = some (.float .f64 (X k)) := (hb6.cell (p := ⟨w1.heap.size, k, none⟩) (by show w1.heap.size < mb; omega)).trans cx; have q1 : w6.cell? ⟨gb, k, none⟩ = some (.float .f64 (Y k)) := (hb6.cell (p := ⟨gb, k, none⟩) hlt1).trans cy; have I6 : Hid (Inv X Y n mb (k + 1) w6) := inv_step hlt (by omega) HD.out hr he; have B6 : Hid (Below mb W w6) := HB.out.trans (Below.trans (Below.refl mb wr).drew hb6); clear hr hb6 he))
      go_wp2
      go_roundw
      case rel => exact ⟨k + 1, by omega, by go_num, I6, B6⟩
      case measure => simp [intOf]; omega
    · have hkn : k = n := by omega
      subst hkn
      obtain ⟨m, rfl⟩ : ∃ m, k = m + 1 := ⟨k - 1, by omega⟩
      obtain ⟨tv, hm, hd⟩ := HI.out
      have HMM : Hid (wr.rowIs mb 36 4 (mf (Y m) (X m) tv)) := hm
      have HD : Hid (∀ ts ls, Ok X Y ts ls (m + 1) → Den64 tv (S ts ls (m + 1))) := hd
      have CXr : Hid (∀ i, i < m + 1 → wr.cell? ⟨w1.heap.size, i, none⟩ = some (.float .f64 (X i))) := fun i hi => (HB.out.cell (p := ⟨w1.heap.size, i, none⟩) (by show w1.heap.size < mb; omega)).trans (CX5.out i hi)
      have CYr : Hid (∀ i, i < m + 1 → wr.cell? ⟨gb, i, none⟩ = some (.float .f64 (Y i))) := fun i hi => (HB.out.cell (p := ⟨gb, i, none⟩) hlt1).trans (CY5.out i hi)
      have cx : wr.cell? ⟨w1.heap.size, m, none⟩ = some (.float .f64 (X m)) := CXr.out m (by omega)
      have cy : wr.cell? ⟨gb, m, none⟩ = some (.float .f64 (Y m)) := CYr.out m (by omega)
      have BB : Hid (Below w1.heap.size w1 wr) := B5.out.trans (HB.out.mono (by omega))
      clear hm hd HI HB CX5 CY5 B5 HM
      go_wp2_with fail
      refine (fields9 mb (Y m) (X m) tv _ HMM.out).mono ?_
      rintro e w6 ⟨rfl, rfl⟩
      go_wp2_with fail
      refine (same10 (Y m) _).mono ?_
      rintro e w7 ⟨rfl, rfl⟩
      go_wp2_with fail
      refine (same10 (X m) _).mono ?_
      rintro e w8 ⟨rfl, rfl⟩
      go_wp2_with fail
      have hex := exact11 w1.heap.size gb n0 n1 d0 d1 (m + 1) X Y wr.drew (by omega) hn0 hn1 CXr.out CYr.out
      rw [show (((m + 1 : Nat)) : Int) = (m : Int) + 1 from by omega] at hex
      refine hex.mono ?_
      clear hex
      rintro e w9 ⟨r, rfl, rfl, hok⟩
      cases r
      · clear hok
        go_wp2
        go_ret
        exact ⟨rfl, BB.out.drew⟩
      · obtain ⟨ts, ls, ho⟩ := hok rfl
        clear hok
        have hl := last_test ho (by omega) (HD.out ts ls ho)
        by_cases hm0 : m = 0
        · have e0 : lc ts ls (m + 1) = 0 := by rw [hm0]; rfl
          rw [e0] at hl
          have HO : Hid (m = 0) := hm0
          clear e0 ho hm0
          go_wp2_with fail
          refine (cake12_small _ _ _ _ (by have := HO.out; omega)).mono ?_
          rintro e w10 ⟨rfl, rfl⟩
          go_wp2
          go_ret
          exact ⟨rfl, BB.out.drew⟩
        · have e0 : lc ts ls (m + 1) = C ts ls (ts (m + 1 - 1)) (m + 1 - 1) := by unfold lc; rw [if_neg (by omega)]
          rw [e0] at hl
          have hck := cake12 w1.heap.size gb n0 n1 d0 d1 (m + 1) X Y ts ls wr.drew (by omega) (by omega) hn0 hn1 ho CXr.out CYr.out
          rw [show (((m + 1 : Nat)) : Int) = (m : Int) + 1 from by omega] at hck
          generalize C ts ls (ts (m + 1 - 1)) (m + 1 - 1) = L at hl hck
          have HK : Hid (Calls Try.prog 12 #[.slice (some ⟨w1.heap.size, 0, none⟩) n0 d0, .slice (some ⟨gb, 0, none⟩) n1 d1, .int .i64 ((m : Int) + 1)] wr.drew fun e w' => e = .returned (.int .i64 L) ∧ w' = wr.drew) := hck
          clear e0 ho hm0 hck
          go_wp2_with fail
          refine HK.out.mono ?_
          rintro e w10 ⟨rfl, rfl⟩
          go_wp2
          go_ret
          exact ⟨rfl, BB.out.drew⟩

theorem law3_all (v0 v1 : Value) (n0 n1 : Nat) (X Y : Nat → Nat) (w : World) (m0 : n0 ≤ maxLen) (m1 : n1 ≤ maxLen) (h0 : SlF w v0 n0 X) (h1 : SlF w v1 n1 Y) :
    Calls Try.prog 3 #[v0, v1] w fun e w' => e = .returned (.bool true) ∧ Below w.heap.size w w' := by
  by_cases hs : n0 + n1 ≤ 131072
  · by_cases hz : min n0 n1 = 0
    · exact law3_zero v0 v1 n0 n1 X Y w hs hz h0 h1
    · exact law3_pos v0 v1 n0 n1 (min n0 n1) X Y w hs rfl (by omega) h0 h1
  · obtain ⟨ao0, c0, e0⟩ := h0.shape
    obtain ⟨ao1, c1, e1⟩ := h1.shape
    exact law3_early v0 v1 n0 n1 ao0 ao1 c0 c1 e0 e1 w m0 m1 hs
end Go.Proofs.Qxb6604684a
