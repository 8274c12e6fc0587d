/-
  DERIVED. THE WALKS of exactScript and layerCake.
-/
import Derived.Test.Qxb6604684aW2
namespace Go.Proofs.Qxb6604684a
open Go.RowKit Fl

theorem loT : Den64 13920626448202203136 (-1048576) := by
  have e : (13920626448202203136 : Nat) = floatOfInt .f64 (-1048576) := by decide +kernel
  rw [e]; exact den_ofInt _ (by decide)
theorem hiT : Den64 4697254411347427328 1048576 := by
  have e : (4697254411347427328 : Nat) = floatOfInt .f64 1048576 := by decide +kernel
  rw [e]; exact den_ofInt _ (by decide)
theorem loL : Den64 13875590451928498176 (-1024) := by
  have e : (13875590451928498176 : Nat) = floatOfInt .f64 (-1024) := by decide +kernel
  rw [e]; exact den_ofInt _ (by decide)
theorem hiL : Den64 4652218415073722368 1024 := by
  have e : (4652218415073722368 : Nat) = floatOfInt .f64 1024 := by decide +kernel
  rw [e]; exact den_ofInt _ (by decide)

/-- Both tests said yes: the float is cut to a whole number within the bounds. -/
theorem cut_in {x lo hi : Nat} {R : Int} (hR : 0 ≤ R) (hR2 : R ≤ 1048576) (hl : Den64 lo (-R)) (hh : Den64 hi R)
    (h1 : (FloatKind.f64.format.order x lo == some .gt || FloatKind.f64.format.order x lo == some .eq) = true)
    (h2 : (FloatKind.f64.format.order x hi == some .lt || FloatKind.f64.format.order x hi == some .eq) = true) :
    ∃ k, floatToIntVal .f64 x .i64 = some k ∧ -R ≤ k ∧ k ≤ R := by
  have q1 : FloatKind.f64.format.order x lo = some .gt ∨ FloatKind.f64.format.order x lo = some .eq := by simpa using h1
  have q2 : FloatKind.f64.format.order x hi = some .lt ∨ FloatKind.f64.format.order x hi = some .eq := by simpa using h2
  obtain ⟨k, hk, b1, b2⟩ := toInt_range (d := Ieee.double.read x) hR hl hh q1 q2
  refine ⟨k, ?_, b1, b2⟩
  have hk' : (FloatKind.f64.decode x).toInt .zero = some k := hk
  simp [floatToIntVal, hk', IntKind.min, IntKind.max, IntKind.signed, IntKind.bits]
  omega
theorem den_of_test {x : Nat} {k : Int} (hk : k.natAbs < 2 ^ 53) (h : (FloatKind.f64.format.order x (floatOfInt .f64 k) != some .eq) = false) : Den64 x k := by
  refine den_of_eq (den_ofInt k hk) ?_
  have : (FloatKind.f64.format.order x (floatOfInt .f64 k) == some .eq) = true := by simpa [bne] using h
  exact beq_iff_eq.1 this

theorem ok_step {X Y : Nat → Nat} {ts ls : Nat → Int} {k : Nat} {t l : Int} (h : Ok X Y ts ls k) (ht : Den64 (X k) t) (bt : -1048576 ≤ t ∧ t ≤ 1048576) (hl : Den64 (Y k) l) (bl : -1024 ≤ l ∧ l ≤ 1024) :
    Ok X Y (fun i => if i = k then t else ts i) (fun i => if i = k then l else ls i) (k + 1) := by
  intro i hi
  by_cases e : i = k
  · subst e
    simp only [if_true]
    exact ⟨ht, bt, hl, bl⟩
  · simp only [if_neg e]
    exact h i (by omega)

/-- What exactScript gives: the world as it was; where it says yes the script is exact. -/
def ExRes (X Y : Nat → Nat) (n : Nat) (w : World) (e : Ending) (w' : World) : Prop := ∃ r : Bool, e = .returned (.bool r) ∧ w' = w ∧ (r = true → ∃ ts ls, Ok X Y ts ls n)
theorem exRes_no (X Y : Nat → Nat) (n : Nat) (w : World) {v : Value} (hv : v = .bool false) : ExRes X Y n w (.returned v) w := ⟨false, by rw [hv], rfl, fun h => by cases h⟩
theorem exRes_yes {X Y : Nat → Nat} {n : Nat} (w : World) {v : Value} (hv : v = .bool true) (h : ∃ ts ls, Ok X Y ts ls n) : ExRes X Y n w (.returned v) w := ⟨true, by rw [hv], rfl, fun _ => h⟩

set_option maxHeartbeats 2000000 in
theorem exact11 (b1 b2 n1 n2 c1 c2 n : Nat) (X Y : Nat → Nat) (w : World) (hn : n ≤ 131072) (hn1 : n ≤ n1) (hn2 : n ≤ n2)
    (hX : ∀ i, i < n → w.cell? ⟨b1, i, none⟩ = some (.float .f64 (X i))) (hY : ∀ i, i < n → w.cell? ⟨b2, i, none⟩ = some (.float .f64 (Y i))) :
    Calls Try.prog 11 #[.slice (some ⟨b1, 0, none⟩) n1 c1, .slice (some ⟨b2, 0, none⟩) n2 c2, .int .i64 n] w (ExRes X Y n w) := by
  have HX : Hid _ := hX
  have HY : Hid _ := hY
  clear hX hY
  go_enter Try.func11, Try.ntmps11
  go_wp2
  go_loop [7, 8, 9] (fun i _ _ => ∃ k : Nat, k ≤ n ∧ i = .int .i64 k ∧ Hid (∃ ts ls, Ok X Y ts ls k)) (fun i _ _ => n - (intOf i).toNat)
  case atStart => exact ⟨0, Nat.zero_le _, rfl, ⟨fun _ => 0, fun _ => 0, fun i hi => absurd hi (Nat.not_lt_zero _)⟩⟩
  case round =>
    obtain ⟨k, hk, rfl, HO⟩ := hrel
    by_cases hlt : k < n
    · have cx := HX.out k hlt
      have cy := HY.out k hlt
      have hlt1 : (k : Int) < (n1 : Int) := by omega
      have hlt2 : (k : Int) < (n2 : Int) := by omega
      cases g1 : (FloatKind.f64.format.order (X k) 13920626448202203136 == some .gt || FloatKind.f64.format.order (X k) 13920626448202203136 == some .eq)
      · go_wp2
        go_ret
        exact exRes_no _ _ _ _ rfl
      · cases l1 : (FloatKind.f64.format.order (X k) 4697254411347427328 == some .lt || FloatKind.f64.format.order (X k) 4697254411347427328 == some .eq)
        · go_wp2
          go_ret
          exact exRes_no _ _ _ _ rfl
        · obtain ⟨t, ht, bt⟩ := cut_in (by omega) (by omega) loT hiT g1 l1
          have hcv := fun w => run_convert_float_int (P := Try.prog) w 29 2 .f64 .i64 (X k) t (by rw [Try.underlying29]; rfl) Try.underlying2 ht
          have HT : Hid (-1048576 ≤ t ∧ t ≤ 1048576) := bt
          clear ht bt
          cases e1 : (FloatKind.f64.format.order (X k) (floatOfInt .f64 t) != some .eq)
          · cases g2 : (FloatKind.f64.format.order (Y k) 13875590451928498176 == some .gt || FloatKind.f64.format.order (Y k) 13875590451928498176 == some .eq)
            · go_wp2
              go_ret
              exact exRes_no _ _ _ _ rfl
            · cases l2 : (FloatKind.f64.format.order (Y k) 4652218415073722368 == some .lt || FloatKind.f64.format.order (Y k) 4652218415073722368 == some .eq)
              · go_wp2
                go_ret
                exact exRes_no _ _ _ _ rfl
              · obtain ⟨l, hl, bl⟩ := cut_in (by omega) (by omega) loL hiL g2 l2
                have hcv2 := fun w => run_convert_float_int (P := Try.prog) w 29 2 .f64 .i64 (Y k) l (by rw [Try.underlying29]; rfl) Try.underlying2 hl
                have HL : Hid (-1024 ≤ l ∧ l ≤ 1024) := bl
                clear hl bl
                cases e2 : (FloatKind.f64.format.order (Y k) (floatOfInt .f64 l) != some .eq)
                · have D1 : Hid (Den64 (X k) t) := den_of_test (by have := HT.out; omega) e1
                  have D2 : Hid (Den64 (Y k) l) := den_of_test (by have := HL.out; omega) e2
                  go_wp2
                  go_round
                  case rel =>
                    obtain ⟨ts, ls, ho⟩ := HO.out
                    exact ⟨k + 1, by omega, by go_num, ⟨_, _, ok_step ho D1.out HT.out D2.out HL.out⟩⟩
                  case measure => simp [intOf]; omega
                · go_wp2
                  go_ret
                  exact exRes_no _ _ _ _ rfl
          · go_wp2
            go_ret
            exact exRes_no _ _ _ _ rfl
    · have : k = n := by omega
      subst this
      go_wp2
      go_ret
      exact exRes_yes _ rfl HO.out
theorem exact11_zero (v0 v1 : Value) (X Y : Nat → Nat) (w : World) : Calls Try.prog 11 #[v0, v1, .int .i64 0] w (ExRes X Y 0 w) := by
  go_enter Try.func11, Try.ntmps11
  go_wp2
  go_loop [7] (fun i => i = .int .i64 0) (fun _ => 0)
  case atStart => rfl
  case round =>
    subst hrel
    go_wp2
    go_ret
    exact exRes_yes _ rfl ⟨fun _ => 0, fun _ => 0, fun i hi => absurd hi (Nat.not_lt_zero _)⟩

theorem cake12_small (v0 v1 : Value) (n : Int) (w : World) (hn : n < 2) : Calls Try.prog 12 #[v0, v1, .int .i64 n] w fun e w' => e = .returned (.int .i64 0) ∧ w' = w := by
  go_enter Try.func12, Try.ntmps12
  go_wp2
  go_ret
  exact ⟨rfl, rfl⟩

theorem ftoi {x : Nat} {k : Int} (h : Den64 x k) (hk : -1048576 ≤ k ∧ k ≤ 1048576) : floatToIntVal .f64 x .i64 = some k := by
  have hk' : (FloatKind.f64.decode x).toInt .zero = some k := den_toInt h
  simp [floatToIntVal, hk', IntKind.min, IntKind.max, IntKind.signed, IntKind.bits]
  omega

theorem C_snoc (ts ls : Nat → Int) (fin : Int) (k : Nat) : C ts ls fin (k + 1) = C ts ls fin k + (ls k - pr ls k) * (fin - ts k) := rfl

set_option maxHeartbeats 2000000 in
theorem cake12 (b1 b2 n1 n2 c1 c2 n : Nat) (X Y : Nat → Nat) (ts ls : Nat → Int) (w : World) (hn : n ≤ 131072) (h2 : 2 ≤ n) (hn1 : n ≤ n1) (hn2 : n ≤ n2) (ho : Ok X Y ts ls n)
    (hX : ∀ i, i < n → w.cell? ⟨b1, i, none⟩ = some (.float .f64 (X i))) (hY : ∀ i, i < n → w.cell? ⟨b2, i, none⟩ = some (.float .f64 (Y i))) :
    Calls Try.prog 12 #[.slice (some ⟨b1, 0, none⟩) n1 c1, .slice (some ⟨b2, 0, none⟩) n2 c2, .int .i64 n] w fun e w' => e = .returned (.int .i64 (C ts ls (ts (n - 1)) (n - 1))) ∧ w' = w := by
  have hm : (n : Int) - 1 = ((n - 1 : Nat) : Int) := by omega
  obtain ⟨m, rfl⟩ : ∃ m, n = m + 2 := ⟨n - 2, by omega⟩
  rw [show m + 2 - 1 = m + 1 from rfl]
  have cl := hX (m + 1) (by omega)
  have hcl := fun w => run_convert_float_int (P := Try.prog) w 29 2 .f64 .i64 (X (m + 1)) (ts (m + 1)) (by rw [Try.underlying29]; rfl) Try.underlying2 (ftoi (ho (m + 1) (by omega)).1 (ho (m + 1) (by omega)).2.1)
  have HX : Hid _ := hX
  have HY : Hid _ := hY
  have HO : Hid (Ok X Y ts ls (m + 2)) := ho
  clear hX hY ho
  go_enter Try.func12, Try.ntmps12
  go_wp2
  go_loop [8, 9, 10, 11] (fun sm pv j _ => ∃ k : Nat, k ≤ m + 1 ∧ j = .int .i64 k ∧ sm = .int .i64 (C ts ls (ts (m + 1)) k) ∧ pv = .int .i64 (pr ls k)) (fun _ _ j _ => m + 1 - (intOf j).toNat)
  case atStart => exact ⟨0, Nat.zero_le _, rfl, rfl, rfl⟩
  case round =>
    obtain ⟨k, hk, rfl, rfl, rfl⟩ := hrel
    by_cases hlt : k ≤ m
    · have cx := HX.out k (by omega)
      have cy := HY.out k (by omega)
      obtain ⟨d1, b1', d2, b2'⟩ := HO.out k (by omega)
      have hcx := fun w => run_convert_float_int (P := Try.prog) w 29 2 .f64 .i64 (X k) (ts k) (by rw [Try.underlying29]; rfl) Try.underlying2 (ftoi d1 b1')
      have hcy := fun w => run_convert_float_int (P := Try.prog) w 29 2 .f64 .i64 (Y k) (ls k) (by rw [Try.underlying29]; rfl) Try.underlying2 (ftoi d2 (by omega))
      have bf := (HO.out (m + 1) (by omega)).2.1
      have bp := pr_bd (f := ls) (k := k) (R := 1024) (by omega) (fun i hi => (HO.out i (by omega)).2.2.2)
      have bq := C_step_bd HO.out (k := k) (by omega)
      have bc := C_bd HO.out k (by omega)
      rw [show m + 2 - 1 = m + 1 from rfl] at bq bc
      have HS : Hid (C ts ls (ts (m + 1)) (k + 1) = C ts ls (ts (m + 1)) k + (ls k - pr ls k) * (ts (m + 1) - ts k)) := C_snoc _ _ _ _
      have HP : Hid (pr ls (k + 1) = ls k) := by simp [Hid, pr]
      clear d1 d2
      obtain ⟨u1, u2⟩ := b1'
      obtain ⟨u3, u4⟩ := b2'
      obtain ⟨u5, u6⟩ := bf
      obtain ⟨u7, u8⟩ := bp
      obtain ⟨u9, u10⟩ := bq
      obtain ⟨u11, u12⟩ := bc
      have u13 : (k : Int) ≤ 131072 := by omega
      have v1 : -562949953421312 ≤ C ts ls (ts (m + 1)) k := by omega
      have v2 : C ts ls (ts (m + 1)) k ≤ 562949953421312 := by omega
      clear u11 u12 u13
      have hj : (k : Int) < (n1 : Int) := by omega
      have hj2 : (k : Int) < (n2 : Int) := by omega
      go_wp2
      go_round
      case rel => exact ⟨k + 1, by omega, by go_num, by rw [HS.out], by rw [HP.out]⟩
      case measure => simp [intOf]; omega
    · have : k = m + 1 := by omega
      subst this
      go_wp2
      go_ret
      exact ⟨rfl, rfl⟩

end Go.Proofs.Qxb6604684a
