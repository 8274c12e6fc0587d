/-
  DERIVED. NO Go IN SIGHT: the meter's sum and the layer-cake sum over whole numbers are one.
-/
import Derived.Test.Qxb6604684aFloat
namespace Go.Proofs.Qxb6604684a
open Fl

/-- What was set last before step k: nothing before the first. -/
def pr (f : Nat → Int) (k : Nat) : Int := if k = 0 then 0 else f (k - 1)
/-- The meter's total after k sets. -/
def S (ts ls : Nat → Int) : Nat → Int
  | 0 => 0
  | k + 1 => S ts ls k + pr ls k * (ts k - pr ts k)
/-- The layer-cake sum over the first k changes, up to 'fin'. -/
def C (ts ls : Nat → Int) (fin : Int) : Nat → Int
  | 0 => 0
  | k + 1 => C ts ls fin k + (ls k - pr ls k) * (fin - ts k)
def lc (ts ls : Nat → Int) (n : Nat) : Int := if n < 2 then 0 else C ts ls (ts (n - 1)) (n - 1)

theorem C_eq (ts ls : Nat → Int) (fin : Int) : ∀ k, C ts ls fin (k + 1) = S ts ls (k + 1) + ls k * (fin - ts k)
  | 0 => by simp [C, S, pr]
  | k + 1 => by
    rw [C, C_eq ts ls fin k]
    conv => rhs; rw [S]
    simp only [pr, Nat.add_sub_cancel, if_neg (Nat.succ_ne_zero k)]
    simp only [Int.mul_sub, Int.sub_mul]
    omega
theorem S_eq_lc (ts ls : Nat → Int) (n : Nat) : S ts ls n = lc ts ls n := by
  unfold lc
  match n with
  | 0 => rfl
  | 1 => simp [S, pr]
  | k + 2 =>
    rw [if_neg (by omega), show k + 2 - 1 = k + 1 by omega, C_eq]
    conv => lhs; rw [S]
    simp [pr]

theorem mul_bd {a b A B : Int} (h1 : -A ≤ a) (h2 : a ≤ A) (h3 : -B ≤ b) (h4 : b ≤ B) : -(A * B) ≤ a * b ∧ a * b ≤ A * B := by
  have hA : 0 ≤ A := by omega
  have hB : 0 ≤ B := by omega
  have e : (a * b).natAbs ≤ (A * B).natAbs := by
    rw [Int.natAbs_mul, Int.natAbs_mul]
    exact Nat.mul_le_mul (by omega) (by omega)
  have hAB : 0 ≤ A * B := Int.mul_nonneg hA hB
  omega

/-- The first n times and levels are whole numbers within the law's bounds. -/
def Ok (X Y : Nat → Nat) (ts ls : Nat → Int) (n : Nat) : Prop := ∀ i, i < n → Den64 (X i) (ts i) ∧ (-1048576 ≤ ts i ∧ ts i ≤ 1048576) ∧ Den64 (Y i) (ls i) ∧ (-1024 ≤ ls i ∧ ls i ≤ 1024)

/-- The bits that were set last before step k. -/
def prB (f : Nat → Nat) (k : Nat) : Nat := if k = 0 then 0 else f (k - 1)

theorem pr_bd {f : Nat → Int} {k : Nat} {R : Int} (hR : 0 ≤ R) (h : ∀ i, i < k → -R ≤ f i ∧ f i ≤ R) : -R ≤ pr f k ∧ pr f k ≤ R := by
  unfold pr
  split
  · omega
  · exact h (k - 1) (by omega)

theorem S_step_bd {X Y : Nat → Nat} {ts ls : Nat → Int} {n k : Nat} (h : Ok X Y ts ls n) (hk : k < n) : -2147483648 ≤ pr ls k * (ts k - pr ts k) ∧ pr ls k * (ts k - pr ts k) ≤ 2147483648 := by
  have b1 := pr_bd (f := ls) (k := k) (R := 1024) (by omega) (fun i hi => (h i (by omega)).2.2.2)
  have b2 := pr_bd (f := ts) (k := k) (R := 1048576) (by omega) (fun i hi => (h i (by omega)).2.1)
  have b3 := (h k hk).2.1
  exact mul_bd (A := 1024) (B := 2097152) b1.1 b1.2 (by omega) (by omega)

theorem S_bd {X Y : Nat → Nat} {ts ls : Nat → Int} {n : Nat} (h : Ok X Y ts ls n) : ∀ k, k ≤ n → -((k : Int) * 2147483648) ≤ S ts ls k ∧ S ts ls k ≤ (k : Int) * 2147483648
  | 0, _ => by simp [S]
  | k + 1, hk => by
    have ih := S_bd h k (by omega)
    have st := S_step_bd h (show k < n by omega)
    rw [S]
    generalize pr ls k * (ts k - pr ts k) = d at st
    omega

theorem den_prB {f : Nat → Nat} {g : Nat → Int} {k : Nat} (h : ∀ i, i < k → Den64 (f i) (g i)) : Den64 (prB f k) (pr g k) := by
  unfold prB pr
  split
  · exact den_zero
  · exact h (k - 1) (by omega)

/-- One set of the meter, exact. -/
theorem set_exact {X Y : Nat → Nat} {ts ls : Nat → Int} {n k tv : Nat} (h : Ok X Y ts ls n) (hk : k < n) (hn : n ≤ 131072) (ht : Den64 tv (S ts ls k)) :
    ∃ r1 r2 r3, floatBits .sub .f64 (X k) (prB X k) = some r1 ∧ floatBits .mul .f64 (prB Y k) r1 = some r2 ∧ floatBits .add .f64 tv r2 = some r3 ∧ Den64 r3 (S ts ls (k + 1)) := by
  have b1 := pr_bd (f := ls) (k := k) (R := 1024) (by omega) (fun i hi => (h i (by omega)).2.2.2)
  have b2 := pr_bd (f := ts) (k := k) (R := 1048576) (by omega) (fun i hi => (h i (by omega)).2.1)
  have b3 := (h k hk).2.1
  have st := S_step_bd h hk
  have sb := S_bd h (k + 1) (by omega)
  have dX : Den64 (prB X k) (pr ts k) := den_prB (fun i hi => (h i (by omega)).1)
  have dY : Den64 (prB Y k) (pr ls k) := den_prB (fun i hi => (h i (by omega)).2.2.1)
  obtain ⟨r1, e1, d1⟩ := den_sub (h k hk).1 dX (by omega)
  obtain ⟨r2, e2, d2⟩ := den_mul dY d1 (by omega)
  obtain ⟨r3, e3, d3⟩ := den_add ht d2 (by rw [S] at sb; omega)
  exact ⟨r1, r2, r3, e1, e2, e3, by rw [S]; exact d3⟩

theorem C_step_bd {X Y : Nat → Nat} {ts ls : Nat → Int} {n k : Nat} (h : Ok X Y ts ls n) (hk : k + 1 < n) : -4294967296 ≤ (ls k - pr ls k) * (ts (n - 1) - ts k) ∧ (ls k - pr ls k) * (ts (n - 1) - ts k) ≤ 4294967296 := by
  have b1 := pr_bd (f := ls) (k := k) (R := 1024) (by omega) (fun i hi => (h i (by omega)).2.2.2)
  have b2 := (h k (by omega)).2.2.2
  have b3 := (h k (by omega)).2.1
  have b4 := (h (n - 1) (by omega)).2.1
  exact mul_bd (A := 2048) (B := 2097152) (by omega) (by omega) (by omega) (by omega)
theorem C_bd {X Y : Nat → Nat} {ts ls : Nat → Int} {n : Nat} (h : Ok X Y ts ls n) : ∀ k, k < n → -((k : Int) * 4294967296) ≤ C ts ls (ts (n - 1)) k ∧ C ts ls (ts (n - 1)) k ≤ (k : Int) * 4294967296
  | 0, _ => by simp [C]
  | k + 1, hk => by
    have ih := C_bd h k (by omega)
    have st := C_step_bd h hk
    rw [C]
    generalize (ls k - pr ls k) * (ts (n - 1) - ts k) = d at st
    omega

/-- The law's last test. -/
theorem last_test {X Y : Nat → Nat} {ts ls : Nat → Int} {n tv : Nat} (h : Ok X Y ts ls n) (hn : n ≤ 131072) (ht : Den64 tv (S ts ls n)) : (FloatKind.f64.format.order tv (floatOfInt .f64 (lc ts ls n)) == some .eq) = true := by
  have sb := S_bd h n (Nat.le_refl _)
  rw [← S_eq_lc]
  have := den_order ht (den_ofInt (S ts ls n) (by omega))
  show ((Ieee.double.read tv).order (Ieee.double.read (floatOfInt .f64 (S ts ls n))) == some .eq) = true
  rw [this, Int.compare_eq_eq.2 rfl]
  rfl

end Go.Proofs.Qxb6604684a
