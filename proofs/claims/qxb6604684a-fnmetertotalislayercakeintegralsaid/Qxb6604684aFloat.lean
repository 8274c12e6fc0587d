/-
  DERIVED. NO Go IN SIGHT: floats that stand for whole numbers: sum, product, order, truncation and rounding are exact below 2^53.
-/
import Derived.Laws.FloatArith
namespace Go.Proofs.Qxb6604684a.Fl
open Ieee

theorem signed_eq (s : Bool) (m k : Nat) : signed s m k = (if s then -1 else 1) * ((m : Int) * 2 ^ k) := by
  unfold signed
  rw [Nat.shiftLeft_eq]
  cases s <;> simp
theorem signed_add (s : Bool) (m a c : Nat) : signed s m (a + c) = signed s m a * 2 ^ c := by
  rw [signed_eq, signed_eq, Int.pow_add]
  simp only [Int.mul_assoc]
theorem two_pow_pos' (c : Nat) : (0 : Int) < 2 ^ c := Int.pow_pos (by omega)

/-- The datum stands for the whole number n. -/
def Den (d : Datum) (n : Int) : Prop := ∃ s m e, d = .number s m e ∧ ∀ B : Nat, 0 ≤ e + B → signed s m (e + B).toNat = n * 2 ^ B

theorem den_mk {s : Bool} {m : Nat} {e n : Int} (B0 : Nat) (h0 : 0 ≤ e + B0) (h : signed s m (e + B0).toNat = n * 2 ^ B0) : Den (.number s m e) n := by
  refine ⟨s, m, e, rfl, fun B hB => ?_⟩
  by_cases hle : B0 ≤ B
  · obtain ⟨c, rfl⟩ := Nat.exists_eq_add_of_le hle
    have e1 : (e + ((B0 + c : Nat) : Int)).toNat = (e + B0).toNat + c := by omega
    rw [e1, signed_add, h, Int.pow_add, Int.mul_assoc]
  · obtain ⟨c, rfl⟩ := Nat.exists_eq_add_of_le (show B ≤ B0 by omega)
    have e1 : (e + ((B + c : Nat) : Int)).toNat = (e + B).toNat + c := by omega
    rw [e1, signed_add, Int.pow_add, ← Int.mul_assoc] at h
    exact Int.eq_of_mul_eq_mul_right (by have := two_pow_pos' c; omega) h

theorem den_opp {d : Datum} {n : Int} (h : Den d n) : Den d.opposite (-n) := by
  obtain ⟨s, m, e, rfl, h⟩ := h
  refine ⟨!s, m, e, rfl, fun B hB => ?_⟩
  have := h B hB
  rw [signed_eq] at this ⊢
  rw [Int.neg_mul, ← this]
  cases s <;> simp

theorem signed_natAbs (t : Int) (b : Bool) (k : Nat) : signed (if t = 0 then b else decide (t < 0)) t.natAbs k = t * 2 ^ k := by
  rw [signed_eq]
  by_cases h0 : t = 0
  · simp [h0]
  · rw [if_neg h0]
    by_cases h1 : t < 0
    · rw [show decide (t < 0) = true by simpa using h1]
      simp only [if_true]
      rw [← Int.mul_assoc, show (-1 : Int) * (t.natAbs : Int) = t by omega]
    · rw [show decide (t < 0) = false by simpa using h1]
      simp only [Bool.false_eq_true, if_false]
      rw [← Int.mul_assoc, show (1 : Int) * (t.natAbs : Int) = t by omega]

theorem den_sum {d1 d2 : Datum} {a b : Int} (h1 : Den d1 a) (h2 : Den d2 b) : ∃ d, d1.sum d2 = some d ∧ Den d (a + b) := by
  obtain ⟨s, m, i, rfl, h1⟩ := h1
  obtain ⟨t, n, j, rfl, h2⟩ := h2
  refine ⟨_, rfl, ?_⟩
  have hB : 0 ≤ min i j + ((min i j).natAbs : Nat) := by omega
  refine den_mk (min i j).natAbs hB ?_
  rw [signed_natAbs, Int.add_mul]
  have e1 := h1 (min i j).natAbs (by omega)
  have e2 := h2 (min i j).natAbs (by omega)
  rw [← signed_add, ← signed_add, show (i - min i j).toNat + (min i j + ((min i j).natAbs : Int)).toNat = (i + ((min i j).natAbs : Int)).toNat by omega,
    show (j - min i j).toNat + (min i j + ((min i j).natAbs : Int)).toNat = (j + ((min i j).natAbs : Int)).toNat by omega, e1, e2, Int.add_mul]

theorem den_prod {d1 d2 : Datum} {a b : Int} (h1 : Den d1 a) (h2 : Den d2 b) : ∃ d, d1.product d2 = some d ∧ Den d (a * b) := by
  obtain ⟨s, m, i, rfl, h1⟩ := h1
  obtain ⟨t, n, j, rfl, h2⟩ := h2
  refine ⟨_, rfl, ?_⟩
  refine den_mk (i.natAbs + j.natAbs) (by omega) ?_
  have e1 := h1 i.natAbs (by omega)
  have e2 := h2 j.natAbs (by omega)
  rw [show (i + j + ((i.natAbs + j.natAbs : Nat) : Int)).toNat = (i + (i.natAbs : Int)).toNat + (j + (j.natAbs : Int)).toNat by omega, Int.pow_add]
  have e3 : a * b * (2 ^ i.natAbs * 2 ^ j.natAbs) = (a * 2 ^ i.natAbs) * (b * 2 ^ j.natAbs) := by
    simp only [Int.mul_assoc, Int.mul_left_comm]
  rw [e3, ← e1, ← e2, signed_eq, signed_eq, signed_eq, Int.pow_add, Int.natCast_mul]
  generalize (2 : Int) ^ (i + (i.natAbs : Int)).toNat = X
  generalize (2 : Int) ^ (j + (j.natAbs : Int)).toNat = Y
  rw [show (if (s ^^ t) = true then (-1 : Int) else 1) = (if s = true then -1 else 1) * (if t = true then -1 else 1) by cases s <;> cases t <;> rfl]
  generalize (if s = true then (-1 : Int) else 1) = S
  generalize (if t = true then (-1 : Int) else 1) = T
  simp only [Int.mul_assoc, Int.mul_left_comm]

theorem compare_mul (a b : Int) (c : Nat) : compare (a * 2 ^ c) (b * 2 ^ c) = compare a b := by
  have hp := two_pow_pos' c
  rcases Int.lt_trichotomy a b with h | h | h
  · rw [Std.compare_eq_lt.2 h, Std.compare_eq_lt.2 (Int.mul_lt_mul_of_pos_right h hp)]
  · subst h; rw [Int.compare_eq_eq.2 rfl, Int.compare_eq_eq.2 rfl]
  · rw [Std.compare_eq_gt.2 h, Std.compare_eq_gt.2 (Int.mul_lt_mul_of_pos_right h hp)]

theorem order_at (s t : Bool) (m n : Nat) (i j : Int) (B : Nat) (hi : 0 ≤ i + B) (hj : 0 ≤ j + B) :
    (Datum.number s m i).order (.number t n j) = some (compare (signed s m (i + B).toNat) (signed t n (j + B).toNat)) := by
  show some (compare (signed s m (i - min i j).toNat) (signed t n (j - min i j).toNat)) = _
  rw [← compare_mul _ _ (min i j + B).toNat, ← signed_add, ← signed_add, show (i - min i j).toNat + (min i j + (B : Int)).toNat = (i + (B : Int)).toNat by omega, show (j - min i j).toNat + (min i j + (B : Int)).toNat = (j + (B : Int)).toNat by omega]

theorem den_order {d1 d2 : Datum} {a b : Int} (h1 : Den d1 a) (h2 : Den d2 b) : d1.order d2 = some (compare a b) := by
  obtain ⟨s, m, i, rfl, h1⟩ := h1
  obtain ⟨t, n, j, rfl, h2⟩ := h2
  rw [order_at s t m n i j (i.natAbs + j.natAbs) (by omega) (by omega), h1 _ (by omega), h2 _ (by omega), compare_mul]

/-- What is equal to a whole number stands for it. -/
theorem den_of_eq {d1 d2 : Datum} {b : Int} (h2 : Den d2 b) (h : d1.order d2 = some .eq) : Den d1 b := by
  obtain ⟨t, n, j, rfl, h2⟩ := h2
  cases d1 with
  | nan => simp [Datum.order] at h
  | infinity s => cases s <;> simp [Datum.order] at h
  | number s m i =>
    rw [order_at s t m n i j (i.natAbs + j.natAbs) (by omega) (by omega)] at h
    have e := Int.compare_eq_eq.1 (Option.some.inj h)
    exact den_mk (i.natAbs + j.natAbs) (by omega) (by rw [e]; exact h2 _ (by omega))

/-! ### Truncation -/
theorem cut_zero (s : Bool) (n drop : Nat) : Toward.zero.cut s n drop = n / 2 ^ min drop (n.log2 + 2) := by
  simp [Toward.cut, Nat.shiftLeft_eq]

/-- The magnitude, where the sign is known. -/
theorem den_mag {s : Bool} {m : Nat} {e n : Int} (h : ∀ B : Nat, 0 ≤ e + B → signed s m (e + B).toNat = n * 2 ^ B) : (0 ≤ e → m * 2 ^ e.toNat = n.natAbs) ∧ (e < 0 → m = n.natAbs * 2 ^ (-e).toNat) ∧ (n ≠ 0 → s = decide (n < 0)) := by
  refine ⟨fun he => ?_, fun he => ?_, fun hn => ?_⟩
  · have := h 0 (by omega)
    rw [signed_eq] at this
    have e1 : (e + ((0 : Nat) : Int)).toNat = e.toNat := by omega
    rw [e1] at this
    have e2 : ((m : Int) * 2 ^ e.toNat) = ((m * 2 ^ e.toNat : Nat) : Int) := by rw [Int.natCast_mul, Int.natCast_pow]; rfl
    rw [e2] at this
    generalize m * 2 ^ e.toNat = M at this ⊢
    cases s <;> simp at this <;> omega
  · have := h (-e).toNat (by omega)
    rw [signed_eq, show (e + ((-e).toNat : Int)).toNat = 0 by omega] at this
    have hp : (0 : Nat) < 2 ^ (-e).toNat := Nat.two_pow_pos _
    have e2 : (n.natAbs * 2 ^ (-e).toNat : Nat) = (n * 2 ^ (-e).toNat).natAbs := by rw [Int.natAbs_mul, Int.natAbs_pow]; rfl
    rw [e2, ← this]
    cases s <;> simp
  · have := h e.natAbs (by omega)
    rw [signed_eq] at this
    have hp := two_pow_pos' e.natAbs
    have hq := two_pow_pos' (e + (e.natAbs : Int)).toNat
    have hm : 0 ≤ (m : Int) * 2 ^ (e + (e.natAbs : Int)).toNat := Int.mul_nonneg (by omega) (by omega)
    generalize (m : Int) * 2 ^ (e + (e.natAbs : Int)).toNat = M at this hm
    by_cases h1 : n < 0
    · have h2 : n * 2 ^ e.natAbs < 0 := Int.mul_neg_of_neg_of_pos h1 hp
      cases s
      · simp at this; omega
      · simpa using h1
    · have h2 : 0 < n * 2 ^ e.natAbs := Int.mul_pos (by omega) hp
      cases s
      · simpa using h1
      · simp at this; omega

theorem log2_mul_pow (a k : Nat) (ha : a ≠ 0) : (a * 2 ^ k).log2 = a.log2 + k := by
  have h1 := Nat.log2_self_le ha
  have h2 := @Nat.lt_log2_self a
  have hz : a * 2 ^ k ≠ 0 := Nat.mul_ne_zero ha (Nat.ne_of_gt (Nat.two_pow_pos _))
  rw [Nat.log2_eq_iff hz]
  constructor
  · rw [Nat.pow_add]; exact Nat.mul_le_mul_right _ h1
  · rw [show a.log2 + k + 1 = (a.log2 + 1) + k by omega, Nat.pow_add]; exact Nat.mul_lt_mul_of_pos_right h2 (Nat.two_pow_pos _)

theorem den_toInt {d : Datum} {n : Int} (h : Den d n) : d.toInt .zero = some n := by
  obtain ⟨s, m, e, rfl, h⟩ := h
  obtain ⟨h1, h2, h3⟩ := den_mag h
  show some (signed s (Toward.zero.cut s (m <<< e.toNat) (-e).toNat) 0) = some n
  rw [cut_zero, Nat.shiftLeft_eq]
  have key : (m * 2 ^ e.toNat) / 2 ^ min (-e).toNat ((m * 2 ^ e.toNat).log2 + 2) = n.natAbs := by
    by_cases he : 0 ≤ e
    · rw [h1 he, show (-e).toNat = 0 by omega, Nat.zero_min, Nat.pow_zero, Nat.div_one]
    · have hm := h2 (by omega)
      rw [show e.toNat = 0 by omega, Nat.pow_zero, Nat.mul_one]
      by_cases hn : n.natAbs = 0
      · rw [hn] at hm ⊢; rw [hm, Nat.zero_mul, Nat.zero_div]
      · have hl : m.log2 = n.natAbs.log2 + (-e).toNat := by rw [hm]; exact log2_mul_pow _ _ hn
        rw [Nat.min_eq_left (by omega)]
        conv => lhs; rw [hm]
        exact Nat.mul_div_cancel _ (Nat.two_pow_pos _)
  rw [key, signed_eq]
  by_cases hn : n = 0
  · subst hn; simp
  · rw [h3 hn]
    by_cases h4 : n < 0
    · rw [show decide (n < 0) = true by simpa using h4]; simp only [if_true]; congr 1; omega
    · rw [show decide (n < 0) = false by simpa using h4]; simp only [Bool.false_eq_true, if_false]; congr 1; omega

/-- A number between two whole numbers -R and R: cut towards zero it lies between them. -/
theorem toInt_range {d lo hi : Datum} {R : Int} (hR : 0 ≤ R) (hl : Den lo (-R)) (hh : Den hi R) (h1 : d.order lo = some .gt ∨ d.order lo = some .eq) (h2 : d.order hi = some .lt ∨ d.order hi = some .eq) :
    ∃ k, d.toInt .zero = some k ∧ -R ≤ k ∧ k ≤ R := by
  obtain ⟨s1, m1, e1, rfl, hl⟩ := hl
  obtain ⟨s2, m2, e2, rfl, hh⟩ := hh
  cases d with
  | nan => simp [Datum.order] at h1
  | infinity s =>
    cases s
    · simp [Datum.order] at h2
    · simp [Datum.order] at h1
  | number s m e =>
    refine ⟨_, rfl, ?_⟩
    have hb : ∀ B : Nat, 0 ≤ e + B → 0 ≤ e1 + B → 0 ≤ e2 + B → -R * 2 ^ B ≤ signed s m (e + B).toNat ∧ signed s m (e + B).toNat ≤ R * 2 ^ B := by
      intro B hB h1' h2'
      rw [order_at s s1 m m1 e e1 B hB h1', hl B h1'] at h1
      rw [order_at s s2 m m2 e e2 B hB h2', hh B h2'] at h2
      constructor
      · rcases h1 with h1 | h1
        · have := Int.compare_eq_gt.1 (Option.some.inj h1); omega
        · have := Int.compare_eq_eq.1 (Option.some.inj h1); omega
      · rcases h2 with h2 | h2
        · have := Int.compare_eq_lt.1 (Option.some.inj h2); omega
        · have := Int.compare_eq_eq.1 (Option.some.inj h2); omega
    have key : Toward.zero.cut s (m <<< e.toNat) (-e).toNat ≤ R.toNat := by
      rw [cut_zero, Nat.shiftLeft_eq]
      obtain ⟨b1, b2⟩ := hb (e.natAbs + e1.natAbs + e2.natAbs) (by omega) (by omega) (by omega)
      have habs : m * 2 ^ (e + ((e.natAbs + e1.natAbs + e2.natAbs : Nat) : Int)).toNat ≤ R.toNat * 2 ^ (e.natAbs + e1.natAbs + e2.natAbs) := by
        have e3 : ((R.toNat * 2 ^ (e.natAbs + e1.natAbs + e2.natAbs) : Nat) : Int) = R * 2 ^ (e.natAbs + e1.natAbs + e2.natAbs) := by
          rw [Int.natCast_mul, Int.natCast_pow, Int.toNat_of_nonneg hR]; rfl
        have e4 : ((m * 2 ^ (e + ((e.natAbs + e1.natAbs + e2.natAbs : Nat) : Int)).toNat : Nat) : Int) = (m : Int) * 2 ^ (e + ((e.natAbs + e1.natAbs + e2.natAbs : Nat) : Int)).toNat := by
          rw [Int.natCast_mul, Int.natCast_pow]; rfl
        rw [signed_eq] at b1 b2
        rw [← e4] at b1 b2
        rw [Int.neg_mul] at b1
        rw [← e3] at b1 b2
        generalize m * 2 ^ (e + ((e.natAbs + e1.natAbs + e2.natAbs : Nat) : Int)).toNat = M at b1 b2 ⊢
        generalize R.toNat * 2 ^ (e.natAbs + e1.natAbs + e2.natAbs) = N at b1 b2 ⊢
        cases s <;> simp at b1 b2 <;> omega
      by_cases he : 0 ≤ e
      · rw [show (-e).toNat = 0 by omega, Nat.zero_min, Nat.pow_zero, Nat.div_one]
        rw [show (e + ((e.natAbs + e1.natAbs + e2.natAbs : Nat) : Int)).toNat = e.toNat + (e.natAbs + e1.natAbs + e2.natAbs) by omega, Nat.pow_add, ← Nat.mul_assoc] at habs
        exact Nat.le_of_mul_le_mul_right habs (Nat.two_pow_pos _)
      · rw [show e.toNat = 0 by omega, Nat.pow_zero, Nat.mul_one]
        rw [show (e + ((e.natAbs + e1.natAbs + e2.natAbs : Nat) : Int)).toNat = e1.natAbs + e2.natAbs by omega,
          show e.natAbs + e1.natAbs + e2.natAbs = (-e).toNat + (e1.natAbs + e2.natAbs) by omega, Nat.pow_add 2 (-e).toNat, ← Nat.mul_assoc R.toNat] at habs
        have hm := Nat.le_of_mul_le_mul_right habs (Nat.two_pow_pos _)
        by_cases hc : (-e).toNat ≤ m.log2 + 2
        · rw [Nat.min_eq_left hc]
          exact Nat.div_le_of_le_mul (by rw [Nat.mul_comm]; exact hm)
        · rw [Nat.min_eq_right (by omega)]
          have h3 := @Nat.lt_log2_self m
          rw [Nat.div_eq_of_lt (Nat.lt_trans h3 (Nat.pow_lt_pow_right (by omega) (by omega)))]
          exact Nat.zero_le _
    rw [signed_eq]
    generalize Toward.zero.cut s (m <<< e.toNat) (-e).toNat = c at key ⊢
    cases s <;> simp <;> omega

/-! ### Rounding a whole number below 2^53 loses nothing -/
theorem cut_even_exact (s : Bool) (n drop : Nat) (hd : drop ≤ n.log2 + 2) (hn : n % 2 ^ drop = 0) : Toward.even.cut s n drop = n / 2 ^ drop := by
  have hp : (0 : Nat) < 2 ^ drop := Nat.two_pow_pos _
  simp only [Toward.cut, Nat.shiftLeft_eq, Nat.one_mul, Nat.min_eq_left hd, hn, Nat.mul_zero]
  have h1 : decide (2 ^ drop < 0) = false := by simp
  have h2 : (2 ^ drop == 0) = false := by simp
  simp [h2]

theorem read_rung (s : Bool) (rung : Nat) (h0 : 2 ^ 52 ≤ rung) (h1 : rung < 2047 * 2 ^ 52) :
    double.read (double.word s rung) = .number s (2 ^ 52 + rung % 2 ^ 52) (-1074 + ((rung / 2 ^ 52 - 1 : Nat) : Int)) := by
  have hs : double.signWeight = 2 ^ 63 := by decide
  have hb : double.binade = 2 ^ 52 := by decide
  have hi : double.infRung = 2047 * 2 ^ 52 := by decide
  have hp : double.leastPlace = -1074 := by decide
  have hw1 : double.word s rung / double.signWeight % 2 = if s then 1 else 0 := by
    unfold Format.word
    rw [hs]
    cases s <;> simp <;> omega
  have hw2 : double.word s rung % double.signWeight = rung := by
    unfold Format.word
    rw [hs]
    cases s <;> simp <;> omega
  unfold Format.read
  simp only [hw1, hw2]
  rw [hb, hi, hp, if_neg (by omega), if_pos h1]
  cases s <;> rfl

theorem den_nearest {s : Bool} {m : Nat} {e n : Int} (h : ∀ B : Nat, 0 ≤ e + B → signed s m (e + B).toNat = n * 2 ^ B) (hn : n.natAbs < 2 ^ 53) : Den (double.read (double.nearest s m e)) n := by
  obtain ⟨h1, h2, h3⟩ := den_mag h
  by_cases hm : m = 0
  · subst hm
    have hn0 : n = 0 := by
      have := h e.natAbs (by omega)
      rw [signed_eq] at this
      have hp := two_pow_pos' e.natAbs
      rw [show ((if s = true then (-1 : Int) else 1) * (((0 : Nat) : Int) * 2 ^ (e + (e.natAbs : Int)).toNat)) = 0 by rw [show (((0 : Nat) : Int)) = 0 from rfl, Int.zero_mul, Int.mul_zero]] at this
      rcases Int.mul_eq_zero.1 this.symm with h | h
      · exact h
      · omega
    subst hn0
    have e1 : double.nearest s 0 e = double.word s 0 := by simp [Format.nearest]
    rw [e1]
    have e2 : double.read (double.word s 0) = .number s 0 (-1074) := by cases s <;> decide
    rw [e2]
    exact den_mk 1074 (by omega) (by rw [signed_eq, Int.zero_mul, show (((0 : Nat) : Int)) = 0 from rfl, Int.zero_mul, Int.mul_zero])
  · have hn0 : n.natAbs ≠ 0 := by
      intro h0
      by_cases he : 0 ≤ e
      · have := h1 he; rw [h0] at this; rcases Nat.mul_eq_zero.1 this with h | h
        · exact hm h
        · exact Nat.ne_of_gt (Nat.two_pow_pos _) h
      · have := h2 (by omega); rw [h0, Nat.zero_mul] at this; exact hm this
    have hL : e + (m.log2 : Int) = (n.natAbs.log2 : Int) := by
      by_cases he : 0 ≤ e
      · have := h1 he; rw [← this, log2_mul_pow _ _ hm]; omega
      · have := h2 (by omega); conv => lhs; rw [this]
        rw [log2_mul_pow _ _ hn0]; omega
    have hL52 : n.natAbs.log2 ≤ 52 := by
      have := (Nat.log2_lt hn0).2 hn; omega
    have hp : double.leastPlace = -1074 := by decide
    have hb : double.binade = 2 ^ 52 := by decide
    have hf : (double.fractionBits : Int) = 52 := by decide
    have hi : double.infRung = 2047 * 2 ^ 52 := by decide
    -- the place of the last digit that is kept
    have hlast : max (e + (m.log2 : Int) - (double.fractionBits : Int)) double.leastPlace = (n.natAbs.log2 : Int) - 52 := by
      rw [hL, hf, hp]; omega
    have hk : Toward.even.cut s (m <<< (e - ((n.natAbs.log2 : Int) - 52)).toNat) (((n.natAbs.log2 : Int) - 52) - e).toNat = n.natAbs * 2 ^ (52 - n.natAbs.log2) := by
      rw [Nat.shiftLeft_eq]
      by_cases hc : (n.natAbs.log2 : Int) - 52 ≤ e
      · rw [show ((n.natAbs.log2 : Int) - 52 - e).toNat = 0 by omega, cut_even_exact _ _ _ (by omega) (by simp [Nat.mod_one]), Nat.pow_zero, Nat.div_one]
        by_cases he : 0 ≤ e
        · rw [show (e - ((n.natAbs.log2 : Int) - 52)).toNat = e.toNat + (52 - n.natAbs.log2) by omega, Nat.pow_add, ← Nat.mul_assoc, h1 he]
        · have := h2 (by omega)
          conv => lhs; rw [this]
          rw [Nat.mul_assoc, ← Nat.pow_add]; congr 2; omega
      · have he : e < 0 := by omega
        have hm2 := h2 he
        rw [show (e - ((n.natAbs.log2 : Int) - 52)).toNat = 0 by omega, Nat.pow_zero, Nat.mul_one]
        have hsplit : m = n.natAbs * 2 ^ (52 - n.natAbs.log2) * 2 ^ ((n.natAbs.log2 : Int) - 52 - e).toNat := by
          conv => lhs; rw [hm2]
          rw [Nat.mul_assoc, ← Nat.pow_add]; congr 2; omega
        rw [cut_even_exact _ _ _ (by omega) (by conv => lhs; rw [hsplit]
                                                exact Nat.mul_mod_left _ _)]
        conv => lhs; rw [hsplit]
        exact Nat.mul_div_cancel _ (Nat.two_pow_pos _)
    have hlo : 2 ^ 52 ≤ n.natAbs * 2 ^ (52 - n.natAbs.log2) := by
      have := Nat.log2_self_le hn0
      calc 2 ^ 52 = 2 ^ n.natAbs.log2 * 2 ^ (52 - n.natAbs.log2) := by rw [← Nat.pow_add]; congr 1; omega
        _ ≤ _ := Nat.mul_le_mul_right _ this
    have hhi : n.natAbs * 2 ^ (52 - n.natAbs.log2) < 2 ^ 53 := by
      have := @Nat.lt_log2_self n.natAbs
      calc n.natAbs * 2 ^ (52 - n.natAbs.log2) < 2 ^ (n.natAbs.log2 + 1) * 2 ^ (52 - n.natAbs.log2) := Nat.mul_lt_mul_of_pos_right this (Nat.two_pow_pos _)
        _ = 2 ^ 53 := by rw [← Nat.pow_add]; congr 1; omega
    have hnear : double.nearest s m e = double.word s ((n.natAbs.log2 + 1022) * 2 ^ 52 + n.natAbs * 2 ^ (52 - n.natAbs.log2)) := by
      unfold Format.nearest
      rw [if_neg hm]
      simp only [hlast, hk]
      rw [hb, hi, hp, show ((n.natAbs.log2 : Int) - 52 - -1074).toNat = n.natAbs.log2 + 1022 by omega, Nat.min_eq_left (by omega)]
    rw [hnear, read_rung s _ (by omega) (by omega)]
    generalize hK : n.natAbs * 2 ^ (52 - n.natAbs.log2) = K at hlo hhi
    have q1 : ((n.natAbs.log2 + 1022) * 2 ^ 52 + K) / 2 ^ 52 = n.natAbs.log2 + 1023 := by omega
    have q2 : 2 ^ 52 + ((n.natAbs.log2 + 1022) * 2 ^ 52 + K) % 2 ^ 52 = K := by omega
    rw [q1, q2]
    refine den_mk 52 (by omega) ?_
    have hn' : n ≠ 0 := by omega
    rw [h3 hn', signed_eq, show (-1074 + ((n.natAbs.log2 + 1023 - 1 : Nat) : Int) + ((52 : Nat) : Int)).toNat = n.natAbs.log2 by omega, ← hK]
    have e5 : (((n.natAbs * 2 ^ (52 - n.natAbs.log2) : Nat) : Int)) * 2 ^ n.natAbs.log2 = (n.natAbs : Int) * 2 ^ 52 := by
      have : (n.natAbs * 2 ^ (52 - n.natAbs.log2)) * 2 ^ n.natAbs.log2 = n.natAbs * 2 ^ 52 := by
        rw [Nat.mul_assoc, ← Nat.pow_add]; congr 2; omega
      have := congrArg (fun x : Nat => (x : Int)) this
      simpa [Int.natCast_mul, Int.natCast_pow] using this
    rw [e5]
    by_cases h4 : n < 0
    · rw [show decide (n < 0) = true by simpa using h4]; simp only [if_true]
      rw [← Int.mul_assoc, show (-1 : Int) * (n.natAbs : Int) = n by omega]
    · rw [show decide (n < 0) = false by simpa using h4]; simp only [Bool.false_eq_true, if_false]
      rw [← Int.mul_assoc, show (1 : Int) * (n.natAbs : Int) = n by omega]

theorem den_write {d : Datum} {n : Int} (h : Den d n) (hn : n.natAbs < 2 ^ 53) : Den (double.read (double.write d)) n := by
  obtain ⟨s, m, e, rfl, h⟩ := h
  exact den_nearest h hn

/-! ### Words -/
/-- The float64 word stands for the whole number n. -/
def Den64 (x : Nat) (n : Int) : Prop := Den (double.read x) n

theorem den_add {x y : Nat} {a b : Int} (h1 : Den64 x a) (h2 : Den64 y b) (hn : (a + b).natAbs < 2 ^ 53) : ∃ r, floatBits .add .f64 x y = some r ∧ Den64 r (a + b) := by
  obtain ⟨d, hd, hden⟩ := den_sum h1 h2
  exact ⟨double.write d, by show (((double.read x).sum (double.read y)).map double.write) = _; rw [hd]; rfl, den_write hden hn⟩
theorem den_sub {x y : Nat} {a b : Int} (h1 : Den64 x a) (h2 : Den64 y b) (hn : (a - b).natAbs < 2 ^ 53) : ∃ r, floatBits .sub .f64 x y = some r ∧ Den64 r (a - b) := by
  obtain ⟨d, hd, hden⟩ := den_sum h1 (den_opp h2)
  rw [← Int.sub_eq_add_neg] at hden
  exact ⟨double.write d, by show (((double.read x).sum (double.read y).opposite).map double.write) = _; rw [hd]; rfl, den_write hden hn⟩
theorem den_mul {x y : Nat} {a b : Int} (h1 : Den64 x a) (h2 : Den64 y b) (hn : (a * b).natAbs < 2 ^ 53) : ∃ r, floatBits .mul .f64 x y = some r ∧ Den64 r (a * b) := by
  obtain ⟨d, hd, hden⟩ := den_prod h1 h2
  exact ⟨double.write d, by show (((double.read x).product (double.read y)).map double.write) = _; rw [hd]; rfl, den_write hden hn⟩
theorem den_ofInt (n : Int) (hn : n.natAbs < 2 ^ 53) : Den64 (floatOfInt .f64 n) n := by
  refine den_write (d := .number (n < 0) n.natAbs 0) (den_mk 0 (by omega) ?_) hn
  have := signed_natAbs n (decide (n < 0)) 0
  simp only [ite_self] at this
  simpa using this
theorem den_zero : Den64 0 0 := den_ofInt 0 (by decide)

end Go.Proofs.Qxb6604684a.Fl
