/-
  DERIVED. THE WALKS of zzHexVal, zzIsZero20, zzDecodesTo and the two zzBytes.
-/
import Derived.Test.Qxb6604672aFmtW2
namespace Go.Proofs.Qxb6604672aFmt
open Go.RowKit Go.Extern.Stop Go.Stop Go.Extern

/-- The value of one lower-case hexadecimal digit, or -1. -/
def hv (c : Int) : Int := if 48 ≤ c ∧ c ≤ 57 then c - 48 else if 97 ≤ c ∧ c ≤ 102 then c - 97 + 10 else -1

theorem hexval25 (c : Int) (w : World) (h0 : 0 ≤ c) (h1 : c ≤ 255) : Calls Tryf.prog 25 #[.int .u8 c] w fun e w' => e = .returned (.int .i64 (hv c)) ∧ w' = w := by
  by_cases a : 48 ≤ c ∧ c ≤ 57
  · obtain ⟨a1, a2⟩ := a
    go_enter Tryf.func25, Tryf.ntmps25
    go_wp2
    go_ret
    exact ⟨by simp [hv, a1, a2], rfl⟩
  · by_cases b : 97 ≤ c ∧ c ≤ 102
    · obtain ⟨b1, b2⟩ := b
      have a2 : ¬ c ≤ 57 := by omega
      have E : hv c = c - 97 + 10 := by simp [hv, a2, b1, b2]
      rw [E]
      clear E
      clear a
      go_enter Tryf.func25, Tryf.ntmps25
      go_wp2
      go_ret
      exact ⟨rfl, rfl⟩
    · have e : hv c = -1 := by simp [hv, a, b]
      rw [e]
      clear e
      rcases (show c < 48 ∨ (57 < c ∧ c < 97) ∨ 102 < c from by omega) with h | ⟨h, h'⟩ | h
      all_goals
        clear a b
        go_enter Tryf.func25, Tryf.ntmps25
        go_wp2
        go_ret
        exact ⟨rfl, rfl⟩

theorem zeros_getD (k : Nat) : zeros.getD k 0 = 0 := by
  unfold zeros; rw [List.getD_eq_getElem?_getD, List.getElem?_replicate]; split <;> rfl

set_option maxHeartbeats 400000 in
theorem zero17 (xs : List Int) (hl : xs.length = 20) (w : World) :
    Calls Tryf.prog 17 #[.agg (idc xs).toArray] w fun e w' => e = .returned (.bool (decide (xs = zeros))) ∧ w' = w.alloc (.cells (idc xs).toArray 30) := by
  have hc : Hid (∀ k, k < 20 → (w.alloc (.cells (idc xs).toArray 30)).cell? ⟨w.heap.size, k, none⟩ = some (.int .u8 (xs.getD k 0))) := fun k hk => by
    have := rangeAt_new w (idc xs) 30 k (.int .u8 (xs.getD k 0)) (by simp [idc, hl, hk])
    rwa [Nat.zero_add] at this
  have HL : Hid (xs.length = 20) := hl
  clear hl
  go_enter Tryf.func17, Tryf.ntmps17
  go_wp2
  go_loop [3] (fun i => ∃ k : Nat, k ≤ 20 ∧ i = .int .i64 k ∧ Hid (∀ j, j < k → xs.getD j 0 = 0)) (fun i => 20 - (intOf i).toNat)
  case atStart => exact ⟨0, Nat.zero_le _, rfl, fun j hj => absurd hj (Nat.not_lt_zero _)⟩
  case round =>
    obtain ⟨k, hk, rfl, HJ⟩ := hrel
    by_cases hlt : k < 20
    · have hck := hc.out k hlt
      obtain ⟨x, hx⟩ : ∃ x, x = xs.getD k 0 := ⟨_, rfl⟩
      rw [← hx] at hck
      have HX : Hid (x = xs.getD k 0) := hx
      clear hx
      by_cases h0 : x = 0
      · have hb : (x != 0) = false := by simp [h0]
        have H0 : Hid (x = 0) := h0
        clear h0
        go_wp2
        go_round
        case rel =>
          refine ⟨k + 1, by omega, by go_num, fun j hj => ?_⟩
          by_cases e : j = k
          · rw [e, ← HX.out, H0.out]
          · exact HJ.out j (by omega)
        case measure => simp [intOf]; omega
      · have hb : (x != 0) = true := by simp [h0]
        have H0 : Hid (x ≠ 0) := h0
        clear h0
        go_wp2
        go_ret
        refine ⟨?_, rfl⟩
        have : xs ≠ zeros := fun e => H0.out (by rw [HX.out, e]; exact zeros_getD k)
        simp [this]
    · go_wp2
      go_ret
      refine ⟨?_, rfl⟩
      have : xs = zeros := by
        apply List.ext_getElem
        · rw [HL.out]; rfl
        · intro j h1 h2
          have := HJ.out j (by rw [HL.out] at h1; omega)
          rw [List.getD_eq_getElem?_getD, List.getElem?_eq_getElem h1] at this
          have h3 := zeros_getD j
          rw [List.getD_eq_getElem?_getD, List.getElem?_eq_getElem h2] at h3
          exact this.trans h3.symm
      simp [this]

set_option maxHeartbeats 400000 in
theorem decodes18 (s : ByteArray) (xs : List Int) (hs : s.size = 40) (hl : xs.length = 20) (hr : ∀ i, i < 20 → 0 ≤ xs.getD i 0 ∧ xs.getD i 0 < 256)
    (hd : ∀ k, k < 20 → ∃ (h1 : 2 * k < s.size) (h2 : 2 * k + 1 < s.size), 0 ≤ hv ((s[2 * k]'h1).toNat : Int) ∧ 0 ≤ hv ((s[2 * k + 1]'h2).toNat : Int) ∧ hv ((s[2 * k]'h1).toNat : Int) * 16 + hv ((s[2 * k + 1]'h2).toNat : Int) = xs.getD k 0) (w : World) :
    Calls Tryf.prog 18 #[.string s, .agg (idc xs).toArray] w fun e w' => e = .returned (.bool true) ∧ w' = w.alloc (.cells (idc xs).toArray 30) := by
  have hc : Hid (∀ k, k < 20 → (w.alloc (.cells (idc xs).toArray 30)).cell? ⟨w.heap.size, k, none⟩ = some (.int .u8 (xs.getD k 0))) := fun k hk => by
    have := rangeAt_new w (idc xs) 30 k (.int .u8 (xs.getD k 0)) (by simp [idc, hl, hk])
    rwa [Nat.zero_add] at this
  have HL : Hid (xs.length = 20) := hl
  have HR : Hid _ := hr
  have HD : Hid _ := hd
  clear hl hr hd
  go_enter Tryf.func18, Tryf.ntmps18
  go_wp2
  go_loop [5, 6, 7] (fun i _ _ => ∃ k : Nat, k ≤ 20 ∧ i = .int .i64 k) (fun i _ _ => 20 - (intOf i).toNat)
  case atStart => exact ⟨0, Nat.zero_le _, rfl⟩
  case round =>
    obtain ⟨k, hk, rfl⟩ := hrel
    by_cases hlt : k < 20
    · have hck := hc.out k hlt
      obtain ⟨h1, h2, p1, p2, p3⟩ := HD.out k hlt
      have hx := HR.out k hlt
      obtain ⟨x, hxe⟩ : ∃ x, x = xs.getD k 0 := ⟨_, rfl⟩
      rw [← hxe] at hck p3 hx
      clear hxe
      have q1 : ((s[2 * k]'h1).toNat : Int) ≤ 255 := by have := (s[2 * k]'h1).toNat_lt; omega
      have q2 : ((s[2 * k + 1]'h2).toNat : Int) ≤ 255 := by have := (s[2 * k + 1]'h2).toNat_lt; omega
      obtain ⟨hx0, hx1⟩ := hx
      go_wp2_with fail
      refine (hexval25 _ _ (by omega) q1).mono ?_
      rintro e w' ⟨rfl, rfl⟩
      obtain ⟨a, ha⟩ : ∃ a, a = hv ((s[2 * k]'h1).toNat : Int) := ⟨_, rfl⟩
      rw [← ha] at p1 p3 ⊢
      clear ha
      go_wp2_with fail
      refine (hexval25 _ _ (by omega) q2).mono ?_
      rintro e w' ⟨rfl, rfl⟩
      obtain ⟨b, hb⟩ : ∃ b, b = hv ((s[2 * k + 1]'h2).toNat : Int) := ⟨_, rfl⟩
      rw [← hb] at p2 p3 ⊢
      clear hb q1 q2
      have t1 : ¬ a < 0 := by omega
      have t2 : ¬ b < 0 := by omega
      have t3 : (a * 16 + b != x) = false := by simp [p3]
      have t4 : a * 16 + b ≤ 255 := by omega
      have t5 : a ≤ 15 := by omega
      have t6 : b ≤ 255 := by omega
      clear p3
      go_wp2
      go_round
      case rel => exact ⟨k + 1, by omega, by go_num⟩
      case measure => simp [intOf]; omega
    · go_wp2
      go_ret
      exact ⟨rfl, rfl⟩

/-- Do the lengths sum to at most 1<<20? -/
def fits (path msg : ByteArray) : Bool := decide (path.size + msg.size ≤ 1048576)
theorem bytes14 (path : ByteArray) (packed : Bool) (xs : List Int) (msg : ByteArray) (hasErr : Bool) (w : World) (hp : path.size ≤ maxLen) (hm : msg.size ≤ maxLen) :
    Calls Tryf.prog 14 #[.string path, .bool packed, .agg (idc xs).toArray, .string msg, .bool hasErr] w fun e w' => e = .returned (.bool (fits path msg)) ∧ Below w.heap.size w w' := by
  unfold maxLen at hp hm
  by_cases h : path.size + msg.size ≤ 1048576
  · have e : fits path msg = true := by simp [fits, h]
    rw [e]; clear e
    go_enter Tryf.func14, Tryf.ntmps14
    go_wp2
    go_ret
    exact ⟨rfl, by first | exact Below.refl _ _ | exact (Below.refl _ _).alloc (Nat.le_refl _) _⟩
  · have e : fits path msg = false := by simp [fits]; omega
    rw [e]; clear e
    go_enter Tryf.func14, Tryf.ntmps14
    go_wp2
    all_goals (go_ret; exact ⟨rfl, by first | exact Below.refl _ _ | exact (Below.refl _ _).alloc (Nat.le_refl _) _⟩)
theorem bytes19 (path : ByteArray) (packed : Bool) (xs : List Int) (msg : ByteArray) (hasErr : Bool) (w : World) (hp : path.size ≤ maxLen) (hm : msg.size ≤ maxLen) :
    Calls Tryf.prog 19 #[.string path, .bool packed, .agg (idc xs).toArray, .string msg, .bool hasErr] w fun e w' => e = .returned (.bool (fits path msg)) ∧ Below w.heap.size w w' := by
  unfold maxLen at hp hm
  by_cases h : path.size + msg.size ≤ 1048576
  · have e : fits path msg = true := by simp [fits, h]
    rw [e]; clear e
    go_enter Tryf.func19, Tryf.ntmps19
    go_wp2
    go_ret
    exact ⟨rfl, by first | exact Below.refl _ _ | exact (Below.refl _ _).alloc (Nat.le_refl _) _⟩
  · have e : fits path msg = false := by simp [fits]; omega
    rw [e]; clear e
    go_enter Tryf.func19, Tryf.ntmps19
    go_wp2
    all_goals (go_ret; exact ⟨rfl, by first | exact Below.refl _ _ | exact (Below.refl _ _).alloc (Nat.le_refl _) _⟩)
end Go.Proofs.Qxb6604672aFmt
