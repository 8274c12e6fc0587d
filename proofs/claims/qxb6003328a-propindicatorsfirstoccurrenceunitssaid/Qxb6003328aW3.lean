/-
  DERIVED. THE WALK of zzBytes.
-/
import Derived.Test.Qxb6003328aW2
namespace Go.Proofs.Qxb6003328a
open Go.RowKit

set_option maxHeartbeats 2000000 in
theorem bytes9 (v2 v3 v5 : Value) (a0 a1 : Option Addr) (n0 n1 n2 n3 n5 c0 c1 : Nat) (y : Int) (S2 S3 S5 : Nat → ByteArray) (q : ByteArray) (w : World)
    (s2 : SlV w v2 n2 (fun i => .string (S2 i))) (s3 : SlV w v3 n3 (fun i => .string (S3 i))) (s5 : SlV w v5 n5 (fun i => .string (S5 i))) :
    Calls Try.prog 9 #[.slice a0 n0 c0, .slice a1 n1 c1, v2, v3, .int .i64 y, v5, .string q] w fun e w' => AnyB e ∧ w' = w := by
  obtain ⟨a2, c2, rfl, h2⟩ := s2
  obtain ⟨a3, c3, rfl, h3⟩ := s3
  obtain ⟨a5, c5, rfl, h5⟩ := s5
  have HS2 : Hid (0 < n2 → ∃ b off, a2 = some ⟨b, off, none⟩ ∧ b < w.heap.size ∧ ∀ i, i < n2 → w.cell? ⟨b, off + i, none⟩ = some (.string (S2 i))) := h2
  have HS3 : Hid (0 < n3 → ∃ b off, a3 = some ⟨b, off, none⟩ ∧ b < w.heap.size ∧ ∀ i, i < n3 → w.cell? ⟨b, off + i, none⟩ = some (.string (S3 i))) := h3
  have HS5 : Hid (0 < n5 → ∃ b off, a5 = some ⟨b, off, none⟩ ∧ b < w.heap.size ∧ ∀ i, i < n5 → w.cell? ⟨b, off + i, none⟩ = some (.string (S5 i))) := h5
  clear h2 h3 h5
  by_cases p0 : (1048576 : Int) < (n0 : Int)
  · go_enter Try.func9, Try.ntmps9
    go_wp2
    go_ret
    exact ⟨.inl rfl, rfl⟩
  by_cases p1 : (1048576 : Int) < (n1 : Int)
  · go_enter Try.func9, Try.ntmps9
    go_wp2
    go_ret
    exact ⟨.inl rfl, rfl⟩
  have w1 : IntKind.i64.wrap ((n0 : Int) + (n1 : Int)) = (n0 : Int) + (n1 : Int) := wrapOk (by omega) (by omega)
  by_cases p2 : (1048576 : Int) < (n0 : Int) + (n1 : Int)
  · go_enter Try.func9, Try.ntmps9
    go_wp2
    go_ret
    exact ⟨.inl rfl, rfl⟩
  by_cases p3 : (1048576 : Int) < (n2 : Int)
  · go_enter Try.func9, Try.ntmps9
    go_wp2
    go_ret
    exact ⟨.inl rfl, rfl⟩
  have w2 : IntKind.i64.wrap ((n0 : Int) + (n1 : Int) + (n2 : Int)) = (n0 : Int) + (n1 : Int) + (n2 : Int) := wrapOk (by omega) (by omega)
  by_cases p4 : (1048576 : Int) < (n0 : Int) + (n1 : Int) + (n2 : Int)
  · go_enter Try.func9, Try.ntmps9
    go_wp2
    go_ret
    exact ⟨.inl rfl, rfl⟩
  go_enter Try.func9, Try.ntmps9
  go_wp2
  go_loopw [15, 16] (fun s15 si wr => w = wr ∧ ∃ (k : Nat) (s : Int), k ≤ n2 ∧ 0 ≤ s ∧ s ≤ 1048576 ∧ si = .int .i64 k ∧ s15 = .int .i64 s) (fun _ si _ => n2 - (intOf si).toNat)
  case atStart => exact ⟨rfl, 0, (n0 : Int) + (n1 : Int) + (n2 : Int), Nat.zero_le _, by omega, by omega, rfl, rfl⟩
  case round =>
    obtain ⟨rfl, k, s1, hk, hs0, hs1, rfl, rfl⟩ := hrel
    by_cases hlt : k < n2
    · obtain ⟨b, off, rfl, hb, hc⟩ := HS2.out (by omega)
      have hck := hc k hlt
      clear hc
      have hltz : (k : Int) < (n2 : Int) := by omega
      generalize S2 k = sk at hck
      by_cases l1 : (1048576 : Int) < (sk.size : Int)
      · go_wp2
        go_ret
        exact ⟨.inl rfl, rfl⟩
      have ww : IntKind.i64.wrap (s1 + (sk.size : Int)) = s1 + (sk.size : Int) := wrapOk (by omega) (by omega)
      by_cases m1 : (1048576 : Int) < s1 + (sk.size : Int)
      · go_wp2
        go_ret
        exact ⟨.inl rfl, rfl⟩
      go_wp2
      go_roundw
      case rel => exact ⟨trivial, k + 1, s1 + (sk.size : Int), by omega, by omega, by omega, by go_num, rfl⟩
      case measure => simp [intOf]; omega
    · have hk2 : k = n2 := by omega
      subst hk2
      have hltz : ¬ (k : Int) < (k : Int) := by omega
      by_cases y1 : (1048576 : Int) < (n3 : Int)
      · go_wp2
        go_ret
        exact ⟨.inl rfl, rfl⟩
      have ww : IntKind.i64.wrap (s1 + (n3 : Int)) = s1 + (n3 : Int) := wrapOk (by omega) (by omega)
      by_cases y2 : (1048576 : Int) < s1 + (n3 : Int)
      · go_wp2
        go_ret
        exact ⟨.inl rfl, rfl⟩
      go_wp2
      go_loopw [15, 17] (fun s15 si wr => w = wr ∧ ∃ (k : Nat) (s : Int), k ≤ n3 ∧ 0 ≤ s ∧ s ≤ 1048576 ∧ si = .int .i64 k ∧ s15 = .int .i64 s) (fun _ si _ => n3 - (intOf si).toNat)
      case atStart => exact ⟨rfl, 0, s1 + (n3 : Int), Nat.zero_le _, by omega, by omega, rfl, rfl⟩
      case round =>
        obtain ⟨rfl, k, s2, hk, hs0, hs1, rfl, rfl⟩ := hrel
        by_cases hlt : k < n3
        · obtain ⟨b, off, rfl, hb, hc⟩ := HS3.out (by omega)
          have hck := hc k hlt
          clear hc
          have hltz : (k : Int) < (n3 : Int) := by omega
          generalize S3 k = sk at hck
          by_cases l2 : (1048576 : Int) < (sk.size : Int)
          · go_wp2
            go_ret
            exact ⟨.inl rfl, rfl⟩
          have ww : IntKind.i64.wrap (s2 + (sk.size : Int)) = s2 + (sk.size : Int) := wrapOk (by omega) (by omega)
          by_cases m2 : (1048576 : Int) < s2 + (sk.size : Int)
          · go_wp2
            go_ret
            exact ⟨.inl rfl, rfl⟩
          go_wp2
          go_roundw
          case rel => exact ⟨trivial, k + 1, s2 + (sk.size : Int), by omega, by omega, by omega, by go_num, rfl⟩
          case measure => simp [intOf]; omega
        · have hk2 : k = n3 := by omega
          subst hk2
          have hltz : ¬ (k : Int) < (k : Int) := by omega
          by_cases x1 : (1048576 : Int) < (n5 : Int)
          · go_wp2
            go_ret
            exact ⟨.inl rfl, rfl⟩
          have ww : IntKind.i64.wrap (s2 + (n5 : Int)) = s2 + (n5 : Int) := wrapOk (by omega) (by omega)
          by_cases x2 : (1048576 : Int) < s2 + (n5 : Int)
          · go_wp2
            go_ret
            exact ⟨.inl rfl, rfl⟩
          go_wp2
          go_loopw [15, 18] (fun s15 si wr => w = wr ∧ ∃ (k : Nat) (s : Int), k ≤ n5 ∧ 0 ≤ s ∧ s ≤ 1048576 ∧ si = .int .i64 k ∧ s15 = .int .i64 s) (fun _ si _ => n5 - (intOf si).toNat)
          case atStart => exact ⟨rfl, 0, s2 + (n5 : Int), Nat.zero_le _, by omega, by omega, rfl, rfl⟩
          case round =>
            obtain ⟨rfl, k, s3, hk, hs0, hs1, rfl, rfl⟩ := hrel
            by_cases hlt : k < n5
            · obtain ⟨b, off, rfl, hb, hc⟩ := HS5.out (by omega)
              have hck := hc k hlt
              clear hc
              have hltz : (k : Int) < (n5 : Int) := by omega
              generalize S5 k = sk at hck
              by_cases l3 : (1048576 : Int) < (sk.size : Int)
              · go_wp2
                go_ret
                exact ⟨.inl rfl, rfl⟩
              have ww : IntKind.i64.wrap (s3 + (sk.size : Int)) = s3 + (sk.size : Int) := wrapOk (by omega) (by omega)
              by_cases m3 : (1048576 : Int) < s3 + (sk.size : Int)
              · go_wp2
                go_ret
                exact ⟨.inl rfl, rfl⟩
              go_wp2
              go_roundw
              case rel => exact ⟨trivial, k + 1, s3 + (sk.size : Int), by omega, by omega, by omega, by go_num, rfl⟩
              case measure => simp [intOf]; omega
            · have hk2 : k = n5 := by omega
              subst hk2
              have hltz : ¬ (k : Int) < (k : Int) := by omega
              by_cases z1 : (1048576 : Int) < (q.size : Int)
              · go_wp2
                go_ret
                exact ⟨.inl rfl, rfl⟩
              have ww : IntKind.i64.wrap (s3 + (q.size : Int)) = s3 + (q.size : Int) := wrapOk (by omega) (by omega)
              by_cases z2 : (1048576 : Int) < s3 + (q.size : Int)
              · go_wp2
                go_ret
                exact ⟨.inl rfl, rfl⟩
              go_wp2
              go_ret
              exact ⟨.inr rfl, rfl⟩
end Go.Proofs.Qxb6003328a
