/-
  DERIVED. THE WALKS of zzc2Itoa, zzc2ShapeOK, zzBytes.
-/
import Derived.Test.Qxb6003328aRows
import Derived.WalkKit
import Derived.WalkSpells
import Derived.WalkLawsBesides
import Derived.Deep.LoopGhost
import Derived.Deep.OwnRows
import Derived.Laws.BytesArg
import Derived.Lib.Walk
namespace Go.Proofs.Qxb6003328a
open Go.RowKit

/-- The digits' bytes. -/
def dg (m : Nat) : List Int := if _h : m = 0 then [] else dg (m / 10) ++ [((48 + m % 10 : Nat) : Int)]
termination_by m
decreasing_by omega
theorem dg_zero : dg 0 = [] := by rw [dg]; simp
theorem dg_pos {m : Nat} (h : m ≠ 0) : dg m = dg (m / 10) ++ [((48 + m % 10 : Nat) : Int)] := by rw [dg]; simp [h]
/-- What zzc2Itoa gives at a number below 1000. -/
def ita (n : Nat) : ByteArray := if n = 0 then ⟨#[48]⟩ else strOfNums (dg n)

theorem wrapOk {x : Int} (h0 : 0 ≤ x) (h1 : x ≤ 1000000000) : IntKind.i64.wrap x = x := by
  rw [IntKind.wrap_i64]; omega

set_option maxHeartbeats 1000000 in
theorem itoa12 (n : Nat) (w : World) (hn : n < 1000) :
    Calls Try.prog 12 #[.int .i64 n] w fun e w' => e = .returned (.string (ita n)) ∧ Below w.heap.size w w' := by
  by_cases h0 : n = 0
  · subst h0
    go_enter Try.func12, Try.ntmps12
    go_wp2
    go_ret
    exact ⟨rfl, Below.refl _ w⟩
  · have hpos : ¬ ((n : Int) ≤ 0) := by omega
    go_enter Try.func12, Try.ntmps12
    go_wp2
    go_loopg [0, 4] 24 (fun gg s0 s4 wr => ∃ (r m : Nat) (ds : List Int), r ≤ 24 ∧ r ≤ gg ∧ ds.length + r = 24 ∧ ((r = 24 ∧ m = n) ∨ (r = 23 ∧ m < 100) ∨ (r = 22 ∧ m < 10) ∨ (r = 21 ∧ m = 0)) ∧ s0 = .int .i64 m ∧ s4 = .int .i64 r ∧ Hid (dg m ++ ds = dg n) ∧ Hid (wr.rowIs w.heap.size 57 24 (fun j => if j < r then .int .u8 0 else .int .u8 (ds.getD (j - r) 0))) ∧ Hid (Below w.heap.size w wr))
    case atStart =>
      refine ⟨24, n, [], by omega, by omega, rfl, by omega, rfl, rfl, (show Hid _ from List.append_nil _), ?_, (Below.refl _ w).alloc (Nat.le_refl _) _⟩
      exact World.rowIs.congr (World.rowIs_alloc w _ 57 (fun _ => .int .u8 0) (fun i hi => by
        change i < 24 at hi
        show (Array.replicate 24 (Value.int IntKind.u8 0))[i]? = _
        simp [hi])) (fun j hj => by simp [show j < 24 from hj])
    case round =>
      obtain ⟨r, m, ds, hr, hg, hl, hm, rfl, rfl, D, R, BW⟩ := hrel
      by_cases hz : m = 0
      · subst hz
        have hdl : ds.length = 24 - r := by omega
        have hcv := run_convert_bytes_arg (P := Try.prog) wr 22 5 Try.underlying22 Try.underlying5 w.heap.size r (24 - r) (24 - r) ds hdl (fun i hi => by
          rw [R.out.cell (by omega)]; simp [show ¬ r + i < r by omega]) 9 Try.underlying9
        have D' : Hid (ds = dg n) := by have := D.out; rw [dg_zero] at this; exact this
        have hrz : (r : Int) ≤ 24 := by omega
        clear D R
        go_wp2_with fail
        go_ret
        refine ⟨?_, BW.out⟩
        rw [D'.out, ita, if_neg h0]; rfl
      · obtain ⟨r', rfl⟩ : ∃ r', r = r' + 1 := ⟨r - 1, by omega⟩
        have hsub : IntKind.i64.wrap (((r' + 1 : Nat) : Int) - 1) = (r' : Int) := by rw [show ((r' + 1 : Nat) : Int) - 1 = (r' : Int) by omega]; exact wrapOk (by omega) (by omega)
        have hmz : (0 : Int) < (m : Int) := by omega
        have hc1 : wr.cell? ⟨w.heap.size, r', none⟩ = some (.int .u8 0) := by rw [R.out.cell (by omega)]; simp
        have hf1 : wr.frozen? ⟨w.heap.size, r', none⟩ = false := R.out.frozen _
        go_wp2
        go_roundg r'
        case measure => omega
        case rel =>
          refine ⟨r', m / 10, ((48 + m % 10 : Nat) : Int) :: ds, by omega, by omega, by simp; omega, by omega, by simp, rfl, (show Hid _ from ?_), (show Hid _ from ?_), BW.out.setCell (by simp) _⟩
          · have := D.out
            rw [dg_pos hz] at this
            have h2 : dg (m / 10) ++ (((48 + m % 10 : Nat) : Int) :: ds) = dg n := by rw [← this]; simp
            exact h2
          · refine (R.out.set _ _).congr (fun j hj => ?_)
            by_cases e : j = r'
            · subst e; simp
            · by_cases e2 : j < r'
              · simp [e, e2, show j < r' + 1 by omega]
              · simp [e, e2, show ¬ j < r' + 1 by omega, show j - r' = (j - (r' + 1)) + 1 by omega]

/-- The value v is a slice of n one-cell elements X. -/
def SlV (w : World) (v : Value) (n : Nat) (X : Nat → Value) : Prop := ∃ ad cap, v = .slice ad n cap ∧ (0 < n → ∃ b off, ad = some ⟨b, off, none⟩ ∧ b < w.heap.size ∧ ∀ i, i < n → w.cell? ⟨b, off + i, none⟩ = some (X i))
theorem SlV.later {w w' : World} {v : Value} {n : Nat} {X : Nat → Value} (h : SlV w v n X) (hb : Below w.heap.size w w') : SlV w' v n X := by
  obtain ⟨ad, cap, hv, h⟩ := h
  refine ⟨ad, cap, hv, fun hn => ?_⟩
  obtain ⟨b, off, ha, hl, hc⟩ := h hn
  exact ⟨b, off, ha, Nat.lt_of_lt_of_le hl hb.size, fun i hi => (hb.cell (p := ⟨b, off + i, none⟩) hl).trans (hc i hi)⟩

/-- The sum of the first n counts. -/
def sumTo (C : Nat → Int) : Nat → Int
  | 0 => 0
  | n + 1 => sumTo C n + C n
structure Shape (n0 n1 n2 n3 n5 : Nat) (C : Nat → Int) : Prop where
  a : n0 ≤ 64
  b : n1 = n0
  c : n2 ≤ 256
  d : n3 = n2
  e : n5 ≤ 64
  f : ∀ t, t < n1 → 0 ≤ C t ∧ C t ≤ 16
  g : sumTo C n1 = n2
/-- What zzc2ShapeOK says. -/
def ShRes (n0 n1 n2 n3 n5 : Nat) (C : Nat → Int) (e : Ending) : Prop := e = .returned (.bool false) ∨ (e = .returned (.bool true) ∧ Shape n0 n1 n2 n3 n5 C)
/-- It hands back a bool. -/
def AnyB (e : Ending) : Prop := e = .returned (.bool false) ∨ e = .returned (.bool true)

theorem sumTo_bd (C : Nat → Int) : ∀ k, (∀ t, t < k → 0 ≤ C t ∧ C t ≤ 16) → 0 ≤ sumTo C k ∧ sumTo C k ≤ 16 * k
  | 0, _ => by simp [sumTo]
  | k + 1, h => by have h1 := sumTo_bd C k (fun t ht => h t (by omega)); have h2 := h k (by omega); simp only [sumTo]; omega

set_option maxHeartbeats 1000000 in
theorem shape10 (v1 : Value) (a0 a2 a3 a5 : Option Addr) (n0 n1 n2 n3 n5 c0 c2 c3 c5 : Nat) (C : Nat → Int) (w : World) (s1 : SlV w v1 n1 (fun i => .int .i64 (C i))) :
    Calls Try.prog 10 #[.slice a0 n0 c0, v1, .slice a2 n2 c2, .slice a3 n3 c3, .slice a5 n5 c5] w fun e w' => ShRes n0 n1 n2 n3 n5 C e ∧ w' = w := by
  obtain ⟨a1, c1, rfl, hs⟩ := s1
  have HS : Hid (0 < n1 → ∃ b off, a1 = some ⟨b, off, none⟩ ∧ b < w.heap.size ∧ ∀ i, i < n1 → w.cell? ⟨b, off + i, none⟩ = some (.int .i64 (C i))) := hs
  clear hs
  by_cases h1 : 64 < n0
  · have g1 : (64 : Int) < (n0 : Int) := by omega
    go_enter Try.func10, Try.ntmps10
    go_wp2
    go_ret
    exact ⟨.inl rfl, rfl⟩
  have g1 : ¬ (64 : Int) < (n0 : Int) := by omega
  by_cases h2 : n1 = n0
  case neg =>
    have g2 : ¬ (n1 : Int) = (n0 : Int) := by omega
    go_enter Try.func10, Try.ntmps10
    go_wp2
    go_ret
    exact ⟨.inl rfl, rfl⟩
  subst h2
  by_cases h3 : 256 < n2
  · have g3 : (256 : Int) < (n2 : Int) := by omega
    go_enter Try.func10, Try.ntmps10
    go_wp2
    go_ret
    exact ⟨.inl rfl, rfl⟩
  have g3 : ¬ (256 : Int) < (n2 : Int) := by omega
  by_cases h4 : n3 = n2
  case neg =>
    have g4 : ¬ (n3 : Int) = (n2 : Int) := by omega
    go_enter Try.func10, Try.ntmps10
    go_wp2
    go_ret
    exact ⟨.inl rfl, rfl⟩
  subst h4
  by_cases h5 : 64 < n5
  · have g5 : (64 : Int) < (n5 : Int) := by omega
    go_enter Try.func10, Try.ntmps10
    go_wp2
    go_ret
    exact ⟨.inl rfl, rfl⟩
  have g5 : ¬ (64 : Int) < (n5 : Int) := by omega
  have HR : Hid (∀ b : Bool, b = true → ((∀ t, t < n1 → 0 ≤ C t ∧ C t ≤ 16) ∧ sumTo C n1 = n3) → ShRes n1 n1 n3 n3 n5 C (.returned (.bool b))) := fun b hb h => .inr ⟨by rw [hb], ⟨by omega, rfl, by omega, rfl, by omega, h.1, h.2⟩⟩
  go_enter Try.func10, Try.ntmps10
  go_wp2
  go_loopw [11, 12] (fun s11 s12 wr => wr = w ∧ ∃ k : Nat, k ≤ n1 ∧ s12 = .int .i64 k ∧ s11 = .int .i64 (sumTo C k) ∧ Hid (∀ t, t < k → 0 ≤ C t ∧ C t ≤ 16)) (fun _ s12 _ => n1 - (intOf s12).toNat)
  case atStart => exact ⟨rfl, 0, Nat.zero_le _, rfl, rfl, fun t ht => absurd ht (Nat.not_lt_zero _)⟩
  case round =>
    obtain ⟨rfl, k, hk, rfl, rfl, A⟩ := hrel
    by_cases hlt : k < n1
    · obtain ⟨b, off, rfl, hb, hc⟩ := HS.out (by omega)
      have hck := hc k hlt
      clear hc
      have hltz : (k : Int) < (n1 : Int) := by omega
      have bd := sumTo_bd C k A.out
      have BD : Hid (0 ≤ sumTo C k ∧ sumTo C k ≤ 16 * k) := bd
      clear bd
      by_cases q1 : C k < 0
      · have q1' : ¬ (16 : Int) < C k := by omega
        go_wp2
        go_ret
        exact ⟨.inl rfl, rfl⟩
      · by_cases q2 : 16 < C k
        · go_wp2
          go_ret
          exact ⟨.inl rfl, rfl⟩
        · have hw : IntKind.i64.wrap (sumTo C k + C k) = sumTo C k + C k := wrapOk (by have := BD.out; omega) (by have := BD.out; omega)
          go_wp2
          go_roundw
          case rel =>
            refine ⟨trivial, k + 1, by omega, by go_num, rfl, (show Hid _ from fun t ht => ?_)⟩
            by_cases e : t = k
            · subst e; omega
            · exact A.out t (by omega)
          case measure => simp [intOf]; omega
    · have hk2 : k = n1 := by omega
      subst hk2
      have hltz : ¬ (k : Int) < (k : Int) := by omega
      by_cases q : sumTo C k = n3
      · go_wp2
        go_ret
        exact ⟨HR.out _ (by simp) ⟨A.out, q⟩, rfl⟩
      · go_wp2
        go_ret
        exact ⟨.inl (by simp [q]), rfl⟩
end Go.Proofs.Qxb6003328a
