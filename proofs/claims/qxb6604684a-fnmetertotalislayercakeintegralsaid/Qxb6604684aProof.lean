/-
  DERIVED. The proof of 'Rows.FnMeterTotalIsLayerCakeIntegralSaid': the arguments opened, the walk, the arguments shut.
-/
import Derived.Test.Qxb6604684aW5
import Derived.ProofKit
import Derived.OpenShut
import Derived.Deep.Slices
import Derived.Deep.MidRow
import Derived.Laws.LoneSync
namespace Go.Proofs.Qxb6604684a
open Go.ChangeShapes Go.WideShapes Go.ChangeAt Go.RowKit

theorem own : ownKnob Try.prog.godebug = none := by kernel_rfl
theorem laidOut : laidOutB Try.prog = true := by kernel_rfl
theorem cells29 : Try.prog.cellsOf 29 = 1 := by kernel_rfl

theorem float_of_trod {H : Type} {enc : TypeId × Value → H} {w : World} {base : Nat} {spare : Nat → Bool} {held : Bool} {fuel : Nat} {v : Value} {x : DataW H × List MemPlace} (h : DataW.trod enc Try.prog w base spare held fuel 29 [v] = some x) : ∃ b, v = .float .f64 b := by
  cases fuel with
  | zero => simp [DataW.trod] at h
  | succ m =>
    unfold DataW.trod at h
    rw [Try.underlying29] at h
    cases v <;> simp at h
    rename_i k b
    obtain ⟨⟨rfl, _⟩, _⟩ := h
    exact ⟨b, rfl⟩

theorem open_floats {H : Type} {enc : TypeId × Value → H} {W : World} {v : Value} {d : DataW H} {p : List MemPlace} {b0 : Nat} (hv : Value.okWide Try.prog W .any b0 22 v) (h : DataW.Trod enc Try.prog W 0 (fun _ => true) true 22 v d p) :
    ∃ n X, SlF W v n X ∧ n ≤ maxLen := by
  obtain ⟨a0, len, cap, rfl⟩ := okWide_slice Try.underlying22 hv
  obtain ⟨fuel, hf⟩ := h
  rcases Deep.open_slice1 Try.underlying22 cells29 hf with ⟨hcs, _⟩ | ⟨a, len', cap', m, n, V, D, Pl, hcs, _, hl, hm, hmm, _, hV⟩
  · simp [Value.cells] at hcs
    obtain ⟨rfl, rfl, rfl⟩ := hcs
    exact ⟨0, fun _ => 0, .inl ⟨rfl, rfl⟩, Nat.zero_le _⟩
  · simp [Value.cells] at hcs
    obtain ⟨rfl, rfl, rfl⟩ := hcs
    have hmc : m = cap := by simpa using hmm
    obtain ⟨X, hX⟩ := Deep.choose_lt (α := Nat) (n := m) (p := fun i b => V i = .float .f64 b) (fun i hi => float_of_trod (hV i hi).2)
    refine ⟨len, X, .inr ⟨a, cap, rfl, ?_⟩, by omega⟩
    by_cases h0 : len = 0
    · exact .inl h0
    · right
      have c0 := (hV 0 (by omega)).1
      obtain ⟨b, off, sp⟩ := a
      have hsp : sp = none := by
        obtain ⟨_, _, _, _, hs⟩ := World.shape?_of_cell? c0
        unfold Addr.add at hs
        split at hs <;> simp_all
      subst hsp
      refine ⟨b, off, rfl, ?_, fun i hi => ?_⟩
      · rw [Addr.add_mid] at c0
        exact World.block_lt_of_cell? W _ c0
      · have ci := (hV i (by omega)).1
        rw [Addr.add_mid, hX i (by omega)] at ci
        exact ci

set_option maxRecDepth 100000 in
theorem lifted (os : Os) (started : os.Started) (H : Type) (enc : TypeId × Value → H) :
    ReturnsInHanded {} Try.checked os 3 .any (Rows.fnMeterTotalIsLayerCakeIntegralSpec.pre6 enc Try.prog Try.f3 Rows.fnMeterTotalIsLayerCakeIntegralRow.domain false) (Rows.fnMeterTotalIsLayerCakeIntegralSpec.post enc Try.prog Try.f3 false true false false) := by
  refine returnsInHanded_of_change (C := Try.checked) own started (by kernel_rfl) Try.func3
    (ChangeSpec.witness6 (enc := enc) (C := Try.checked) false ⟨#[], #[.slice none 0 0, .slice none 0 0], []⟩ 8 (by kernel_rfl) (by kernel_rfl) (by kernel_rfl) (by kernel_rfl)) ?_
  intro W base args ds gs before hval0 hW _ _
  have hval : ∀ (j : Nat) t v, Try.f3.params[j]? = some t → args[j]? = some v → Value.okWide Try.prog W .any base t v := hval0
  have hW' := hW
  obtain ⟨p, q, hA0, hV, rfl, hfz, hnd⟩ := hW
  have hA : DataW.TrodAll enc Try.prog W 0 (fun _ => true) true Try.f3.params.toList args.toList ds p := hA0
  rw [Try.params3] at hA hval
  obtain ⟨v0, vs0, d0, ds0, p0, q0, hargs, rfl, rfl, h0, r0⟩ := trodAll_cons hA
  obtain ⟨v1, vs1, d1, ds1, p1, q1, rfl, rfl, rfl, h1, r1⟩ := trodAll_cons r0
  obtain ⟨rfl, rfl, rfl⟩ := trodAll_nil r1
  obtain rfl : args = #[v0, v1] := by cases args; simp_all
  obtain ⟨rfl, rfl⟩ := trodVars_none hV
  obtain ⟨n0, X, s0, m0⟩ := open_floats (hval 0 22 v0 rfl rfl) h0
  obtain ⟨n1, Y, s1, m1⟩ := open_floats (hval 1 22 v1 rfl rfl) h1
  clear hA0 hval0
  have hl0 : ∀ x ∈ p0, x.block < W.heap.size := fun x hx => hW'.lt x (by simp [hx])
  have hl1 : ∀ x ∈ p1, x.block < W.heap.size := fun x hx => hW'.lt x (by simp [hx])
  refine (law3_all v0 v1 n0 n1 X Y W m0 m1 s0 s1).mono fun e W' ⟨he, hb⟩ => ?_
  subst he
  have a0 := Below.trod laidOut (by kernel_rfl) (of_decide_eq_true (by kernel_rfl)) h0 hb hl0
  have a1 := Below.trod laidOut (by kernel_rfl) (of_decide_eq_true (by kernel_rfl)) h1 hb hl1
  refine ⟨_, rfl, _, _, _, [], p0 ++ (p1 ++ []), [], hW', trodAll_mk1 (shut_bool Try.underlying4 true), ?_, rfl, hb.frame _, fun h => by cases h⟩
  exact trodAll_cons_mk a0 (trodAll_cons_mk a1 trodAll_mk0)

/-- ████ THE STATEMENT ████ -/
theorem proved : Rows.FnMeterTotalIsLayerCakeIntegralSaid :=
  OpenClaim.holds_of_wide 3 Try.f3 rfl rfl rfl rfl rfl rfl rfl ⟨rfl, rfl, rfl, rfl, rfl⟩ rfl rfl rfl rfl rfl (by kernel_rfl) Try.func3 (by kernel_rfl)
    (of_decide_eq_true (by kernel_rfl)) (by unfold Func.isWrapper; first | (rw [if_pos (by decide +kernel)]; kernel_rfl) | (rw [if_neg (by decide +kernel)]; exact ⟨rfl, rfl⟩))
    (fun os started H enc _ => lifted os started H enc)

end Go.Proofs.Qxb6604684a
