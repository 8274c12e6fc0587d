/-
  DERIVED. The proof of 'Rows.PropIndicatorsFirstOccurrenceUnitsSaid': the arguments opened, the walk, the arguments shut.
-/
import Derived.Test.Qxb6003328aW6
import Derived.ProofKit
import Derived.OpenShut
import Derived.Deep.Slices
import Derived.Deep.MidRow
import Derived.Laws.LoneSync
namespace Go.Proofs.Qxb6003328a
open Go.ChangeShapes Go.WideShapes Go.ChangeAt Go.RowKit

theorem own : ownKnob Try.prog.godebug = none := by kernel_rfl
theorem laidOut : laidOutB Try.prog = true := by kernel_rfl
theorem cells3 : Try.prog.cellsOf 3 = 1 := by kernel_rfl
theorem cells9 : Try.prog.cellsOf 9 = 1 := by kernel_rfl

set_option maxRecDepth 100000 in
theorem int_of_trod {H : Type} {enc : TypeId × Value → H} {w : World} {base : Nat} {spare : Nat → Bool} {held : Bool} {fuel : Nat} {v : Value} {x : DataW H × List MemPlace} (h : DataW.trod enc Try.prog w base spare held fuel 3 [v] = some x) : ∃ b, v = .int .i64 b := by
  cases fuel with
  | zero => simp [DataW.trod] at h
  | succ m =>
    unfold DataW.trod at h
    rw [Try.underlying3] at h
    cases v <;> simp at h
    rename_i k b
    obtain ⟨⟨rfl, _⟩, _⟩ := h
    exact ⟨b, rfl⟩
set_option maxRecDepth 100000 in
theorem str_of_trod {H : Type} {enc : TypeId × Value → H} {w : World} {base : Nat} {spare : Nat → Bool} {held : Bool} {fuel : Nat} {v : Value} {x : DataW H × List MemPlace} (h : DataW.trod enc Try.prog w base spare held fuel 9 [v] = some x) : ∃ b, v = .string b := by
  cases fuel with
  | zero => simp [DataW.trod] at h
  | succ m =>
    unfold DataW.trod at h
    rw [Try.underlying9] at h
    cases v <;> simp at h
    rename_i b
    exact ⟨b, rfl⟩

set_option maxRecDepth 100000 in
theorem open_any {H : Type} {enc : TypeId × Value → H} {W : World} {v : Value} {d : DataW H} {p : List MemPlace} {b0 : Nat} {α : Type} [Inhabited α] (t e : TypeId) (mk : α → Value) (ht : Try.prog.underlying t = some (.slice e)) (hc1 : Try.prog.cellsOf e = 1)
    (hof : ∀ (n : Nat) (u : Value) (x : DataW H × List MemPlace), DataW.trod enc Try.prog W 0 (fun _ => true) true n e [u] = some x → ∃ b : α, u = mk b)
    (hv : Value.okWide Try.prog W .any b0 t v) (h : DataW.Trod enc Try.prog W 0 (fun _ => true) true t v d p) :
    ∃ (n : Nat) (X : Nat → α), SlV W v n (fun i => mk (X i)) := by
  obtain ⟨a0, len, cap, rfl⟩ := okWide_slice ht hv
  obtain ⟨fuel, hf⟩ := h
  rcases Deep.open_slice1 ht hc1 hf with ⟨hcs, _⟩ | ⟨a, len', cap', m, n, V, D, Pl, hcs, _, hl, hm, hmm, _, hV⟩
  · simp [Value.cells] at hcs
    obtain ⟨rfl, rfl, rfl⟩ := hcs
    exact ⟨0, fun _ => default, none, 0, rfl, fun h => absurd h (Nat.lt_irrefl 0)⟩
  · simp [Value.cells] at hcs
    obtain ⟨rfl, rfl, rfl⟩ := hcs
    have hmc : m = cap := by simpa using hmm
    obtain ⟨X, hX⟩ := Deep.choose_lt (α := α) (n := m) (p := fun i b => V i = mk b) (fun i hi => hof _ _ _ (hV i hi).2)
    refine ⟨len, X, _, cap, rfl, fun h0 => ?_⟩
    have c0 := (hV 0 (by omega)).1
    obtain ⟨b, off, sp⟩ := a
    have hsp : sp = none := by
      obtain ⟨_, _, _, _, hs⟩ := World.shape?_of_cell? c0
      unfold Addr.add at hs
      split at hs <;> simp_all
    subst hsp
    refine ⟨b, off, rfl, ?_, fun i hi => ?_⟩
    · rw [Addr.add_mid] at c0
      exact World.block_lt_of_cell? W _ c0
    · have ci := (hV i (by omega)).1
      rw [Addr.add_mid, hX i (by omega)] at ci
      exact ci

set_option maxRecDepth 100000 in
theorem lifted (os : Os) (started : os.Started) (H : Type) (enc : TypeId × Value → H) :
    ReturnsInHanded {} Try.checked os 4 .any (Rows.propIndicatorsFirstOccurrenceUnitsSpec.pre6 enc Try.prog Try.f4 Rows.propIndicatorsFirstOccurrenceUnitsRow.domain false) (Rows.propIndicatorsFirstOccurrenceUnitsSpec.post enc Try.prog Try.f4 false true false false) := by
  refine returnsInHanded_of_change (C := Try.checked) own started (by kernel_rfl) Try.func4
    (ChangeSpec.witness6 (enc := enc) (C := Try.checked) false ⟨#[], #[.slice none 0 0, .slice none 0 0, .slice none 0 0, .slice none 0 0, .int .i64 0, .slice none 0 0, .string ByteArray.empty], []⟩ 8 (by kernel_rfl) (by kernel_rfl) (by kernel_rfl) (by kernel_rfl)) ?_
  intro W base args ds gs before hval0 hW _ _
  have hval : ∀ (j : Nat) t v, Try.f4.params[j]? = some t → args[j]? = some v → Value.okWide Try.prog W .any base t v := hval0
  have hW' := hW
  obtain ⟨p, q, hA0, hV, rfl, hfz, hnd⟩ := hW
  have hA : DataW.TrodAll enc Try.prog W 0 (fun _ => true) true Try.f4.params.toList args.toList ds p := hA0
  rw [Try.params4] at hA hval
  obtain ⟨v0, vs0, d0, ds0, p0, q0, hargs, rfl, rfl, h0, r0⟩ := trodAll_cons hA
  obtain ⟨v1, vs1, d1, ds1, p1, q1, rfl, rfl, rfl, h1, r1⟩ := trodAll_cons r0
  obtain ⟨v2, vs2, d2, ds2, p2, q2, rfl, rfl, rfl, h2, r2⟩ := trodAll_cons r1
  obtain ⟨v3, vs3, d3, ds3, p3, q3, rfl, rfl, rfl, h3, r3⟩ := trodAll_cons r2
  obtain ⟨v4, vs4, d4, ds4, p4, q4, rfl, rfl, rfl, h4, r4⟩ := trodAll_cons r3
  obtain ⟨v5, vs5, d5, ds5, p5, q5, rfl, rfl, rfl, h5, r5⟩ := trodAll_cons r4
  obtain ⟨v6, vs6, d6, ds6, p6, q6, rfl, rfl, rfl, h6, r6⟩ := trodAll_cons r5
  obtain ⟨rfl, rfl, rfl⟩ := trodAll_nil r6
  obtain rfl : args = #[v0, v1, v2, v3, v4, v5, v6] := by cases args; simp_all
  obtain ⟨rfl, rfl⟩ := trodVars_none hV
  obtain ⟨n0, Y, s0⟩ := open_any 29 3 (Value.int .i64) Try.underlying29 cells3 (fun _ _ _ h => int_of_trod h) (hval 0 29 v0 rfl rfl) h0
  obtain ⟨n1, C, s1⟩ := open_any 29 3 (Value.int .i64) Try.underlying29 cells3 (fun _ _ _ h => int_of_trod h) (hval 1 29 v1 rfl rfl) h1
  obtain ⟨n2, N, s2⟩ := open_any 30 9 Value.string Try.underlying30 cells9 (fun _ _ _ h => str_of_trod h) (hval 2 30 v2 rfl rfl) h2
  obtain ⟨n3, U, s3⟩ := open_any 30 9 Value.string Try.underlying30 cells9 (fun _ _ _ h => str_of_trod h) (hval 3 30 v3 rfl rfl) h3
  obtain ⟨n5, F, s5⟩ := open_any 30 9 Value.string Try.underlying30 cells9 (fun _ _ _ h => str_of_trod h) (hval 5 30 v5 rfl rfl) h5
  obtain ⟨y, rfl⟩ := okWide_int Try.underlying3 (hval 4 3 v4 rfl rfl)
  obtain ⟨q, rfl⟩ := okWide_string Try.underlying9 (hval 6 9 v6 rfl rfl)
  clear hA0 hval0
  have hl0 : ∀ x ∈ p0, x.block < W.heap.size := fun x hx => hW'.lt x (by simp [hx])
  have hl1 : ∀ x ∈ p1, x.block < W.heap.size := fun x hx => hW'.lt x (by simp [hx])
  have hl2 : ∀ x ∈ p2, x.block < W.heap.size := fun x hx => hW'.lt x (by simp [hx])
  have hl3 : ∀ x ∈ p3, x.block < W.heap.size := fun x hx => hW'.lt x (by simp [hx])
  have hl4 : ∀ x ∈ p4, x.block < W.heap.size := fun x hx => hW'.lt x (by simp [hx])
  have hl5 : ∀ x ∈ p5, x.block < W.heap.size := fun x hx => hW'.lt x (by simp [hx])
  have hl6 : ∀ x ∈ p6, x.block < W.heap.size := fun x hx => hW'.lt x (by simp [hx])
  refine (law4 v0 v1 v2 v3 v5 n0 n1 n2 n3 n5 Y C N U F y q W s0 s1 s2 s3 s5).mono fun e W' ⟨he, hb⟩ => ?_
  subst he
  have a0 := Below.trod laidOut (by kernel_rfl) (of_decide_eq_true (by kernel_rfl)) h0 hb hl0
  have a1 := Below.trod laidOut (by kernel_rfl) (of_decide_eq_true (by kernel_rfl)) h1 hb hl1
  have a2 := Below.trod laidOut (by kernel_rfl) (of_decide_eq_true (by kernel_rfl)) h2 hb hl2
  have a3 := Below.trod laidOut (by kernel_rfl) (of_decide_eq_true (by kernel_rfl)) h3 hb hl3
  have a4 := Below.trod laidOut (by kernel_rfl) (of_decide_eq_true (by kernel_rfl)) h4 hb hl4
  have a5 := Below.trod laidOut (by kernel_rfl) (of_decide_eq_true (by kernel_rfl)) h5 hb hl5
  have a6 := Below.trod laidOut (by kernel_rfl) (of_decide_eq_true (by kernel_rfl)) h6 hb hl6
  refine ⟨_, rfl, _, _, _, [], p0 ++ (p1 ++ (p2 ++ (p3 ++ (p4 ++ (p5 ++ (p6 ++ [])))))), [], hW', trodAll_mk1 (shut_bool Try.underlying4 true), ?_, rfl, hb.frame _, fun h => by cases h⟩
  exact trodAll_cons_mk a0 (trodAll_cons_mk a1 (trodAll_cons_mk a2 (trodAll_cons_mk a3 (trodAll_cons_mk a4 (trodAll_cons_mk a5 (trodAll_cons_mk a6 trodAll_mk0))))))

/-- ████ THE STATEMENT ████ -/
theorem proved : Rows.PropIndicatorsFirstOccurrenceUnitsSaid :=
  OpenClaim.holds_of_wide 4 Try.f4 rfl rfl rfl rfl rfl rfl rfl ⟨rfl, rfl, rfl, rfl, rfl⟩ rfl rfl rfl rfl rfl (by kernel_rfl) Try.func4 (by kernel_rfl)
    (of_decide_eq_true (by kernel_rfl)) (by unfold Func.isWrapper; first | (rw [if_pos (by decide +kernel)]; kernel_rfl) | (rw [if_neg (by decide +kernel)]; exact ⟨rfl, rfl⟩))
    (fun os started H enc _ => lifted os started H enc)

end Go.Proofs.Qxb6003328a
