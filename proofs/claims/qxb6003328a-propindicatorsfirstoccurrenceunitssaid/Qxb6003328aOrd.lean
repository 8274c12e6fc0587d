/-
  DERIVED. A region that draws its order and ends in one operation z that waits for all the others: a condition S on the world is held till z comes up (z itself may break it: 'x.f = append(x.f, ..)' loads the very cell that it stores at its end).
-/
import Derived.Deep.RegionHeld3
namespace Go.Proofs.Qxb6003328a
open Go
variable {P : Program} {ops : Array Oper} {Q : Exit → Act → World → Prop} {md : Region.Mode} {S : World → Prop} {z : Nat}

/-- Whatever order is picked, S holds behind every operation but z. -/
def Until (P : Program) (md : Region.Mode) (ops : Array Oper) (Q : Exit → Act → World → Prop) (S : World → Prop) (z : Nat) : Nat → Array Bool → Act → World → Prop
  | 0, listed, a, w => Region.ready md ops listed = [] ∧ Q .normal a w
  | fuel + 1, listed, a, w =>
    (Region.ready md ops listed = [] → Q .normal a w) ∧
    ∀ i ∈ Region.ready md ops listed, wpOp P ops Q i (fun a' w' => (i ≠ z → S w') ∧ Until P md ops Q S z fuel (listed.setIfInBounds i true) a' w') a w

theorem Until.any : ∀ (fuel : Nat) (listed : Array Bool) (a : Act) (w : World), Until P md ops Q S z fuel listed a w → wpAny P md ops Q fuel listed a w
  | 0, _, _, _, h => h
  | fuel + 1, _, _, _, h => ⟨h.1, fun i hi => wpOp_mono (fun a' w' h' => Until.any fuel _ a' w' h'.2) (h.2 i hi)⟩

/-- z waits for i. -/
def waits (md : Region.Mode) (ops : Array Oper) (z i : Nat) : Bool := match ops[z]? with
  | some o => o.after.any fun e => Region.binds md e && e.on == i
  | none => false

theorem Until.first {i : Nat} {oi : Oper} {v : Value} (hi : ops[i]? = some oi) (hsel : ∀ (j : Nat) (o : Oper) cs b, ops[j]? = some o → o.op ≠ .select cs b)
    (hQ : ∀ c a w, Q (.panic c) (a.put oi.dst v) w → Q (.panic c) a w) (hz : waits md ops z i = true) :
    ∀ (fuel : Nat) (listed : Array Bool) (a : Act) (w : World),
      (∀ j oj, ops[j]? = some oj → j ≠ i → listed.getD j true = false → (∀ e ∈ oj.after, Region.binds md e = true → e.on ≠ i) → oi.apart ops oj = true) →
      i ∈ Region.ready md ops listed → YieldsIf P ops S oi v a → S w →
      Until P md ops Q S z fuel (listed.setIfInBounds i true) (a.put oi.dst v) w → Until P md ops Q S z (fuel + 1) listed a w := by
  intro fuel
  induction fuel with
  | zero =>
    intro listed a w _ hr hy hS H
    refine ⟨fun h => absurd hr (by rw [h]; exact List.not_mem_nil), fun j hj => ?_⟩
    by_cases e : j = i
    · subst e; exact hy.wpOp hi hS ⟨fun _ => hS, H⟩
    · exact absurd (ready_mono hj e) (by rw [H.1]; exact List.not_mem_nil)
  | succ fuel ih =>
    intro listed a w hfree hr hy hS H
    refine ⟨fun h => absurd hr (by rw [h]; exact List.not_mem_nil), fun j hj => ?_⟩
    by_cases e : j = i
    · subst e; exact hy.wpOp hi hS ⟨fun _ => hS, H⟩
    · obtain ⟨hun, oj, hoj, hall⟩ := mem_ready.1 hj
      have hno : ∀ e ∈ oj.after, Region.binds md e = true → e.on ≠ i := fun e1 he hb heq => by
        have g1 := hall e1 he hb
        have g0 := (mem_ready.1 hr).1
        rw [heq] at g1
        rcases Nat.lt_or_ge i listed.size with h' | h'
        · simp [h'] at g0 g1; rw [g0] at g1; cases g1
        · simp [Array.getElem?_eq_none h'] at g1
      have hjz : j ≠ z := fun ez => by
        subst ez
        unfold waits at hz
        rw [hoj] at hz
        obtain ⟨e1, he, hb⟩ := Array.any_eq_true'.1 hz
        simp only [Bool.and_eq_true, beq_iff_eq] at hb
        exact hno e1 he hb.1 hb.2
      have h2 := wpOp_putIf hoj (hfree j oj hoj e hun hno) (fun cs b => hsel i oi cs b hi) (fun cs b => hsel j oj cs b hoj) hQ hy (H.2 j (ready_mono hj e))
      refine wpOp_mono (fun a' w' h3 => ⟨h3.2.1, ih _ a' w' (fun k ok hk hki hu hn => hfree k ok hk hki ?_ hn) (ready_mono hr (Ne.symm e)) h3.1 (h3.2.1 hjz) ?_⟩) h2
      · by_cases hjk : j = k
        · subst hjk; exact hun
        · rw [getD_set_ne true hjk] at hu; exact hu
      · rw [Array.setIfInBounds_comm _ _ e]; exact h3.2.2

theorem Until.take {i : Nat} {oi : Oper} {v : Value} {fuel : Nat} {listed : Array Bool} {a : Act} {w : World} (hi : ops[i]? = some oi) (hs : Region.noSelect ops = true) (hf : Region.free md ops listed i = true) (hr : (Region.ready md ops listed).contains i = true)
    (hz : waits md ops z i = true) (hQ : ∀ c a w, Q (.panic c) (a.put oi.dst v) w → Q (.panic c) a w) (hgd : oi.guard = none) (hS : S w) (hy : ∀ w, S w → (execOp a.eval oi).run P w = .ok (.value v) w)
    (h : Until P md ops Q S z fuel (listed.setIfInBounds i true) (a.put oi.dst v) w) : Until P md ops Q S z (fuel + 1) listed a w :=
  Until.first hi (Region.noSelect_spec hs) hQ hz fuel listed a w (Region.free_spec hi hf) (by simpa using hr) (Or.inl ⟨by simp [Region.wanted, hgd], hy⟩) hS h

/-- One operation alone may come up. -/
theorem Until.one {i : Nat} {o : Oper} {fuel : Nat} {listed : Array Bool} {a : Act} {w : World} (hr : Region.ready md ops listed = [i]) (hi : ops[i]? = some o) (hgd : o.guard = none)
    (h : ∀ K : Act → World → Prop, (∀ a' w', (i ≠ z → S w') → Until P md ops Q S z fuel (listed.setIfInBounds i true) a' w' → K a' w') → Oper.wp P o a w K Q) : Until P md ops Q S z (fuel + 1) listed a w := by
  refine ⟨fun h => absurd h (by rw [hr]; exact List.cons_ne_nil _ _), fun j hj => ?_⟩
  rw [hr, List.mem_singleton] at hj
  subst hj
  unfold wpOp
  simp only [hi]
  rw [if_pos (by simp [Region.wanted, hgd])]
  exact .inl (h _ fun a' w' h1 h2 => ⟨h1, h2⟩)

theorem Until.done {listed : Array Bool} {a : Act} {w : World} (hr : Region.ready md ops listed = []) (h : Q .normal a w) : ∀ fuel, Until P md ops Q S z fuel listed a w
  | 0 => ⟨hr, h⟩
  | _ + 1 => ⟨fun _ => h, by rw [hr]; simp⟩

theorem Until.start {id : Nat} {a : Act} {w : World} (hm : P.follows .mixedOrders = true) (h : Until P .any ops Q S z ops.size (Array.replicate ops.size false) a w.drew) : (Code.region id ops true).wp P Q a w :=
  wp_region_any hm (Until.any _ _ _ _ h)
end Go.Proofs.Qxb6003328a
