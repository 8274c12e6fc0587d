/-
  DERIVED. What both told rows share: the arguments opened; closed facts of the dump.
-/
import Derived.Test.Qxb6604672aFmtTexts
import Derived.ProofKit
import Derived.OpenShut
import Derived.ShutString
import Derived.Stop.JoinedAt
import Derived.Stop.JoinedTold
import Derived.SevenToldRow
namespace Go.Proofs.Qxb6604672aFmt
open Go.ChangeShapes Go.WideShapes Go.ChangeAt Go.RowKit Go.Kit
open Go.Extern.Stop Go.Stop Go.Extern

theorem own : ownKnob Tryf.prog.godebug = none := by kernel_rfl
theorem laidOut : laidOutB Tryf.pinned.checked.prog = true := by kernel_rfl
theorem stopsAre : Tryf.pinned.checked.prog.stops = ["fmt.Sprintf, its operands' methods called", "fmt.errorf, its operands' methods called"] := by kernel_rfl
theorem stopKnobs : Tryf.pinned.checked.prog.stopKnobs = [] := by kernel_rfl
theorem quiet (os : Os) : Stop.quiet Tryf.pinned.checked.prog os := by
  intro k hk
  rw [stopKnobs] at hk
  cases hk
theorem cells30 : Tryf.prog.cellsOf 30 = 20 := by kernel_rfl
theorem cellsFive : Tryf.prog.cellsOf 5 = 1 := by kernel_rfl

/-- A list of twenty bytes' cells is 'idc' of its numbers. -/
theorem bytes_of_cells (l : List Value) (hl : l.length = 20) (h : ∀ i, i < 20 → ∃ x, l[i]? = some (.int .u8 x) ∧ 0 ≤ x ∧ x < 256) : ∃ xs, l = idc xs ∧ Bytes20 xs := by
  refine ⟨l.map (fun v => match v with | .int _ x => x | _ => 0), ?_, ?_, ?_⟩
  · apply List.ext_getElem?
    intro i
    by_cases hi : i < 20
    · obtain ⟨x, hx, _⟩ := h i hi
      simp [idc, hx]
    · rw [List.getElem?_eq_none (by omega), List.getElem?_eq_none (by simp [idc]; omega)]
  · simpa using hl
  · intro i hi
    obtain ⟨x, hx, h0, h1⟩ := h i hi
    rw [List.getD_eq_getElem?_getD]
    simp [hx, h0, h1]

/-- The array argument opened. -/
theorem open_id {H : Type} {enc : TypeId × Value → H} {W : World} {base : Nat} {v : Value} {d : DataW H} {p : List MemPlace} (hv : Value.okWide Tryf.prog W .any base 30 v) (h : DataW.Trod enc Tryf.prog W 0 (fun _ => true) true 30 v d p) :
    ∃ xs, v = .agg (idc xs).toArray ∧ Bytes20 xs := by
  obtain ⟨cs, rfl, hsz, _⟩ : ∃ cs, v = .agg cs ∧ cs.size = Tryf.prog.cellsOf 30 ∧ Row.okWide Tryf.prog W .any base 30 cs := by
    simpa [Value.okWide, Tryf.underlying30] using hv
  rw [cells30] at hsz
  obtain ⟨fuel, hf⟩ := h
  obtain ⟨ys, m, _, _, _, hlen, hy⟩ := DataW.trod_array Tryf.underlying30 hf
  obtain ⟨l⟩ := cs
  have hl : l.length = 20 := hsz
  obtain ⟨xs, e, hx⟩ := bytes_of_cells l hl (fun i hi => by
    have h1 := hy i hi
    rw [cellsFive, Nat.mul_one] at h1
    have h2 : i < ys.length := by omega
    rw [List.getElem?_eq_getElem h2] at h1
    obtain ⟨x, e0, _, w0⟩ := DataW.trod_int Tryf.underlying5 h1
    have h3 : i < l.length := by omega
    have e1 : l.drop i = l[i] :: l.drop (i + 1) := List.drop_eq_getElem_cons h3
    have e2 : [l[i]] = [Value.int .u8 x] := by
      rw [← e0]
      show _ = (l.drop i).take 1
      rw [e1]; rfl
    have e3 : l[i] = .int .u8 x := by simpa using e2
    obtain ⟨b0, b1⟩ : 0 ≤ x ∧ x ≤ 255 := by
      have := FmtText.int_bounds w0
      simpa [IntKind.min, IntKind.max, IntKind.signed, IntKind.bits] using this
    exact ⟨x, by rw [List.getElem?_eq_getElem h3, e3], b0, by omega⟩)
  exact ⟨xs, by rw [e], hx⟩

end Go.Proofs.Qxb6604672aFmt
