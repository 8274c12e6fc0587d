/-
  DERIVED. THE WALKS of the small callees: zzBytes, pairCount, cloneFloats, ZZnewMeter, sameFloat.
-/
import Derived.Test.Qxb6604684aRows
import Derived.Test.Qxb6604684aMath
import Derived.WalkKit
import Derived.WalkSpells
import Derived.WalkLawsBesides
import Derived.Deep.OwnRows
import Derived.Lib.SliceRun
namespace Go.Proofs.Qxb6604684a
open Go.RowKit

/-- A store of a float (the kit has the law for integers, bools, pointers, slices and strings). -/
theorem run_store_float {P : Program} (w : World) (a : Addr) (m : Mode) (k : FloatKind) (x : Nat) : (store a (.float k x) m).run P w = stored P w a (.float k x) m := run_store P w a _ m rfl
attribute [local go_sem] run_store_float

theorem info29 : (Try.prog.info? 29).map (fun i => (i.zero, i.size, i.bytes)) = some (some (.float .f64 0), 1, 8) := by kernel_rfl

theorem bytes4 (a0 a1 : Option Addr) (n0 n1 c0 c1 : Nat) (w : World) (h0 : n0 ≤ maxLen) (h1 : n1 ≤ maxLen) :
    Calls Try.prog 4 #[.slice a0 n0 c0, .slice a1 n1 c1] w fun e w' => e = .returned (.bool (decide (n0 + n1 ≤ 1048576))) ∧ w' = w := by
  unfold maxLen at h0 h1
  by_cases h : n0 + n1 ≤ 1048576
  · rw [show decide (n0 + n1 ≤ 1048576) = true by simpa using h]
    go_enter Try.func4, Try.ntmps4
    go_wp2
    go_ret
    exact ⟨rfl, rfl⟩
  · rw [show decide (n0 + n1 ≤ 1048576) = false by simpa using h]
    go_enter Try.func4, Try.ntmps4
    go_wp2
    all_goals (go_ret; exact ⟨rfl, rfl⟩)

theorem pair6 (a0 a1 : Option Addr) (n0 n1 c0 c1 : Nat) (w : World) :
    Calls Try.prog 6 #[.slice a0 n0 c0, .slice a1 n1 c1] w fun e w' => e = .returned (.int .i64 ((min n0 n1 : Nat) : Int)) ∧ w' = w := by
  by_cases h : n1 < n0
  · rw [show min n0 n1 = n1 by omega]
    go_enter Try.func6, Try.ntmps6
    go_wp2
    go_ret
    exact ⟨rfl, rfl⟩
  · rw [show min n0 n1 = n0 by omega]
    go_enter Try.func6, Try.ntmps6
    go_wp2
    go_ret
    exact ⟨rfl, rfl⟩

theorem new7 (w : World) : Calls Try.prog 7 #[] w fun e w' => e = .returned (.pointer (some ⟨w.heap.size, 0, none⟩)) ∧ w' = w.alloc (.cells #[.float .f64 0, .float .f64 0, .float .f64 0, .float .f64 0] 36) := by
  go_enter Try.func7, Try.ntmps7
  go_wp2
  go_ret
  exact ⟨rfl, rfl⟩

theorem same10 (x : Nat) (w : World) : Calls Try.prog 10 #[.float .f64 x, .float .f64 x] w fun e w' => e = .returned (.bool true) ∧ w' = w := by
  cases h : (FloatKind.f64.format.order x x == some .eq)
  · have h' : (FloatKind.f64.format.order x x != some .eq) = true := by simp only [bne, h]; rfl
    go_enter Try.func10, Try.ntmps10
    go_wp2
    go_ret
    exact ⟨rfl, rfl⟩
  · go_enter Try.func10, Try.ntmps10
    go_wp2
    go_ret
    exact ⟨rfl, rfl⟩

theorem clone_nil (w : World) : Calls Try.prog 5 #[.slice none 0 0] w fun e w' => e = .returned (.slice none 0 0) ∧ w' = w := by
  have he := fun w => Lib.run_eql_slice_nil (P := Try.prog) w 22 29 none 0 0 0 0 Try.underlying22
  go_enter Try.func5, Try.ntmps5
  go_wp2
  go_ret
  exact ⟨rfl, rfl⟩

/-- A slice of floats, not nil: a fresh copy. 'hc' is asked only where there is an element. -/
def fv (X : Nat → Nat) (i : Nat) : Value := .float .f64 (X i)

set_option maxHeartbeats 400000 in
theorem clone_some (b off n c : Nat) (X : Nat → Nat) (w : World) (hn : n ≤ 1048576) (hb : b < w.heap.size) (hc : ∀ i, i < n → w.cell? ⟨b, off + i, none⟩ = some (.float .f64 (X i))) :
    Calls Try.prog 5 #[.slice (some ⟨b, off, none⟩) n c] w fun e w' => e = .returned (.slice (some ⟨w.heap.size, 0, none⟩) n n) ∧ w'.rowIs w.heap.size 29 n (fv X) ∧ Below w.heap.size w w' := by
  have he := fun w => Lib.run_eql_slice_nil (P := Try.prog) w 22 29 (some ⟨b, off, none⟩) n c 0 0 Try.underlying22
  have hmk := fun w => run_make_row' (P := Try.prog) 22 29 (.float .f64 0) 8 Try.underlying22 info29 rfl .i64 .i64 n (by omega) (by omega) w
  have HC : Hid (∀ i, i < n → w.cell? ⟨b, off + i, none⟩ = some (.float .f64 (X i))) := hc
  clear hc
  go_enter Try.func5, Try.ntmps5
  go_wp2
  go_loopw [4] (fun vi wr => ∃ k : Nat, k ≤ n ∧ vi = .int .i64 k ∧ Hid (wr.rowIs w.heap.size 29 n (fun j => if j < k then .float .f64 (X j) else .float .f64 0)) ∧ Hid (Below w.heap.size w wr)) (fun vi _ => n - (intOf vi).toNat)
  case atStart => exact ⟨0, Nat.zero_le _, rfl, (World.rowIs_made w (.float .f64 0) n 29).congr (fun j _ => by simp), (Below.refl _ w).alloc (Nat.le_refl _) _⟩
  case round =>
    obtain ⟨k, hk, rfl, HR, HB⟩ := hrel
    by_cases hlt : k < n
    · have hcx : wr.cell? ⟨b, off + k, none⟩ = some (.float .f64 (X k)) := (HB.out.cell (p := ⟨b, off + k, none⟩) hb).trans (HC.out k hlt)
      have hf1 : wr.frozen? ⟨w.heap.size, k, none⟩ = false := HR.out.frozen _
      have hc1 : wr.cell? ⟨w.heap.size, k, none⟩ = some (.float .f64 0) := by rw [HR.out.cell hlt]; simp
      go_wp2
      go_roundw
      case rel =>
        refine ⟨k + 1, by omega, by go_num, (HR.out.set _ _).congr (fun j _ => ?_), HB.out.setCell (by simp) _⟩
        by_cases e : j = k
        · simp [e]
        · by_cases e2 : j < k
          · simp [e, e2, show j < k + 1 by omega]
          · simp [e, e2, show ¬ j < k + 1 by omega]
      case measure => simp [intOf]; omega
    · have hk2 : k = n := by omega
      subst hk2
      go_wp2
      go_ret
      exact ⟨rfl, HR.out.congr (fun j hj => by simp [hj, fv]), HB.out⟩

set_option maxHeartbeats 400000 in
theorem clone_zero (a : Addr) (c : Nat) (w : World) :
    Calls Try.prog 5 #[.slice (some a) 0 c] w fun e w' => e = .returned (.slice (some ⟨w.heap.size, 0, none⟩) 0 0) ∧ Below w.heap.size w w' := by
  have he := fun w => Lib.run_eql_slice_nil (P := Try.prog) w 22 29 (some a) 0 c 0 0 Try.underlying22
  have hmk : ∀ w : World, (Instr.makeSlice 22 (.int .i64 0) (.int .i64 0)).run Try.prog w = .ok (.slice (some ⟨w.heap.size, 0, none⟩) 0 0) (w.alloc (.cells (madeCells #[.float .f64 0] 0) 29)) := fun w => run_make_row' (P := Try.prog) 22 29 (.float .f64 0) 8 Try.underlying22 info29 rfl .i64 .i64 0 (by omega) (by omega) w
  go_enter Try.func5, Try.ntmps5
  go_wp2
  go_loopw [4] (fun vi wr => vi = .int .i64 0 ∧ Hid (Below w.heap.size w wr)) (fun _ _ => 0)
  case atStart => exact ⟨rfl, (Below.refl _ w).alloc (Nat.le_refl _) _⟩
  case round =>
    obtain ⟨rfl, HB⟩ := hrel
    go_wp2
    go_ret
    exact ⟨rfl, HB.out⟩

end Go.Proofs.Qxb6604684a
