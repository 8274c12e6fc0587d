/-
  DERIVED. THE WALKS of (*meter).set, ZZmeterSet, ZZmeterFields.
-/
import Derived.Test.Qxb6604684aW1
import Derived.BigRegion
namespace Go.Proofs.Qxb6604684a
open Go.RowKit

/-- What a float operation gives: the bits that the operands fix, or a NaN's bits out of the tape. -/
def flv (op : BinOp) (x y : Nat) (w : World) : Nat := match floatBits op .f64 x y with
  | some r => r
  | none => if (Question.nanBits .f64 x y).forced then 0 else (Question.nanBits .f64 x y).cut (w.tape w.drawn (.nanBits .f64 x y))
/-- The world behind it: as it was, or one draw on. -/
def flw (op : BinOp) (x y : Nat) (w : World) : World := match floatBits op .f64 x y with
  | some _ => w
  | none => if (Question.nanBits .f64 x y).forced then w else w.drew

theorem run_fl {P : Program} (op : BinOp) (hop : op = .add ∨ op = .sub ∨ op = .mul) (t : TypeId) (x y : Nat) (w : World) : (binOp op t (.float .f64 x) (.float .f64 y)).run P w = .ok (.float .f64 (flv op x y w)) (flw op x y w) := by
  cases h : floatBits op .f64 x y with
  | some r => rw [run_float_arith w op t .f64 x y r h]; simp [flv, flw, h]
  | none =>
    unfold floatBits at h
    rcases hop with rfl | rfl | rfl <;> simp only at h <;> simp only [binOp, Op.floatArith] <;> simp [h, flv, flw, floatBits] <;> split <;> rfl
theorem run_fl_add {P : Program} (t : TypeId) (x y : Nat) (w : World) : (binOp .add t (.float .f64 x) (.float .f64 y)).run P w = .ok (.float .f64 (flv .add x y w)) (flw .add x y w) := run_fl .add (.inl rfl) t x y w
theorem run_fl_sub {P : Program} (t : TypeId) (x y : Nat) (w : World) : (binOp .sub t (.float .f64 x) (.float .f64 y)).run P w = .ok (.float .f64 (flv .sub x y w)) (flw .sub x y w) := run_fl .sub (.inr (.inl rfl)) t x y w
theorem run_fl_mul {P : Program} (t : TypeId) (x y : Nat) (w : World) : (binOp .mul t (.float .f64 x) (.float .f64 y)).run P w = .ok (.float .f64 (flv .mul x y w)) (flw .mul x y w) := run_fl .mul (.inr (.inr rfl)) t x y w
theorem flw_or (op : BinOp) (x y : Nat) (w : World) : flw op x y w = w ∨ flw op x y w = w.drew := by
  unfold flw
  split
  · exact .inl rfl
  · split
    · exact .inl rfl
    · exact .inr rfl
theorem flw_cell (op : BinOp) (x y : Nat) (w : World) (a : Addr) : (flw op x y w).cell? a = w.cell? a := by
  rcases flw_or op x y w with h | h <;> rw [h]; rfl
theorem flw_frozen (op : BinOp) (x y : Nat) (w : World) (a : Addr) : (flw op x y w).frozen? a = w.frozen? a := by
  rcases flw_or op x y w with h | h <;> rw [h]; rfl
theorem flw_heap (op : BinOp) (x y : Nat) (w : World) : (flw op x y w).heap = w.heap := by
  rcases flw_or op x y w with h | h <;> rw [h]; rfl
theorem flw_below {B : Nat} {a w : World} (op : BinOp) (x y : Nat) (h : Below B a w) : Below B a (flw op x y w) := by
  rcases flw_or op x y w with h' | h' <;> rw [h']
  · exact h
  · exact h.drew
theorem flv_some {op : BinOp} {x y r : Nat} (h : floatBits op .f64 x y = some r) (w : World) : flv op x y w = r := by simp [flv, h]

attribute [local go_sem] run_store_float run_fl_add run_fl_sub run_fl_mul flw_cell flw_frozen

/-- The meter's four cells. -/
def mf (lv sv tv : Nat) (i : Nat) : Value := .float .f64 (if i = 0 then lv else if i = 1 then sv else if i = 2 then tv else 0)

theorem set_end (w w3 : World) (b lv sv tv lev now T : Nat) (hm : w.rowIs b 36 4 (mf lv sv tv)) (hh : w3.heap = w.heap) (hb : Below b w w3) :
    (((w3.setCell ⟨b, 2, none⟩ (.float .f64 T)).setCell ⟨b, 0, none⟩ (.float .f64 lev)).setCell ⟨b, 1, none⟩ (.float .f64 now)).rowIs b 36 4 (mf lev now T) ∧
    Below b w (((w3.setCell ⟨b, 2, none⟩ (.float .f64 T)).setCell ⟨b, 0, none⟩ (.float .f64 lev)).setCell ⟨b, 1, none⟩ (.float .f64 now)) := by
  have h3 : w3.rowIs b 36 4 (mf lv sv tv) := hm.of_block (by rw [hh])
  refine ⟨(((h3.set 2 _).set 0 _).set 1 _).congr (fun i hi => ?_), ?_⟩
  · rcases (show i = 0 ∨ i = 1 ∨ i = 2 ∨ i = 3 from by omega) with rfl | rfl | rfl | rfl <;> rfl
  · have b1 : Below b w (w3.setCell ⟨b, 2, none⟩ (.float .f64 T)) := hb.setCell (p := ⟨b, 2, none⟩) (Nat.le_refl _) _
    have b2 : Below b w ((w3.setCell ⟨b, 2, none⟩ (.float .f64 T)).setCell ⟨b, 0, none⟩ (.float .f64 lev)) := b1.setCell (p := ⟨b, 0, none⟩) (Nat.le_refl _) _
    exact b2.setCell (p := ⟨b, 1, none⟩) (Nat.le_refl _) _

set_option maxHeartbeats 800000 in
theorem set13 (b lv sv tv now lev : Nat) (w : World) (hm : w.rowIs b 36 4 (mf lv sv tv)) :
    Calls Try.prog 13 #[.pointer (some ⟨b, 0, none⟩), .float .f64 now, .float .f64 lev] w fun e w' => e = .returned (.tuple #[]) ∧ ∃ T, w'.rowIs b 36 4 (mf lev now T) ∧ Below b w w' ∧
      ∀ r1 r2 r3, floatBits .sub .f64 now sv = some r1 → floatBits .mul .f64 lv r1 = some r2 → floatBits .add .f64 tv r2 = some r3 → T = r3 := by
  have c0 : w.cell? ⟨b, 0, none⟩ = some (.float .f64 lv) := hm.cell (by omega)
  have c1 : w.cell? ⟨b, 1, none⟩ = some (.float .f64 sv) := hm.cell (by omega)
  have c2 : w.cell? ⟨b, 2, none⟩ = some (.float .f64 tv) := hm.cell (by omega)
  have f0 : w.frozen? ⟨b, 0, none⟩ = false := hm.frozen _
  have f1 : w.frozen? ⟨b, 1, none⟩ = false := hm.frozen _
  have f2 : w.frozen? ⟨b, 2, none⟩ = false := hm.frozen _
  have HM : Hid _ := hm
  clear hm
  go_enter Try.func13, Try.ntmps13
  go_wp2
  go_region
  go_wp2
  go_end0
  obtain ⟨p1, p2⟩ := set_end w (flw .add tv (flv .mul lv (flv .sub now sv w.drew) (flw .sub now sv w.drew)) (flw .mul lv (flv .sub now sv w.drew) (flw .sub now sv w.drew))) b lv sv tv lev now
    (flv .add tv (flv .mul lv (flv .sub now sv w.drew) (flw .sub now sv w.drew)) (flw .mul lv (flv .sub now sv w.drew) (flw .sub now sv w.drew))) HM.out (by rw [flw_heap, flw_heap, flw_heap]; rfl) (flw_below _ _ _ (flw_below _ _ _ (flw_below _ _ _ (Below.refl _ w).drew)))
  refine ⟨rfl, _, p1, p2, ?_⟩
  intro r1 r2 r3 e1 e2 e3
  rw [flv_some e1, flv_some e2, flv_some e3]

theorem set8 (b lv sv tv now lev : Nat) (w : World) (hm : w.rowIs b 36 4 (mf lv sv tv)) :
    Calls Try.prog 8 #[.pointer (some ⟨b, 0, none⟩), .float .f64 now, .float .f64 lev] w fun e w' => e = .returned (.tuple #[]) ∧ ∃ T, w'.rowIs b 36 4 (mf lev now T) ∧ Below b w w' ∧
      ∀ r1 r2 r3, floatBits .sub .f64 now sv = some r1 → floatBits .mul .f64 lv r1 = some r2 → floatBits .add .f64 tv r2 = some r3 → T = r3 := by
  have HM : Hid _ := hm
  clear hm
  go_enter Try.func8, Try.ntmps8
  go_wp2_with fail
  refine (set13 b lv sv tv now lev w HM.out).mono ?_
  rintro e w1 ⟨rfl, T, h⟩
  have H : Hid _ := h
  clear h
  go_wp2
  go_end0
  exact ⟨rfl, T, H.out⟩

set_option maxHeartbeats 400000 in
theorem fields9 (b lv sv tv : Nat) (w : World) (hm : w.rowIs b 36 4 (mf lv sv tv)) :
    Calls Try.prog 9 #[.pointer (some ⟨b, 0, none⟩)] w fun e w' => e = .returned (.tuple #[.float .f64 lv, .float .f64 sv, .float .f64 tv, .float .f64 0]) ∧ w' = w.drew := by
  have c0 : w.cell? ⟨b, 0, none⟩ = some (.float .f64 lv) := hm.cell (by omega)
  have c1 : w.cell? ⟨b, 1, none⟩ = some (.float .f64 sv) := hm.cell (by omega)
  have c2 : w.cell? ⟨b, 2, none⟩ = some (.float .f64 tv) := hm.cell (by omega)
  have c3 : w.cell? ⟨b, 3, none⟩ = some (.float .f64 0) := hm.cell (by omega)
  clear hm
  go_enter Try.func9, Try.ntmps9
  go_wp2
  go_region
  go_wp2
  exact bodyPost_ret (v := .tuple #[.float .f64 lv, .float .f64 sv, .float .f64 tv, .float .f64 0]) (by simp [results, Try.results9, go_sem]) rfl ⟨rfl, rfl⟩

end Go.Proofs.Qxb6604684a
