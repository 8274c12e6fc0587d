/-
  DERIVED. FnFaultErrorIsItsCaseTable: at every input, fmt's text told.
-/
import Derived.Test.Qxb6604672aFmtOpen
namespace Go.Proofs.Qxb6604672aFmt
open Go.ChangeShapes Go.WideShapes Go.ChangeAt Go.RowKit Go.Kit
open Go.ChangeMaps (open_string)
open Go.Extern.Stop Go.Stop Go.Extern

set_option maxHeartbeats 1000000 in
theorem law5_early (path : ByteArray) (packed : Bool) (xs : List Int) (msg : ByteArray) (hasErr : Bool) (w : World) (hx : Bytes20 xs) (hp : path.size ≤ maxLen) (hm : msg.size ≤ maxLen) (h : ¬ (path.size ≤ 65536 ∧ msg.size ≤ 65536)) :
    Calls Tryf.prog 5 #[.string path, .bool packed, .agg (idc xs).toArray, .string msg, .bool hasErr] w fun e w' => e = .returned (.bool true) ∧ Below w.heap.size w w' := by
  have HI : Hid ((Tryf.prog.info? 30).map (·.size) = some (idc xs).length) := by rw [idc_length, hx.1]; exact info30
  have HC : Hid _ := rangeAt_new w (idc xs) 30
  have HP : Hid (path.size ≤ maxLen) := hp
  have HM : Hid (msg.size ≤ maxLen) := hm
  unfold maxLen at hp hm
  clear hx
  rcases (show 65536 < path.size ∨ (path.size ≤ 65536 ∧ 65536 < msg.size) from by omega) with h' | ⟨h', h''⟩
  all_goals
    clear h
    go_enter Tryf.func5, Tryf.ntmps5
    go_wp2_with (refine wpList_load_midW rfl 30 _ rfl w.heap.size 0 rfl (idc xs) (.array 20 5) HC.out Tryf.underlying30 rfl HI.out ?_)
    refine (bytes14 path packed xs msg hasErr _ HP.out HM.out).mono ?_
    rintro e w1 ⟨rfl, hb1⟩
    cases hf : fits path msg
    all_goals
      clear hf
      go_wp2
      go_ret
      exact ⟨rfl, ((Below.refl _ w).alloc (Nat.le_refl _) _).trans (hb1.mono (by simp))⟩

theorem big (n : Nat) (h : n ≤ 1000000) : n < 2 ^ 63 := by omega
theorem pathLt (path : ByteArray) (h : path.size ≤ 65536) : path.data.toList.length < 2 ^ 64 := by
  have : path.data.toList.length = path.size := by simp
  omega
def nilB : ByteArray := { data := #[60, 110, 105, 108, 62] }
theorem nilB_size : nilB.size = 5 := rfl

theorem law5_all (F : Interp) (path : ByteArray) (packed : Bool) (xs : List Int) (msg : ByteArray) (hasErr : Bool) (w : World) (hF : F.told.answers w.tape) (hx : Bytes20 xs) (hp : path.size ≤ maxLen) (hm : msg.size ≤ maxLen) :
    Calls Tryf.prog 5 #[.string path, .bool packed, .agg (idc xs).toArray, .string msg, .bool hasErr] w fun e w' => e = .returned (.bool true) ∧ Below w.heap.size w w' := by
  by_cases h : path.size ≤ 65536 ∧ msg.size ≤ 65536
  · obtain ⟨h1, h2⟩ := h
    have hpl := pathLt path h1
    have tBe := textB_err path.data.toList msg.data.toList hpl
    have tBn := textB_nil path.data.toList hpl
    have lBe := textB_length path msg
    have lBn := textB_length path nilB
    have gBe := toldText F tBe (by rw [lBe]; omega) (textB_eq path msg)
    have gBn := toldText F tBn (by rw [show [60, 110, 105, 108, 62] = nilB.data.toList from rfl, lBn, nilB_size]; omega) (textB_eq path nilB)
    by_cases hz : xs = zeros
    · have r : ∀ sh v, rd path.data.toList packed xs sh v = readB path.data.toList sh v := fun sh v => by simp [rd, hz]
      cases packed <;> cases hasErr
      · exact law5B_nil F.told path xs msg w hF hx h1 h2 (by rw [r]; exact gBn)
      · exact law5B_err F.told path xs msg w hF hx h1 h2 (by rw [r]; exact gBe)
      · exact law5Z_nil F.told path xs msg w hF hx hz h1 h2 (by rw [r]; exact gBn)
      · exact law5Z_err F.told path xs msg w hF hx hz h1 h2 (by rw [r]; exact gBe)
    · have r : ∀ sh v, rd path.data.toList false xs sh v = readB path.data.toList sh v := fun sh v => by simp [rd]
      have ra : ∀ sh v, rd path.data.toList true xs sh v = readA path.data.toList (hexOf xs) sh v := fun sh v => by simp [rd, hz]
      have hh := hexOf_length xs hx.1
      cases packed <;> cases hasErr
      · exact law5B_nil F.told path xs msg w hF hx h1 h2 (by rw [r]; exact gBn)
      · exact law5B_err F.told path xs msg w hF hx h1 h2 (by rw [r]; exact gBe)
      · have tA := textA_nil path.data.toList (hexOf xs) hpl
        have lA := textA_length path nilB (hexOf xs) hh
        obtain ⟨sl, sz⟩ := sl_of path nilB ⟨(textA path.data.toList (hexOf xs) nilB.data.toList).toArray⟩ xs hx.1 rfl
        exact law5A_nil F.told path xs msg _ w hF hx hz h1 h2 (by rw [sz, nilB_size]; simp) sl (by rw [ra]; exact toldText F tA (by rw [show [60, 110, 105, 108, 62] = nilB.data.toList from rfl, lA, nilB_size]; omega) rfl)
      · have tA := textA_err path.data.toList (hexOf xs) msg.data.toList hpl
        have lA := textA_length path msg (hexOf xs) hh
        obtain ⟨sl, sz⟩ := sl_of path msg ⟨(textA path.data.toList (hexOf xs) msg.data.toList).toArray⟩ xs hx.1 rfl
        exact law5A_err F.told path xs msg _ w hF hx hz h1 h2 (by rw [sz]; simp) sl (by rw [ra]; exact toldText F tA (by rw [lA]; omega) rfl)
  · exact law5_early path packed xs msg hasErr w hx hp hm h

end Go.Proofs.Qxb6604672aFmt
