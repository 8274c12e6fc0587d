/-
  DERIVED. FnFaultErrorNamesTheObjectOnlyWherePacked: at every input, fmt's text told.
-/
import Derived.Test.Qxb6604672aFmtOpen
import Derived.Test.Qxb6604672aFmtW6
namespace Go.Proofs.Qxb6604672aFmt
open Go.ChangeShapes Go.WideShapes Go.ChangeAt Go.RowKit Go.Kit
open Go.ChangeMaps (open_string)
open Go.Extern.Stop Go.Stop Go.Extern

set_option maxHeartbeats 1000000 in
theorem law6_early (path : ByteArray) (packed : Bool) (xs : List Int) (msg : ByteArray) (hasErr : Bool) (w : World) (hx : Bytes20 xs) (hp : path.size ≤ maxLen) (hm : msg.size ≤ maxLen) (h : ¬ (path.size ≤ 65536 ∧ msg.size ≤ 65536)) :
    Calls Tryf.prog 6 #[.string path, .bool packed, .agg (idc xs).toArray, .string msg, .bool hasErr] w fun e w' => e = .returned (.bool true) ∧ Below w.heap.size w w' := by
  have HI : Hid ((Tryf.prog.info? 30).map (·.size) = some (idc xs).length) := by rw [idc_length, hx.1]; exact info30
  have HC : Hid _ := rangeAt_new w (idc xs) 30
  have HP : Hid (path.size ≤ maxLen) := hp
  have HM : Hid (msg.size ≤ maxLen) := hm
  unfold maxLen at hp hm
  clear hx
  rcases (show 65536 < path.size ∨ (path.size ≤ 65536 ∧ 65536 < msg.size) from by omega) with h' | ⟨h', h''⟩
  all_goals
    clear h
    go_enter Tryf.func6, Tryf.ntmps6
    go_wp2_with (refine wpList_load_midW rfl 30 _ rfl w.heap.size 0 rfl (idc xs) (.array 20 5) HC.out Tryf.underlying30 rfl HI.out ?_)
    refine (bytes19 path packed xs msg hasErr _ HP.out HM.out).mono ?_
    rintro e w1 ⟨rfl, hb1⟩
    cases hf : fits path msg
    all_goals
      clear hf
      go_wp2
      go_ret
      exact ⟨rfl, ((Below.refl _ w).alloc (Nat.le_refl _) _).trans (hb1.mono (by simp))⟩

theorem pathLt6 (path : ByteArray) (h : path.size ≤ 65536) : path.data.toList.length < 2 ^ 64 := by
  have : path.data.toList.length = path.size := by simp
  omega
def nilB6 : ByteArray := { data := #[60, 110, 105, 108, 62] }
theorem nilB6_size : nilB6.size = 5 := rfl

theorem law6_all (F : Interp) (path : ByteArray) (packed : Bool) (xs : List Int) (msg : ByteArray) (hasErr : Bool) (w : World) (hF : F.told.answers w.tape) (hx : Bytes20 xs) (hp : path.size ≤ maxLen) (hm : msg.size ≤ maxLen) :
    Calls Tryf.prog 6 #[.string path, .bool packed, .agg (idc xs).toArray, .string msg, .bool hasErr] w fun e w' => e = .returned (.bool true) ∧ Below w.heap.size w w' := by
  by_cases h : path.size ≤ 65536 ∧ msg.size ≤ 65536
  · obtain ⟨h1, h2⟩ := h
    have hpl := pathLt6 path h1
    have tBe := textB_err path.data.toList msg.data.toList hpl
    have tBn := textB_nil path.data.toList hpl
    have lBe := textB_length path msg
    have lBn := textB_length path nilB6
    obtain ⟨ze, ue1, ue2⟩ := u_of path msg ⟨(textB path.data.toList msg.data.toList).toArray⟩ rfl
    obtain ⟨zn, un1, un2⟩ := u_of path nilB6 ⟨(textB path.data.toList nilB6.data.toList).toArray⟩ rfl
    rw [nilB6_size] at zn
    have gBe := toldText F tBe (by rw [lBe]; omega) (g := ⟨(textB path.data.toList msg.data.toList).toArray⟩) rfl
    have gBn := toldText F tBn (by rw [show [60, 110, 105, 108, 62] = nilB6.data.toList from rfl, lBn, nilB6_size]; omega) (g := ⟨(textB path.data.toList nilB6.data.toList).toArray⟩) rfl
    by_cases hz : xs = zeros
    · cases packed <;> cases hasErr
      · exact law6B_nil F.told path xs msg _ w hF hx h1 h2 (by rw [zn]; omega) (by rw [zn]; omega) un1 gBn
      · exact law6B_err F.told path xs msg _ w hF hx h1 h2 (by rw [ze]; omega) (by rw [ze]; omega) ue1 gBe
      · exact law6Z_nil F.told path xs msg _ w hF hx hz h1 h2 (by rw [zn]; omega) (by rw [zn]; omega) un1 gBn
      · exact law6Z_err F.told path xs msg _ w hF hx hz h1 h2 (by rw [ze]; omega) (by rw [ze]; omega) ue1 gBe
    · have ra : ∀ sh v, rd path.data.toList true xs sh v = readA path.data.toList (hexOf xs) sh v := fun sh v => by simp [rd, hz]
      have hh := hexOf_length xs hx.1
      cases packed <;> cases hasErr
      · exact law6B_nil F.told path xs msg _ w hF hx h1 h2 (by rw [zn]; omega) (by rw [zn]; omega) un1 gBn
      · exact law6B_err F.told path xs msg _ w hF hx h1 h2 (by rw [ze]; omega) (by rw [ze]; omega) ue1 gBe
      · have tA := textA_nil path.data.toList (hexOf xs) hpl
        have lA := textA_length path nilB6 (hexOf xs) hh
        obtain ⟨sl, sz⟩ := sl_of path nilB6 ⟨(textA path.data.toList (hexOf xs) nilB6.data.toList).toArray⟩ xs hx.1 rfl
        rw [nilB6_size] at sz
        exact law6A_nil F.told path xs msg _ _ w hF hx hz h1 h2 (by rw [zn]; omega) (by rw [zn]; omega) un1 un2 (by rw [sz, zn, beq_iff_eq]; omega) sl (by rw [ra]; exact toldText F tA (by rw [show [60, 110, 105, 108, 62] = nilB6.data.toList from rfl, lA, nilB6_size]; omega) rfl) gBn
      · have tA := textA_err path.data.toList (hexOf xs) msg.data.toList hpl
        have lA := textA_length path msg (hexOf xs) hh
        obtain ⟨sl, sz⟩ := sl_of path msg ⟨(textA path.data.toList (hexOf xs) msg.data.toList).toArray⟩ xs hx.1 rfl
        exact law6A_err F.told path xs msg _ _ w hF hx hz h1 h2 (by rw [ze]; omega) (by rw [ze]; omega) ue1 ue2 (by rw [sz, ze, beq_iff_eq]; omega) sl (by rw [ra]; exact toldText F tA (by rw [lA]; omega) rfl) gBe
  · exact law6_early path packed xs msg hasErr w hx hp hm h

end Go.Proofs.Qxb6604672aFmt
