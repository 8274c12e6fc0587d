/-
  DERIVED. THE PLAIN SIDE: the texts that fmt's told function gives, as byte arrays; their slices, as the walks ask them.
-/
import Derived.Test.Qxb6604672aFmtW4
import Derived.Lib.Strings
import Derived.Lib.SmallJoins
import Derived.Stop.Told
import Derived.Stop.Texts
namespace Go.Proofs.Qxb6604672aFmt
open Go.Extern.Stop Go.Stop Go.Extern Go.Kit

theorem ba_ext {a b : ByteArray} (h : a.data.toList = b.data.toList) : a = b := by
  obtain ⟨⟨x⟩⟩ := a
  obtain ⟨⟨y⟩⟩ := b
  simp only at h
  rw [h]

theorem toldText (F : Interp) {r : List (List UInt8)} {t : List UInt8} {g : ByteArray} (h : FmtText.text "fmt.Sprintf" r = some t) (hl : t.length < 2 ^ 63) (hg : g.data.toList = t) :
    FmtStop.textOf (F.told "fmt.Sprintf" r 0) = g := by
  apply ba_ext
  rw [textOf_list, told_string F h hl, hg]

/-- A piece of a list. -/
theorem seg {α : Type} (l A B C : List α) (e : l = A ++ (B ++ C)) (i j : Nat) (hi : i = A.length) (hj : j = i + B.length) : (l.drop i).take (j - i) = B := by
  subst hi hj e
  rw [List.drop_left, show A.length + B.length - A.length = B.length by omega, List.take_left]

def headL (path : ByteArray) : List UInt8 := [111, 100, 98, 58, 32] ++ path.data.toList ++ [58, 32]
theorem headL_eq (path : ByteArray) : ({ data := #[111, 100, 98, 58, 32] } ++ path ++ { data := #[58, 32] } : ByteArray).data.toList = headL path := by
  rw [Joins.data_append, Joins.data_append]; rfl
theorem headL_length (path : ByteArray) : (headL path).length = 5 + path.size + 2 := by
  simp [headL]; omega

theorem textB_eq (path tl : ByteArray) : ({ data := #[111, 100, 98, 58, 32] } ++ path ++ { data := #[58, 32] } ++ tl : ByteArray).data.toList = textB path.data.toList tl.data.toList := by
  rw [Joins.data_append, headL_eq]; simp [headL, textB]
theorem textB_length (path tl : ByteArray) : (textB path.data.toList tl.data.toList).length = 5 + path.size + 2 + tl.size := by
  simp [textB]; omega

theorem textA_split (path : ByteArray) (h t : List UInt8) : textA path.data.toList h t = headL path ++ ([111, 98, 106, 101, 99, 116, 32] ++ (h ++ ([58, 32] ++ t))) := by
  simp [textA, headL]
theorem textA_length (path tl : ByteArray) (h : List UInt8) (hh : h.length = 40) : (textA path.data.toList h tl.data.toList).length = 5 + path.size + 2 + 49 + tl.size := by
  rw [textA_split]; simp [headL_length, hh]; omega
theorem hexOf_length (xs : List Int) (hx : xs.length = 20) : (hexOf xs).length = 40 := by
  rw [hexOf, Lib.Hx.encode_length, Lib.bytesOf_length, hx]

theorem slice_of (g v : ByteArray) (i j : Nat) (x y : Int) (hx : x = i) (hy : y = j) (h1 : i ≤ j) (h2 : j ≤ g.size) (hv : (g.data.toList.drop i).take (j - i) = v.data.toList) (w : World) :
    (Instr.slice 9 (.string g) (some (.int .i64 x)) (some (.int .i64 y)) none).run Tryf.prog w = .ok (.string v) w := by
  subst hx hy
  rw [run_slice_string w 9 g .i64 .i64 i j Tryf.underlying9 (by omega) (by omega) (by omega)]
  rw [show g.extract ((i : Int)).toNat ((j : Int)).toNat = v from ba_ext (by rw [Lib.extract_data]; simpa using hv)]
theorem slice_to (g v : ByteArray) (j : Nat) (y : Int) (hy : y = j) (h2 : j ≤ g.size) (hv : (g.data.toList.drop 0).take (j - 0) = v.data.toList) (w : World) :
    (Instr.slice 9 (.string g) none (some (.int .i64 y)) none).run Tryf.prog w = .ok (.string v) w := by
  subst hy
  rw [run_slice_string_h w 9 g Tryf.underlying9 .i64 j (by omega) (by omega)]
  rw [show g.extract 0 ((j : Int)).toNat = v from ba_ext (by rw [Lib.extract_data]; simpa using hv)]
theorem slice_from (g v : ByteArray) (i : Nat) (x : Int) (hx : x = i) (h2 : i ≤ g.size) (hv : g.data.toList.drop i = v.data.toList) (w : World) :
    (Instr.slice 9 (.string g) (some (.int .i64 x)) none none).run Tryf.prog w = .ok (.string v) w := by
  subst hx
  rw [run_slice_string_l w 9 g Tryf.underlying9 .i64 i (by omega) (by omega)]
  rw [show g.extract ((i : Int)).toNat g.size = v from ba_ext (by rw [Lib.extract_data, List.take_of_length_le (by simp)]; simpa using hv)]

theorem sl_of (path tl g : ByteArray) (xs : List Int) (hx : xs.length = 20) (hg : g.data.toList = textA path.data.toList (hexOf xs) tl.data.toList) : Sl path g tl xs ∧ g.size = 5 + path.size + 2 + 49 + tl.size := by
  have hh := hexOf_length xs hx
  have hsz : g.size = 5 + path.size + 2 + 49 + tl.size := by
    have := textA_length path tl (hexOf xs) hh
    rw [← hg] at this
    simpa using this
  have hl := headL_length path
  have e := textA_split path (hexOf xs) tl.data.toList
  rw [← hg] at e
  refine ⟨⟨?_, ?_, ?_, ?_, ?_⟩, hsz⟩
  · exact slice_to g _ (5 + path.size + 2) _ (by omega) (by omega) (by rw [headL_eq]; exact seg _ [] _ _ (by rw [e]; rfl) 0 _ rfl (by rw [hl]; omega))
  · exact slice_of g _ (5 + path.size + 2) (5 + path.size + 2 + 7) _ _ (by omega) (by omega) (by omega) (by omega) (seg _ _ _ _ e _ _ hl.symm (by simp))
  · exact slice_of g _ (5 + path.size + 2 + 7) (5 + path.size + 2 + 47) _ _ (by omega) (by omega) (by omega) (by omega)
      (seg _ (headL path ++ [111, 98, 106, 101, 99, 116, 32]) (hexOf xs) ([58, 32] ++ tl.data.toList) (by rw [e]; simp) _ _ (by simp [hl]) (by rw [hh]))
  · exact slice_of g _ (5 + path.size + 2 + 47) (5 + path.size + 2 + 49) _ _ (by omega) (by omega) (by omega) (by omega)
      (seg _ (headL path ++ [111, 98, 106, 101, 99, 116, 32] ++ hexOf xs) [58, 32] tl.data.toList (by rw [e]; simp) _ _ (by simp [hl, hh]) (by simp))
  · refine slice_from g _ (5 + path.size + 2 + 49) _ (by omega) (by omega) ?_
    rw [e, show headL path ++ ([111, 98, 106, 101, 99, 116, 32] ++ (hexOf xs ++ ([58, 32] ++ tl.data.toList))) = (headL path ++ [111, 98, 106, 101, 99, 116, 32] ++ hexOf xs ++ [58, 32]) ++ tl.data.toList by simp]
    exact List.drop_left' (by simp [hl, hh])

/-- The text without the object: what the second law asks of it. -/
theorem u_of (path tl u : ByteArray) (hu : u.data.toList = textB path.data.toList tl.data.toList) :
    u.size = 5 + path.size + 2 + tl.size ∧
    (∀ w, (Instr.slice 9 (.string u) none (some (.int .i64 (5 + (path.size : Int) + 2))) none).run Tryf.prog w = .ok (.string ({ data := #[111, 100, 98, 58, 32] } ++ path ++ { data := #[58, 32] } : ByteArray)) w) ∧
    (∀ w, (Instr.slice 9 (.string u) (some (.int .i64 (5 + (path.size : Int) + 2))) none none).run Tryf.prog w = .ok (.string tl) w) := by
  have hsz : u.size = 5 + path.size + 2 + tl.size := by
    have := textB_length path tl
    rw [← hu] at this
    simpa using this
  have hl := headL_length path
  have e : u.data.toList = headL path ++ tl.data.toList := by rw [hu]; simp [textB, headL]
  refine ⟨hsz, ?_, ?_⟩
  · exact slice_to u _ (5 + path.size + 2) _ (by omega) (by omega) (by rw [headL_eq]; exact seg _ [] _ _ (by rw [e]; rfl) 0 _ rfl (by rw [hl]; omega))
  · exact slice_from u _ (5 + path.size + 2) _ (by omega) (by omega) (by rw [e]; exact List.drop_left' hl)

end Go.Proofs.Qxb6604672aFmt
