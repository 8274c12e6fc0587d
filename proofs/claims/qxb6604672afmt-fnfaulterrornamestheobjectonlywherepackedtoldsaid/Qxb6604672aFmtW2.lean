/-
  DERIVED. THE WALKS of errors.New, ZZfaultErrorNil and ZZfaultErrorText, FOR EVERY F.
-/
import Derived.Test.Qxb6604672aFmtW1
import Derived.Deep.DeepMust
namespace Go.Proofs.Qxb6604672aFmt
open Go.RowKit Go.Extern.Stop Go.Stop Go.Extern
attribute [local go_sem] call31 guardOk fmtA fmtAr fmtB fmtBr act9_115 op9_115 str9 act33_115 isString33 str33 act58_118 str58 actNil_118 opNil_118

/-- What fmt.Sprintf is asked of a Fault. -/
def rd (path : List UInt8) (packed : Bool) (xs : List Int) (sh v : List UInt8) : List (List UInt8) := if packed && decide (xs ≠ zeros) then readA path (hexOf xs) sh v else readB path sh v
def Bytes20 (xs : List Int) : Prop := xs.length = 20 ∧ ∀ i, i < 20 → 0 ≤ xs.getD i 0 ∧ xs.getD i 0 < 256

theorem error24_nil (F : Interp) (b : Nat) (path : ByteArray) (packed : Bool) (xs : List Int) (w : World) (hF : F.answers w.tape) (hx : Bytes20 xs)
    (c0 : w.cell? ⟨b, 0, none⟩ = some (.string path)) (c1 : w.cell? ⟨b, 1, none⟩ = some (.bool packed)) (cr : w.rangeAt b 2 (idc xs)) (c22 : w.cell? ⟨b, 22, none⟩ = some .nilIface) :
    Calls Tryf.prog 24 #[.pointer (some ⟨b, 0, none⟩)] w fun e w' => e = .returned (.string (FmtStop.textOf (F "fmt.Sprintf" (rd path.data.toList packed xs [0] []) 0))) ∧ Below w.heap.size w w' := by
  cases packed with
  | false => exact errorB_nil F b path w hF c0 c1 c22
  | true =>
    by_cases h : xs = zeros
    · have e : rd path.data.toList true xs [0] [] = readB path.data.toList [0] [] := by simp [rd, h]
      rw [e]; exact errorZ_nil F b path xs w hF c0 c1 c22 hx.1 cr h
    · have e : rd path.data.toList true xs [0] [] = readA path.data.toList (hexOf xs) [0] [] := by simp [rd, h]
      rw [e]; exact errorA_nil F b path xs w hF c0 c1 c22 hx.1 cr h hx.2
theorem error24_err (F : Interp) (b : Nat) (path : ByteArray) (packed : Bool) (xs : List Int) (eb : Nat) (msg : ByteArray) (w : World) (hF : F.answers w.tape) (hx : Bytes20 xs)
    (c0 : w.cell? ⟨b, 0, none⟩ = some (.string path)) (c1 : w.cell? ⟨b, 1, none⟩ = some (.bool packed)) (cr : w.rangeAt b 2 (idc xs)) (c22 : w.cell? ⟨b, 22, none⟩ = some (.iface 58 (.pointer (some ⟨eb, 0, none⟩)))) (ce : w.cell? ⟨eb, 0, none⟩ = some (.string msg)) :
    Calls Tryf.prog 24 #[.pointer (some ⟨b, 0, none⟩)] w fun e w' => e = .returned (.string (FmtStop.textOf (F "fmt.Sprintf" (rd path.data.toList packed xs plain58 msg.data.toList) 0))) ∧ Below w.heap.size w w' := by
  cases packed with
  | false => exact errorB_err F b path eb msg w hF c0 c1 c22 ce
  | true =>
    by_cases h : xs = zeros
    · have e : rd path.data.toList true xs plain58 msg.data.toList = readB path.data.toList plain58 msg.data.toList := by simp [rd, h]
      rw [e]; exact errorZ_err F b path xs eb msg w hF c0 c1 c22 ce hx.1 cr h
    · have e : rd path.data.toList true xs plain58 msg.data.toList = readA path.data.toList (hexOf xs) plain58 msg.data.toList := by simp [rd, h]
      rw [e]; exact errorA_err F b path xs eb msg w hF c0 c1 c22 ce hx.1 cr h hx.2

/-- The cells of a Fault that an alloc has laid. -/
theorem fault_cells (W : World) (path : ByteArray) (packed : Bool) (xs : List Int) (e : Value) (hl : xs.length = 20) :
    (W.alloc (.cells (fc path packed (idc xs) e).toArray 49)).cell? ⟨W.heap.size, 0, none⟩ = some (.string path) ∧
    (W.alloc (.cells (fc path packed (idc xs) e).toArray 49)).cell? ⟨W.heap.size, 1, none⟩ = some (.bool packed) ∧
    (W.alloc (.cells (fc path packed (idc xs) e).toArray 49)).rangeAt W.heap.size 2 (idc xs) ∧
    (W.alloc (.cells (fc path packed (idc xs) e).toArray 49)).cell? ⟨W.heap.size, 22, none⟩ = some e := by
  have h := rangeAt_new W (fc path packed (idc xs) e) 49
  refine ⟨h 0 _ rfl, h 1 _ rfl, fun j v hv => ?_, ?_⟩
  · have hj : j < (idc xs).length := (List.getElem?_eq_some_iff.1 hv).1
    have := h (2 + j) v (by rw [fc, Nat.add_comm 2 j, List.getElem?_cons_succ, List.getElem?_cons_succ, List.getElem?_append_left hj]; exact hv)
    rwa [Nat.zero_add] at this
  · exact h 22 e (by rw [fc, List.getElem?_cons_succ, List.getElem?_cons_succ, List.getElem?_append_right (by rw [idc_length]; omega), idc_length, hl]; rfl)

theorem new23 (msg : ByteArray) (w : World) : Calls Tryf.prog 23 #[.string msg] w fun e w' => e = .returned (.iface 58 (.pointer (some ⟨w.heap.size, 0, none⟩))) ∧ w' = w.alloc (.cells #[.string msg] 60) := by
  go_enter Tryf.func23, Tryf.ntmps23
  go_wp2
  go_ret
  exact ⟨rfl, rfl⟩


theorem foldNil (path : ByteArray) (packed : Bool) (cs : List Value) (h : cs.length = 20) : List.foldl (fun (cs : Array Value) (x : Value × Nat) => cs.setIfInBounds (2 + x.snd) x.fst) #[Value.string path, Value.bool packed, .int .u8 0, .int .u8 0, .int .u8 0, .int .u8 0, .int .u8 0, .int .u8 0, .int .u8 0, .int .u8 0, .int .u8 0, .int .u8 0, .int .u8 0, .int .u8 0, .int .u8 0, .int .u8 0, .int .u8 0, .int .u8 0, .int .u8 0, .int .u8 0, .int .u8 0, .int .u8 0, Value.nilIface] cs.zipIdx = (fc path packed cs .nilIface).toArray := by
  obtain ⟨v0, v1, v2, v3, v4, v5, v6, v7, v8, v9, v10, v11, v12, v13, v14, v15, v16, v17, v18, v19, rfl⟩ := list20 cs h
  kernel_rfl
theorem fc_length (path : ByteArray) (packed : Bool) (cs : List Value) (e : Value) (h : cs.length = 20) : (fc path packed cs e).length = 23 := by simp [fc, h]
theorem fc_set (path : ByteArray) (packed : Bool) (cs : List Value) (e e' : Value) (h : cs.length = 20) : (fc path packed cs e).set 22 e' = fc path packed cs e' := by
  simp [fc, h]

set_option maxHeartbeats 400000 in
theorem nil16 (F : Interp) (path : ByteArray) (packed : Bool) (xs : List Int) (w : World) (hF : F.answers w.tape) (hx : Bytes20 xs) :
    Calls Tryf.prog 16 #[.string path, .bool packed, .agg (idc xs).toArray] w fun e w' => e = .returned (.string (FmtStop.textOf (F "fmt.Sprintf" (rd path.data.toList packed xs [0] []) 0))) ∧ Below w.heap.size w w' := by
  have hlen : (idc xs).length = 20 := by rw [idc_length]; exact hx.1
  have HI : Hid ((Tryf.prog.info? 33).map (·.size) = some (idc xs).length) := by rw [hlen]; exact info33
  have hfold := foldNil path packed (idc xs) hlen
  have HC : Hid _ := rangeAt_new w (idc xs) 33
  have HF : Hid _ := fault_cells (w.alloc (.cells (idc xs).toArray 33)) path packed xs .nilIface hx.1
  have HX : Hid (Bytes20 xs) := hx
  clear hx
  go_enter Tryf.func16, Tryf.ntmps16
  go_wp2_with (refine wpList_load_midW rfl 33 _ rfl w.heap.size 0 rfl (idc xs) (.array 20 5) HC.out Tryf.underlying33 rfl HI.out ?_)
  obtain ⟨f0, f1, fr, f22⟩ := HF.out
  rw [World.size_alloc] at f0 f1 fr f22
  refine (error24_nil F (w.heap.size + 1) path packed xs _ (by exact hF) HX.out f0 f1 fr f22).mono ?_
  rintro e w1 ⟨rfl, hb⟩
  go_wp2
  go_ret
  exact ⟨rfl, ((((Below.refl _ w).alloc (Nat.le_refl _) _).alloc (by simp) _)).trans (hb.mono (by simp; omega))⟩

set_option maxHeartbeats 800000 in
theorem text15 (F : Interp) (path : ByteArray) (packed : Bool) (xs : List Int) (msg : ByteArray) (w : World) (hF : F.answers w.tape) (hx : Bytes20 xs) :
    Calls Tryf.prog 15 #[.string path, .bool packed, .agg (idc xs).toArray, .string msg] w fun e w' => e = .returned (.string (FmtStop.textOf (F "fmt.Sprintf" (rd path.data.toList packed xs plain58 msg.data.toList) 0))) ∧ Below w.heap.size w w' := by
  have hlen : (idc xs).length = 20 := by rw [idc_length]; exact hx.1
  have hi : (Tryf.prog.info? 33).map (·.size) = some (idc xs).length := by rw [hlen]; exact info33
  have HX : Hid (Bytes20 xs) := hx
  clear hx
  have cr0 := rangeAt_new w (idc xs) 33
  have kr : ∀ o, ((w.alloc (.cells (idc xs).toArray 33)).alloc o).rangeAt w.heap.size 0 (idc xs) := fun o => World.rangeAt_alloc cr0 o
  have kr2 : ∀ o1 o2, (((w.alloc (.cells (idc xs).toArray 33)).alloc o1).alloc o2).rangeAt w.heap.size 0 (idc xs) := fun o1 o2 => World.rangeAt_alloc (kr o1) o2
  have hfold := foldNil path packed (idc xs) hlen
  have hfl := fc_length path packed (idc xs) .nilIface hlen
  have hset := fun p => fc_set path packed (idc xs) .nilIface (.iface 58 (.pointer p)) hlen
  have hu33 := Tryf.underlying33
  have hone : ∀ v ∈ idc xs, v.oneCell' = true := by intro v hv; simp only [idc, List.mem_map] at hv; obtain ⟨x, _, rfl⟩ := hv; rfl
  go_enter Tryf.func15, Tryf.ntmps15
  go_wp2
  go_region_held3 (fun w' => w'.rangeAt w.heap.size 0 (idc xs)) (first | exact cr0 | exact kr _ | exact kr2 _ _) ((go_at_call 23; refine (new23 _ _).mono ?_; rintro e w1 ⟨rfl, rfl⟩))
  go_wp2_with fail
  obtain ⟨f0, f1, fr, f22⟩ := fault_cells ((w.alloc (.cells (idc xs).toArray 33)).alloc (.cells #[.string msg] 60)) path packed xs (.iface 58 (.pointer (some ⟨w.heap.size + 1, 0, none⟩))) HX.out.1
  rw [World.size_alloc, World.size_alloc] at f0 f1 fr f22
  have ce : (((w.alloc (.cells (idc xs).toArray 33)).alloc (.cells #[.string msg] 60)).alloc (.cells (fc path packed (idc xs) (.iface 58 (.pointer (some ⟨w.heap.size + 1, 0, none⟩)))).toArray 49)).cell? ⟨w.heap.size + 1, 0, none⟩ = some (.string msg) := by
    refine (((Below.refl _ _).alloc (Nat.le_refl _) _).cell (p := ⟨w.heap.size + 1, 0, none⟩) (by simp)).trans ?_
    have := rangeAt_new (w.alloc (.cells (idc xs).toArray 33)) [.string msg] 60 0 _ rfl
    rwa [World.size_alloc] at this
  refine (error24_err F (w.heap.size + 1 + 1) path packed xs (w.heap.size + 1) msg _ (by exact hF) HX.out (by exact f0) (by exact f1) (by exact fr) (by exact f22) (by exact ce)).mono ?_
  rintro e w1 ⟨rfl, hb⟩
  go_wp2
  go_ret
  exact ⟨rfl, ((((((Below.refl _ w).alloc (Nat.le_refl _) _).alloc (by simp) _).alloc (by simp; omega) _)).drew).trans (hb.mono (by simp; omega))⟩
end Go.Proofs.Qxb6604672aFmt
