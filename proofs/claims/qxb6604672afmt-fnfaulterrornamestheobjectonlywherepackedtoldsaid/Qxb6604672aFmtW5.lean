/-
  DERIVED. THE WALK of FnFaultErrorNamesTheObjectOnlyWherePacked.
-/
import Derived.Test.Qxb6604672aFmtW4
import Derived.Lib.LazyBuf
namespace Go.Proofs.Qxb6604672aFmt
open Go.RowKit Go.Extern.Stop Go.Stop Go.Extern
attribute [local go_sem] call31 guardOk fmtA fmtAr fmtB fmtBr act9_115 op9_115 str9 act33_115 isString33 str33 act58_118 str58 actNil_118 opNil_118

theorem zeros_bytes : Bytes20 zeros := ⟨rfl, fun i _ => by rw [zeros_getD]; omega⟩
theorem rd_zero (path : List UInt8) (packed : Bool) (sh v : List UInt8) : rd path packed zeros sh v = readB path sh v := by simp [rd]
theorem rd_plain (path : List UInt8) (xs : List Int) (sh v : List UInt8) : rd path false xs sh v = readB path sh v := by simp [rd]

/-- The two callees at the zero id, as the walk spells it. -/
theorem nil16z (F : Interp) (path : ByteArray) (packed : Bool) (w : World) (hF : F.answers w.tape) :
    Calls Tryf.prog 16 #[.string path, .bool packed, .agg #[.int .u8 0, .int .u8 0, .int .u8 0, .int .u8 0, .int .u8 0, .int .u8 0, .int .u8 0, .int .u8 0, .int .u8 0, .int .u8 0, .int .u8 0, .int .u8 0, .int .u8 0, .int .u8 0, .int .u8 0, .int .u8 0, .int .u8 0, .int .u8 0, .int .u8 0, .int .u8 0]] w fun e w' => e = .returned (.string (FmtStop.textOf (F "fmt.Sprintf" (readB path.data.toList [0] []) 0))) ∧ Below w.heap.size w w' := by
  have h := nil16 F path packed zeros w hF zeros_bytes
  rw [rd_zero] at h
  exact h
theorem text15z (F : Interp) (path : ByteArray) (packed : Bool) (msg : ByteArray) (w : World) (hF : F.answers w.tape) :
    Calls Tryf.prog 15 #[.string path, .bool packed, .agg #[.int .u8 0, .int .u8 0, .int .u8 0, .int .u8 0, .int .u8 0, .int .u8 0, .int .u8 0, .int .u8 0, .int .u8 0, .int .u8 0, .int .u8 0, .int .u8 0, .int .u8 0, .int .u8 0, .int .u8 0, .int .u8 0, .int .u8 0, .int .u8 0, .int .u8 0, .int .u8 0], .string msg] w fun e w' => e = .returned (.string (FmtStop.textOf (F "fmt.Sprintf" (readB path.data.toList plain58 msg.data.toList) 0))) ∧ Below w.heap.size w w' := by
  have h := text15 F path packed zeros msg w hF zeros_bytes
  rw [rd_zero] at h
  exact h
theorem there_new (w : World) (cs : List Value) (t : TypeId) (n : Nat) (h : cs.length = n) : (w.alloc (.cells cs.toArray t)).there w.heap.size 0 n := fun j hj => by
  refine ⟨?_, ?_⟩
  · rw [rangeAt_new w cs t j cs[j] (List.getElem?_eq_getElem (by omega))]; rfl
  · simp [World.frozen?_alloc_at]
theorem box33 (w1 : World) (xs : List Int) (hl : xs.length = 20) : ∃ w5, (storeCells ⟨w1.heap.size, 0, none⟩ (idc xs)).run Tryf.prog (w1.alloc (.cells #[.int .u8 0, .int .u8 0, .int .u8 0, .int .u8 0, .int .u8 0, .int .u8 0, .int .u8 0, .int .u8 0, .int .u8 0, .int .u8 0, .int .u8 0, .int .u8 0, .int .u8 0, .int .u8 0, .int .u8 0, .int .u8 0, .int .u8 0, .int .u8 0, .int .u8 0, .int .u8 0] 33)) = .ok () w5 ∧ w5.rangeAt w1.heap.size 0 (idc xs) ∧ Below w1.heap.size w1 w5 ∧ w1.heap.size < w5.heap.size := by
  have ht : (w1.alloc (.cells #[.int .u8 0, .int .u8 0, .int .u8 0, .int .u8 0, .int .u8 0, .int .u8 0, .int .u8 0, .int .u8 0, .int .u8 0, .int .u8 0, .int .u8 0, .int .u8 0, .int .u8 0, .int .u8 0, .int .u8 0, .int .u8 0, .int .u8 0, .int .u8 0, .int .u8 0, .int .u8 0] 33)).there w1.heap.size 0 (idc xs).length := by rw [idc_length, hl]; exact there_new w1 (idc zeros) 33 20 rfl
  have h1 : ∀ v ∈ idc xs, v.oneCell' = true := by intro v hv; simp only [idc, List.mem_map] at hv; obtain ⟨x, _, rfl⟩ := hv; rfl
  have hr := run_storeCells_cells (P := Tryf.prog) w1.heap.size 0 (idc xs) 0 _ (fun j hj => (ht j hj).1) (fun j hj => (ht j hj).2) h1
  have hs := World.rangeAt_setCells_same (w1.alloc (.cells #[.int .u8 0, .int .u8 0, .int .u8 0, .int .u8 0, .int .u8 0, .int .u8 0, .int .u8 0, .int .u8 0, .int .u8 0, .int .u8 0, .int .u8 0, .int .u8 0, .int .u8 0, .int .u8 0, .int .u8 0, .int .u8 0, .int .u8 0, .int .u8 0, .int .u8 0, .int .u8 0] 33)) w1.heap.size 0 (idc xs) ht
  refine ⟨_, hr, hs, Go.below_setCells (Nat.le_refl _) _ _ _ ((Below.refl _ w1).alloc (Nat.le_refl _) _), ?_⟩
  have hc := hs 0 (.int .u8 (xs.getD 0 0)) (by simp [idc, hl])
  exact World.block_lt_of_cell? _ _ hc
/-- A range of a world that lies below is a range of the later one. -/
theorem range_later {B b : Nat} {a c : World} {cs : List Value} (h : Below B a c) (hb : b < B) (hr : a.rangeAt b 0 cs) : c.rangeAt b 0 cs := fun j v hv => (h.cell (p := ⟨b, 0 + j, none⟩) hb).trans (hr j v hv)

set_option maxHeartbeats 1600000 in
theorem law6B_err (F : Interp) (path : ByteArray) (xs : List Int) (msg u : ByteArray) (w : World) (hF : F.answers w.tape) (hx : Bytes20 xs)
    (hp : path.size ≤ 65536) (hm : msg.size ≤ 65536) (ul0 : 5 + (path.size : Int) + 2 ≤ (u.size : Int)) (ul1 : (u.size : Int) ≤ 200000)
    (us1 : ∀ w, (Instr.slice 9 (.string u) none (some (.int .i64 (5 + (path.size : Int) + 2))) none).run Tryf.prog w = .ok (.string ({ data := #[111, 100, 98, 58, 32] } ++ path ++ { data := #[58, 32] } : ByteArray)) w)
    (hu : FmtStop.textOf (F "fmt.Sprintf" (readB path.data.toList plain58 msg.data.toList) 0) = u) :
    Calls Tryf.prog 6 #[.string path, .bool false, .agg (idc xs).toArray, .string msg, .bool true] w fun e w' => e = .returned (.bool true) ∧ Below w.heap.size w w' := by
  have HI : Hid ((Tryf.prog.info? 30).map (·.size) = some (idc xs).length) := by rw [idc_length, hx.1]; exact info30
  have HI3 : Hid ((Tryf.prog.info? 33).map (·.size) = some (idc xs).length) := by rw [idc_length, hx.1]; exact info33
  have HI3' : Hid ((Tryf.prog.info? 33).map (·.size) = some (idc xs).toArray.size) := by rw [List.size_toArray, idc_length, hx.1]; exact info33
  have HC : Hid _ := rangeAt_new w (idc xs) 30
  have HX : Hid (Bytes20 xs) := hx
  have HU : Hid _ := hu
  have HL : Hid ((idc xs).toArray.size = 20) := by rw [List.size_toArray, idc_length]; exact hx.1
  have HN : Hid ((idc xs).toArray.all (·.oneCell') = true) := all_oneCell_toArray (by intro v hv; simp only [idc, List.mem_map] at hv; obtain ⟨x, _, rfl⟩ := hv; rfl)
  clear hx hu
  have hf : fits path msg = true := by simp [fits]; omega
  go_enter Tryf.func6, Tryf.ntmps6
  go_wp2_with (refine wpList_load_midW rfl 30 _ rfl w.heap.size 0 rfl (idc xs) (.array 20 5) HC.out Tryf.underlying30 rfl HI.out ?_)
  refine (bytes19 path false xs msg true _ (by unfold maxLen; omega) (by unfold maxLen; omega)).mono ?_
  rintro e w1 ⟨rfl, hb1⟩
  rw [hf]
  have HC1 : Hid (w1.rangeAt w.heap.size 0 (idc xs)) := fun j v hv => (hb1.cell (p := ⟨w.heap.size, 0 + j, none⟩) (by simp)).trans (HC.out j v hv)
  have HB1 : Hid (Below w.heap.size w w1) := ((Below.refl _ w).alloc (Nat.le_refl _) _).trans (hb1.mono (by simp))
  have HS1 : w.heap.size < w1.heap.size := by have := hb1.size; simp at this; omega
  clear hb1
  obtain ⟨w5, st5, r5, b5, z5⟩ := box33 w1 xs HX.out.1
  have R5 : Hid (w5.rangeAt w.heap.size 0 (idc xs) ∧ w5.rangeAt w1.heap.size 0 (idc xs)) := ⟨range_later b5 HS1 HC1.out, r5⟩
  have B5 : Hid (Below w.heap.size w w5) := HB1.out.trans (b5.mono (by omega))
  clear r5 b5
  go_wp2_with (first | refine wpList_load_midW rfl 30 _ rfl w.heap.size 0 rfl (idc xs) (.array 20 5) HC1.out Tryf.underlying30 rfl HI.out ?_ | refine wpList_load_midW rfl 33 _ rfl w1.heap.size 0 rfl (idc xs) (.array 20 5) R5.out.2 Tryf.underlying33 rfl HI3.out ?_)
  clear st5
  refine (text15 F path false xs msg _ (by rw [B5.out.tape]; exact hF) HX.out).mono ?_
  rintro e w6 ⟨rfl, b6⟩
  rw [rd_plain, HU.out]
  have R6 : Hid (w6.rangeAt w.heap.size 0 (idc xs) ∧ w6.rangeAt w1.heap.size 0 (idc xs)) := ⟨range_later b6 (by omega) R5.out.1, range_later b6 z5 R5.out.2⟩
  have B6 : Hid (Below w.heap.size w w6) := B5.out.trans (b6.mono (by omega))
  have z6 : w1.heap.size < w6.heap.size := by have := b6.size; omega
  clear b6 R5 B5 z5
  go_wp2_with (refine wpList_load_midW rfl 33 _ rfl w1.heap.size 0 rfl (idc xs) (.array 20 5) R6.out.2 Tryf.underlying33 rfl HI3.out ?_)
  refine (text15 F path false xs msg _ (by rw [B6.out.tape]; exact hF) HX.out).mono ?_
  rintro e w7 ⟨rfl, b7⟩
  rw [rd_plain, HU.out]
  have R7 : Hid (w7.rangeAt w.heap.size 0 (idc xs)) := range_later b7 (by omega) R6.out.1
  have B7 : Hid (Below w.heap.size w w7) := B6.out.trans (b7.mono (by omega))
  have z7 : w.heap.size < w7.heap.size := by have := b7.size; omega
  clear b7 R6 B6 z6
  go_wp2_with fail
  refine (text15z F path false msg _ (by rw [B7.out.tape]; exact hF)).mono ?_
  rintro e w8 ⟨rfl, b8⟩
  rw [HU.out]
  have R8 : Hid (w8.rangeAt w.heap.size 0 (idc xs)) := range_later b8 z7 R7.out
  have B8 : Hid (Below w.heap.size w w8) := B7.out.trans (b8.mono (by omega))
  clear b8 R7 B7 z7
  go_wp2
  go_ret
  exact ⟨rfl, B8.out⟩

set_option maxHeartbeats 1600000 in
theorem law6B_nil (F : Interp) (path : ByteArray) (xs : List Int) (msg u : ByteArray) (w : World) (hF : F.answers w.tape) (hx : Bytes20 xs)
    (hp : path.size ≤ 65536) (hm : msg.size ≤ 65536) (ul0 : 5 + (path.size : Int) + 2 ≤ (u.size : Int)) (ul1 : (u.size : Int) ≤ 200000)
    (us1 : ∀ w, (Instr.slice 9 (.string u) none (some (.int .i64 (5 + (path.size : Int) + 2))) none).run Tryf.prog w = .ok (.string ({ data := #[111, 100, 98, 58, 32] } ++ path ++ { data := #[58, 32] } : ByteArray)) w)
    (hu : FmtStop.textOf (F "fmt.Sprintf" (readB path.data.toList [0] []) 0) = u) :
    Calls Tryf.prog 6 #[.string path, .bool false, .agg (idc xs).toArray, .string msg, .bool false] w fun e w' => e = .returned (.bool true) ∧ Below w.heap.size w w' := by
  have HI : Hid ((Tryf.prog.info? 30).map (·.size) = some (idc xs).length) := by rw [idc_length, hx.1]; exact info30
  have HI3 : Hid ((Tryf.prog.info? 33).map (·.size) = some (idc xs).length) := by rw [idc_length, hx.1]; exact info33
  have HI3' : Hid ((Tryf.prog.info? 33).map (·.size) = some (idc xs).toArray.size) := by rw [List.size_toArray, idc_length, hx.1]; exact info33
  have HC : Hid _ := rangeAt_new w (idc xs) 30
  have HX : Hid (Bytes20 xs) := hx
  have HU : Hid _ := hu
  have HL : Hid ((idc xs).toArray.size = 20) := by rw [List.size_toArray, idc_length]; exact hx.1
  have HN : Hid ((idc xs).toArray.all (·.oneCell') = true) := all_oneCell_toArray (by intro v hv; simp only [idc, List.mem_map] at hv; obtain ⟨x, _, rfl⟩ := hv; rfl)
  clear hx hu
  have hf : fits path msg = true := by simp [fits]; omega
  go_enter Tryf.func6, Tryf.ntmps6
  go_wp2_with (refine wpList_load_midW rfl 30 _ rfl w.heap.size 0 rfl (idc xs) (.array 20 5) HC.out Tryf.underlying30 rfl HI.out ?_)
  refine (bytes19 path false xs msg false _ (by unfold maxLen; omega) (by unfold maxLen; omega)).mono ?_
  rintro e w1 ⟨rfl, hb1⟩
  rw [hf]
  have HC1 : Hid (w1.rangeAt w.heap.size 0 (idc xs)) := fun j v hv => (hb1.cell (p := ⟨w.heap.size, 0 + j, none⟩) (by simp)).trans (HC.out j v hv)
  have HB1 : Hid (Below w.heap.size w w1) := ((Below.refl _ w).alloc (Nat.le_refl _) _).trans (hb1.mono (by simp))
  have HS1 : w.heap.size < w1.heap.size := by have := hb1.size; simp at this; omega
  clear hb1
  obtain ⟨w5, st5, r5, b5, z5⟩ := box33 w1 xs HX.out.1
  have R5 : Hid (w5.rangeAt w.heap.size 0 (idc xs) ∧ w5.rangeAt w1.heap.size 0 (idc xs)) := ⟨range_later b5 HS1 HC1.out, r5⟩
  have B5 : Hid (Below w.heap.size w w5) := HB1.out.trans (b5.mono (by omega))
  clear r5 b5
  go_wp2_with (first | refine wpList_load_midW rfl 30 _ rfl w.heap.size 0 rfl (idc xs) (.array 20 5) HC1.out Tryf.underlying30 rfl HI.out ?_ | refine wpList_load_midW rfl 33 _ rfl w1.heap.size 0 rfl (idc xs) (.array 20 5) R5.out.2 Tryf.underlying33 rfl HI3.out ?_)
  clear st5
  refine (nil16 F path false xs _ (by rw [B5.out.tape]; exact hF) HX.out).mono ?_
  rintro e w6 ⟨rfl, b6⟩
  rw [rd_plain, HU.out]
  have R6 : Hid (w6.rangeAt w.heap.size 0 (idc xs) ∧ w6.rangeAt w1.heap.size 0 (idc xs)) := ⟨range_later b6 (by omega) R5.out.1, range_later b6 z5 R5.out.2⟩
  have B6 : Hid (Below w.heap.size w w6) := B5.out.trans (b6.mono (by omega))
  have z6 : w1.heap.size < w6.heap.size := by have := b6.size; omega
  clear b6 R5 B5 z5
  go_wp2_with (refine wpList_load_midW rfl 33 _ rfl w1.heap.size 0 rfl (idc xs) (.array 20 5) R6.out.2 Tryf.underlying33 rfl HI3.out ?_)
  refine (nil16 F path false xs _ (by rw [B6.out.tape]; exact hF) HX.out).mono ?_
  rintro e w7 ⟨rfl, b7⟩
  rw [rd_plain, HU.out]
  have R7 : Hid (w7.rangeAt w.heap.size 0 (idc xs)) := range_later b7 (by omega) R6.out.1
  have B7 : Hid (Below w.heap.size w w7) := B6.out.trans (b7.mono (by omega))
  have z7 : w.heap.size < w7.heap.size := by have := b7.size; omega
  clear b7 R6 B6 z6
  go_wp2_with fail
  refine (nil16z F path false _ (by rw [B7.out.tape]; exact hF)).mono ?_
  rintro e w8 ⟨rfl, b8⟩
  rw [HU.out]
  have R8 : Hid (w8.rangeAt w.heap.size 0 (idc xs)) := range_later b8 z7 R7.out
  have B8 : Hid (Below w.heap.size w w8) := B7.out.trans (b8.mono (by omega))
  clear b8 R7 B7 z7
  go_wp2
  go_ret
  exact ⟨rfl, B8.out⟩

set_option maxHeartbeats 1600000 in
theorem law6Z_err (F : Interp) (path : ByteArray) (xs : List Int) (msg u : ByteArray) (w : World) (hF : F.answers w.tape) (hx : Bytes20 xs) (hz : xs = zeros)
    (hp : path.size ≤ 65536) (hm : msg.size ≤ 65536) (ul0 : 5 + (path.size : Int) + 2 ≤ (u.size : Int)) (ul1 : (u.size : Int) ≤ 200000)
    (us1 : ∀ w, (Instr.slice 9 (.string u) none (some (.int .i64 (5 + (path.size : Int) + 2))) none).run Tryf.prog w = .ok (.string ({ data := #[111, 100, 98, 58, 32] } ++ path ++ { data := #[58, 32] } : ByteArray)) w)
    (hu : FmtStop.textOf (F "fmt.Sprintf" (readB path.data.toList plain58 msg.data.toList) 0) = u) :
    Calls Tryf.prog 6 #[.string path, .bool true, .agg (idc xs).toArray, .string msg, .bool true] w fun e w' => e = .returned (.bool true) ∧ Below w.heap.size w w' := by
  have HI : Hid ((Tryf.prog.info? 30).map (·.size) = some (idc xs).length) := by rw [idc_length, hx.1]; exact info30
  have HI3 : Hid ((Tryf.prog.info? 33).map (·.size) = some (idc xs).length) := by rw [idc_length, hx.1]; exact info33
  have HI3' : Hid ((Tryf.prog.info? 33).map (·.size) = some (idc xs).toArray.size) := by rw [List.size_toArray, idc_length, hx.1]; exact info33
  have HC : Hid _ := rangeAt_new w (idc xs) 30
  have HX : Hid (Bytes20 xs) := hx
  have HU : Hid _ := hu
  have HL : Hid ((idc xs).toArray.size = 20) := by rw [List.size_toArray, idc_length]; exact hx.1
  have HN : Hid ((idc xs).toArray.all (·.oneCell') = true) := all_oneCell_toArray (by intro v hv; simp only [idc, List.mem_map] at hv; obtain ⟨x, _, rfl⟩ := hv; rfl)
  have HZ : Hid _ := hz
  clear hz
  clear hx hu
  have hf : fits path msg = true := by simp [fits]; omega
  go_enter Tryf.func6, Tryf.ntmps6
  go_wp2_with (refine wpList_load_midW rfl 30 _ rfl w.heap.size 0 rfl (idc xs) (.array 20 5) HC.out Tryf.underlying30 rfl HI.out ?_)
  refine (bytes19 path true xs msg true _ (by unfold maxLen; omega) (by unfold maxLen; omega)).mono ?_
  rintro e w1 ⟨rfl, hb1⟩
  rw [hf]
  have HC1 : Hid (w1.rangeAt w.heap.size 0 (idc xs)) := fun j v hv => (hb1.cell (p := ⟨w.heap.size, 0 + j, none⟩) (by simp)).trans (HC.out j v hv)
  have HB1 : Hid (Below w.heap.size w w1) := ((Below.refl _ w).alloc (Nat.le_refl _) _).trans (hb1.mono (by simp))
  have HS1 : w.heap.size < w1.heap.size := by have := hb1.size; simp at this; omega
  clear hb1
  obtain ⟨w5, st5, r5, b5, z5⟩ := box33 w1 xs HX.out.1
  have R5 : Hid (w5.rangeAt w.heap.size 0 (idc xs) ∧ w5.rangeAt w1.heap.size 0 (idc xs)) := ⟨range_later b5 HS1 HC1.out, r5⟩
  have B5 : Hid (Below w.heap.size w w5) := HB1.out.trans (b5.mono (by omega))
  clear r5 b5
  go_wp2_with (first | refine wpList_load_midW rfl 30 _ rfl w.heap.size 0 rfl (idc xs) (.array 20 5) HC1.out Tryf.underlying30 rfl HI.out ?_ | refine wpList_load_midW rfl 33 _ rfl w1.heap.size 0 rfl (idc xs) (.array 20 5) R5.out.2 Tryf.underlying33 rfl HI3.out ?_)
  clear st5
  refine (text15 F path true xs msg _ (by rw [B5.out.tape]; exact hF) HX.out).mono ?_
  rintro e w6 ⟨rfl, b6⟩
  rw [show rd path.data.toList true xs plain58 msg.data.toList = readB path.data.toList plain58 msg.data.toList from (by rw [HZ.out]; exact rd_zero _ _ _ _), HU.out]
  have R6 : Hid (w6.rangeAt w.heap.size 0 (idc xs) ∧ w6.rangeAt w1.heap.size 0 (idc xs)) := ⟨range_later b6 (by omega) R5.out.1, range_later b6 z5 R5.out.2⟩
  have B6 : Hid (Below w.heap.size w w6) := B5.out.trans (b6.mono (by omega))
  have z6 : w1.heap.size < w6.heap.size := by have := b6.size; omega
  clear b6 R5 B5 z5
  go_wp2_with (refine wpList_load_midW rfl 33 _ rfl w1.heap.size 0 rfl (idc xs) (.array 20 5) R6.out.2 Tryf.underlying33 rfl HI3.out ?_)
  refine (text15 F path false xs msg _ (by rw [B6.out.tape]; exact hF) HX.out).mono ?_
  rintro e w7 ⟨rfl, b7⟩
  rw [rd_plain, HU.out]
  have R7 : Hid (w7.rangeAt w.heap.size 0 (idc xs)) := range_later b7 (by omega) R6.out.1
  have B7 : Hid (Below w.heap.size w w7) := B6.out.trans (b7.mono (by omega))
  have z7 : w.heap.size < w7.heap.size := by have := b7.size; omega
  clear b7 R6 B6 z6
  go_wp2_with fail
  refine (text15z F path true msg _ (by rw [B7.out.tape]; exact hF)).mono ?_
  rintro e w8 ⟨rfl, b8⟩
  rw [HU.out]
  have R8 : Hid (w8.rangeAt w.heap.size 0 (idc xs)) := range_later b8 z7 R7.out
  have B8 : Hid (Below w.heap.size w w8) := B7.out.trans (b8.mono (by omega))
  clear b8 R7 B7 z7
  go_wp2_with (refine wpList_load_midW rfl 30 _ rfl w.heap.size 0 rfl (idc xs) (.array 20 5) R8.out Tryf.underlying30 rfl HI.out ?_)
  refine (zero17 xs HX.out.1 _).mono ?_
  rintro e w9 ⟨rfl, rfl⟩
  have hz' : decide (xs = zeros) = true := by simpa using HZ.out
  rw [hz']
  clear hz'
  go_wp2
  go_ret
  exact ⟨rfl, B8.out.alloc B8.out.size _⟩

set_option maxHeartbeats 1600000 in
theorem law6Z_nil (F : Interp) (path : ByteArray) (xs : List Int) (msg u : ByteArray) (w : World) (hF : F.answers w.tape) (hx : Bytes20 xs) (hz : xs = zeros)
    (hp : path.size ≤ 65536) (hm : msg.size ≤ 65536) (ul0 : 5 + (path.size : Int) + 2 ≤ (u.size : Int)) (ul1 : (u.size : Int) ≤ 200000)
    (us1 : ∀ w, (Instr.slice 9 (.string u) none (some (.int .i64 (5 + (path.size : Int) + 2))) none).run Tryf.prog w = .ok (.string ({ data := #[111, 100, 98, 58, 32] } ++ path ++ { data := #[58, 32] } : ByteArray)) w)
    (hu : FmtStop.textOf (F "fmt.Sprintf" (readB path.data.toList [0] []) 0) = u) :
    Calls Tryf.prog 6 #[.string path, .bool true, .agg (idc xs).toArray, .string msg, .bool false] w fun e w' => e = .returned (.bool true) ∧ Below w.heap.size w w' := by
  have HI : Hid ((Tryf.prog.info? 30).map (·.size) = some (idc xs).length) := by rw [idc_length, hx.1]; exact info30
  have HI3 : Hid ((Tryf.prog.info? 33).map (·.size) = some (idc xs).length) := by rw [idc_length, hx.1]; exact info33
  have HI3' : Hid ((Tryf.prog.info? 33).map (·.size) = some (idc xs).toArray.size) := by rw [List.size_toArray, idc_length, hx.1]; exact info33
  have HC : Hid _ := rangeAt_new w (idc xs) 30
  have HX : Hid (Bytes20 xs) := hx
  have HU : Hid _ := hu
  have HL : Hid ((idc xs).toArray.size = 20) := by rw [List.size_toArray, idc_length]; exact hx.1
  have HN : Hid ((idc xs).toArray.all (·.oneCell') = true) := all_oneCell_toArray (by intro v hv; simp only [idc, List.mem_map] at hv; obtain ⟨x, _, rfl⟩ := hv; rfl)
  have HZ : Hid _ := hz
  clear hz
  clear hx hu
  have hf : fits path msg = true := by simp [fits]; omega
  go_enter Tryf.func6, Tryf.ntmps6
  go_wp2_with (refine wpList_load_midW rfl 30 _ rfl w.heap.size 0 rfl (idc xs) (.array 20 5) HC.out Tryf.underlying30 rfl HI.out ?_)
  refine (bytes19 path true xs msg false _ (by unfold maxLen; omega) (by unfold maxLen; omega)).mono ?_
  rintro e w1 ⟨rfl, hb1⟩
  rw [hf]
  have HC1 : Hid (w1.rangeAt w.heap.size 0 (idc xs)) := fun j v hv => (hb1.cell (p := ⟨w.heap.size, 0 + j, none⟩) (by simp)).trans (HC.out j v hv)
  have HB1 : Hid (Below w.heap.size w w1) := ((Below.refl _ w).alloc (Nat.le_refl _) _).trans (hb1.mono (by simp))
  have HS1 : w.heap.size < w1.heap.size := by have := hb1.size; simp at this; omega
  clear hb1
  obtain ⟨w5, st5, r5, b5, z5⟩ := box33 w1 xs HX.out.1
  have R5 : Hid (w5.rangeAt w.heap.size 0 (idc xs) ∧ w5.rangeAt w1.heap.size 0 (idc xs)) := ⟨range_later b5 HS1 HC1.out, r5⟩
  have B5 : Hid (Below w.heap.size w w5) := HB1.out.trans (b5.mono (by omega))
  clear r5 b5
  go_wp2_with (first | refine wpList_load_midW rfl 30 _ rfl w.heap.size 0 rfl (idc xs) (.array 20 5) HC1.out Tryf.underlying30 rfl HI.out ?_ | refine wpList_load_midW rfl 33 _ rfl w1.heap.size 0 rfl (idc xs) (.array 20 5) R5.out.2 Tryf.underlying33 rfl HI3.out ?_)
  clear st5
  refine (nil16 F path true xs _ (by rw [B5.out.tape]; exact hF) HX.out).mono ?_
  rintro e w6 ⟨rfl, b6⟩
  rw [show rd path.data.toList true xs [0] [] = readB path.data.toList [0] [] from (by rw [HZ.out]; exact rd_zero _ _ _ _), HU.out]
  have R6 : Hid (w6.rangeAt w.heap.size 0 (idc xs) ∧ w6.rangeAt w1.heap.size 0 (idc xs)) := ⟨range_later b6 (by omega) R5.out.1, range_later b6 z5 R5.out.2⟩
  have B6 : Hid (Below w.heap.size w w6) := B5.out.trans (b6.mono (by omega))
  have z6 : w1.heap.size < w6.heap.size := by have := b6.size; omega
  clear b6 R5 B5 z5
  go_wp2_with (refine wpList_load_midW rfl 33 _ rfl w1.heap.size 0 rfl (idc xs) (.array 20 5) R6.out.2 Tryf.underlying33 rfl HI3.out ?_)
  refine (nil16 F path false xs _ (by rw [B6.out.tape]; exact hF) HX.out).mono ?_
  rintro e w7 ⟨rfl, b7⟩
  rw [rd_plain, HU.out]
  have R7 : Hid (w7.rangeAt w.heap.size 0 (idc xs)) := range_later b7 (by omega) R6.out.1
  have B7 : Hid (Below w.heap.size w w7) := B6.out.trans (b7.mono (by omega))
  have z7 : w.heap.size < w7.heap.size := by have := b7.size; omega
  clear b7 R6 B6 z6
  go_wp2_with fail
  refine (nil16z F path true _ (by rw [B7.out.tape]; exact hF)).mono ?_
  rintro e w8 ⟨rfl, b8⟩
  rw [HU.out]
  have R8 : Hid (w8.rangeAt w.heap.size 0 (idc xs)) := range_later b8 z7 R7.out
  have B8 : Hid (Below w.heap.size w w8) := B7.out.trans (b8.mono (by omega))
  clear b8 R7 B7 z7
  go_wp2_with (refine wpList_load_midW rfl 30 _ rfl w.heap.size 0 rfl (idc xs) (.array 20 5) R8.out Tryf.underlying30 rfl HI.out ?_)
  refine (zero17 xs HX.out.1 _).mono ?_
  rintro e w9 ⟨rfl, rfl⟩
  have hz' : decide (xs = zeros) = true := by simpa using HZ.out
  rw [hz']
  clear hz'
  go_wp2
  go_ret
  exact ⟨rfl, B8.out.alloc B8.out.size _⟩

end Go.Proofs.Qxb6604672aFmt
