/-
  DERIVED. THE WALK of FnFaultErrorNamesTheObjectOnlyWherePacked, where the object is named.
-/
import Derived.Test.Qxb6604672aFmtW5
namespace Go.Proofs.Qxb6604672aFmt
open Go.RowKit Go.Extern.Stop Go.Stop Go.Extern
attribute [local go_sem] call31 guardOk fmtA fmtAr fmtB fmtBr act9_115 op9_115 str9 act33_115 isString33 str33 act58_118 str58 actNil_118 opNil_118

set_option maxHeartbeats 1600000 in
theorem law6A_err (F : Interp) (path : ByteArray) (xs : List Int) (msg u g : ByteArray) (w : World) (hF : F.answers w.tape) (hx : Bytes20 xs) (hz : xs ≠ zeros)
    (hp : path.size ≤ 65536) (hm : msg.size ≤ 65536) (ul0 : 5 + (path.size : Int) + 2 ≤ (u.size : Int)) (ul1 : (u.size : Int) ≤ 200000)
    (us1 : ∀ w, (Instr.slice 9 (.string u) none (some (.int .i64 (5 + (path.size : Int) + 2))) none).run Tryf.prog w = .ok (.string ({ data := #[111, 100, 98, 58, 32] } ++ path ++ { data := #[58, 32] } : ByteArray)) w)
    (us2 : ∀ w, (Instr.slice 9 (.string u) (some (.int .i64 (5 + (path.size : Int) + 2))) none none).run Tryf.prog w = .ok (.string msg) w)
    (hs : ((g.size : Int) == (u.size : Int) + 49) = true) (hsl : Sl path g msg xs)
    (hg : FmtStop.textOf (F "fmt.Sprintf" (rd path.data.toList true xs plain58 msg.data.toList) 0) = g)
    (hu : FmtStop.textOf (F "fmt.Sprintf" (readB path.data.toList plain58 msg.data.toList) 0) = u) :
    Calls Tryf.prog 6 #[.string path, .bool true, .agg (idc xs).toArray, .string msg, .bool true] w fun e w' => e = .returned (.bool true) ∧ Below w.heap.size w w' := by
  have HI : Hid ((Tryf.prog.info? 30).map (·.size) = some (idc xs).length) := by rw [idc_length, hx.1]; exact info30
  have HI3 : Hid ((Tryf.prog.info? 33).map (·.size) = some (idc xs).length) := by rw [idc_length, hx.1]; exact info33
  have HI3' : Hid ((Tryf.prog.info? 33).map (·.size) = some (idc xs).toArray.size) := by rw [List.size_toArray, idc_length, hx.1]; exact info33
  have HC : Hid _ := rangeAt_new w (idc xs) 30
  have HX : Hid (Bytes20 xs) := hx
  have HU : Hid _ := hu
  have HL : Hid ((idc xs).toArray.size = 20) := by rw [List.size_toArray, idc_length]; exact hx.1
  have HN : Hid ((idc xs).toArray.all (·.oneCell') = true) := all_oneCell_toArray (by intro v hv; simp only [idc, List.mem_map] at hv; obtain ⟨x, _, rfl⟩ := hv; rfl)
  have HZ : Hid _ := hz
  clear hz
  obtain ⟨s1, s2, s3, s4, s5⟩ := hsl
  have HG : Hid _ := hg
  clear hg
  clear hx hu
  have hf : fits path msg = true := by simp [fits]; omega
  go_enter Tryf.func6, Tryf.ntmps6
  go_wp2_with (refine wpList_load_midW rfl 30 _ rfl w.heap.size 0 rfl (idc xs) (.array 20 5) HC.out Tryf.underlying30 rfl HI.out ?_)
  refine (bytes19 path true xs msg true _ (by unfold maxLen; omega) (by unfold maxLen; omega)).mono ?_
  rintro e w1 ⟨rfl, hb1⟩
  rw [hf]
  have HC1 : Hid (w1.rangeAt w.heap.size 0 (idc xs)) := fun j v hv => (hb1.cell (p := ⟨w.heap.size, 0 + j, none⟩) (by simp)).trans (HC.out j v hv)
  have HB1 : Hid (Below w.heap.size w w1) := ((Below.refl _ w).alloc (Nat.le_refl _) _).trans (hb1.mono (by simp))
  have HS1 : w.heap.size < w1.heap.size := by have := hb1.size; simp at this; omega
  clear hb1
  obtain ⟨w5, st5, r5, b5, z5⟩ := box33 w1 xs HX.out.1
  have R5 : Hid (w5.rangeAt w.heap.size 0 (idc xs) ∧ w5.rangeAt w1.heap.size 0 (idc xs)) := ⟨range_later b5 HS1 HC1.out, r5⟩
  have B5 : Hid (Below w.heap.size w w5) := HB1.out.trans (b5.mono (by omega))
  clear r5 b5
  go_wp2_with (first | refine wpList_load_midW rfl 30 _ rfl w.heap.size 0 rfl (idc xs) (.array 20 5) HC1.out Tryf.underlying30 rfl HI.out ?_ | refine wpList_load_midW rfl 33 _ rfl w1.heap.size 0 rfl (idc xs) (.array 20 5) R5.out.2 Tryf.underlying33 rfl HI3.out ?_)
  clear st5
  refine (text15 F path true xs msg _ (by rw [B5.out.tape]; exact hF) HX.out).mono ?_
  rintro e w6 ⟨rfl, b6⟩
  rw [HG.out]
  have R6 : Hid (w6.rangeAt w.heap.size 0 (idc xs) ∧ w6.rangeAt w1.heap.size 0 (idc xs)) := ⟨range_later b6 (by omega) R5.out.1, range_later b6 z5 R5.out.2⟩
  have B6 : Hid (Below w.heap.size w w6) := B5.out.trans (b6.mono (by omega))
  have z6 : w1.heap.size < w6.heap.size := by have := b6.size; omega
  clear b6 R5 B5 z5
  go_wp2_with (refine wpList_load_midW rfl 33 _ rfl w1.heap.size 0 rfl (idc xs) (.array 20 5) R6.out.2 Tryf.underlying33 rfl HI3.out ?_)
  refine (text15 F path false xs msg _ (by rw [B6.out.tape]; exact hF) HX.out).mono ?_
  rintro e w7 ⟨rfl, b7⟩
  rw [rd_plain, HU.out]
  have R7 : Hid (w7.rangeAt w.heap.size 0 (idc xs)) := range_later b7 (by omega) R6.out.1
  have B7 : Hid (Below w.heap.size w w7) := B6.out.trans (b7.mono (by omega))
  have z7 : w.heap.size < w7.heap.size := by have := b7.size; omega
  clear b7 R6 B6 z6
  go_wp2_with fail
  refine (text15z F path true msg _ (by rw [B7.out.tape]; exact hF)).mono ?_
  rintro e w8 ⟨rfl, b8⟩
  rw [HU.out]
  have R8 : Hid (w8.rangeAt w.heap.size 0 (idc xs)) := range_later b8 z7 R7.out
  have B8 : Hid (Below w.heap.size w w8) := B7.out.trans (b8.mono (by omega))
  clear b8 R7 B7 z7
  go_wp2_with (refine wpList_load_midW rfl 30 _ rfl w.heap.size 0 rfl (idc xs) (.array 20 5) R8.out Tryf.underlying30 rfl HI.out ?_)
  refine (zero17 xs HX.out.1 _).mono ?_
  rintro e w9 ⟨rfl, rfl⟩
  have hz' : decide (xs = zeros) = false := by simpa using HZ.out
  rw [hz']
  clear hz'
  go_wp2
  have cr0 : (w8.alloc (.cells (idc xs).toArray 30)).rangeAt w.heap.size 0 (idc xs) := World.rangeAt_alloc R8.out _
  have kr : ∀ o, ((w8.alloc (.cells (idc xs).toArray 30)).alloc o).rangeAt w.heap.size 0 (idc xs) := fun o => World.rangeAt_alloc cr0 o
  have wr0 : IntKind.i64.wrap ((u.size : Int) + 49) = (u.size : Int) + 49 := wrapOk (by omega) (by omega)
  have wr1 : IntKind.i64.wrap (5 + (path.size : Int) + 2 + 49) = 5 + (path.size : Int) + 2 + 49 := wrapOk (by omega) (by omega)
  have wr3 : IntKind.i64.wrap (5 + (path.size : Int) + 2 + 7) = 5 + (path.size : Int) + 2 + 7 := wrapOk (by omega) (by omega)
  have wr4 : IntKind.i64.wrap (5 + (path.size : Int) + 2 + 47) = 5 + (path.size : Int) + 2 + 47 := wrapOk (by omega) (by omega)
  have hu30 := Tryf.underlying30
  have hi := HI.out
  have hlen : (idc xs).length = 20 := by rw [idc_length]; exact HX.out.1
  have hone : ∀ v ∈ idc xs, v.oneCell' = true := by intro v hv; simp only [idc, List.mem_map] at hv; obtain ⟨x, _, rfl⟩ := hv; rfl
  go_region_held3 (fun w' => w'.rangeAt w.heap.size 0 (idc xs)) (first | exact cr0 | exact kr _) ((go_at_call 18; refine (decodes18' xs HX.out _).mono ?_; rintro e w4 ⟨rfl, rfl⟩))
  go_wp2
  go_ret
  exact ⟨rfl, ((B8.out.alloc B8.out.size _).alloc (by have := B8.out.size; simp; omega) _).drew⟩

set_option maxHeartbeats 1600000 in
theorem law6A_nil (F : Interp) (path : ByteArray) (xs : List Int) (msg u g : ByteArray) (w : World) (hF : F.answers w.tape) (hx : Bytes20 xs) (hz : xs ≠ zeros)
    (hp : path.size ≤ 65536) (hm : msg.size ≤ 65536) (ul0 : 5 + (path.size : Int) + 2 ≤ (u.size : Int)) (ul1 : (u.size : Int) ≤ 200000)
    (us1 : ∀ w, (Instr.slice 9 (.string u) none (some (.int .i64 (5 + (path.size : Int) + 2))) none).run Tryf.prog w = .ok (.string ({ data := #[111, 100, 98, 58, 32] } ++ path ++ { data := #[58, 32] } : ByteArray)) w)
    (us2 : ∀ w, (Instr.slice 9 (.string u) (some (.int .i64 (5 + (path.size : Int) + 2))) none none).run Tryf.prog w = .ok (.string ({ data := #[60, 110, 105, 108, 62] } : ByteArray)) w)
    (hs : ((g.size : Int) == (u.size : Int) + 49) = true) (hsl : Sl path g ({ data := #[60, 110, 105, 108, 62] } : ByteArray) xs)
    (hg : FmtStop.textOf (F "fmt.Sprintf" (rd path.data.toList true xs [0] []) 0) = g)
    (hu : FmtStop.textOf (F "fmt.Sprintf" (readB path.data.toList [0] []) 0) = u) :
    Calls Tryf.prog 6 #[.string path, .bool true, .agg (idc xs).toArray, .string msg, .bool false] w fun e w' => e = .returned (.bool true) ∧ Below w.heap.size w w' := by
  have HI : Hid ((Tryf.prog.info? 30).map (·.size) = some (idc xs).length) := by rw [idc_length, hx.1]; exact info30
  have HI3 : Hid ((Tryf.prog.info? 33).map (·.size) = some (idc xs).length) := by rw [idc_length, hx.1]; exact info33
  have HI3' : Hid ((Tryf.prog.info? 33).map (·.size) = some (idc xs).toArray.size) := by rw [List.size_toArray, idc_length, hx.1]; exact info33
  have HC : Hid _ := rangeAt_new w (idc xs) 30
  have HX : Hid (Bytes20 xs) := hx
  have HU : Hid _ := hu
  have HL : Hid ((idc xs).toArray.size = 20) := by rw [List.size_toArray, idc_length]; exact hx.1
  have HN : Hid ((idc xs).toArray.all (·.oneCell') = true) := all_oneCell_toArray (by intro v hv; simp only [idc, List.mem_map] at hv; obtain ⟨x, _, rfl⟩ := hv; rfl)
  have HZ : Hid _ := hz
  clear hz
  obtain ⟨s1, s2, s3, s4, s5⟩ := hsl
  have HG : Hid _ := hg
  clear hg
  clear hx hu
  have hf : fits path msg = true := by simp [fits]; omega
  go_enter Tryf.func6, Tryf.ntmps6
  go_wp2_with (refine wpList_load_midW rfl 30 _ rfl w.heap.size 0 rfl (idc xs) (.array 20 5) HC.out Tryf.underlying30 rfl HI.out ?_)
  refine (bytes19 path true xs msg false _ (by unfold maxLen; omega) (by unfold maxLen; omega)).mono ?_
  rintro e w1 ⟨rfl, hb1⟩
  rw [hf]
  have HC1 : Hid (w1.rangeAt w.heap.size 0 (idc xs)) := fun j v hv => (hb1.cell (p := ⟨w.heap.size, 0 + j, none⟩) (by simp)).trans (HC.out j v hv)
  have HB1 : Hid (Below w.heap.size w w1) := ((Below.refl _ w).alloc (Nat.le_refl _) _).trans (hb1.mono (by simp))
  have HS1 : w.heap.size < w1.heap.size := by have := hb1.size; simp at this; omega
  clear hb1
  obtain ⟨w5, st5, r5, b5, z5⟩ := box33 w1 xs HX.out.1
  have R5 : Hid (w5.rangeAt w.heap.size 0 (idc xs) ∧ w5.rangeAt w1.heap.size 0 (idc xs)) := ⟨range_later b5 HS1 HC1.out, r5⟩
  have B5 : Hid (Below w.heap.size w w5) := HB1.out.trans (b5.mono (by omega))
  clear r5 b5
  go_wp2_with (first | refine wpList_load_midW rfl 30 _ rfl w.heap.size 0 rfl (idc xs) (.array 20 5) HC1.out Tryf.underlying30 rfl HI.out ?_ | refine wpList_load_midW rfl 33 _ rfl w1.heap.size 0 rfl (idc xs) (.array 20 5) R5.out.2 Tryf.underlying33 rfl HI3.out ?_)
  clear st5
  refine (nil16 F path true xs _ (by rw [B5.out.tape]; exact hF) HX.out).mono ?_
  rintro e w6 ⟨rfl, b6⟩
  rw [HG.out]
  have R6 : Hid (w6.rangeAt w.heap.size 0 (idc xs) ∧ w6.rangeAt w1.heap.size 0 (idc xs)) := ⟨range_later b6 (by omega) R5.out.1, range_later b6 z5 R5.out.2⟩
  have B6 : Hid (Below w.heap.size w w6) := B5.out.trans (b6.mono (by omega))
  have z6 : w1.heap.size < w6.heap.size := by have := b6.size; omega
  clear b6 R5 B5 z5
  go_wp2_with (refine wpList_load_midW rfl 33 _ rfl w1.heap.size 0 rfl (idc xs) (.array 20 5) R6.out.2 Tryf.underlying33 rfl HI3.out ?_)
  refine (nil16 F path false xs _ (by rw [B6.out.tape]; exact hF) HX.out).mono ?_
  rintro e w7 ⟨rfl, b7⟩
  rw [rd_plain, HU.out]
  have R7 : Hid (w7.rangeAt w.heap.size 0 (idc xs)) := range_later b7 (by omega) R6.out.1
  have B7 : Hid (Below w.heap.size w w7) := B6.out.trans (b7.mono (by omega))
  have z7 : w.heap.size < w7.heap.size := by have := b7.size; omega
  clear b7 R6 B6 z6
  go_wp2_with fail
  refine (nil16z F path true _ (by rw [B7.out.tape]; exact hF)).mono ?_
  rintro e w8 ⟨rfl, b8⟩
  rw [HU.out]
  have R8 : Hid (w8.rangeAt w.heap.size 0 (idc xs)) := range_later b8 z7 R7.out
  have B8 : Hid (Below w.heap.size w w8) := B7.out.trans (b8.mono (by omega))
  clear b8 R7 B7 z7
  go_wp2_with (refine wpList_load_midW rfl 30 _ rfl w.heap.size 0 rfl (idc xs) (.array 20 5) R8.out Tryf.underlying30 rfl HI.out ?_)
  refine (zero17 xs HX.out.1 _).mono ?_
  rintro e w9 ⟨rfl, rfl⟩
  have hz' : decide (xs = zeros) = false := by simpa using HZ.out
  rw [hz']
  clear hz'
  go_wp2
  have cr0 : (w8.alloc (.cells (idc xs).toArray 30)).rangeAt w.heap.size 0 (idc xs) := World.rangeAt_alloc R8.out _
  have kr : ∀ o, ((w8.alloc (.cells (idc xs).toArray 30)).alloc o).rangeAt w.heap.size 0 (idc xs) := fun o => World.rangeAt_alloc cr0 o
  have wr0 : IntKind.i64.wrap ((u.size : Int) + 49) = (u.size : Int) + 49 := wrapOk (by omega) (by omega)
  have wr1 : IntKind.i64.wrap (5 + (path.size : Int) + 2 + 49) = 5 + (path.size : Int) + 2 + 49 := wrapOk (by omega) (by omega)
  have wr3 : IntKind.i64.wrap (5 + (path.size : Int) + 2 + 7) = 5 + (path.size : Int) + 2 + 7 := wrapOk (by omega) (by omega)
  have wr4 : IntKind.i64.wrap (5 + (path.size : Int) + 2 + 47) = 5 + (path.size : Int) + 2 + 47 := wrapOk (by omega) (by omega)
  have hu30 := Tryf.underlying30
  have hi := HI.out
  have hlen : (idc xs).length = 20 := by rw [idc_length]; exact HX.out.1
  have hone : ∀ v ∈ idc xs, v.oneCell' = true := by intro v hv; simp only [idc, List.mem_map] at hv; obtain ⟨x, _, rfl⟩ := hv; rfl
  go_region_held3 (fun w' => w'.rangeAt w.heap.size 0 (idc xs)) (first | exact cr0 | exact kr _) ((go_at_call 18; refine (decodes18' xs HX.out _).mono ?_; rintro e w4 ⟨rfl, rfl⟩))
  go_wp2
  go_ret
  exact ⟨rfl, ((B8.out.alloc B8.out.size _).alloc (by have := B8.out.size; simp; omega) _).drew⟩

end Go.Proofs.Qxb6604672aFmt
