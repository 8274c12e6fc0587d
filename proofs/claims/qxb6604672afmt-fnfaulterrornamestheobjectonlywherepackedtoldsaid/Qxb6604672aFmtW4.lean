/-
  DERIVED. THE WALKS of the two laws.
-/
import Derived.Test.Qxb6604672aFmtW3
namespace Go.Proofs.Qxb6604672aFmt
open Go.RowKit Go.Extern.Stop Go.Stop Go.Extern
attribute [local go_sem] call31 guardOk fmtA fmtAr fmtB fmtBr act9_115 op9_115 str9 act33_115 isString33 str33 act58_118 str58 actNil_118 opNil_118

theorem wrapOk {x : Int} (h0 : 0 ≤ x) (h1 : x ≤ 1000000000) : IntKind.i64.wrap x = x := by
  rw [IntKind.wrap_i64]; omega
theorem digit_hv : ∀ d : Fin 16, hv ((Lib.Hx.digit d.val).toNat : Int) = d.val := by decide +kernel
theorem byteArray_get (l : List UInt8) (k : Nat) (h : k < (⟨l.toArray⟩ : ByteArray).size) (b : UInt8) (hb : l[k]? = some b) : (⟨l.toArray⟩ : ByteArray)[k]'h = b := by
  have h' : k < l.length := by simpa [ByteArray.size] using h
  rw [List.getElem?_eq_getElem h'] at hb
  have e : l[k] = b := by simpa using hb
  rw [← e]; rfl
theorem decodes18' (xs : List Int) (hx : Bytes20 xs) (w : World) :
    Calls Tryf.prog 18 #[.string ⟨(hexOf xs).toArray⟩, .agg (idc xs).toArray] w fun e w' => e = .returned (.bool true) ∧ w' = w.alloc (.cells (idc xs).toArray 30) := by
  have hsz : (⟨(hexOf xs).toArray⟩ : ByteArray).size = 40 := by
    show (hexOf xs).toArray.size = 40
    rw [List.size_toArray, hexOf, Lib.Hx.encode_length, Lib.bytesOf_length, hx.1]
  refine decodes18 _ xs hsz hx.1 hx.2 (fun k hk => ?_) w
  obtain ⟨r0, r1⟩ := hx.2 k hk
  have hb := Lib.Hx.bytes_at xs k (by rw [hx.1]; exact hk)
  obtain ⟨e1, e2⟩ := Lib.Hx.encode_at (Lib.bytesOf xs) k _ hb
  have hn := Lib.Hx.byte_toNat _ r0 r1
  rw [hn] at e1 e2
  have h1 : 2 * k < (⟨(hexOf xs).toArray⟩ : ByteArray).size := by omega
  have h2 : 2 * k + 1 < (⟨(hexOf xs).toArray⟩ : ByteArray).size := by omega
  refine ⟨h1, h2, ?_⟩
  rw [byteArray_get (hexOf xs) (2 * k) h1 _ e1, byteArray_get (hexOf xs) (2 * k + 1) h2 _ e2]
  have d1 := digit_hv ⟨(xs.getD k 0).toNat / 16, by omega⟩
  have d2 := digit_hv ⟨(xs.getD k 0).toNat % 16, by omega⟩
  simp only at d1 d2
  rw [d1, d2]
  omega


/-- The slices of a text that names the object, as the walk asks them: its head, "object ", the id, ": " and the rest. -/
structure Sl (path g tl : ByteArray) (xs : List Int) : Prop where
  s1 : ∀ w, (Instr.slice 9 (.string g) none (some (.int .i64 (5 + (path.size : Int) + 2))) none).run Tryf.prog w = .ok (.string ({ data := #[111, 100, 98, 58, 32] } ++ path ++ { data := #[58, 32] } : ByteArray)) w
  s2 : ∀ w, (Instr.slice 9 (.string g) (some (.int .i64 (5 + (path.size : Int) + 2))) (some (.int .i64 (5 + (path.size : Int) + 2 + 7))) none).run Tryf.prog w = .ok (.string ⟨#[111, 98, 106, 101, 99, 116, 32]⟩) w
  s3 : ∀ w, (Instr.slice 9 (.string g) (some (.int .i64 (5 + (path.size : Int) + 2 + 7))) (some (.int .i64 (5 + (path.size : Int) + 2 + 47))) none).run Tryf.prog w = .ok (.string ⟨(hexOf xs).toArray⟩) w
  s4 : ∀ w, (Instr.slice 9 (.string g) (some (.int .i64 (5 + (path.size : Int) + 2 + 47))) (some (.int .i64 (5 + (path.size : Int) + 2 + 49))) none).run Tryf.prog w = .ok (.string ⟨#[58, 32]⟩) w
  s5 : ∀ w, (Instr.slice 9 (.string g) (some (.int .i64 (5 + (path.size : Int) + 2 + 49))) none none).run Tryf.prog w = .ok (.string tl) w

set_option maxHeartbeats 1000000 in
theorem law5B_err (F : Interp) (path : ByteArray) (xs : List Int) (msg : ByteArray) (w : World) (hF : F.answers w.tape) (hx : Bytes20 xs)
    (hp : path.size ≤ 65536) (hm : msg.size ≤ 65536)
    (hg : FmtStop.textOf (F "fmt.Sprintf" (rd path.data.toList false xs plain58 msg.data.toList) 0) = (({ data := #[111, 100, 98, 58, 32] } ++ path ++ { data := #[58, 32] } : ByteArray) ++ msg)) :
    Calls Tryf.prog 5 #[.string path, .bool false, .agg (idc xs).toArray, .string msg, .bool true] w fun e w' => e = .returned (.bool true) ∧ Below w.heap.size w w' := by
  have HI : Hid ((Tryf.prog.info? 30).map (·.size) = some (idc xs).length) := by rw [idc_length, hx.1]; exact info30
  have HC : Hid _ := rangeAt_new w (idc xs) 30
  have HX : Hid (Bytes20 xs) := hx
  have HG : Hid _ := hg
  clear hx hg
  have hf : fits path msg = true := by simp [fits]; omega
  go_enter Tryf.func5, Tryf.ntmps5
  go_wp2_with (refine wpList_load_midW rfl 30 _ rfl w.heap.size 0 rfl (idc xs) (.array 20 5) HC.out Tryf.underlying30 rfl HI.out ?_)
  refine (bytes14 path false xs msg true _ (by unfold maxLen; omega) (by unfold maxLen; omega)).mono ?_
  rintro e w1 ⟨rfl, hb1⟩
  rw [hf]
  have HC1 : Hid (w1.rangeAt w.heap.size 0 (idc xs)) := fun j v hv => (hb1.cell (p := ⟨w.heap.size, 0 + j, none⟩) (by simp)).trans (HC.out j v hv)
  have HB1 : Hid _ := hb1
  clear hb1
  go_wp2_with (refine wpList_load_midW rfl 30 _ rfl w.heap.size 0 rfl (idc xs) (.array 20 5) HC1.out Tryf.underlying30 rfl HI.out ?_)
  refine (text15 F path false xs msg _ (by rw [HB1.out.tape]; exact hF) HX.out).mono ?_
  rintro e w2 ⟨rfl, hb2⟩
  rw [HG.out]
  have HC2 : Hid (w2.rangeAt w.heap.size 0 (idc xs)) := fun j v hv => (hb2.cell (p := ⟨w.heap.size, 0 + j, none⟩) (by have := HB1.out.size; simp at this; show w.heap.size < w1.heap.size; omega)).trans (HC1.out j v hv)
  have HB2 : Hid (Below w.heap.size w w2) := (((Below.refl _ w).alloc (Nat.le_refl _) _).trans (HB1.out.mono (by simp))).trans (hb2.mono (by have := HB1.out.size; simp at this; omega))
  clear hb2 HC1 HB1
  go_wp2
  go_ret
  exact ⟨rfl, HB2.out⟩

set_option maxHeartbeats 1000000 in
theorem law5B_nil (F : Interp) (path : ByteArray) (xs : List Int) (msg : ByteArray) (w : World) (hF : F.answers w.tape) (hx : Bytes20 xs)
    (hp : path.size ≤ 65536) (hm : msg.size ≤ 65536)
    (hg : FmtStop.textOf (F "fmt.Sprintf" (rd path.data.toList false xs [0] []) 0) = (({ data := #[111, 100, 98, 58, 32] } ++ path ++ { data := #[58, 32] } : ByteArray) ++ ({ data := #[60, 110, 105, 108, 62] } : ByteArray))) :
    Calls Tryf.prog 5 #[.string path, .bool false, .agg (idc xs).toArray, .string msg, .bool false] w fun e w' => e = .returned (.bool true) ∧ Below w.heap.size w w' := by
  have HI : Hid ((Tryf.prog.info? 30).map (·.size) = some (idc xs).length) := by rw [idc_length, hx.1]; exact info30
  have HC : Hid _ := rangeAt_new w (idc xs) 30
  have HX : Hid (Bytes20 xs) := hx
  have HG : Hid _ := hg
  clear hx hg
  have hf : fits path msg = true := by simp [fits]; omega
  go_enter Tryf.func5, Tryf.ntmps5
  go_wp2_with (refine wpList_load_midW rfl 30 _ rfl w.heap.size 0 rfl (idc xs) (.array 20 5) HC.out Tryf.underlying30 rfl HI.out ?_)
  refine (bytes14 path false xs msg false _ (by unfold maxLen; omega) (by unfold maxLen; omega)).mono ?_
  rintro e w1 ⟨rfl, hb1⟩
  rw [hf]
  have HC1 : Hid (w1.rangeAt w.heap.size 0 (idc xs)) := fun j v hv => (hb1.cell (p := ⟨w.heap.size, 0 + j, none⟩) (by simp)).trans (HC.out j v hv)
  have HB1 : Hid _ := hb1
  clear hb1
  go_wp2_with (refine wpList_load_midW rfl 30 _ rfl w.heap.size 0 rfl (idc xs) (.array 20 5) HC1.out Tryf.underlying30 rfl HI.out ?_)
  refine (nil16 F path false xs _ (by rw [HB1.out.tape]; exact hF) HX.out).mono ?_
  rintro e w2 ⟨rfl, hb2⟩
  rw [HG.out]
  have HC2 : Hid (w2.rangeAt w.heap.size 0 (idc xs)) := fun j v hv => (hb2.cell (p := ⟨w.heap.size, 0 + j, none⟩) (by have := HB1.out.size; simp at this; show w.heap.size < w1.heap.size; omega)).trans (HC1.out j v hv)
  have HB2 : Hid (Below w.heap.size w w2) := (((Below.refl _ w).alloc (Nat.le_refl _) _).trans (HB1.out.mono (by simp))).trans (hb2.mono (by have := HB1.out.size; simp at this; omega))
  clear hb2 HC1 HB1
  go_wp2
  go_ret
  exact ⟨rfl, HB2.out⟩

set_option maxHeartbeats 1000000 in
theorem law5Z_err (F : Interp) (path : ByteArray) (xs : List Int) (msg : ByteArray) (w : World) (hF : F.answers w.tape) (hx : Bytes20 xs) (hz : xs = zeros)
    (hp : path.size ≤ 65536) (hm : msg.size ≤ 65536)
    (hg : FmtStop.textOf (F "fmt.Sprintf" (rd path.data.toList true xs plain58 msg.data.toList) 0) = (({ data := #[111, 100, 98, 58, 32] } ++ path ++ { data := #[58, 32] } : ByteArray) ++ msg)) :
    Calls Tryf.prog 5 #[.string path, .bool true, .agg (idc xs).toArray, .string msg, .bool true] w fun e w' => e = .returned (.bool true) ∧ Below w.heap.size w w' := by
  have HI : Hid ((Tryf.prog.info? 30).map (·.size) = some (idc xs).length) := by rw [idc_length, hx.1]; exact info30
  have HC : Hid _ := rangeAt_new w (idc xs) 30
  have HX : Hid (Bytes20 xs) := hx
  have HG : Hid _ := hg
  have HZ : Hid _ := hz
  clear hz
  clear hx hg
  have hf : fits path msg = true := by simp [fits]; omega
  go_enter Tryf.func5, Tryf.ntmps5
  go_wp2_with (refine wpList_load_midW rfl 30 _ rfl w.heap.size 0 rfl (idc xs) (.array 20 5) HC.out Tryf.underlying30 rfl HI.out ?_)
  refine (bytes14 path true xs msg true _ (by unfold maxLen; omega) (by unfold maxLen; omega)).mono ?_
  rintro e w1 ⟨rfl, hb1⟩
  rw [hf]
  have HC1 : Hid (w1.rangeAt w.heap.size 0 (idc xs)) := fun j v hv => (hb1.cell (p := ⟨w.heap.size, 0 + j, none⟩) (by simp)).trans (HC.out j v hv)
  have HB1 : Hid _ := hb1
  clear hb1
  go_wp2_with (refine wpList_load_midW rfl 30 _ rfl w.heap.size 0 rfl (idc xs) (.array 20 5) HC1.out Tryf.underlying30 rfl HI.out ?_)
  refine (text15 F path true xs msg _ (by rw [HB1.out.tape]; exact hF) HX.out).mono ?_
  rintro e w2 ⟨rfl, hb2⟩
  rw [HG.out]
  have HC2 : Hid (w2.rangeAt w.heap.size 0 (idc xs)) := fun j v hv => (hb2.cell (p := ⟨w.heap.size, 0 + j, none⟩) (by have := HB1.out.size; simp at this; show w.heap.size < w1.heap.size; omega)).trans (HC1.out j v hv)
  have HB2 : Hid (Below w.heap.size w w2) := (((Below.refl _ w).alloc (Nat.le_refl _) _).trans (HB1.out.mono (by simp))).trans (hb2.mono (by have := HB1.out.size; simp at this; omega))
  clear hb2 HC1 HB1
  go_wp2_with (refine wpList_load_midW rfl 30 _ rfl w.heap.size 0 rfl (idc xs) (.array 20 5) HC2.out Tryf.underlying30 rfl HI.out ?_)
  refine (zero17 xs HX.out.1 _).mono ?_
  rintro e w3 ⟨rfl, rfl⟩
  have hz' : decide (xs = zeros) = true := by simpa using HZ.out
  rw [hz']
  clear hz'
  go_wp2
  go_ret
  exact ⟨rfl, HB2.out.alloc HB2.out.size _⟩

set_option maxHeartbeats 1000000 in
theorem law5Z_nil (F : Interp) (path : ByteArray) (xs : List Int) (msg : ByteArray) (w : World) (hF : F.answers w.tape) (hx : Bytes20 xs) (hz : xs = zeros)
    (hp : path.size ≤ 65536) (hm : msg.size ≤ 65536)
    (hg : FmtStop.textOf (F "fmt.Sprintf" (rd path.data.toList true xs [0] []) 0) = (({ data := #[111, 100, 98, 58, 32] } ++ path ++ { data := #[58, 32] } : ByteArray) ++ ({ data := #[60, 110, 105, 108, 62] } : ByteArray))) :
    Calls Tryf.prog 5 #[.string path, .bool true, .agg (idc xs).toArray, .string msg, .bool false] w fun e w' => e = .returned (.bool true) ∧ Below w.heap.size w w' := by
  have HI : Hid ((Tryf.prog.info? 30).map (·.size) = some (idc xs).length) := by rw [idc_length, hx.1]; exact info30
  have HC : Hid _ := rangeAt_new w (idc xs) 30
  have HX : Hid (Bytes20 xs) := hx
  have HG : Hid _ := hg
  have HZ : Hid _ := hz
  clear hz
  clear hx hg
  have hf : fits path msg = true := by simp [fits]; omega
  go_enter Tryf.func5, Tryf.ntmps5
  go_wp2_with (refine wpList_load_midW rfl 30 _ rfl w.heap.size 0 rfl (idc xs) (.array 20 5) HC.out Tryf.underlying30 rfl HI.out ?_)
  refine (bytes14 path true xs msg false _ (by unfold maxLen; omega) (by unfold maxLen; omega)).mono ?_
  rintro e w1 ⟨rfl, hb1⟩
  rw [hf]
  have HC1 : Hid (w1.rangeAt w.heap.size 0 (idc xs)) := fun j v hv => (hb1.cell (p := ⟨w.heap.size, 0 + j, none⟩) (by simp)).trans (HC.out j v hv)
  have HB1 : Hid _ := hb1
  clear hb1
  go_wp2_with (refine wpList_load_midW rfl 30 _ rfl w.heap.size 0 rfl (idc xs) (.array 20 5) HC1.out Tryf.underlying30 rfl HI.out ?_)
  refine (nil16 F path true xs _ (by rw [HB1.out.tape]; exact hF) HX.out).mono ?_
  rintro e w2 ⟨rfl, hb2⟩
  rw [HG.out]
  have HC2 : Hid (w2.rangeAt w.heap.size 0 (idc xs)) := fun j v hv => (hb2.cell (p := ⟨w.heap.size, 0 + j, none⟩) (by have := HB1.out.size; simp at this; show w.heap.size < w1.heap.size; omega)).trans (HC1.out j v hv)
  have HB2 : Hid (Below w.heap.size w w2) := (((Below.refl _ w).alloc (Nat.le_refl _) _).trans (HB1.out.mono (by simp))).trans (hb2.mono (by have := HB1.out.size; simp at this; omega))
  clear hb2 HC1 HB1
  go_wp2_with (refine wpList_load_midW rfl 30 _ rfl w.heap.size 0 rfl (idc xs) (.array 20 5) HC2.out Tryf.underlying30 rfl HI.out ?_)
  refine (zero17 xs HX.out.1 _).mono ?_
  rintro e w3 ⟨rfl, rfl⟩
  have hz' : decide (xs = zeros) = true := by simpa using HZ.out
  rw [hz']
  clear hz'
  go_wp2
  go_ret
  exact ⟨rfl, HB2.out.alloc HB2.out.size _⟩

set_option maxHeartbeats 1000000 in
theorem law5A_err (F : Interp) (path : ByteArray) (xs : List Int) (msg g : ByteArray) (w : World) (hF : F.answers w.tape) (hx : Bytes20 xs) (hz : xs ≠ zeros)
    (hp : path.size ≤ 65536) (hm : msg.size ≤ 65536)
    (hs : ((g.size : Int) == 5 + (path.size : Int) + 2 + 49 + (msg.size : Int)) = true) (hsl : Sl path g msg xs)
    (hg : FmtStop.textOf (F "fmt.Sprintf" (rd path.data.toList true xs plain58 msg.data.toList) 0) = g) :
    Calls Tryf.prog 5 #[.string path, .bool true, .agg (idc xs).toArray, .string msg, .bool true] w fun e w' => e = .returned (.bool true) ∧ Below w.heap.size w w' := by
  have HI : Hid ((Tryf.prog.info? 30).map (·.size) = some (idc xs).length) := by rw [idc_length, hx.1]; exact info30
  have HC : Hid _ := rangeAt_new w (idc xs) 30
  have HX : Hid (Bytes20 xs) := hx
  have HG : Hid _ := hg
  have HZ : Hid _ := hz
  clear hz
  obtain ⟨s1, s2, s3, s4, s5⟩ := hsl
  clear hx hg
  have hf : fits path msg = true := by simp [fits]; omega
  go_enter Tryf.func5, Tryf.ntmps5
  go_wp2_with (refine wpList_load_midW rfl 30 _ rfl w.heap.size 0 rfl (idc xs) (.array 20 5) HC.out Tryf.underlying30 rfl HI.out ?_)
  refine (bytes14 path true xs msg true _ (by unfold maxLen; omega) (by unfold maxLen; omega)).mono ?_
  rintro e w1 ⟨rfl, hb1⟩
  rw [hf]
  have HC1 : Hid (w1.rangeAt w.heap.size 0 (idc xs)) := fun j v hv => (hb1.cell (p := ⟨w.heap.size, 0 + j, none⟩) (by simp)).trans (HC.out j v hv)
  have HB1 : Hid _ := hb1
  clear hb1
  go_wp2_with (refine wpList_load_midW rfl 30 _ rfl w.heap.size 0 rfl (idc xs) (.array 20 5) HC1.out Tryf.underlying30 rfl HI.out ?_)
  refine (text15 F path true xs msg _ (by rw [HB1.out.tape]; exact hF) HX.out).mono ?_
  rintro e w2 ⟨rfl, hb2⟩
  rw [HG.out]
  have HC2 : Hid (w2.rangeAt w.heap.size 0 (idc xs)) := fun j v hv => (hb2.cell (p := ⟨w.heap.size, 0 + j, none⟩) (by have := HB1.out.size; simp at this; show w.heap.size < w1.heap.size; omega)).trans (HC1.out j v hv)
  have HB2 : Hid (Below w.heap.size w w2) := (((Below.refl _ w).alloc (Nat.le_refl _) _).trans (HB1.out.mono (by simp))).trans (hb2.mono (by have := HB1.out.size; simp at this; omega))
  clear hb2 HC1 HB1
  go_wp2_with (refine wpList_load_midW rfl 30 _ rfl w.heap.size 0 rfl (idc xs) (.array 20 5) HC2.out Tryf.underlying30 rfl HI.out ?_)
  refine (zero17 xs HX.out.1 _).mono ?_
  rintro e w3 ⟨rfl, rfl⟩
  have hz' : decide (xs = zeros) = false := by simpa using HZ.out
  rw [hz']
  clear hz'
  go_wp2
  have cr0 : (w2.alloc (.cells (idc xs).toArray 30)).rangeAt w.heap.size 0 (idc xs) := World.rangeAt_alloc HC2.out _
  have kr : ∀ o, ((w2.alloc (.cells (idc xs).toArray 30)).alloc o).rangeAt w.heap.size 0 (idc xs) := fun o => World.rangeAt_alloc cr0 o
  have wr1 : IntKind.i64.wrap (5 + (path.size : Int) + 2 + 49) = 5 + (path.size : Int) + 2 + 49 := wrapOk (by omega) (by omega)
  have wr2 : IntKind.i64.wrap (5 + (path.size : Int) + 2 + 49 + (msg.size : Int)) = 5 + (path.size : Int) + 2 + 49 + (msg.size : Int) := wrapOk (by omega) (by omega)
  have wr3 : IntKind.i64.wrap (5 + (path.size : Int) + 2 + 7) = 5 + (path.size : Int) + 2 + 7 := wrapOk (by omega) (by omega)
  have wr4 : IntKind.i64.wrap (5 + (path.size : Int) + 2 + 47) = 5 + (path.size : Int) + 2 + 47 := wrapOk (by omega) (by omega)
  have hu30 := Tryf.underlying30
  have hi := HI.out
  have hlen : (idc xs).length = 20 := by rw [idc_length]; exact HX.out.1
  have hone : ∀ v ∈ idc xs, v.oneCell' = true := by intro v hv; simp only [idc, List.mem_map] at hv; obtain ⟨x, _, rfl⟩ := hv; rfl
  go_region_held3 (fun w' => w'.rangeAt w.heap.size 0 (idc xs)) (first | exact cr0 | exact kr _) ((go_at_call 18; refine (decodes18' xs HX.out _).mono ?_; rintro e w4 ⟨rfl, rfl⟩))
  go_wp2
  go_ret
  exact ⟨rfl, ((HB2.out.alloc HB2.out.size _).alloc (by have := HB2.out.size; simp; omega) _).drew⟩

set_option maxHeartbeats 1000000 in
theorem law5A_nil (F : Interp) (path : ByteArray) (xs : List Int) (msg g : ByteArray) (w : World) (hF : F.answers w.tape) (hx : Bytes20 xs) (hz : xs ≠ zeros)
    (hp : path.size ≤ 65536) (hm : msg.size ≤ 65536)
    (hs : ((g.size : Int) == 5 + (path.size : Int) + 2 + 49 + 5) = true) (hsl : Sl path g ({ data := #[60, 110, 105, 108, 62] } : ByteArray) xs)
    (hg : FmtStop.textOf (F "fmt.Sprintf" (rd path.data.toList true xs [0] []) 0) = g) :
    Calls Tryf.prog 5 #[.string path, .bool true, .agg (idc xs).toArray, .string msg, .bool false] w fun e w' => e = .returned (.bool true) ∧ Below w.heap.size w w' := by
  have HI : Hid ((Tryf.prog.info? 30).map (·.size) = some (idc xs).length) := by rw [idc_length, hx.1]; exact info30
  have HC : Hid _ := rangeAt_new w (idc xs) 30
  have HX : Hid (Bytes20 xs) := hx
  have HG : Hid _ := hg
  have HZ : Hid _ := hz
  clear hz
  obtain ⟨s1, s2, s3, s4, s5⟩ := hsl
  clear hx hg
  have hf : fits path msg = true := by simp [fits]; omega
  go_enter Tryf.func5, Tryf.ntmps5
  go_wp2_with (refine wpList_load_midW rfl 30 _ rfl w.heap.size 0 rfl (idc xs) (.array 20 5) HC.out Tryf.underlying30 rfl HI.out ?_)
  refine (bytes14 path true xs msg false _ (by unfold maxLen; omega) (by unfold maxLen; omega)).mono ?_
  rintro e w1 ⟨rfl, hb1⟩
  rw [hf]
  have HC1 : Hid (w1.rangeAt w.heap.size 0 (idc xs)) := fun j v hv => (hb1.cell (p := ⟨w.heap.size, 0 + j, none⟩) (by simp)).trans (HC.out j v hv)
  have HB1 : Hid _ := hb1
  clear hb1
  go_wp2_with (refine wpList_load_midW rfl 30 _ rfl w.heap.size 0 rfl (idc xs) (.array 20 5) HC1.out Tryf.underlying30 rfl HI.out ?_)
  refine (nil16 F path true xs _ (by rw [HB1.out.tape]; exact hF) HX.out).mono ?_
  rintro e w2 ⟨rfl, hb2⟩
  rw [HG.out]
  have HC2 : Hid (w2.rangeAt w.heap.size 0 (idc xs)) := fun j v hv => (hb2.cell (p := ⟨w.heap.size, 0 + j, none⟩) (by have := HB1.out.size; simp at this; show w.heap.size < w1.heap.size; omega)).trans (HC1.out j v hv)
  have HB2 : Hid (Below w.heap.size w w2) := (((Below.refl _ w).alloc (Nat.le_refl _) _).trans (HB1.out.mono (by simp))).trans (hb2.mono (by have := HB1.out.size; simp at this; omega))
  clear hb2 HC1 HB1
  go_wp2_with (refine wpList_load_midW rfl 30 _ rfl w.heap.size 0 rfl (idc xs) (.array 20 5) HC2.out Tryf.underlying30 rfl HI.out ?_)
  refine (zero17 xs HX.out.1 _).mono ?_
  rintro e w3 ⟨rfl, rfl⟩
  have hz' : decide (xs = zeros) = false := by simpa using HZ.out
  rw [hz']
  clear hz'
  go_wp2
  have cr0 : (w2.alloc (.cells (idc xs).toArray 30)).rangeAt w.heap.size 0 (idc xs) := World.rangeAt_alloc HC2.out _
  have kr : ∀ o, ((w2.alloc (.cells (idc xs).toArray 30)).alloc o).rangeAt w.heap.size 0 (idc xs) := fun o => World.rangeAt_alloc cr0 o
  have wr1 : IntKind.i64.wrap (5 + (path.size : Int) + 2 + 49) = 5 + (path.size : Int) + 2 + 49 := wrapOk (by omega) (by omega)
  have wr2 : IntKind.i64.wrap (5 + (path.size : Int) + 2 + 49 + 5) = 5 + (path.size : Int) + 2 + 49 + 5 := wrapOk (by omega) (by omega)
  have wr3 : IntKind.i64.wrap (5 + (path.size : Int) + 2 + 7) = 5 + (path.size : Int) + 2 + 7 := wrapOk (by omega) (by omega)
  have wr4 : IntKind.i64.wrap (5 + (path.size : Int) + 2 + 47) = 5 + (path.size : Int) + 2 + 47 := wrapOk (by omega) (by omega)
  have hu30 := Tryf.underlying30
  have hi := HI.out
  have hlen : (idc xs).length = 20 := by rw [idc_length]; exact HX.out.1
  have hone : ∀ v ∈ idc xs, v.oneCell' = true := by intro v hv; simp only [idc, List.mem_map] at hv; obtain ⟨x, _, rfl⟩ := hv; rfl
  go_region_held3 (fun w' => w'.rangeAt w.heap.size 0 (idc xs)) (first | exact cr0 | exact kr _) ((go_at_call 18; refine (decodes18' xs HX.out _).mono ?_; rintro e w4 ⟨rfl, rfl⟩))
  go_wp2
  go_ret
  exact ⟨rfl, ((HB2.out.alloc HB2.out.size _).alloc (by have := HB2.out.size; simp; omega) _).drew⟩

end Go.Proofs.Qxb6604672aFmt
