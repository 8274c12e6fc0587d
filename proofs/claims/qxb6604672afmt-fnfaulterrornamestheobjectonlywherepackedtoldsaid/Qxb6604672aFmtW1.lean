/-
  DERIVED. THE WALKS of (object.ID).String and (*odb.Fault).Error, FOR EVERY F.
-/
import Derived.Test.Qxb6604672aFmtLaws
import Derived.Test.Qxb6604672aFmtShelf
import Derived.WalkKit
import Derived.WalkSpells
import Derived.Deep.RegionHeld3
namespace Go.Proofs.Qxb6604672aFmt
open Go.RowKit Go.Extern.Stop Go.Stop Go.Extern
attribute [local go_sem] call31 guardOk fmtA fmtAr fmtB fmtBr act9_115 op9_115 str9 act33_115 isString33 str33 act58_118 str58 actNil_118 opNil_118

/-- A row that an alloc has laid. -/
theorem rangeAt_new (w : World) (cs : List Value) (t : TypeId) : (w.alloc (.cells cs.toArray t)).rangeAt w.heap.size 0 cs := fun j v hv => by
  simp [World.cell?_alloc_at, hv]

/-- What the id's 40 digits are. -/
def hexOf (xs : List Int) : List UInt8 := Lib.Hx.encode (Lib.bytesOf xs)

set_option maxHeartbeats 400000 in
theorem string32 (xs : List Int) (hl : xs.length = 20) (hr : ∀ i, i < 20 → 0 ≤ xs.getD i 0 ∧ xs.getD i 0 < 256) (w : World) :
    Calls Tryf.prog 32 #[.agg (idc xs).toArray] w fun e w' => e = .returned (.string ⟨(hexOf xs).toArray⟩) ∧ Below w.heap.size w w' := by
  have hsrc : Hid (∀ i, i < 20 → (w.alloc (.cells (idc xs).toArray 33)).cell? ⟨w.heap.size, 0 + i, none⟩ = some (.int .u8 (xs.getD i 0))) := fun i hi =>
    rangeAt_new w (idc xs) 33 i _ (by simp [idc, hl, hi])
  have HL : Hid (xs.length = 20) := hl
  have HR : Hid (∀ i, i < 20 → 0 ≤ xs.getD i 0 ∧ xs.getD i 0 < 256) := hr
  clear hl hr
  go_enter Tryf.func32, Tryf.ntmps32
  go_wp2_with fail
  refine (Tryf.hex_EncodeToString w.heap.size 0 20 20 xs _ HL.out HR.out hsrc.out (by simp) (by omega)).mono ?_
  rintro e w1 ⟨rfl, hb⟩
  go_wp2
  go_ret
  exact ⟨rfl, ((Below.refl _ w).alloc (Nat.le_refl _) _).trans (hb.mono (by simp))⟩

set_option maxHeartbeats 1600000 in
theorem errorB_nil (F : Interp) (b : Nat) (path : ByteArray) (w : World) (hF : F.answers w.tape)
    (c0 : w.cell? ⟨b, 0, none⟩ = some (.string path)) (c1 : w.cell? ⟨b, 1, none⟩ = some (.bool false)) (c22 : w.cell? ⟨b, 22, none⟩ = some (.nilIface)) :
    Calls Tryf.prog 24 #[.pointer (some ⟨b, 0, none⟩)] w fun e w' => e = .returned (.string (FmtStop.textOf (F "fmt.Sprintf" (readB path.data.toList [0] []) 0))) ∧ Below w.heap.size w w' := by
  have hF' := answers_open hF
  go_enter Tryf.func24, Tryf.ntmps24
  go_wp2
  go_region_held3 (fun w' => w'.cell? ⟨b, 0, none⟩ = some (.string path) ∧ w'.cell? ⟨b, 22, none⟩ = some (.nilIface)) (go_keep) ((go_simp; apply rows_value nextTurns; (case hr => (go_simp; exact ⟨rfl, rfl⟩))))
  go_wp2
  go_ret
  exact ⟨rfl, (((Below.refl _ w).alloc (Nat.le_refl _) _).drew).drew⟩

set_option maxHeartbeats 1600000 in
theorem errorB_err (F : Interp) (b : Nat) (path : ByteArray) (eb : Nat) (msg : ByteArray) (w : World) (hF : F.answers w.tape)
    (c0 : w.cell? ⟨b, 0, none⟩ = some (.string path)) (c1 : w.cell? ⟨b, 1, none⟩ = some (.bool false)) (c22 : w.cell? ⟨b, 22, none⟩ = some (.iface 58 (.pointer (some ⟨eb, 0, none⟩))))
    (ce : w.cell? ⟨eb, 0, none⟩ = some (.string msg)) :
    Calls Tryf.prog 24 #[.pointer (some ⟨b, 0, none⟩)] w fun e w' => e = .returned (.string (FmtStop.textOf (F "fmt.Sprintf" (readB path.data.toList plain58 msg.data.toList) 0))) ∧ Below w.heap.size w w' := by
  have hF' := answers_open hF
  have heb : eb < w.heap.size := World.block_lt_of_cell? w _ ce
  have ce2 : ∀ o, (w.alloc o).cell? ⟨eb, 0, none⟩ = some (.string msg) := fun o => (((Below.refl _ w).alloc (Nat.le_refl _) o).cell (p := ⟨eb, 0, none⟩) heb).trans ce
  have hop := fun o => opPlain58_118 "fmt.Sprintf" ⟨eb, 0, none⟩ msg (w.alloc o).drew (by rw [World.cell?_drew]; exact ce2 o)
  go_enter Tryf.func24, Tryf.ntmps24
  go_wp2
  go_region_held3 (fun w' => w'.cell? ⟨b, 0, none⟩ = some (.string path) ∧ w'.cell? ⟨b, 22, none⟩ = some (.iface 58 (.pointer (some ⟨eb, 0, none⟩)))) (go_keep) ((go_simp; apply rows_value nextTurns; (case hr => (go_simp; exact ⟨rfl, rfl⟩))))
  go_wp2
  go_ret
  exact ⟨rfl, (((Below.refl _ w).alloc (Nat.le_refl _) _).drew).drew⟩

set_option maxHeartbeats 1600000 in
theorem errorZ_nil (F : Interp) (b : Nat) (path : ByteArray) (xs : List Int) (w : World) (hF : F.answers w.tape)
    (c0 : w.cell? ⟨b, 0, none⟩ = some (.string path)) (c1 : w.cell? ⟨b, 1, none⟩ = some (.bool true)) (c22 : w.cell? ⟨b, 22, none⟩ = some (.nilIface))
    (hl : xs.length = 20) (cr : w.rangeAt b 2 (idc xs)) (hz : xs = zeros) :
    Calls Tryf.prog 24 #[.pointer (some ⟨b, 0, none⟩)] w fun e w' => e = .returned (.string (FmtStop.textOf (F "fmt.Sprintf" (readB path.data.toList [0] []) 0))) ∧ Below w.heap.size w w' := by
  have hF' := answers_open hF
  have heq := eq33 xs hl
  have hd : decide (xs = zeros) = true := by simpa using hz
  rw [hd] at heq
  have hi : (Tryf.prog.info? 33).map (·.size) = some (idc xs).length := by rw [idc_length, hl]; exact info33
  have HZ : Hid (xs.length = 20) := hl
  clear hd hl hz
  go_enter Tryf.func24, Tryf.ntmps24
  go_wp2_with (refine wpList_load_midW rfl 33 _ rfl b 2 rfl (idc xs) (.array 20 5) cr Tryf.underlying33 rfl hi ?_)
  go_region_held3 (fun w' => w'.cell? ⟨b, 0, none⟩ = some (.string path) ∧ w'.cell? ⟨b, 22, none⟩ = some (.nilIface)) (go_keep) ((go_simp; apply rows_value nextTurns; (case hr => (go_simp; exact ⟨rfl, rfl⟩))))
  go_wp2
  go_ret
  exact ⟨rfl, (((Below.refl _ w).alloc (Nat.le_refl _) _).drew).drew⟩

set_option maxHeartbeats 1600000 in
theorem errorZ_err (F : Interp) (b : Nat) (path : ByteArray) (xs : List Int) (eb : Nat) (msg : ByteArray) (w : World) (hF : F.answers w.tape)
    (c0 : w.cell? ⟨b, 0, none⟩ = some (.string path)) (c1 : w.cell? ⟨b, 1, none⟩ = some (.bool true)) (c22 : w.cell? ⟨b, 22, none⟩ = some (.iface 58 (.pointer (some ⟨eb, 0, none⟩))))
    (ce : w.cell? ⟨eb, 0, none⟩ = some (.string msg))
    (hl : xs.length = 20) (cr : w.rangeAt b 2 (idc xs)) (hz : xs = zeros) :
    Calls Tryf.prog 24 #[.pointer (some ⟨b, 0, none⟩)] w fun e w' => e = .returned (.string (FmtStop.textOf (F "fmt.Sprintf" (readB path.data.toList plain58 msg.data.toList) 0))) ∧ Below w.heap.size w w' := by
  have hF' := answers_open hF
  have heb : eb < w.heap.size := World.block_lt_of_cell? w _ ce
  have ce2 : ∀ o, (w.alloc o).cell? ⟨eb, 0, none⟩ = some (.string msg) := fun o => (((Below.refl _ w).alloc (Nat.le_refl _) o).cell (p := ⟨eb, 0, none⟩) heb).trans ce
  have hop := fun o => opPlain58_118 "fmt.Sprintf" ⟨eb, 0, none⟩ msg (w.alloc o).drew (by rw [World.cell?_drew]; exact ce2 o)
  have heq := eq33 xs hl
  have hd : decide (xs = zeros) = true := by simpa using hz
  rw [hd] at heq
  have hi : (Tryf.prog.info? 33).map (·.size) = some (idc xs).length := by rw [idc_length, hl]; exact info33
  have HZ : Hid (xs.length = 20) := hl
  clear hd hl hz
  go_enter Tryf.func24, Tryf.ntmps24
  go_wp2_with (refine wpList_load_midW rfl 33 _ rfl b 2 rfl (idc xs) (.array 20 5) cr Tryf.underlying33 rfl hi ?_)
  go_region_held3 (fun w' => w'.cell? ⟨b, 0, none⟩ = some (.string path) ∧ w'.cell? ⟨b, 22, none⟩ = some (.iface 58 (.pointer (some ⟨eb, 0, none⟩)))) (go_keep) ((go_simp; apply rows_value nextTurns; (case hr => (go_simp; exact ⟨rfl, rfl⟩))))
  go_wp2
  go_ret
  exact ⟨rfl, (((Below.refl _ w).alloc (Nat.le_refl _) _).drew).drew⟩

set_option maxHeartbeats 1600000 in
theorem errorA_nil (F : Interp) (b : Nat) (path : ByteArray) (xs : List Int) (w : World) (hF : F.answers w.tape)
    (c0 : w.cell? ⟨b, 0, none⟩ = some (.string path)) (c1 : w.cell? ⟨b, 1, none⟩ = some (.bool true)) (c22 : w.cell? ⟨b, 22, none⟩ = some (.nilIface))
    (hl : xs.length = 20) (cr : w.rangeAt b 2 (idc xs)) (hz : xs ≠ zeros) (hr : ∀ i, i < 20 → 0 ≤ xs.getD i 0 ∧ xs.getD i 0 < 256) :
    Calls Tryf.prog 24 #[.pointer (some ⟨b, 0, none⟩)] w fun e w' => e = .returned (.string (FmtStop.textOf (F "fmt.Sprintf" (readA path.data.toList (hexOf xs) [0] []) 0))) ∧ Below w.heap.size w w' := by
  have hF' := answers_open hF
  have heq := eq33 xs hl
  have hd : decide (xs = zeros) = false := by simpa using hz
  rw [hd] at heq
  have hi : (Tryf.prog.info? 33).map (·.size) = some (idc xs).length := by rw [idc_length, hl]; exact info33
  have HZ : Hid (xs.length = 20) := hl
  have HR : Hid (∀ i, i < 20 → 0 ≤ xs.getD i 0 ∧ xs.getD i 0 < 256) := hr
  clear hd hl hz hr
  have hbb : b < w.heap.size := World.block_lt_of_cell? w _ c0
  go_enter Tryf.func24, Tryf.ntmps24
  go_wp2_with (refine wpList_load_midW rfl 33 _ rfl b 2 rfl (idc xs) (.array 20 5) cr Tryf.underlying33 rfl hi ?_)
  have k0 : ∀ o, (w.alloc o).cell? ⟨b, 0, none⟩ = some (.string path) := fun o => (((Below.refl _ w).alloc (Nat.le_refl _) o).cell (p := ⟨b, 0, none⟩) hbb).trans c0
  have k22 : ∀ o, (w.alloc o).cell? ⟨b, 22, none⟩ = some (.nilIface) := fun o => (((Below.refl _ w).alloc (Nat.le_refl _) o).cell (p := ⟨b, 22, none⟩) hbb).trans c22
  have kr : ∀ o, (w.alloc o).rangeAt b 2 (idc xs) := fun o => World.rangeAt_alloc cr o
  have hu33 := Tryf.underlying33
  have hlen : (idc xs).length = 20 := by rw [idc_length]; exact HZ.out
  have hone : ∀ v ∈ idc xs, v.oneCell' = true := by intro v hv; simp only [idc, List.mem_map] at hv; obtain ⟨x, _, rfl⟩ := hv; rfl
  go_region_held3 (fun w' => w'.cell? ⟨b, 0, none⟩ = some (.string path) ∧ w'.cell? ⟨b, 22, none⟩ = some (.nilIface) ∧ w'.rangeAt b 2 (idc xs)) (first | exact ⟨c0, c22, cr⟩ | exact ⟨k0 _, k22 _, kr _⟩ | exact ⟨q0, q22, qr⟩) ((go_simp; apply rows_call nextTurns; (case hr => (go_simp; exact ⟨⟨rfl, rfl, rfl⟩, rfl⟩)); (case hi => exact invokeString33 _ _); (refine (string32 xs HZ.out HR.out _).mono ?_; rintro e w3 ⟨rfl, hx⟩; have hF3 : ∀ i name reading k range, w3.tape i (.extern (word name reading k) range) = F name reading k := (by rw [hx.tape]; exact hF'); have q0 : w3.cell? ⟨b, 0, none⟩ = some (.string path) := (hx.cell (p := ⟨b, 0, none⟩) (by simp; omega)).trans (k0 _); have q22 : w3.cell? ⟨b, 22, none⟩ = some (.nilIface) := (hx.cell (p := ⟨b, 22, none⟩) (by simp; omega)).trans (k22 _); have qr : w3.rangeAt b 2 (idc xs) := (fun j v hv => (hx.cell (p := ⟨b, 2 + j, none⟩) (by simp; omega)).trans (kr _ j v hv)); have v0 : w3.cell? ⟨w.heap.size, 0, none⟩ = some (.iface 9 (.string path)) := (hx.cell (p := ⟨w.heap.size, 0, none⟩) (by simp)).trans (by simp); have v1 : w3.cell? ⟨w.heap.size, 1, none⟩ = some (.iface 33 (.agg (idc xs).toArray)) := (hx.cell (p := ⟨w.heap.size, 1, none⟩) (by simp)).trans (by simp); have v2 : w3.cell? ⟨w.heap.size, 2, none⟩ = some (.nilIface) := (hx.cell (p := ⟨w.heap.size, 2, none⟩) (by simp)).trans (by simp); apply rows_value nextReturned; (case hr => (go_simp; exact ⟨rfl, rfl⟩)))))
  go_wp2
  go_ret
  exact ⟨rfl, ((((Below.refl _ w).alloc (Nat.le_refl _) _).drew).trans (hx.mono (by simp))).drew⟩

set_option maxHeartbeats 1600000 in
theorem errorA_err (F : Interp) (b : Nat) (path : ByteArray) (xs : List Int) (eb : Nat) (msg : ByteArray) (w : World) (hF : F.answers w.tape)
    (c0 : w.cell? ⟨b, 0, none⟩ = some (.string path)) (c1 : w.cell? ⟨b, 1, none⟩ = some (.bool true)) (c22 : w.cell? ⟨b, 22, none⟩ = some (.iface 58 (.pointer (some ⟨eb, 0, none⟩))))
    (ce : w.cell? ⟨eb, 0, none⟩ = some (.string msg))
    (hl : xs.length = 20) (cr : w.rangeAt b 2 (idc xs)) (hz : xs ≠ zeros) (hr : ∀ i, i < 20 → 0 ≤ xs.getD i 0 ∧ xs.getD i 0 < 256) :
    Calls Tryf.prog 24 #[.pointer (some ⟨b, 0, none⟩)] w fun e w' => e = .returned (.string (FmtStop.textOf (F "fmt.Sprintf" (readA path.data.toList (hexOf xs) plain58 msg.data.toList) 0))) ∧ Below w.heap.size w w' := by
  have hF' := answers_open hF
  have heb : eb < w.heap.size := World.block_lt_of_cell? w _ ce
  have ce2 : ∀ o, (w.alloc o).cell? ⟨eb, 0, none⟩ = some (.string msg) := fun o => (((Below.refl _ w).alloc (Nat.le_refl _) o).cell (p := ⟨eb, 0, none⟩) heb).trans ce
  have heq := eq33 xs hl
  have hd : decide (xs = zeros) = false := by simpa using hz
  rw [hd] at heq
  have hi : (Tryf.prog.info? 33).map (·.size) = some (idc xs).length := by rw [idc_length, hl]; exact info33
  have HZ : Hid (xs.length = 20) := hl
  have HR : Hid (∀ i, i < 20 → 0 ≤ xs.getD i 0 ∧ xs.getD i 0 < 256) := hr
  clear hd hl hz hr
  have hbb : b < w.heap.size := World.block_lt_of_cell? w _ c0
  go_enter Tryf.func24, Tryf.ntmps24
  go_wp2_with (refine wpList_load_midW rfl 33 _ rfl b 2 rfl (idc xs) (.array 20 5) cr Tryf.underlying33 rfl hi ?_)
  have k0 : ∀ o, (w.alloc o).cell? ⟨b, 0, none⟩ = some (.string path) := fun o => (((Below.refl _ w).alloc (Nat.le_refl _) o).cell (p := ⟨b, 0, none⟩) hbb).trans c0
  have k22 : ∀ o, (w.alloc o).cell? ⟨b, 22, none⟩ = some (.iface 58 (.pointer (some ⟨eb, 0, none⟩))) := fun o => (((Below.refl _ w).alloc (Nat.le_refl _) o).cell (p := ⟨b, 22, none⟩) hbb).trans c22
  have kr : ∀ o, (w.alloc o).rangeAt b 2 (idc xs) := fun o => World.rangeAt_alloc cr o
  have hu33 := Tryf.underlying33
  have hlen : (idc xs).length = 20 := by rw [idc_length]; exact HZ.out
  have hone : ∀ v ∈ idc xs, v.oneCell' = true := by intro v hv; simp only [idc, List.mem_map] at hv; obtain ⟨x, _, rfl⟩ := hv; rfl
  go_region_held3 (fun w' => w'.cell? ⟨b, 0, none⟩ = some (.string path) ∧ w'.cell? ⟨b, 22, none⟩ = some (.iface 58 (.pointer (some ⟨eb, 0, none⟩))) ∧ w'.rangeAt b 2 (idc xs)) (first | exact ⟨c0, c22, cr⟩ | exact ⟨k0 _, k22 _, kr _⟩ | exact ⟨q0, q22, qr⟩) ((go_simp; apply rows_call nextTurns; (case hr => (go_simp; exact ⟨⟨rfl, rfl, rfl⟩, rfl⟩)); (case hi => exact invokeString33 _ _); (refine (string32 xs HZ.out HR.out _).mono ?_; rintro e w3 ⟨rfl, hx⟩; have hF3 : ∀ i name reading k range, w3.tape i (.extern (word name reading k) range) = F name reading k := (by rw [hx.tape]; exact hF'); have q0 : w3.cell? ⟨b, 0, none⟩ = some (.string path) := (hx.cell (p := ⟨b, 0, none⟩) (by simp; omega)).trans (k0 _); have q22 : w3.cell? ⟨b, 22, none⟩ = some (.iface 58 (.pointer (some ⟨eb, 0, none⟩))) := (hx.cell (p := ⟨b, 22, none⟩) (by simp; omega)).trans (k22 _); have qr : w3.rangeAt b 2 (idc xs) := (fun j v hv => (hx.cell (p := ⟨b, 2 + j, none⟩) (by simp; omega)).trans (kr _ j v hv)); have v0 : w3.cell? ⟨w.heap.size, 0, none⟩ = some (.iface 9 (.string path)) := (hx.cell (p := ⟨w.heap.size, 0, none⟩) (by simp)).trans (by simp); have v1 : w3.cell? ⟨w.heap.size, 1, none⟩ = some (.iface 33 (.agg (idc xs).toArray)) := (hx.cell (p := ⟨w.heap.size, 1, none⟩) (by simp)).trans (by simp); have v2 : w3.cell? ⟨w.heap.size, 2, none⟩ = some (.iface 58 (.pointer (some ⟨eb, 0, none⟩))) := (hx.cell (p := ⟨w.heap.size, 2, none⟩) (by simp)).trans (by simp); have qop := opPlain58_118 "fmt.Sprintf" ⟨eb, 0, none⟩ msg w3 ((hx.cell (p := ⟨eb, 0, none⟩) (by simp; omega)).trans (ce2 _)); apply rows_value nextReturned; (case hr => (go_simp; exact ⟨rfl, rfl⟩)))))
  go_wp2
  go_ret
  exact ⟨rfl, ((((Below.refl _ w).alloc (Nat.le_refl _) _).drew).trans (hx.mono (by simp))).drew⟩
end Go.Proofs.Qxb6604672aFmt
