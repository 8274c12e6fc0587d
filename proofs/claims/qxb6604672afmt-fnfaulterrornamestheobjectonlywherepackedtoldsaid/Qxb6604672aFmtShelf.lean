/-
  DERIVED. The shelf's contracts for encoding/hex at this dump, in the plain words that the guide's lay-plain tool printed for it.
-/
import Derived.Ground.PaProg
import Derived.Shelf.Hex.Lens
import Derived.Shelf.Hex.Encode
import Derived.Test.Qxb6604672aFmtProg
namespace Go.Proofs
open Go.Shelf
def Tryf.laysPa41_ren : Go.Shelf.Ren := ⟨fun | 41 => 37 | n => n, fun | 3 => 3 | n => n, fun | n => n⟩
theorem Tryf.laysPa41 : Go.Proofs.Lays.p41 Tryf.prog Tryf.laysPa41_ren := {
  mixed := by kernel_rfl
  f41 := Tryf.func37.trans (congrArg some (by kernel_rfl))
  t3 := Tryf.underlying3
  a3 := Tryf.isAgg3
  z3 := Tryf.sizeOf3
  v3 := Tryf.zeroValue3 }
open Go.RowKit Go.Lib in
theorem Tryf.hex_EncodedLen (n : Int) (h0 : 0 ≤ n) (h1 : n < 4611686018427387904) (w : World) :
    Calls Tryf.prog 37 #[.int .i64 n] w fun e w' => e = .returned (.int .i64 (n * 2)) ∧ w' = w := Any.hex_EncodedLen Tryf.laysPa41 n h0 h1 w
def Tryf.laysPa40_ren : Go.Shelf.Ren := ⟨fun | 40 => 38 | n => n, fun | 30 => 22 | 3 => 3 | 0 => 0 | 5 => 5 | 46 => 52 | 9 => 9 | n => n, fun | n => n⟩
theorem Tryf.laysPa40 : Go.Proofs.Lays.p40 Tryf.prog Tryf.laysPa40_ren := {
  mixed := by kernel_rfl
  f40 := Tryf.func38.trans (congrArg some (by kernel_rfl))
  t0 := Tryf.underlying0
  a0 := Tryf.isAgg0
  z0 := Tryf.sizeOf0
  v0 := Tryf.zeroValue0
  t3 := Tryf.underlying3
  a3 := Tryf.isAgg3
  z3 := Tryf.sizeOf3
  v3 := Tryf.zeroValue3
  t5 := Tryf.underlying5
  a5 := Tryf.isAgg5
  z5 := Tryf.sizeOf5
  v5 := Tryf.zeroValue5
  t9 := Tryf.underlying9
  a9 := Tryf.isAgg9
  z9 := Tryf.sizeOf9
  v9 := Tryf.zeroValue9
  t30 := Tryf.underlying22
  a30 := Tryf.isAgg22
  z30 := Tryf.sizeOf22
  v30 := Tryf.zeroValue22
  t46 := Tryf.underlying52
  a46 := Tryf.isAgg52
  z46 := Tryf.sizeOf52
  v46 := Tryf.zeroValue52 }
open Go.RowKit Go.Lib in
theorem Tryf.hex_Encode (bd od nd cd N : Nat) (f : Nat → Value) (bs os n cs : Nat) (xs : List Int) (w : World) (hx : xs.length = n) (hr : ∀ i, i < n → 0 ≤ xs.getD i 0 ∧ xs.getD i 0 < 256) (hsrc : ∀ i, i < n → w.cell? ⟨bs, os + i, none⟩ = some (.int .u8 (xs.getD i 0))) (hrow : w.rowIs bd 5 N f) (hfit : od + nd ≤ N) (hlen : 2 * n ≤ nd) (hne : bd ≠ bs) (hbig : n ≤ 4611686018427387903) :
    Calls Tryf.prog 38 #[.slice (some ⟨bd, od, none⟩) nd cd, .slice (some ⟨bs, os, none⟩) n cs] w fun e w' => e = .returned (.int .i64 ((n : Int) * 2)) ∧ w'.rowIs bd 5 N (Hx.row f od (Lib.bytesOf xs) n) ∧ w.grownBy w' (some bd) := Any.hex_Encode Tryf.laysPa40 bd od nd cd N f bs os n cs xs w hx hr hsrc hrow hfit hlen hne hbig
def Tryf.laysPah39_ren : Go.Shelf.Ren := ⟨fun | 39 => 36 | 41 => 37 | 40 => 38 | n => n, fun | 30 => 22 | 9 => 9 | 3 => 3 | 0 => 0 | 5 => 5 | 46 => 52 | n => n, fun | n => n⟩
theorem Tryf.laysPah39 : Go.Proofs.Lays.ph39 Tryf.prog Tryf.laysPah39_ren := {
  mixed := by kernel_rfl
  f39 := Tryf.func36.trans (congrArg some (by kernel_rfl))
  f40 := Tryf.func38.trans (congrArg some (by kernel_rfl))
  f41 := Tryf.func37.trans (congrArg some (by kernel_rfl))
  t0 := Tryf.underlying0
  a0 := Tryf.isAgg0
  z0 := Tryf.sizeOf0
  v0 := Tryf.zeroValue0
  t3 := Tryf.underlying3
  a3 := Tryf.isAgg3
  z3 := Tryf.sizeOf3
  v3 := Tryf.zeroValue3
  t5 := Tryf.underlying5
  a5 := Tryf.isAgg5
  z5 := Tryf.sizeOf5
  v5 := Tryf.zeroValue5
  t9 := Tryf.underlying9
  a9 := Tryf.isAgg9
  z9 := Tryf.sizeOf9
  v9 := Tryf.zeroValue9
  t30 := Tryf.underlying22
  a30 := Tryf.isAgg22
  z30 := Tryf.sizeOf22
  v30 := Tryf.zeroValue22
  t46 := Tryf.underlying52
  a46 := Tryf.isAgg52
  z46 := Tryf.sizeOf52
  v46 := Tryf.zeroValue52
  info5 := by kernel_rfl }
open Go.RowKit Go.Lib in
theorem Tryf.hex_EncodeToString (bs os n cs : Nat) (xs : List Int) (w : World) (hx : xs.length = n) (hr : ∀ i, i < n → 0 ≤ xs.getD i 0 ∧ xs.getD i 0 < 256) (hsrc : ∀ i, i < n → w.cell? ⟨bs, os + i, none⟩ = some (.int .u8 (xs.getD i 0))) (hb : bs < w.heap.size) (hbig : 2 * n ≤ 281474976710656) :
    Calls Tryf.prog 36 #[.slice (some ⟨bs, os, none⟩) n cs] w fun e w' => e = .returned (.string ⟨(Hx.encode (Lib.bytesOf xs)).toArray⟩) ∧ Below w.heap.size w w' := Any.hex_EncodeToString Tryf.laysPah39 bs os n cs xs w hx hr hsrc hb hbig
open Go.RowKit Go.Lib in
theorem Tryf.hex_Encode_nil (dst : Value) (w : World) :
    Calls Tryf.prog 38 #[dst, .slice none 0 0] w fun e w' => e = .returned (.int .i64 0) ∧ w' = w := Any.hex_Encode_nil Tryf.laysPa40 dst w
open Go.RowKit Go.Lib in
theorem Tryf.hex_EncodeToString_nil (w : World) :
    Calls Tryf.prog 36 #[.slice none 0 0] w fun e w' => e = .returned (.string ⟨#[]⟩) ∧ Below w.heap.size w w' := Any.hex_EncodeToString_nil Tryf.laysPah39 w
end Go.Proofs
