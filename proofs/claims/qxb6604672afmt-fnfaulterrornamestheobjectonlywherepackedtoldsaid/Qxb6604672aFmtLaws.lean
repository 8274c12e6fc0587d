/-
  DERIVED. Small laws at this dump: a [20]byte by value as a list of cells (loads out of a block, build of the Fault, '!=' against the zero id); what fmt.Sprintf is asked; the texts.
-/
import Derived.Test.Qxb6604672aFmtFacts
import Derived.Deep.MidRow
import Derived.Tactics2
import Derived.ChangeKeysEq
import Derived.Laws.StructEq
import Derived.Lib.HexFns
import Derived.Stop.FmtTextKit
namespace Go.Proofs.Qxb6604672aFmt
open Go.Extern.Stop Go.Stop Go.Extern

/-- The cells of a [20]byte. -/
def idc (xs : List Int) : List Value := xs.map (Value.int .u8)
theorem idc_length (xs : List Int) : (idc xs).length = xs.length := by simp [idc]
def zeros20 : Array Value := #[.int .u8 0, .int .u8 0, .int .u8 0, .int .u8 0, .int .u8 0, .int .u8 0, .int .u8 0, .int .u8 0, .int .u8 0, .int .u8 0, .int .u8 0, .int .u8 0, .int .u8 0, .int .u8 0, .int .u8 0, .int .u8 0, .int .u8 0, .int .u8 0, .int .u8 0, .int .u8 0]
def zeros : List Int := List.replicate 20 0
theorem zeros20_eq : zeros20 = (idc zeros).toArray := by rfl

/-- The cells of a Fault. -/
def fc (path : ByteArray) (packed : Bool) (cs : List Value) (e : Value) : List Value := .string path :: .bool packed :: (cs ++ [e])

theorem list20 {α : Type} (l : List α) (h : l.length = 20) : ∃ v0 v1 v2 v3 v4 v5 v6 v7 v8 v9 v10 v11 v12 v13 v14 v15 v16 v17 v18 v19, l = [v0, v1, v2, v3, v4, v5, v6, v7, v8, v9, v10, v11, v12, v13, v14, v15, v16, v17, v18, v19] := by
  match l, h with
  | [v0, v1, v2, v3, v4, v5, v6, v7, v8, v9, v10, v11, v12, v13, v14, v15, v16, v17, v18, v19], _ => exact ⟨v0, v1, v2, v3, v4, v5, v6, v7, v8, v9, v10, v11, v12, v13, v14, v15, v16, v17, v18, v19, rfl⟩

theorem build49e (path : ByteArray) (packed : Bool) (cs : List Value) (p : Value) (w : World) (h : cs.length = 20) :
    (Instr.build 49 #[(0, .string path), (1, .bool packed), (2, .agg cs.toArray), (3, .iface 58 p)]).run Tryf.prog w = .ok (.agg (fc path packed cs (.iface 58 p)).toArray) w := by
  obtain ⟨v0, v1, v2, v3, v4, v5, v6, v7, v8, v9, v10, v11, v12, v13, v14, v15, v16, v17, v18, v19, rfl⟩ := list20 cs h
  exact run_build w 49 _ _ (by kernel_rfl)
theorem build49n (path : ByteArray) (packed : Bool) (cs : List Value) (w : World) (h : cs.length = 20) :
    (Instr.build 49 #[(0, .string path), (1, .bool packed), (2, .agg cs.toArray)]).run Tryf.prog w = .ok (.agg (fc path packed cs .nilIface).toArray) w := by
  obtain ⟨v0, v1, v2, v3, v4, v5, v6, v7, v8, v9, v10, v11, v12, v13, v14, v15, v16, v17, v18, v19, rfl⟩ := list20 cs h
  exact run_build w 49 _ _ (by kernel_rfl)
theorem build33z (w : World) : (Instr.build 33 #[]).run Tryf.prog w = .ok (.agg zeros20) w := run_build w 33 #[] zeros20 (by kernel_rfl)
theorem guard33 : Tryf.prog.eqGuardType Tryf.prog.depth 33 = false := by kernel_rfl
theorem info33 : (Tryf.prog.info? 33).map (·.size) = some 20 := by kernel_rfl
theorem info30 : (Tryf.prog.info? 30).map (·.size) = some 20 := by kernel_rfl
theorem info5 : (Tryf.prog.info? 5).map (fun i => i.size) = some 1 := by kernel_rfl
theorem cells5 : Tryf.prog.cellsOf 5 = 1 := by kernel_rfl

/-- One step of '==' over two lists of bytes. -/
theorem eqItems_bytes (d : Nat) (xs ys : List Int) (w : World) (hl : xs.length = ys.length) : ∀ (m k : Nat), k + m = xs.length →
    (Op.eqItems (d + 1) 5 1 (idc xs).toArray (idc ys).toArray (List.range' k m)).run Tryf.prog w = .ok (decide (xs.drop k = ys.drop k)) w
  | 0, k, h => by
    have h1 : xs.drop k = [] := List.drop_eq_nil_of_le (by omega)
    have h2 : ys.drop k = [] := List.drop_eq_nil_of_le (by omega)
    simp [Op.eqItems, h1, h2]
  | m + 1, k, h => by
    have hk : k < xs.length := by omega
    have hk' : k < ys.length := by omega
    have ih := eqItems_bytes d xs ys w hl m (k + 1) (by omega)
    have px : (part 5 (idc xs).toArray (k * 1)).run Tryf.prog w = .ok (.int .u8 xs[k]) w := by
      simp [part, idc, hk, go_sem]
    have py : (part 5 (idc ys).toArray (k * 1)).run Tryf.prog w = .ok (.int .u8 ys[k]) w := by
      simp [part, idc, hk', go_sem]
    have pe : (Op.equalIn (d + 1) 5 (.int .u8 xs[k]) (.int .u8 ys[k])).run Tryf.prog w = .ok (xs[k] == ys[k]) w := by
      rw [Op.equalIn]; simp [run_underlying Tryf.underlying5]
    have dx := List.drop_eq_getElem_cons hk
    have dy := List.drop_eq_getElem_cons hk'
    have hd : decide (xs.drop k = ys.drop k) = ((xs[k] == ys[k]) && decide (xs.drop (k + 1) = ys.drop (k + 1))) := by
      rw [dx, dy, Bool.eq_iff_iff]; simp only [decide_eq_true_eq, Bool.and_eq_true, beq_iff_eq, List.cons.injEq]
    rw [List.range'_succ, Op.eqItems, hd]
    simp only [Sem.run_bind, px, py, pe, Result.andThen_ok]
    cases xs[k] == ys[k]
    · simp
    · simpa using ih

theorem eq33 (xs : List Int) (h : xs.length = 20) (w : World) :
    (Op.equalIn 10000 33 (.agg (idc xs).toArray) (.agg #[.int .u8 0, .int .u8 0, .int .u8 0, .int .u8 0, .int .u8 0, .int .u8 0, .int .u8 0, .int .u8 0, .int .u8 0, .int .u8 0, .int .u8 0, .int .u8 0, .int .u8 0, .int .u8 0, .int .u8 0, .int .u8 0, .int .u8 0, .int .u8 0, .int .u8 0, .int .u8 0])).run Tryf.prog w = .ok (decide (xs = zeros)) w := by
  have hi : ∃ i, Tryf.prog.info? 5 = some i := by
    cases hq : Tryf.prog.info? 5 with
    | none => have := info5; rw [hq] at this; cases this
    | some i => exact ⟨i, rfl⟩
  obtain ⟨i, hi⟩ := hi
  have e1 := run_equalIn_array (P := Tryf.prog) w 9999 (t := 33) (idc xs).toArray (idc zeros).toArray Tryf.underlying33 hi
  have e2 := eqItems_bytes 9998 xs zeros w (by rw [h]; rfl) 20 0 (by omega)
  rw [cells5, List.range_eq_range'] at e1
  rw [e2] at e1
  exact e1

/-- A load of many cells out of the middle of a block, at an operation that is guarded and wanted. -/
theorem wpList_load_midW {P : Program} {ops : Array Oper} {rest : List Oper} {op : Oper} {a : Act} {w : World} {Q : Exit → Act → World → Prop} (hw : Region.wanted op (yielded ops a.tmps) = true) (ty : TypeId) (x : Operand) (ho : op.op = .load ty x)
    (b o : Nat) (hx : a.eval x = .pointer (some ⟨b, o, none⟩)) (cs : List Value) (d : TypeDesc) (hc : w.rangeAt b o cs)
    (hu : P.underlying ty = some d) (hd : d.isRow = true) (hi : (P.info? ty).map (·.size) = some cs.length)
    (h : wpList P ops Q rest (a.put op.dst (.agg cs.toArray)) w) : wpList P ops Q (op :: rest) a w :=
  wpList_step fun _ hK => by
    simp only [hw, if_true]
    exact wp_load_mid ty x ho b o hx cs d hc hu hd hi (hK _ _ h)

/-- What fmt.Sprintf is asked without the object, and with it: the format, the path, (the id's text,) the error as shape and value. -/
def readB (path sh v : List UInt8) : List (List UInt8) := [[111, 100, 98, 58, 32, 37, 115, 58, 32, 37, 118], shape9, FmtStop.pack path, sh, v]
def readA (path said sh v : List UInt8) : List (List UInt8) := [[111, 100, 98, 58, 32, 37, 115, 58, 32, 111, 98, 106, 101, 99, 116, 32, 37, 115, 58, 32, 37, 118], shape9, FmtStop.pack path, 20 :: 0 :: FmtStop.pack "object.ID".toByteArray.data.toList, said, sh, v]

/-- The texts. -/
def textB (path tail : List UInt8) : List UInt8 := [111, 100, 98, 58, 32] ++ path ++ [58, 32] ++ tail
def textA (path said tail : List UInt8) : List UInt8 := [111, 100, 98, 58, 32] ++ path ++ [58, 32, 111, 98, 106, 101, 99, 116, 32] ++ said ++ [58, 32] ++ tail
theorem parseB : (FmtText.parse [111, 100, 98, 58, 32, 37, 115, 58, 32, 37, 118]).map FmtText.glue = some [.lit [111, 100, 98, 58, 32], .verb {} 115, .lit [58, 32], .verb {} 118] := by rfl
theorem parseA : (FmtText.parse [111, 100, 98, 58, 32, 37, 115, 58, 32, 111, 98, 106, 101, 99, 116, 32, 37, 115, 58, 32, 37, 118]).map FmtText.glue = some [.lit [111, 100, 98, 58, 32], .verb {} 115, .lit [58, 32, 111, 98, 106, 101, 99, 116, 32], .verb {} 115, .lit [58, 32], .verb {} 118] := by rfl

theorem textB_err (path msg : List UInt8) (hp : path.length < 2 ^ 64) : FmtText.text "fmt.Sprintf" (readB path plain58 msg) = some (textB path msg) := by
  have hs := FmtText.operand_str_at (sh := shape9) rfl rfl path hp
  have he := FmtText.operand_plain_at (sh := plain58) rfl (FmtText.unpack_pack _ (by decide)) msg
  rw [readB, FmtText.text_sprintf_glued parseB (FmtText.operands_cons hs (FmtText.operands_cons he FmtText.operands_nil))]
  simp [FmtText.render, FmtText.printArg_s_str, FmtText.printArg_v_said, textB]
theorem textB_nil (path : List UInt8) (hp : path.length < 2 ^ 64) : FmtText.text "fmt.Sprintf" (readB path [0] []) = some (textB path [60, 110, 105, 108, 62]) := by
  have hs := FmtText.operand_str_at (sh := shape9) rfl rfl path hp
  have he := FmtText.operand_nil
  rw [readB, FmtText.text_sprintf_glued parseB (FmtText.operands_cons hs (FmtText.operands_cons he FmtText.operands_nil))]
  simp [FmtText.render, FmtText.printArg_s_str, FmtText.printArg_v_nil, textB]
theorem textA_err (path said msg : List UInt8) (hp : path.length < 2 ^ 64) : FmtText.text "fmt.Sprintf" (readA path said plain58 msg) = some (textA path said msg) := by
  have hs := FmtText.operand_str_at (sh := shape9) rfl rfl path hp
  have hid := FmtText.operand_stringer_at (ty := 20 :: 0 :: FmtStop.pack "object.ID".toByteArray.data.toList) rfl (FmtText.unpack_pack _ (by decide)) said
  have he := FmtText.operand_plain_at (sh := plain58) rfl (FmtText.unpack_pack _ (by decide)) msg
  rw [readA, FmtText.text_sprintf_glued parseA (FmtText.operands_cons hs (FmtText.operands_cons hid (FmtText.operands_cons he FmtText.operands_nil)))]
  simp [FmtText.render, FmtText.printArg_s_str, FmtText.printArg_s_said, FmtText.printArg_v_said, textA]
theorem textA_nil (path said : List UInt8) (hp : path.length < 2 ^ 64) : FmtText.text "fmt.Sprintf" (readA path said [0] []) = some (textA path said [60, 110, 105, 108, 62]) := by
  have hs := FmtText.operand_str_at (sh := shape9) rfl rfl path hp
  have hid := FmtText.operand_stringer_at (ty := 20 :: 0 :: FmtStop.pack "object.ID".toByteArray.data.toList) rfl (FmtText.unpack_pack _ (by decide)) said
  have he := FmtText.operand_nil
  rw [readA, FmtText.text_sprintf_glued parseA (FmtText.operands_cons hs (FmtText.operands_cons hid (FmtText.operands_cons he FmtText.operands_nil)))]
  simp [FmtText.render, FmtText.printArg_s_str, FmtText.printArg_s_said, FmtText.printArg_v_nil, textA]

end Go.Proofs.Qxb6604672aFmt
