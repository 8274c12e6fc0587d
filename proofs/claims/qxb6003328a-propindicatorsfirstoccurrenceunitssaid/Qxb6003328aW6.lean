/-
  DERIVED. THE WALK of the law itself.
-/
import Derived.Test.Qxb6003328aW5
import Derived.Test.Qxb6003328aOrd
import Derived.BigRegion
import Derived.BigQuiet
namespace Go.Proofs.Qxb6003328a
open Go.RowKit

/-- The tranche's four cells. -/
def trf (mo yr : Int) (sl : Value) (i : Nat) : Value := if i = 0 then .int .i64 mo else if i = 1 then .pointer none else if i = 2 then .int .i64 yr else sl

def flf0 (_FY : Nat → Int) (_i : Nat) : Value := .int .i64 0
theorem Below.trans' (w : World) {w1 : World} (h : Below w.drew.heap.size w.drew w1) : Below w.heap.size w w1 := ⟨h.os, h.tape, h.output, h.size, h.block⟩
theorem ind11' (a b c : ByteArray) (w : World) :
    Calls Try.prog 11 #[.string a, .string b, .string c] w fun e w' => e = .returned (.agg #[.string a, .string b, .pointer none, .pointer none, .string c, .pointer none]) ∧ w' = w.alloc (.cells #[.string a, .string b, .pointer none, .pointer none, .string c, .pointer none] 51) := ind11 a b c w
theorem mk44 (n : Nat) (hn : n ≤ 64) (w : World) : (Instr.makeSlice 44 (.int .i64 0) (.int .i64 (n : Int))).run Try.prog w = .ok (.slice (some ⟨w.heap.size, 0, none⟩) 0 n) (w.alloc (.cells (madeCells z51.cells (n * 6)) 51)) := by
  obtain ⟨i, hi, hz, hsz, hby⟩ := inf_of inf51
  have h := run_make (P := Try.prog) w 44 51 i z51 Try.underlying44 hi hz .i64 .i64 0 (n : Int) (by omega) (by omega) (by rw [hby]; omega) (by omega)
  rw [hsz] at h
  simpa using h
/-- The i-th indicator of the list to be searched. -/
def FI (F : Nat → ByteArray) (i : Nat) : Ind := ⟨F i, ⟨#[117]⟩, ⟨#[102]⟩ ++ ita i⟩
/-- The plan lies in block pb, with the tranches' slice tv. -/
def PL (w : World) (pb : Nat) (tv : Value) : Prop := ∃ pf, w.rowIs pb 43 8 pf ∧ pf 4 = tv
theorem plan_made (w : World) (c : Array Value) (o : Obj) (h8 : c.size = 8) (tv : Value) (h4 : c[4]! = tv) : PL ((w.alloc (.cells c 43)).alloc o) w.heap.size tv := by
  refine ⟨fun i => c[i]!, ?_, h4⟩
  have h := World.rowIs_alloc w c 43 (fun i => c[i]!) (fun i hi => by simp only [getElem!_pos c i hi, Array.getElem?_eq_getElem hi])
  rw [h8] at h
  exact h.alloc o
theorem flat_made (w : World) (o : Obj) (n : Nat) (FY : Nat → Int) : ((w.alloc o).alloc (.cells (madeCells #[.int .i64 0] n) 3)).rowIs (w.heap.size + 1) 3 n (flf0 FY) := by
  have h := World.rowIs_made (w.alloc o) (.int .i64 0) n 3
  rw [World.size_alloc] at h
  exact h.congr (fun j _ => rfl)

/-- The flat years: the first off of them are told. -/
def flf (off : Nat) (FY : Nat → Int) (i : Nat) : Value := if i < off then .int .i64 (FY i) else .int .i64 0
/-- The indicators of one tranche, added where its year is asked for. -/
def addY (y yr : Int) (A : List Ind) (ins : List Ind) : List Ind := if yr = y then ins.foldl addF A else A
theorem addY_snoc (y yr : Int) (A ins : List Ind) (X : Nat → Ind) (FY : Nat → Int) (k : Nat) (hF : FY k = yr) (h : addY y yr A ins = (List.range k).foldl (addP y FY X) []) : addY y yr A (ins ++ [X k]) = (List.range (k + 1)).foldl (addP y FY X) [] := by
  rw [List.range_succ, List.foldl_append, ← h, List.foldl_cons, List.foldl_nil]
  unfold addP addY
  rw [hF]
  split
  · rw [List.foldl_append]; rfl
  · rfl
theorem sumTo_mono (C : Nat → Int) (n : Nat) (h : ∀ t, t < n → 0 ≤ C t ∧ C t ≤ 16) : ∀ k, k ≤ n → sumTo C (n - k) ≤ sumTo C n
  | 0, _ => by simp
  | k + 1, hk => by
    have h1 := sumTo_mono C n h k (by omega)
    have e : n - k = (n - (k + 1)) + 1 := by omega
    rw [e] at h1
    simp only [sumTo] at h1
    have := h (n - (k + 1)) (by omega)
    omega

theorem wp44 {o : Oper} {a : Act} {K : Act → World → Prop} {Q : Exit → Act → World → Prop} (w : World) (s x : Operand)
    (ho : o.op = .call { callee := .builtin .append, args := #[s, x], argTypes := #[44, 44] }) (base : Nat) (v : Value) (zs : List Ind) (x0 : Ind) (B : Nat) (hs : a.eval s = v) (hx : a.eval x = .slice (some ⟨B, 0, none⟩) 1 1)
    (hown : Own w base v zs) (hB : w.heap[B]? = some (.cells (enc x0).toArray 51 (0, 0))) (hn : zs.length ≤ 100000) (hbase : base ≤ w.heap.size)
    (h : ∀ g cap w', Own w' base (.slice (some ⟨g, 0, none⟩) (zs.length + 1) cap) (zs ++ [x0]) → w.grownBy w' v.ownBlock → (v.ownBlock = some g ∨ g = w.heap.size) → g < w'.heap.size → K (a.put o.dst (.slice (some ⟨g, 0, none⟩) (zs.length + 1) cap)) w') : Oper.wp Try.prog o a w K Q := by
  obtain ⟨i, hi, hz, hsz, hby⟩ := inf_of inf51
  exact wp_append_lies w s x 44 ho base 51 i z51 6 72 Try.underlying44 hi hz hsz hby rfl (by decide) v zs.length (cellsOf zs) hs hown ⟨B, 0, none⟩ 1 1 (enc x0) hx rfl (World.news_of_block hB) (enc_one x0) (by omega) (by unfold maxLen; omega) (by omega) hbase _ rfl
    fun g cap w' h1 h2 h3 h4 => h g cap w' (Own.snoc h1) h2 h3 h4
theorem wp38 {o : Oper} {a : Act} {K : Act → World → Prop} {Q : Exit → Act → World → Prop} (w : World) (s x : Operand)
    (ho : o.op = .call { callee := .builtin .append, args := #[s, x], argTypes := #[38, 38] }) (base : Nat) (v : Value) (zs : List Tr) (x0 : Tr) (B : Nat) (hs : a.eval s = v) (hx : a.eval x = .slice (some ⟨B, 0, none⟩) 1 1)
    (hown : w.ownsRow base 48 4 v zs.length (zs.flatMap tenc)) (hB : w.heap[B]? = some (.cells (tenc x0).toArray 48 (0, 0))) (h1c : x0.sl.oneCell' = true) (hn : zs.length ≤ 100000) (hbase : base ≤ w.heap.size)
    (h : ∀ g cap w', w'.ownsRow base 48 4 (.slice (some ⟨g, 0, none⟩) (zs.length + 1) cap) (zs.length + 1) (zs.flatMap tenc ++ tenc x0) → w.grownBy w' v.ownBlock → (v.ownBlock = some g ∨ g = w.heap.size) → g < w'.heap.size → K (a.put o.dst (.slice (some ⟨g, 0, none⟩) (zs.length + 1) cap)) w') : Oper.wp Try.prog o a w K Q := by
  obtain ⟨i, hi, hz, hsz, hby⟩ := inf_of inf48
  exact wp_append_lies w s x 38 ho base 48 i z48 4 48 Try.underlying38 hi hz hsz hby rfl (by decide) v zs.length (zs.flatMap tenc) hs hown ⟨B, 0, none⟩ 1 1 (tenc x0) hx rfl (World.news_of_block hB) (by
      intro u hu
      simp only [tenc, List.mem_cons, List.not_mem_nil, or_false] at hu
      rcases hu with rfl | rfl | rfl | rfl <;> first | rfl | exact h1c) (by omega) (by unfold maxLen; omega) (by omega) hbase _ rfl
    fun g cap w' h1 h2 h3 h4 => h g cap w' h1 h2 h3 h4

set_option maxRecDepth 100000 in
set_option maxHeartbeats 8000000 in
theorem law4 (v0 v1 v2 v3 v5 : Value) (n0 n1 n2 n3 n5 : Nat) (Y C : Nat → Int) (N U F : Nat → ByteArray) (y : Int) (q : ByteArray) (w : World)
    (s0 : SlV w v0 n0 (fun i => .int .i64 (Y i))) (s1 : SlV w v1 n1 (fun i => .int .i64 (C i))) (s2 : SlV w v2 n2 (fun i => .string (N i))) (s3 : SlV w v3 n3 (fun i => .string (U i))) (s5 : SlV w v5 n5 (fun i => .string (F i))) :
    Calls Try.prog 4 #[v0, v1, v2, v3, .int .i64 y, v5, .string q] w fun e w' => e = .returned (.bool true) ∧ Below w.heap.size w w' := by
  have k9 := fun a0 a1 c0 c1 => bytes9 v2 v3 v5 a0 a1 n0 n1 n2 n3 n5 c0 c1 y N U F q w s2 s3 s5
  have k10 := fun a0 a2 a3 a5 c0 c2 c3 c5 => shape10 v1 a0 a2 a3 a5 n0 n1 n2 n3 n5 c0 c2 c3 c5 C w s1
  obtain ⟨a0, c0, rfl, h0⟩ := s0
  obtain ⟨a1, c1, rfl, h1⟩ := s1
  obtain ⟨a2, c2, rfl, h2⟩ := s2
  obtain ⟨a3, c3, rfl, h3⟩ := s3
  obtain ⟨a5, c5, rfl, h5⟩ := s5
  have K9 : Hid (Calls Try.prog 9 #[.slice a0 n0 c0, .slice a1 n1 c1, .slice a2 n2 c2, .slice a3 n3 c3, .int .i64 y, .slice a5 n5 c5, .string q] w fun e w' => AnyB e ∧ w' = w) := k9 a0 a1 c0 c1
  have K10 : Hid (Calls Try.prog 10 #[.slice a0 n0 c0, .slice a1 n1 c1, .slice a2 n2 c2, .slice a3 n3 c3, .slice a5 n5 c5] w fun e w' => ShRes n0 n1 n2 n3 n5 C e ∧ w' = w) := k10 a0 a2 a3 a5 c0 c2 c3 c5
  clear k9 k10
  have H0 : Hid (0 < n0 → ∃ b off, a0 = some ⟨b, off, none⟩ ∧ b < w.heap.size ∧ ∀ i, i < n0 → w.cell? ⟨b, off + i, none⟩ = some (.int .i64 (Y i))) := h0
  have H1 : Hid (0 < n1 → ∃ b off, a1 = some ⟨b, off, none⟩ ∧ b < w.heap.size ∧ ∀ i, i < n1 → w.cell? ⟨b, off + i, none⟩ = some (.int .i64 (C i))) := h1
  have H2 : Hid (0 < n2 → ∃ b off, a2 = some ⟨b, off, none⟩ ∧ b < w.heap.size ∧ ∀ i, i < n2 → w.cell? ⟨b, off + i, none⟩ = some (.string (N i))) := h2
  have H3 : Hid (0 < n3 → ∃ b off, a3 = some ⟨b, off, none⟩ ∧ b < w.heap.size ∧ ∀ i, i < n3 → w.cell? ⟨b, off + i, none⟩ = some (.string (U i))) := h3
  have H5 : Hid (0 < n5 → ∃ b off, a5 = some ⟨b, off, none⟩ ∧ b < w.heap.size ∧ ∀ i, i < n5 → w.cell? ⟨b, off + i, none⟩ = some (.string (F i))) := h5
  clear h0 h1 h2 h3 h5
  go_enter Try.func4, Try.ntmps4
  go_wp2_with fail
  refine K9.out.mono ?_
  rintro e w1 ⟨he, hw1⟩
  have hw1' := hw1.symm
  clear hw1
  subst hw1'
  rcases he with rfl | rfl
  · go_wp2
    go_ret
    exact ⟨rfl, Below.refl _ _⟩
  go_wp2_with fail
  refine K10.out.mono ?_
  rintro e w2 ⟨he, hw2⟩
  have hw2' := hw2.symm
  clear hw2
  subst hw2'
  rcases he with rfl | ⟨rfl, sh⟩
  · go_wp2
    go_ret
    exact ⟨rfl, Below.refl _ _⟩
  clear K9 K10
  obtain ⟨p64, rfl, p256, rfl, pf, pC, pS⟩ := sh
  have hmk := fun w => run_make_row' (P := Try.prog) 29 3 (.int .i64 0) 8 Try.underlying29 inf3 rfl .i64 .i64 n3 (by omega) (by omega) w
  go_wp2
  clear hmk
  go_loopg [17, 18] n1 (fun gg s17 s18 wr => ∃ (t off : Nat) (tv : Value) (T : List Tr) (FY : Nat → Int), t ≤ n1 ∧ n1 - t ≤ gg ∧ s18 = .int .i64 t ∧ s17 = .int .i64 off ∧ T.length = t ∧ Hid ((off : Int) = sumTo C t) ∧ Hid (w.heap.size + 2 ≤ wr.heap.size) ∧ Hid (Below w.heap.size w wr) ∧ Hid (PL wr w.heap.size tv) ∧ Hid (OwnT wr (w.heap.size + 2) tv T) ∧ Hid (wr.rowIs (w.heap.size + 1) 3 n3 (flf off FY)) ∧ Hid (T.foldl (addT y) [] = (List.range off).foldl (addP y FY (IND N U)) []))
  case atStart =>
    refine ⟨0, 0, .slice none 0 0, [], fun _ => 0, Nat.zero_le _, by omega, rfl, rfl, rfl, (show Hid _ from rfl), (show Hid _ from ?_), ((Below.refl _ w).alloc (Nat.le_refl _) _).alloc (by simp) _, (show Hid _ from ?_), ⟨World.ownsRow_nil _ _ _ _, fun j hj => absurd hj (Nat.not_lt_zero _)⟩, (show Hid _ from ?_), (show Hid _ from rfl)⟩
    · show w.heap.size + 2 ≤ _
      rw [World.size_alloc, World.size_alloc]; omega
    · exact plan_made w _ _ rfl _ rfl
    · exact flat_made w _ n3 (fun _ => 0)
  case round =>
    obtain ⟨Wo, hWo⟩ : ∃ Wo, Wo = wr := ⟨_, rfl⟩
    subst hWo
    obtain ⟨t, off, tv, T, FY, ht, hg, rfl, rfl, hTl, HO, HZ, HB, HP, HT, HR, HF⟩ := hrel
    by_cases hlt : t < n1
    case pos =>
      obtain ⟨b0, o0, rfl, hb0, hc0⟩ := H0.out (by omega)
      obtain ⟨b1, o1, rfl, hb1, hc1⟩ := H1.out (by omega)
      have hltz : (t : Int) < (n1 : Int) := by omega
      have HC0 : Hid (w.cell? ⟨b0, o0 + t, none⟩ = some (.int .i64 (Y t))) := hc0 t hlt
      have cy : Wo.cell? ⟨b0, o0 + t, none⟩ = some (.int .i64 (Y t)) := (HB.out.cell (p := ⟨b0, o0 + t, none⟩) hb0).trans (hc0 t hlt)
      have cyA : ∀ o, (Wo.alloc o).cell? ⟨b0, o0 + t, none⟩ = some (.int .i64 (Y t)) := fun o => ((bel1 Wo o).cell (p := ⟨b0, o0 + t, none⟩) (by show b0 < _; have := HZ.out; omega)).trans cy
      clear hc0
      obtain ⟨c, hc⟩ : ∃ c : Nat, C t = c := ⟨(C t).toNat, by have := pC t hlt; omega⟩
      have hc16 : c ≤ 16 := by have := pC t hlt; omega
      have hoc : off + c ≤ n3 := by
        have h1 := sumTo_mono C n1 pC (n1 - (t + 1)) (by omega)
        rw [show n1 - (n1 - (t + 1)) = t + 1 by omega, pS] at h1
        simp only [sumTo] at h1
        have := HO.out
        omega
      have HC1 : Hid (w.cell? ⟨b1, o1 + t, none⟩ = some (.int .i64 (c : Int))) := by rw [← hc]; exact hc1 t hlt
      clear hc1
      go_wp2
      clear cy cyA
      go_loopg [17, 20] c (fun gg s17 s20 wr => ∃ (j k : Nat) (sl : Value) (ins : List Ind), j ≤ c ∧ c - j ≤ gg ∧ s20 = .int .i64 j ∧ s17 = .int .i64 k ∧ Hid (k = off + j) ∧ ins.length = j ∧ Hid (But Wo.heap.size (w.heap.size + 1) Wo wr) ∧ Hid (wr.rowIs Wo.heap.size 48 4 (trf (t + 1) (Y t) sl)) ∧ Hid (Own wr (Wo.heap.size + 1) sl ins) ∧ Hid (wr.rowIs (w.heap.size + 1) 3 n3 (flf k (fun i => if i < off then FY i else Y t))) ∧ Hid (addY y (Y t) (T.foldl (addT y) []) ins = (List.range k).foldl (addP y (fun i => if i < off then FY i else Y t) (IND N U)) []))
      case atStart =>
        refine ⟨0, off, .slice none 0 0, [], Nat.zero_le _, by omega, rfl, rfl, (show Hid _ from rfl), rfl, (show Hid _ from ?_), (show Hid _ from ?_), World.ownsRow_nil _ _ _ _, (show Hid _ from ?_), (show Hid _ from ?_)⟩
        · exact (But.refl _ _ _).below (bel1 Wo _) (Nat.le_refl _)
        · exact World.rowIs_alloc Wo _ 48 _ (fun i hi => by
            change i < 4 at hi
            rcases (show i = 0 ∨ i = 1 ∨ i = 2 ∨ i = 3 by omega) with rfl | rfl | rfl | rfl <;> rfl)
        · exact (HR.out.alloc _).congr (fun i _ => by
            unfold flf
            by_cases e : i < off <;> simp [e])
        · have h1 := addP_congr y FY (fun i => if i < off then FY i else Y t) (IND N U) off (fun k hk => by simp [hk])
          rw [← h1, ← HF.out]
          unfold addY; split <;> rfl
      case round =>
        obtain ⟨j, k, sl, ins, hj, hg2, rfl, rfl, HK, hil, BW, R, O, FR, FE⟩ := hrel
        have hwo : w.heap.size + 2 ≤ Wo.heap.size := HZ.out
        have cc : wr.cell? ⟨b1, o1 + t, none⟩ = some (.int .i64 (c : Int)) := ((BW.out.cell (p := ⟨b1, o1 + t, none⟩) (by show b1 < _; omega) (by show b1 ≠ _; omega)).trans (HB.out.cell (p := ⟨b1, o1 + t, none⟩) hb1)).trans HC1.out
        by_cases hlt2 : j < c
        case pos =>
          have hltz2 : (j : Int) < (c : Int) := by omega
          have hkn : k < n3 := by have := HK.out; omega
          obtain ⟨b2, o2, rfl, hb2, hc2⟩ := H2.out (by omega)
          obtain ⟨b3, o3, rfl, hb3, hc3⟩ := H3.out (by omega)
          have cN : wr.cell? ⟨b2, o2 + k, none⟩ = some (.string (N k)) := ((BW.out.cell (p := ⟨b2, o2 + k, none⟩) (by show b2 < _; omega) (by show b2 ≠ _; omega)).trans (HB.out.cell (p := ⟨b2, o2 + k, none⟩) hb2)).trans (hc2 k hkn)
          have cU : wr.cell? ⟨b3, o3 + k, none⟩ = some (.string (U k)) := ((BW.out.cell (p := ⟨b3, o3 + k, none⟩) (by show b3 < _; omega) (by show b3 ≠ _; omega)).trans (HB.out.cell (p := ⟨b3, o3 + k, none⟩) hb3)).trans (hc3 k hkn)
          have cL : wr.cell? ⟨Wo.heap.size, 3, none⟩ = some sl := R.out.cell (by omega)
          have hkz : (k : Int) < (n3 : Int) := by omega
          clear hc2 hc3
          go_wp2
          clear cc
          refine Until.start (z := 19) (S := fun w' => w'.cell? ⟨Wo.heap.size, 3, none⟩ = some sl ∧ w'.cell? ⟨b2, o2 + k, none⟩ = some (.string (N k)) ∧ w'.cell? ⟨b3, o3 + k, none⟩ = some (.string (U k))) (by kernel_rfl) ?_
          have hS0 : wr.drew.cell? ⟨Wo.heap.size, 3, none⟩ = some sl ∧ wr.drew.cell? ⟨b2, o2 + k, none⟩ = some (.string (N k)) ∧ wr.drew.cell? ⟨b3, o3 + k, none⟩ = some (.string (U k)) := ⟨cL, cN, cU⟩
          refine Until.take (i := 0) (v := ?_) rfl (by kernel_rfl) (by kernel_rfl) (by kernel_rfl) (by kernel_rfl) (fun _ _ _ h => h) rfl hS0 (fun w' hS' => ?_) ?_
          rotate_left
          · obtain ⟨q1, q2, q3⟩ := hS'; go_simp <;> with_reducible rfl
          simp only [Act.put, List.getElem_toArray, List.getElem_cons_zero, List.setIfInBounds_toArray, List.set_cons_zero, List.set_cons_succ]
          refine Until.take (i := 1) (v := ?_) rfl (by kernel_rfl) (by kernel_rfl) (by kernel_rfl) (by kernel_rfl) (fun _ _ _ h => h) rfl hS0 (fun w' hS' => ?_) ?_
          rotate_left
          · obtain ⟨q1, q2, q3⟩ := hS'; go_simp <;> with_reducible rfl
          simp only [Act.put, List.getElem_toArray, List.getElem_cons_succ, List.getElem_cons_zero, List.setIfInBounds_toArray, List.set_cons_zero, List.set_cons_succ]
          refine Until.take (i := 2) (v := ?_) rfl (by kernel_rfl) (by kernel_rfl) (by kernel_rfl) (by kernel_rfl) (fun _ _ _ h => h) rfl hS0 (fun w' hS' => ?_) ?_
          rotate_left
          · obtain ⟨q1, q2, q3⟩ := hS'; go_simp <;> with_reducible rfl
          simp only [Act.put, List.getElem_toArray, List.getElem_cons_succ, List.getElem_cons_zero, List.setIfInBounds_toArray, List.set_cons_zero, List.set_cons_succ]
          refine Until.take (i := 3) (v := ?_) rfl (by kernel_rfl) (by kernel_rfl) (by kernel_rfl) (by kernel_rfl) (fun _ _ _ h => h) rfl hS0 (fun w' hS' => ?_) ?_
          rotate_left
          · obtain ⟨q1, q2, q3⟩ := hS'; go_simp <;> with_reducible rfl
          simp only [Act.put, List.getElem_toArray, List.getElem_cons_succ, List.getElem_cons_zero, List.setIfInBounds_toArray, List.set_cons_zero, List.set_cons_succ]
          refine Until.take (i := 4) (v := ?_) rfl (by kernel_rfl) (by kernel_rfl) (by kernel_rfl) (by kernel_rfl) (fun _ _ _ h => h) rfl hS0 (fun w' hS' => ?_) ?_
          rotate_left
          · obtain ⟨q1, q2, q3⟩ := hS'; go_simp <;> with_reducible rfl
          simp only [Act.put, List.getElem_toArray, List.getElem_cons_succ, List.getElem_cons_zero, List.setIfInBounds_toArray, List.set_cons_zero, List.set_cons_succ]
          refine Until.take (i := 5) (v := ?_) rfl (by kernel_rfl) (by kernel_rfl) (by kernel_rfl) (by kernel_rfl) (fun _ _ _ h => h) rfl hS0 (fun w' hS' => ?_) ?_
          rotate_left
          · obtain ⟨q1, q2, q3⟩ := hS'; go_simp <;> with_reducible rfl
          simp only [Act.put, List.getElem_toArray, List.getElem_cons_succ, List.getElem_cons_zero, List.setIfInBounds_toArray, List.set_cons_zero, List.set_cons_succ]
          refine Until.take (i := 6) (v := ?_) rfl (by kernel_rfl) (by kernel_rfl) (by kernel_rfl) (by kernel_rfl) (fun _ _ _ h => h) rfl hS0 (fun w' hS' => ?_) ?_
          rotate_left
          · obtain ⟨q1, q2, q3⟩ := hS'; go_simp <;> with_reducible rfl
          simp only [Act.put, List.getElem_toArray, List.getElem_cons_succ, List.getElem_cons_zero, List.setIfInBounds_toArray, List.set_cons_zero, List.set_cons_succ]
          refine Until.take (i := 7) (v := ?_) rfl (by kernel_rfl) (by kernel_rfl) (by kernel_rfl) (by kernel_rfl) (fun _ _ _ h => h) rfl hS0 (fun w' hS' => ?_) ?_
          rotate_left
          · obtain ⟨q1, q2, q3⟩ := hS'; go_simp <;> with_reducible rfl
          simp only [Act.put, List.getElem_toArray, List.getElem_cons_succ, List.getElem_cons_zero, List.setIfInBounds_toArray, List.set_cons_zero, List.set_cons_succ]
          refine Until.take (i := 8) (v := ?_) rfl (by kernel_rfl) (by kernel_rfl) (by kernel_rfl) (by kernel_rfl) (fun _ _ _ h => h) rfl hS0 (fun w' hS' => ?_) ?_
          rotate_left
          · obtain ⟨q1, q2, q3⟩ := hS'; go_simp <;> with_reducible rfl
          simp only [Act.put, List.getElem_toArray, List.getElem_cons_succ, List.getElem_cons_zero, List.setIfInBounds_toArray, List.set_cons_zero, List.set_cons_succ]
          refine Until.take (i := 9) (v := ?_) rfl (by kernel_rfl) (by kernel_rfl) (by kernel_rfl) (by kernel_rfl) (fun _ _ _ h => h) rfl hS0 (fun w' hS' => ?_) ?_
          rotate_left
          · obtain ⟨q1, q2, q3⟩ := hS'; go_simp <;> with_reducible rfl
          simp only [Act.put, List.getElem_toArray, List.getElem_cons_succ, List.getElem_cons_zero, List.setIfInBounds_toArray, List.set_cons_zero, List.set_cons_succ]
          refine Until.take (i := 10) (v := ?_) rfl (by kernel_rfl) (by kernel_rfl) (by kernel_rfl) (by kernel_rfl) (fun _ _ _ h => h) rfl hS0 (fun w' hS' => ?_) ?_
          rotate_left
          · obtain ⟨q1, q2, q3⟩ := hS'; go_simp <;> with_reducible rfl
          simp only [Act.put, List.getElem_toArray, List.getElem_cons_succ, List.getElem_cons_zero, List.setIfInBounds_toArray, List.set_cons_zero, List.set_cons_succ]
          refine Until.take (i := 11) (v := ?_) rfl (by kernel_rfl) (by kernel_rfl) (by kernel_rfl) (by kernel_rfl) (fun _ _ _ h => h) rfl hS0 (fun w' hS' => ?_) ?_
          rotate_left
          · obtain ⟨q1, q2, q3⟩ := hS'; go_simp <;> with_reducible rfl
          simp only [Act.put, List.getElem_toArray, List.getElem_cons_succ, List.getElem_cons_zero, List.setIfInBounds_toArray, List.set_cons_zero, List.set_cons_succ]
          refine Until.one (i := 12) (by kernel_rfl) rfl rfl (fun K hK => ?_)
          go_simp
          refine (itoa12 k _ (by omega)).mono ?_
          rintro e w1 ⟨rfl, hb1'⟩
          have hb1 : Below wr.heap.size wr w1 := Below.trans' wr hb1'
          have HB1 : Hid (Below wr.heap.size wr w1) := hb1
          have hS1 : w1.cell? ⟨Wo.heap.size, 3, none⟩ = some sl ∧ w1.cell? ⟨b2, o2 + k, none⟩ = some (.string (N k)) ∧ w1.cell? ⟨b3, o3 + k, none⟩ = some (.string (U k)) := ⟨cell_later hb1 cL, cell_later hb1 cN, cell_later hb1 cU⟩
          clear hb1' hS0
          refine hK _ _ (fun _ => hS1) ?_
          clear hK K
          have hits : ¬ 9223372036854775807 < 1 + (ita k).size := by have := ita_size k (by omega); omega
          refine Until.take (i := 13) (v := ?_) rfl (by kernel_rfl) (by kernel_rfl) (by kernel_rfl) (by kernel_rfl) (fun _ _ _ h => h) rfl hS1 (fun w' hS' => ?_) ?_
          rotate_left
          · obtain ⟨q1, q2, q3⟩ := hS'; go_simp <;> with_reducible rfl
          simp only [Act.put, List.getElem_toArray, List.getElem_cons_succ, List.getElem_cons_zero, List.setIfInBounds_toArray, List.set_cons_zero, List.set_cons_succ]
          refine Until.one (i := 14) (by kernel_rfl) rfl rfl (fun K hK => ?_)
          go_simp
          refine (ind11' _ _ _ _).mono ?_
          rintro e w2 ⟨rfl, rfl⟩
          have hS2 : ∀ o, (w1.alloc o).cell? ⟨Wo.heap.size, 3, none⟩ = some sl ∧ (w1.alloc o).cell? ⟨b2, o2 + k, none⟩ = some (.string (N k)) ∧ (w1.alloc o).cell? ⟨b3, o3 + k, none⟩ = some (.string (U k)) := fun o => ⟨cell_later (bel1 w1 o) hS1.1, cell_later (bel1 w1 o) hS1.2.1, cell_later (bel1 w1 o) hS1.2.2⟩
          refine hK _ _ (fun _ => hS2 _) ?_
          clear hK K
          refine Until.one (i := 15) (by kernel_rfl) rfl rfl (fun K hK => ?_)
          go_simp
          have hS3 : ∀ o oo, ((w1.alloc o).alloc oo).cell? ⟨Wo.heap.size, 3, none⟩ = some sl ∧ ((w1.alloc o).alloc oo).cell? ⟨b2, o2 + k, none⟩ = some (.string (N k)) ∧ ((w1.alloc o).alloc oo).cell? ⟨b3, o3 + k, none⟩ = some (.string (U k)) := fun o oo => ⟨cell_later (bel1 _ oo) (hS2 o).1, cell_later (bel1 _ oo) (hS2 o).2.1, cell_later (bel1 _ oo) (hS2 o).2.2⟩
          refine hK _ _ (fun _ => hS3 _ _) ?_
          clear hK K
          refine Until.one (i := 16) (by kernel_rfl) rfl rfl (fun K hK => ?_)
          have hRl : Wo.heap.size < wr.heap.size := R.out.lt
          refine wp44 _ (.tmp 80) (.tmp 93) rfl (Wo.heap.size + 1) sl ins (IND N U k) (w1.heap.size + 1) rfl rfl ?c1 ?c2 ?c3 ?c4 ?c5
          case c1 => exact World.ownsRow.alloc (World.ownsRow.alloc (own_move O.out (fun k _ hk => HB1.out.block k hk)) _) _
          case c2 => exact new2 _ _ _
          case c3 => omega
          case c4 => rw [World.size_alloc, World.size_alloc]; have := HB1.out.size; omega
          intro g cap w3 ho3 hg3 ha3 hl3
          have hne : ∀ b, b ≤ Wo.heap.size → some b ≠ sl.ownBlock := fun b hb e => by have := (World.ownsRow.lt O.out b e.symm).1; omega
          have hbk : ∀ b, b ≤ Wo.heap.size → w3.heap[b]? = wr.heap[b]? := fun b hb => by
            have e1 := hg3.block b (by rw [World.size_alloc, World.size_alloc]; have := HB1.out.size; omega) (hne b hb)
            have e2 := (bel1 (w1.alloc (.cells (enc (IND N U k)).toArray 51)) (.cells (enc (IND N U k)).toArray 51)).block b (by rw [World.size_alloc]; have := HB1.out.size; omega)
            have e3 := (bel1 w1 (.cells (enc (IND N U k)).toArray 51)).block b (by have := HB1.out.size; omega)
            exact e1.trans (e2.trans (e3.trans (HB1.out.block b (by omega))))
          have HBK : Hid (∀ b, b ≤ Wo.heap.size → w3.heap[b]? = wr.heap[b]?) := hbk
          have hR3 : w3.rowIs Wo.heap.size 48 4 (trf (t + 1) (Y t) sl) := R.out.of_block (hbk _ (Nat.le_refl _))
          have HR3 : Hid (w3.rowIs Wo.heap.size 48 4 (trf (t + 1) (Y t) sl)) := hR3
          have d3 : w3.cell? ⟨Wo.heap.size, 3, none⟩ = some sl := hR3.cell (by omega)
          have f3 : w3.frozen? ⟨Wo.heap.size, 3, none⟩ = false := hR3.frozen _
          have hS4 : w3.cell? ⟨Wo.heap.size, 3, none⟩ = some sl ∧ w3.cell? ⟨b2, o2 + k, none⟩ = some (.string (N k)) ∧ w3.cell? ⟨b3, o3 + k, none⟩ = some (.string (U k)) := ⟨d3, (World.cell?_of_block (hbk b2 (by omega))).trans cN, (World.cell?_of_block (hbk b3 (by omega))).trans cU⟩
          have HO3 : Hid (Own w3 (Wo.heap.size + 1) (.slice (some ⟨g, 0, none⟩) (ins.length + 1) cap) (ins ++ [IND N U k])) := ho3
          have HG3 : Hid (((w1.alloc (.cells (enc (IND N U k)).toArray 51)).alloc (.cells (enc (IND N U k)).toArray 51)).grownBy w3 sl.ownBlock) := hg3
          refine hK _ _ (fun _ => hS4) ?_
          clear hK K hS1 hS2 hS3 ho3 hg3 ha3 hl3 hbk hR3 hne hb1
          simp only [Act.put, List.getElem_toArray, List.getElem_cons_succ, List.getElem_cons_zero, List.setIfInBounds_toArray, List.set_cons_zero, List.set_cons_succ]
          refine Until.one (i := 17) (by kernel_rfl) rfl rfl (fun K hK => ?_)
          go_simp
          refine hK _ _ (fun _ => hS4) ?_
          clear hK K
          refine Until.one (i := 18) (by kernel_rfl) rfl rfl (fun K hK => ?_)
          go_simp
          refine hK _ _ (fun _ => hS4) ?_
          clear hK K
          refine Until.one (i := 19) (by kernel_rfl) rfl rfl (fun K hK => ?_)
          go_simp
          refine hK _ _ (fun h => absurd rfl h) ?_
          clear hK K
          refine Until.done (by kernel_rfl) ?_ _
          generalize hW4 : w3.setCell ⟨Wo.heap.size, 3, none⟩ (.slice (some ⟨g, 0, none⟩) (j + 1) cap) = w4
          have hb1s : wr.heap.size ≤ w1.heap.size := HB1.out.size
          have R4 : Hid (w4.rowIs Wo.heap.size 48 4 (trf (t + 1) (Y t) (.slice (some ⟨g, 0, none⟩) (j + 1) cap))) := by
            rw [← hW4]
            exact (HR3.out.set 3 _).congr (fun i hi => by rcases (show i = 0 ∨ i = 1 ∨ i = 2 ∨ i = 3 by omega) with rfl | rfl | rfl | rfl <;> rfl)
          have O4 : Hid (Own w4 (Wo.heap.size + 1) (.slice (some ⟨g, 0, none⟩) (j + 1) cap) (ins ++ [IND N U k])) := by
            rw [← hW4, ← hil]
            exact ownsRow_setCell_below HO3.out (by show Wo.heap.size < _; omega) _
          have B4 : Hid (But Wo.heap.size (w.heap.size + 1) Wo w4) := by
            rw [← hW4]
            exact ((((BW.out.below HB1.out (by omega)).below (bel1 w1 _) (by omega)).below (bel1 _ _) (by rw [World.size_alloc]; omega)).grown HG3.out (by rw [World.size_alloc, World.size_alloc]; omega) (fun k hk => by have := (World.ownsRow.lt O.out k hk).1; omega)).setCell (.inl (Nat.le_refl _)) _
          have FR4 : Hid (w4.rowIs (w.heap.size + 1) 3 n3 (flf k (fun i => if i < off then FY i else Y t))) := by
            rw [← hW4]
            exact (FR.out.of_block (HBK.out _ (by omega))).setOther (by show w.heap.size + 1 ≠ Wo.heap.size; omega) _
          have cy4 : w4.cell? ⟨b0, o0 + t, none⟩ = some (.int .i64 (Y t)) := ((B4.out.cell (p := ⟨b0, o0 + t, none⟩) (by show b0 < _; omega) (by show b0 ≠ _; omega)).trans (HB.out.cell (p := ⟨b0, o0 + t, none⟩) hb0)).trans HC0.out
          have cF : w4.cell? ⟨w.heap.size + 1, k, none⟩ = some (.int .i64 0) := by rw [FR4.out.cell hkn]; simp [flf]
          have fF : w4.frozen? ⟨w.heap.size + 1, k, none⟩ = false := FR4.out.frozen _
          clear hW4 HR3 HO3 HG3 HBK BW R O FR d3 f3 hS4 cL cN cU HB1
          go_wp2
          go_roundg (c - (j + 1))
          case measure => omega
          case rel =>
            refine ⟨j + 1, k + 1, _, ins ++ [IND N U k], by omega, by omega, by go_num, by go_num, (show Hid _ from by have := HK.out; show k + 1 = _; omega), by simp [hil], (show Hid _ from B4.out.setCell (.inr rfl) _), (show Hid _ from R4.out.setOther (by show Wo.heap.size ≠ w.heap.size + 1; omega) _), (show Hid _ from ownsRow_setCell_below O4.out (by show w.heap.size + 1 < _; omega) _), (show Hid _ from (FR4.out.set k _).congr (fun i hi => ?_)), (show Hid _ from ?_)⟩
            · unfold flf
              have := HK.out
              by_cases e : i = k
              · subst e; simp [show ¬ i < off by omega]
              · by_cases e2 : i < k
                · simp [e, e2, show i < k + 1 by omega]
                · simp [e, e2, show ¬ i < k + 1 by omega]
            · have hko : ¬ k < off := by have := HK.out; omega
              have hfe := addY_snoc y (Y t) (T.foldl (addT y) []) ins (IND N U) (fun i => if i < off then FY i else Y t) k (if_neg hko) FE.out
              exact hfe
        case neg =>
          have hltz2 : ¬ (j : Int) < (c : Int) := by omega
          have : j = c := by omega
          subst this
          obtain ⟨pf, hpf, hp4⟩ := HP.out
          have hRl : Wo.heap.size < wr.heap.size := R.out.lt
          have hbk : ∀ b, b < Wo.heap.size → b ≠ w.heap.size + 1 → wr.heap[b]? = Wo.heap[b]? := BW.out.block
          have hpr : wr.rowIs w.heap.size 43 8 pf := hpf.of_block (hbk _ (by omega) (by omega))
          have HPR : Hid (wr.rowIs w.heap.size 43 8 pf) := hpr
          have hcP : wr.cell? ⟨w.heap.size, 4, none⟩ = some tv := by rw [hpr.cell (by omega), hp4]
          have r0 : wr.cell? ⟨Wo.heap.size, 0, none⟩ = some (.int .i64 (t + 1)) := R.out.cell (by omega)
          have r1 : wr.cell? ⟨Wo.heap.size, 1, none⟩ = some (.pointer none) := R.out.cell (by omega)
          have r2 : wr.cell? ⟨Wo.heap.size, 2, none⟩ = some (.int .i64 (Y t)) := R.out.cell (by omega)
          have r3 : wr.cell? ⟨Wo.heap.size, 3, none⟩ = some sl := R.out.cell (by omega)
          have HTW : Hid (OwnT wr (w.heap.size + 2) tv T) := OwnT.move HT.out (fun k h1 h2 => hbk k h2 (by omega))
          have HPF : Hid (pf 4 = tv) := hp4
          clear hpf hp4 hpr hbk
          go_wp2
          clear cc
          refine Until.start (z := 10) (S := fun w' => w'.cell? ⟨w.heap.size, 4, none⟩ = some tv ∧ w'.cell? ⟨Wo.heap.size, 0, none⟩ = some (.int .i64 (t + 1)) ∧ w'.cell? ⟨Wo.heap.size, 1, none⟩ = some (.pointer none) ∧ w'.cell? ⟨Wo.heap.size, 2, none⟩ = some (.int .i64 (Y t)) ∧ w'.cell? ⟨Wo.heap.size, 3, none⟩ = some sl) (by kernel_rfl) ?_
          have hS0 : wr.drew.cell? ⟨w.heap.size, 4, none⟩ = some tv ∧ wr.drew.cell? ⟨Wo.heap.size, 0, none⟩ = some (.int .i64 (t + 1)) ∧ wr.drew.cell? ⟨Wo.heap.size, 1, none⟩ = some (.pointer none) ∧ wr.drew.cell? ⟨Wo.heap.size, 2, none⟩ = some (.int .i64 (Y t)) ∧ wr.drew.cell? ⟨Wo.heap.size, 3, none⟩ = some sl := ⟨hcP, r0, r1, r2, r3⟩
          refine Until.take (i := 0) (v := ?_) rfl (by kernel_rfl) (by kernel_rfl) (by kernel_rfl) (by kernel_rfl) (fun _ _ _ h => h) rfl hS0 (fun w' hS' => ?_) ?_
          rotate_left
          · obtain ⟨q1, q2, q3, q4, q5⟩ := hS'; go_simp <;> with_reducible rfl
          simp only [Act.put, List.getElem_toArray, List.getElem_cons_zero, List.setIfInBounds_toArray, List.set_cons_zero, List.set_cons_succ]
          refine Until.take (i := 1) (v := ?_) rfl (by kernel_rfl) (by kernel_rfl) (by kernel_rfl) (by kernel_rfl) (fun _ _ _ h => h) rfl hS0 (fun w' hS' => ?_) ?_
          rotate_left
          · obtain ⟨q1, q2, q3, q4, q5⟩ := hS'; go_simp <;> with_reducible rfl
          simp only [Act.put, List.getElem_toArray, List.getElem_cons_succ, List.getElem_cons_zero, List.setIfInBounds_toArray, List.set_cons_zero, List.set_cons_succ]
          refine Until.take (i := 2) (v := ?_) rfl (by kernel_rfl) (by kernel_rfl) (by kernel_rfl) (by kernel_rfl) (fun _ _ _ h => h) rfl hS0 (fun w' hS' => ?_) ?_
          rotate_left
          · obtain ⟨q1, q2, q3, q4, q5⟩ := hS'; go_simp <;> with_reducible rfl
          simp only [Act.put, List.getElem_toArray, List.getElem_cons_succ, List.getElem_cons_zero, List.setIfInBounds_toArray, List.set_cons_zero, List.set_cons_succ]
          refine Until.take (i := 3) (v := ?_) rfl (by kernel_rfl) (by kernel_rfl) (by kernel_rfl) (by kernel_rfl) (fun _ _ _ h => h) rfl hS0 (fun w' hS' => ?_) ?_
          rotate_left
          · obtain ⟨q1, q2, q3, q4, q5⟩ := hS'; go_simp <;> with_reducible rfl
          simp only [Act.put, List.getElem_toArray, List.getElem_cons_succ, List.getElem_cons_zero, List.setIfInBounds_toArray, List.set_cons_zero, List.set_cons_succ]
          refine Until.take (i := 4) (v := ?_) rfl (by kernel_rfl) (by kernel_rfl) (by kernel_rfl) (by kernel_rfl) (fun _ _ _ h => h) rfl hS0 (fun w' hS' => ?_) ?_
          rotate_left
          · obtain ⟨q1, q2, q3, q4, q5⟩ := hS'; go_simp <;> with_reducible rfl
          simp only [Act.put, List.getElem_toArray, List.getElem_cons_succ, List.getElem_cons_zero, List.setIfInBounds_toArray, List.set_cons_zero, List.set_cons_succ]
          refine Until.take (i := 5) (v := ?_) rfl (by kernel_rfl) (by kernel_rfl) (by kernel_rfl) (by kernel_rfl) (fun _ _ _ h => h) rfl hS0 (fun w' hS' => ?_) ?_
          rotate_left
          · obtain ⟨q1, q2, q3, q4, q5⟩ := hS'; go_simp <;> with_reducible rfl
          simp only [Act.put, List.getElem_toArray, List.getElem_cons_succ, List.getElem_cons_zero, List.setIfInBounds_toArray, List.set_cons_zero, List.set_cons_succ]
          refine Until.one (i := 6) (by kernel_rfl) rfl rfl (fun K hK => ?_)
          go_simp
          have hS1 : ∀ o, (wr.alloc o).drew.cell? ⟨w.heap.size, 4, none⟩ = some tv ∧ (wr.alloc o).drew.cell? ⟨Wo.heap.size, 0, none⟩ = some (.int .i64 (t + 1)) ∧ (wr.alloc o).drew.cell? ⟨Wo.heap.size, 1, none⟩ = some (.pointer none) ∧ (wr.alloc o).drew.cell? ⟨Wo.heap.size, 2, none⟩ = some (.int .i64 (Y t)) ∧ (wr.alloc o).drew.cell? ⟨Wo.heap.size, 3, none⟩ = some sl := fun o => ⟨cell_later (bel1 wr o).drew hcP, cell_later (bel1 wr o).drew r0, cell_later (bel1 wr o).drew r1, cell_later (bel1 wr o).drew r2, cell_later (bel1 wr o).drew r3⟩
          refine hK _ _ (fun _ => hS1 _) ?_
          clear hK K
          refine Until.one (i := 7) (by kernel_rfl) rfl rfl (fun K hK => ?_)
          have hone : sl.oneCell' = true := by obtain ⟨ad, cp, hv, _⟩ := O.out.form; rw [hv]; rfl
          refine wp38 _ (.tmp 110) (.tmp 112) rfl (w.heap.size + 2) tv T ⟨t + 1, Y t, sl, ins⟩ wr.heap.size rfl rfl ?d1 ?d2 ?d3 ?d4 ?d5 ?d6
          case d1 => exact World.ownsRow.alloc HTW.out.row _
          case d2 => exact heap_alloc_new wr _
          case d3 => exact hone
          case d4 => omega
          case d5 => show w.heap.size + 2 ≤ (wr.alloc _).heap.size; rw [World.size_alloc]; omega
          intro g cap w3 hr3 hg3 ha3 hl3
          have hne : ∀ b, b < w.heap.size + 2 → some b ≠ tv.ownBlock := fun b hb e => by have := (World.ownsRow.lt HTW.out.row b e.symm).1; omega
          have hneT : some Wo.heap.size ≠ tv.ownBlock := fun e => by have := (World.ownsRow.lt HT.out.row _ e.symm).2; omega
          have hbk3 : ∀ b, b < w.heap.size + 2 → w3.heap[b]? = wr.heap[b]? := fun b hb => (hg3.block b (by show b < (wr.alloc _).heap.size; rw [World.size_alloc]; omega) (hne b hb)).trans ((bel1 wr (.cells (tenc ⟨t + 1, Y t, sl, ins⟩).toArray 48)).block b (by omega))
          have HBK3 : Hid (∀ b, b < w.heap.size + 2 → w3.heap[b]? = wr.heap[b]?) := hbk3
          have htl : ∀ i, w3.cell? ⟨Wo.heap.size, i, none⟩ = wr.cell? ⟨Wo.heap.size, i, none⟩ := fun i => World.cell?_of_block ((hg3.block Wo.heap.size (by show _ < (wr.alloc _).heap.size; rw [World.size_alloc]; omega) hneT).trans ((bel1 wr (.cells (tenc ⟨t + 1, Y t, sl, ins⟩).toArray 48)).block _ (by omega)))
          have HT3 : Hid (OwnT w3 (w.heap.size + 2) (.slice (some ⟨g, 0, none⟩) (T.length + 1) cap) (T ++ [⟨t + 1, Y t, sl, ins⟩])) := OwnT.snoc (w := (wr.alloc (.cells (tenc ⟨t + 1, Y t, sl, ins⟩).toArray 48)).drew) ⟨World.ownsRow.alloc HTW.out.row _, fun j hj => ⟨World.ownsRow.alloc (HTW.out.each j hj).1 _, (HTW.out.each j hj).2⟩⟩ hg3 hr3 (own_base (World.ownsRow.alloc O.out _) (by omega)) (by show ins.length ≤ 16; omega)
          have hpr3 : w3.rowIs w.heap.size 43 8 pf := HPR.out.of_block (hbk3 _ (by omega))
          have HPR3 : Hid (w3.rowIs w.heap.size 43 8 pf) := hpr3
          have p4 : w3.cell? ⟨w.heap.size, 4, none⟩ = some tv := by rw [hpr3.cell (by omega), HPF.out]
          have pf4 : w3.frozen? ⟨w.heap.size, 4, none⟩ = false := hpr3.frozen _
          have HB3 : Hid (Below w.heap.size w w3) := Below.grown (((But.toBelow HB.out BW.out (by omega) (by omega)).alloc (by omega) (.cells (tenc ⟨t + 1, Y t, sl, ins⟩).toArray 48)).drew) hg3 (by show w.heap.size ≤ (wr.alloc _).heap.size; rw [World.size_alloc]; omega) (fun k hk => by have := (World.ownsRow.lt HTW.out.row k hk).1; omega)
          have hs3 : wr.heap.size + 1 ≤ w3.heap.size := Nat.le_trans (Nat.le_of_eq (World.size_alloc wr (.cells (tenc ⟨t + 1, Y t, sl, ins⟩).toArray 48)).symm) hg3.size
          have hS3 : w3.cell? ⟨w.heap.size, 4, none⟩ = some tv ∧ w3.cell? ⟨Wo.heap.size, 0, none⟩ = some (.int .i64 (t + 1)) ∧ w3.cell? ⟨Wo.heap.size, 1, none⟩ = some (.pointer none) ∧ w3.cell? ⟨Wo.heap.size, 2, none⟩ = some (.int .i64 (Y t)) ∧ w3.cell? ⟨Wo.heap.size, 3, none⟩ = some sl := ⟨p4, (htl _).trans r0, (htl _).trans r1, (htl _).trans r2, (htl _).trans r3⟩
          refine hK _ _ (fun _ => hS3) ?_
          clear hK K hS1 hr3 hg3 ha3 hl3 hbk3 hpr3 hne hneT htl hS0
          simp only [Act.put, List.getElem_toArray, List.getElem_cons_succ, List.getElem_cons_zero, List.setIfInBounds_toArray, List.set_cons_zero, List.set_cons_succ]
          refine Until.one (i := 8) (by kernel_rfl) rfl rfl (fun K hK => ?_)
          go_simp
          refine hK _ _ (fun _ => hS3) ?_
          clear hK K
          refine Until.one (i := 9) (by kernel_rfl) rfl rfl (fun K hK => ?_)
          go_simp
          refine hK _ _ (fun _ => hS3) ?_
          clear hK K
          refine Until.one (i := 10) (by kernel_rfl) rfl rfl (fun K hK => ?_)
          go_simp
          refine hK _ _ (fun h => absurd rfl h) ?_
          clear hK K
          refine Until.done (by kernel_rfl) ?_ _
          clear hS3 p4 pf4 r0 r1 r2 r3 hcP
          go_wp2
          go_roundg (n1 - (t + 1))
          case measure => omega
          case rel =>
            refine ⟨t + 1, k, _, T ++ [⟨t + 1, Y t, sl, ins⟩], (fun i => if i < off then FY i else Y t), by omega, by omega, by go_num, rfl, by simp [hTl], (show Hid _ from ?_), (show Hid _ from ?_), (show Hid _ from HB3.out.setCell (Nat.le_refl _) _), (show Hid _ from ⟨_, HPR3.out.set 4 _, rfl⟩), (show Hid _ from ?_), (show Hid _ from ?_), (show Hid _ from ?_)⟩
            · show (k : Int) = sumTo C (t + 1)
              have h1 := HK.out
              have h2 := HO.out
              simp only [sumTo]
              omega
            · show w.heap.size + 2 ≤ (w3.setCell _ _).heap.size
              rw [World.size_setCell]; omega
            · have h1 := HT3.out
              rw [hTl] at h1
              exact OwnT.move h1 (fun b h2 _ => Below.heap_setCell _ _ _ _ (by show b ≠ w.heap.size; omega))
            · exact (FR.out.of_block (HBK3.out _ (by omega))).setOther (by show w.heap.size + 1 ≠ w.heap.size; omega) _
            · have hfe : (T ++ [(⟨t + 1, Y t, sl, ins⟩ : Tr)]).foldl (addT y) [] = (List.range k).foldl (addP y (fun i => if i < off then FY i else Y t) (IND N U)) [] := by
                rw [List.foldl_append, ← FE.out]; rfl
              exact hfe
    case neg =>
      have hltz : ¬ (t : Int) < (n1 : Int) := by omega
      obtain rfl : n1 = t := by omega
      obtain rfl : n3 = off := by have := HO.out; omega
      clear HO hg ht
      go_wp2
      go_loopg [21, 22] n3 (fun gg s21 s22 wr => ∃ (k : Nat) (M : List Nat), k ≤ n3 ∧ n3 - k ≤ gg ∧ s22 = .int .i64 k ∧ M.length ≤ k ∧ Hid (Below Wo.heap.size Wo wr) ∧ Hid (OwnI wr Wo.heap.size s21 M) ∧ Hid (M = (List.range k).foldl (addM y FY N) []))
      case atStart => exact ⟨0, [], Nat.zero_le _, by omega, rfl, Nat.zero_le _, Below.refl _ _, World.ownsRow_nil _ _ _ _, (show Hid _ from rfl)⟩
      case round =>
        obtain ⟨k, M, hk, hg, rfl, hMl, B3, O3, E3⟩ := hrel
        have hwo : w.heap.size + 2 ≤ Wo.heap.size := HZ.out
        obtain ⟨Wk, hWk⟩ : ∃ Wk, Wk = wr := ⟨_, rfl⟩
        subst hWk
        by_cases hlt : k < n3
        case pos =>
          have hltz3 : (k : Int) < (n3 : Int) := by omega
          obtain ⟨b2, o2, rfl, hb2, hc2⟩ := H2.out (by omega)
          have HN2 : Hid (∀ i, i < n3 → Wo.cell? ⟨b2, o2 + i, none⟩ = some (.string (N i))) := fun i hi => (HB.out.cell (p := ⟨b2, o2 + i, none⟩) hb2).trans (hc2 i hi)
          clear hc2
          have cF : Wk.cell? ⟨w.heap.size + 1, k, none⟩ = some (.int .i64 (FY k)) := by
            rw [B3.out.cell (p := ⟨w.heap.size + 1, k, none⟩) (by show w.heap.size + 1 < _; omega), HR.out.cell hlt]; simp [flf, hlt]
          have HE : Hid ((List.range (k + 1)).foldl (addM y FY N) [] = addM y FY N M k) := by rw [List.range_succ, List.foldl_append, ← E3.out]; rfl
          by_cases hy : FY k = y
          case neg =>
            go_wp2
            go_roundg (n3 - (k + 1))
            case measure => omega
            case rel =>
              refine ⟨k + 1, M, by omega, by omega, by go_num, by omega, B3.out, O3.out, (show Hid _ from ?_)⟩
              have : M = (List.range (k + 1)).foldl (addM y FY N) [] := by rw [HE.out]; simp [addM, hy]
              exact this
          case pos =>
            obtain ⟨ad, cap, rfl, hform⟩ := O3.out.form
            have HM : Hid (0 < M.length → ∃ g, ad = some ⟨g, 0, none⟩ ∧ Wo.heap.size ≤ g ∧ g < Wk.heap.size ∧ ∀ j, j < M.length → Wk.cell? ⟨g, j, none⟩ = some (.int .i64 (M[j]! : Nat))) := hform
            clear hform
            have HML : Hid (∀ m ∈ M, m < n3) := fun m hm => by have := addM_lt y FY N k m (by rw [← E3.out]; exact hm); omega
            generalize hll : M.length = ml at *
            have HLL : Hid (M.length = ml) := hll
            clear hll
            go_wp2
            clear cF
            go_loopg [23, 24] ml (fun gg s23 s24 wr => ∃ m : Nat, m ≤ ml ∧ ml - m ≤ gg ∧ s24 = .int .i64 m ∧ s23 = .bool false ∧ Hid (Below Wk.heap.size Wk wr) ∧ Hid (∀ j, j < m → ((N M[j]!).toList == (N k).toList) = false))
            case atStart => exact ⟨0, Nat.zero_le _, by omega, rfl, rfl, Below.refl _ _, fun j hj => absurd hj (Nat.not_lt_zero _)⟩
            case round =>
              obtain ⟨m, hm, hg2, rfl, rfl, B4, A4⟩ := hrel
              by_cases hlt4 : m < ml
              case pos =>
                have hltz4 : (m : Int) < (ml : Int) := by omega
                obtain ⟨g, rfl, hgb, hgl, hcm⟩ := HM.out (by omega)
                have cM : wr.cell? ⟨g, m, none⟩ = some (.int .i64 (M[m]! : Nat)) := (B4.out.cell (p := ⟨g, m, none⟩) hgl).trans (hcm m hlt4)
                have hmn : M[m]! < n3 := HML.out _ (by rw [getElem!_pos M m (by rw [HLL.out]; exact hlt4)]; exact List.getElem_mem _)
                clear hcm
                have hbo : b2 < Wo.heap.size := by omega
                have hbk' : b2 < Wk.heap.size := by have := B3.out.size; omega
                have cA : wr.cell? ⟨b2, o2 + M[m]!, none⟩ = some (.string (N M[m]!)) := ((B4.out.cell (p := ⟨b2, o2 + M[m]!, none⟩) hbk').trans (B3.out.cell (p := ⟨b2, o2 + M[m]!, none⟩) hbo)).trans (HN2.out _ hmn)
                have cB : wr.cell? ⟨b2, o2 + k, none⟩ = some (.string (N k)) := ((B4.out.cell (p := ⟨b2, o2 + k, none⟩) hbk').trans (B3.out.cell (p := ⟨b2, o2 + k, none⟩) hbo)).trans (HN2.out _ hlt)
                generalize hmm : M[m]! = mm at cM cA hmn
                have HMM : Hid (M[m]! = mm) := hmm
                clear hmm
                have hmz : (mm : Int) < (n3 : Int) := by omega
                cases hd : ((N mm).toList == (N k).toList) with
                | true =>
                  go_wp2
                  go_region
                  go_wp2
                  go_roundg (n3 - (k + 1))
                  case measure => omega
                  case rel =>
                    refine ⟨k + 1, M, by omega, by omega, by go_num, by have := HLL.out; omega, (show Hid _ from ?_), (show Hid _ from ?_), (show Hid _ from ?_)⟩
                    · exact B3.out.trans ((B4.out.drew).mono B3.out.size)
                    · have h1 := ownsRow_below O3.out B4.out.drew (fun k hk => (World.ownsRow.lt O3.out k hk).2)
                      exact h1
                    · have hdup : dup N M k = true := by
                        unfold dup
                        rw [List.any_eq_true]
                        exact ⟨mm, by rw [← HMM.out, getElem!_pos M m (by rw [HLL.out]; exact hlt4)]; exact List.getElem_mem _, hd⟩
                      have : M = (List.range (k + 1)).foldl (addM y FY N) [] := by rw [HE.out]; simp [addM, hy, hdup]
                      exact this
                | false =>
                  go_wp2
                  go_region
                  go_wp2
                  go_roundg (ml - (m + 1))
                  case measure => omega
                  case rel =>
                    refine ⟨m + 1, by omega, by omega, by go_num, rfl, B4.out.drew, (show Hid _ from fun j hj => ?_)⟩
                    by_cases e : j = m
                    · subst e; rw [HMM.out]; exact hd
                    · exact A4.out j (by omega)
              case neg =>
                have hltz4 : ¬ (m : Int) < (ml : Int) := by omega
                obtain rfl : ml = m := by omega
                have hdup : dup N M k = false := by
                  unfold dup
                  rw [List.any_eq_false]
                  intro x hx
                  obtain ⟨j, hj, rfl⟩ := List.getElem_of_mem hx
                  have := A4.out j (by rw [← HLL.out]; exact hj)
                  rw [getElem!_pos M j hj] at this
                  simp [this]
                go_wp2_with (at_builtin; refine app29 _ rfl _ _ rfl Wo.heap.size _ M k wr.heap.size rfl rfl ?e1 ?e2 ?e3 ?e4 ?e5)
                case e1 => exact World.ownsRow.alloc (ownsRow_below O3.out B4.out (fun k hk => (World.ownsRow.lt O3.out k hk).2)) _
                case e2 => exact (Array.getElem?_eq_some_iff.1 (heap_alloc_new wr _)).2
                case e3 => have := HLL.out; omega
                case e4 => have := B3.out.size; have := B4.out.size; omega
                intro g3 cap3 w3 ho3 hg3
                have HO3' : Hid (OwnI w3 Wo.heap.size (.slice (some ⟨g3, 0, none⟩) (M.length + 1) cap3) (M ++ [k])) := ho3
                have HB3' : Hid (Below Wo.heap.size Wo w3) := Below.grown ((B3.out.trans (B4.out.mono B3.out.size)).alloc (by have := B3.out.size; have := B4.out.size; omega) _) hg3 (by rw [World.size_alloc]; have := B3.out.size; have := B4.out.size; omega) (fun k hk => (World.ownsRow.lt O3.out k hk).1)
                clear ho3 hg3
                go_wp2
                go_roundg (n3 - (k + 1))
                case measure => omega
                case rel =>
                  refine ⟨k + 1, M ++ [k], by omega, by omega, by go_num, by have := HLL.out; simp; omega, HB3'.out, HO3'.out, (show Hid _ from ?_)⟩
                  have : M ++ [k] = (List.range (k + 1)).foldl (addM y FY N) [] := by rw [HE.out]; simp [addM, hy, hdup]
                  exact this
        case neg =>
          have hltz3 : ¬ (k : Int) < (n3 : Int) := by omega
          obtain rfl : n3 = k := by omega
          have HMI : Hid (T.foldl (addT y) [] = M.map (IND N U)) := by have h := HF.out; rw [plain, ← E3.out] at h; exact h
          have HML : Hid (∀ m ∈ M, m < n3) := fun m hm => addM_lt y FY N n3 m (by rw [← E3.out]; exact hm)
          obtain ⟨ad, cap, rfl, hform⟩ := O3.out.form
          have HM : Hid (0 < M.length → ∃ g, ad = some ⟨g, 0, none⟩ ∧ Wo.heap.size ≤ g ∧ g < Wk.heap.size ∧ ∀ j, j < M.length → Wk.cell? ⟨g, j, none⟩ = some (.int .i64 (M[j]! : Nat))) := hform
          clear hform
          have hTW : OwnT Wk (w.heap.size + 2) tv T := OwnT.move HT.out (fun b _ h2 => B3.out.block b h2)
          have hpW : Wk.cell? ⟨w.heap.size, 4, none⟩ = some tv := by
            obtain ⟨pf, hpf, hp4⟩ := HP.out
            rw [B3.out.cell (p := ⟨w.heap.size, 4, none⟩) (by show w.heap.size < _; omega), hpf.cell (by omega), hp4]
          have HTW : Hid (OwnT Wk (w.heap.size + 2) tv T) := hTW
          have HPW : Hid (Wk.cell? ⟨w.heap.size, 4, none⟩ = some tv) := hpW
          have HBk : Hid (Below w.heap.size w Wk) := HB.out.trans (B3.out.mono (by omega))
          have hwk : w.heap.size + 2 ≤ Wk.heap.size := by have := B3.out.size; omega
          clear hTW hpW HP HT HR HF O3 E3 B3
          go_wp2_with fail
          refine (indicators13 w.heap.size y (w.heap.size + 2) tv T Wk HPW.out HTW.out (by omega)).mono ?_
          rintro e w5 ⟨v5, rfl, hO5, hB5⟩
          rw [HMI.out] at hO5
          obtain ⟨ad5, cap5, rfl, hf5⟩ := hO5.form
          have HO5 : Hid (0 < M.length → ∃ g, ad5 = some ⟨g, 0, none⟩ ∧ Wk.heap.size ≤ g ∧ g < w5.heap.size ∧ ∀ j, j < M.length → w5.rangeAt g (j * 6) (enc (IND N U M[j]!))) := fun h => by
            obtain ⟨g, h1, h2, h3, h4⟩ := hf5 (by simpa using h)
            refine ⟨g, h1, h2, h3, fun j hj => ?_⟩
            have h5 := h4 j (by simpa using hj)
            rwa [getElem!_pos _ j (by simpa using hj), List.getElem_map, ← getElem!_pos M j hj] at h5
          have HB5 : Hid (Below Wk.heap.size Wk w5) := hB5
          clear hO5 hf5 hB5 HTW HPW
          rw [List.length_map]
          generalize hll : M.length = ml at *
          have HLL : Hid (M.length = ml) := hll
          clear hll
          go_wp2
          go_loopg [26] ml (fun gg s26 wr => ∃ i : Nat, i ≤ ml ∧ ml - i ≤ gg ∧ s26 = .int .i64 i ∧ Hid (Below w5.heap.size w5 wr))
          case atStart => exact ⟨0, Nat.zero_le _, by omega, rfl, Below.refl _ _⟩
          case round =>
            obtain ⟨i, hi, hg5, rfl, B6⟩ := hrel
            by_cases hlt5 : i < ml
            case pos =>
              have hltz5 : (i : Int) < (ml : Int) := by omega
              obtain ⟨gm, rfl, _, hgm, hcm⟩ := HM.out (by omega)
              obtain ⟨g5, rfl, _, hg5l, hc5⟩ := HO5.out (by omega)
              have hmn : M[i]! < n3 := HML.out _ (by rw [getElem!_pos M i (by rw [HLL.out]; exact hlt5)]; exact List.getElem_mem _)
              have s5 : Wk.heap.size ≤ w5.heap.size := HB5.out.size
              have cM : wr.cell? ⟨gm, i, none⟩ = some (.int .i64 (M[i]! : Nat)) := ((B6.out.cell (p := ⟨gm, i, none⟩) (by show gm < _; omega)).trans (HB5.out.cell (p := ⟨gm, i, none⟩) hgm)).trans (hcm i hlt5)
              obtain ⟨c0', c1', _, _, c4', _⟩ := six (w := wr) (fun ii u hu => (B6.out.cell (p := ⟨g5, i * 6 + ii, none⟩) hg5l).trans (hc5 i hlt5 ii u hu))
              clear hcm hc5
              generalize M[i]! = mm at cM c0' c1' c4' hmn
              obtain ⟨b2, o2, rfl, hb2, hc2⟩ := H2.out (by omega)
              obtain ⟨b3, o3, rfl, hb3, hc3⟩ := H3.out (by omega)
              have cN : wr.cell? ⟨b2, o2 + mm, none⟩ = some (.string (N mm)) := ((B6.out.cell (p := ⟨b2, o2 + mm, none⟩) (by show b2 < _; omega)).trans (HB5.out.cell (p := ⟨b2, o2 + mm, none⟩) (by show b2 < _; omega))).trans ((HBk.out.cell (p := ⟨b2, o2 + mm, none⟩) hb2).trans (hc2 mm hmn))
              have cU : wr.cell? ⟨b3, o3 + mm, none⟩ = some (.string (U mm)) := ((B6.out.cell (p := ⟨b3, o3 + mm, none⟩) (by show b3 < _; omega)).trans (HB5.out.cell (p := ⟨b3, o3 + mm, none⟩) (by show b3 < _; omega))).trans ((HBk.out.cell (p := ⟨b3, o3 + mm, none⟩) hb3).trans (hc3 mm hmn))
              clear hc2 hc3
              have c0 : wr.cell? ⟨g5, i * 6, none⟩ = some (.string (N mm)) := c0'
              have c1 : wr.cell? ⟨g5, i * 6 + 1, none⟩ = some (.string (U mm)) := c1'
              have c4 : wr.cell? ⟨g5, i * 6 + 4, none⟩ = some (.string (⟨#[112]⟩ ++ ita mm)) := c4'
              clear c0' c1' c4'
              have hmz : (mm : Int) < (n3 : Int) := by omega
              have hits : ¬ 9223372036854775807 < 1 + (ita mm).size := by have := ita_size mm (by omega); omega
              go_wp2
              go_region_held3 (fun w' => w'.cell? ⟨g5, i * 6, none⟩ = some (.string (N mm)) ∧ w'.cell? ⟨g5, i * 6 + 1, none⟩ = some (.string (U mm)) ∧ w'.cell? ⟨g5, i * 6 + 4, none⟩ = some (.string (⟨#[112]⟩ ++ ita mm)) ∧ w'.cell? ⟨b2, o2 + mm, none⟩ = some (.string (N mm)) ∧ w'.cell? ⟨b3, o3 + mm, none⟩ = some (.string (U mm))) (first | exact ⟨c0, c1, c4, cN, cU⟩ | exact ⟨cell_later hb6 c0, cell_later hb6 c1, cell_later hb6 c4, cell_later hb6 cN, cell_later hb6 cU⟩) ((go_at_call 12; refine (itoa12 mm _ (by omega)).mono ?_; rintro e w6 ⟨rfl, hb6'⟩; have hb6 : Below wr.heap.size wr w6 := Below.trans' wr hb6'; clear hb6'))
              have HB6 : Hid (Below wr.heap.size wr w6) := hb6
              go_wp2
              go_roundg (ml - (i + 1))
              case measure => omega
              case rel => exact ⟨i + 1, by omega, by omega, by go_num, B6.out.trans (HB6.out.mono B6.out.size)⟩
            case neg =>
              have hltz5 : ¬ (i : Int) < (ml : Int) := by omega
              obtain rfl : ml = i := by omega
              have hmk := mk44 n5 (by omega)
              have HBr : Hid (Below w.heap.size w wr) := (HBk.out.trans (HB5.out.mono (by omega))).trans (B6.out.mono (by have := HB5.out.size; omega))
              have hwr : w.heap.size ≤ wr.heap.size := HBr.out.size
              clear HM HO5 HML HMI HB5 B6 HBk
              obtain ⟨Wl, hWl⟩ : ∃ Wl, Wl = wr := ⟨_, rfl⟩
              subst hWl
              go_wp2
              clear hmk
              go_loopg [28, 29] n5 (fun gg s28 s29 wr => ∃ (i : Nat) (L : List Ind), i ≤ n5 ∧ n5 - i ≤ gg ∧ s29 = .int .i64 i ∧ L.length = i ∧ Hid (L = (List.range i).map (FI F)) ∧ Hid (Below Wl.heap.size Wl wr) ∧ Hid (Own wr Wl.heap.size s28 L))
              case atStart => exact ⟨0, [], Nat.zero_le _, by omega, rfl, rfl, (show Hid _ from rfl), bel1 _ _, World.ownsRow_made Wl _ n5 (Nat.le_refl _) (by unfold maxLen; omega) (size_madeCells _ _)⟩
              case round =>
                obtain ⟨i, L, hi, hg6, rfl, hLl, HL, B7, O7⟩ := hrel
                have hl7 : Wl.heap.size ≤ wr.heap.size := B7.out.size
                by_cases hlt6 : i < n5
                case pos =>
                  have hltz6 : (i : Int) < (n5 : Int) := by omega
                  obtain ⟨b5, o5, rfl, hb5, hc5⟩ := H5.out (by omega)
                  have cF : wr.cell? ⟨b5, o5 + i, none⟩ = some (.string (F i)) := (B7.out.cell (p := ⟨b5, o5 + i, none⟩) (by show b5 < _; omega)).trans ((HBr.out.cell (p := ⟨b5, o5 + i, none⟩) hb5).trans (hc5 i hlt6))
                  clear hc5
                  have hits : ¬ 9223372036854775807 < 1 + (ita i).size := by have := ita_size i (by omega); omega
                  go_wp2
                  refine Until.start (z := 11) (S := fun w' => w'.cell? ⟨b5, o5 + i, none⟩ = some (.string (F i)) ∧ True) (by kernel_rfl) ?_
                  have hS0 : wr.drew.cell? ⟨b5, o5 + i, none⟩ = some (.string (F i)) ∧ True := ⟨cF, trivial⟩
                  refine Until.take (i := 0) (v := ?_) rfl (by kernel_rfl) (by kernel_rfl) (by kernel_rfl) (by kernel_rfl) (fun _ _ _ h => h) rfl hS0 (fun w' hS' => ?_) ?_
                  rotate_left
                  · obtain ⟨q1, q2⟩ := hS'; go_simp <;> with_reducible rfl
                  simp only [Act.put, List.getElem_toArray, List.getElem_cons_zero, List.setIfInBounds_toArray, List.set_cons_zero, List.set_cons_succ]
                  refine Until.take (i := 1) (v := ?_) rfl (by kernel_rfl) (by kernel_rfl) (by kernel_rfl) (by kernel_rfl) (fun _ _ _ h => h) rfl hS0 (fun w' hS' => ?_) ?_
                  rotate_left
                  · obtain ⟨q1, q2⟩ := hS'; go_simp <;> with_reducible rfl
                  simp only [Act.put, List.getElem_toArray, List.getElem_cons_succ, List.getElem_cons_zero, List.setIfInBounds_toArray, List.set_cons_zero, List.set_cons_succ]
                  refine Until.take (i := 2) (v := ?_) rfl (by kernel_rfl) (by kernel_rfl) (by kernel_rfl) (by kernel_rfl) (fun _ _ _ h => h) rfl hS0 (fun w' hS' => ?_) ?_
                  rotate_left
                  · obtain ⟨q1, q2⟩ := hS'; go_simp <;> with_reducible rfl
                  simp only [Act.put, List.getElem_toArray, List.getElem_cons_succ, List.getElem_cons_zero, List.setIfInBounds_toArray, List.set_cons_zero, List.set_cons_succ]
                  refine Until.take (i := 3) (v := ?_) rfl (by kernel_rfl) (by kernel_rfl) (by kernel_rfl) (by kernel_rfl) (fun _ _ _ h => h) rfl hS0 (fun w' hS' => ?_) ?_
                  rotate_left
                  · obtain ⟨q1, q2⟩ := hS'; go_simp <;> with_reducible rfl
                  simp only [Act.put, List.getElem_toArray, List.getElem_cons_succ, List.getElem_cons_zero, List.setIfInBounds_toArray, List.set_cons_zero, List.set_cons_succ]
                  refine Until.take (i := 4) (v := ?_) rfl (by kernel_rfl) (by kernel_rfl) (by kernel_rfl) (by kernel_rfl) (fun _ _ _ h => h) rfl hS0 (fun w' hS' => ?_) ?_
                  rotate_left
                  · obtain ⟨q1, q2⟩ := hS'; go_simp <;> with_reducible rfl
                  simp only [Act.put, List.getElem_toArray, List.getElem_cons_succ, List.getElem_cons_zero, List.setIfInBounds_toArray, List.set_cons_zero, List.set_cons_succ]
                  refine Until.take (i := 5) (v := ?_) rfl (by kernel_rfl) (by kernel_rfl) (by kernel_rfl) (by kernel_rfl) (fun _ _ _ h => h) rfl hS0 (fun w' hS' => ?_) ?_
                  rotate_left
                  · obtain ⟨q1, q2⟩ := hS'; go_simp <;> with_reducible rfl
                  simp only [Act.put, List.getElem_toArray, List.getElem_cons_succ, List.getElem_cons_zero, List.setIfInBounds_toArray, List.set_cons_zero, List.set_cons_succ]
                  refine Until.one (i := 6) (by kernel_rfl) rfl rfl (fun K hK => ?_)
                  go_simp
                  refine (itoa12 i _ (by omega)).mono ?_
                  rintro e w1 ⟨rfl, hb1'⟩
                  have hb1 : Below wr.heap.size wr w1 := Below.trans' wr hb1'
                  have HB1 : Hid (Below wr.heap.size wr w1) := hb1
                  have hS1 : w1.cell? ⟨b5, o5 + i, none⟩ = some (.string (F i)) ∧ True := ⟨cell_later hb1 cF, trivial⟩
                  clear hb1' hS0
                  refine hK _ _ (fun _ => hS1) ?_
                  clear hK K
                  refine Until.take (i := 7) (v := ?_) rfl (by kernel_rfl) (by kernel_rfl) (by kernel_rfl) (by kernel_rfl) (fun _ _ _ h => h) rfl hS1 (fun w' hS' => ?_) ?_
                  rotate_left
                  · obtain ⟨q1, q2⟩ := hS'; go_simp <;> with_reducible rfl
                  simp only [Act.put, List.getElem_toArray, List.getElem_cons_succ, List.getElem_cons_zero, List.setIfInBounds_toArray, List.set_cons_zero, List.set_cons_succ]
                  refine Until.one (i := 8) (by kernel_rfl) rfl rfl (fun K hK => ?_)
                  go_simp
                  refine (ind11' _ _ _ _).mono ?_
                  rintro e w2 ⟨rfl, rfl⟩
                  have hS2 : ∀ o, (w1.alloc o).cell? ⟨b5, o5 + i, none⟩ = some (.string (F i)) ∧ True := fun o => ⟨cell_later (bel1 w1 o) hS1.1, trivial⟩
                  refine hK _ _ (fun _ => hS2 _) ?_
                  clear hK K
                  refine Until.one (i := 9) (by kernel_rfl) rfl rfl (fun K hK => ?_)
                  go_simp
                  have hS3 : ∀ o oo, ((w1.alloc o).alloc oo).cell? ⟨b5, o5 + i, none⟩ = some (.string (F i)) ∧ True := fun o oo => ⟨cell_later (bel1 _ oo) (hS2 o).1, trivial⟩
                  refine hK _ _ (fun _ => hS3 _ _) ?_
                  clear hK K
                  refine Until.one (i := 10) (by kernel_rfl) rfl rfl (fun K hK => ?_)
                  have hb1s : wr.heap.size ≤ w1.heap.size := HB1.out.size
                  refine wp44 _ (.tmp 212) (.tmp 221) rfl Wl.heap.size _ L (FI F i) (w1.heap.size + 1) rfl rfl ?f1 ?f2 ?f3 ?f4 ?f5
                  case f1 => exact World.ownsRow.alloc (World.ownsRow.alloc (own_move O7.out (fun k _ hk => HB1.out.block k hk)) _) _
                  case f2 => exact new2 _ _ _
                  case f3 => omega
                  case f4 => rw [World.size_alloc, World.size_alloc]; omega
                  intro g cap w3 ho3 hg3 ha3 hl3
                  have HO3 : Hid (Own w3 Wl.heap.size (.slice (some ⟨g, 0, none⟩) (L.length + 1) cap) (L ++ [FI F i])) := ho3
                  have HB3 : Hid (Below Wl.heap.size Wl w3) := Below.grown (((B7.out.trans (HB1.out.mono hl7)).alloc (by omega) _).alloc (by rw [World.size_alloc]; omega) _) hg3 (by rw [World.size_alloc, World.size_alloc]; omega) (fun k hk => (World.ownsRow.lt O7.out k hk).1)
                  have hS4 : w3.cell? ⟨b5, o5 + i, none⟩ = some (.string (F i)) ∧ True := ⟨(HB3.out.cell (p := ⟨b5, o5 + i, none⟩) (by show b5 < _; omega)).trans (((B7.out.cell (p := ⟨b5, o5 + i, none⟩) (by show b5 < _; omega)).symm).trans cF), trivial⟩
                  refine hK _ _ (fun _ => hS4) ?_
                  clear hK K hS1 hS2 hS3 ho3 hg3 ha3 hl3 hb1
                  simp only [Act.put, List.getElem_toArray, List.getElem_cons_succ, List.getElem_cons_zero, List.setIfInBounds_toArray, List.set_cons_zero, List.set_cons_succ]
                  refine Until.one (i := 11) (by kernel_rfl) rfl rfl (fun K hK => ?_)
                  go_simp
                  refine hK _ _ (fun _ => hS4) ?_
                  clear hK K
                  refine Until.done (by kernel_rfl) ?_ _
                  clear hS4 cF
                  go_wp2
                  go_roundg (n5 - (i + 1))
                  case measure => omega
                  case rel =>
                    refine ⟨i + 1, L ++ [FI F i], by omega, by omega, by go_num, by simp [hLl], (show Hid _ from ?_), HB3.out, (show Hid _ from ?_)⟩
                    · have : L ++ [FI F i] = (List.range (i + 1)).map (FI F) := by rw [List.range_succ, List.map_append, ← HL.out]; rfl
                      exact this
                    · have h := HO3.out
                      rw [hLl] at h
                      exact h
                case neg =>
                  have hltz6 : ¬ (i : Int) < (n5 : Int) := by omega
                  obtain rfl : n5 = i := by omega
                  obtain ⟨Wm, hWm⟩ : ∃ Wm, Wm = wr := ⟨_, rfl⟩
                  subst hWm
                  have HBm : Hid (Below w.heap.size w Wm) := HBr.out.trans (B7.out.mono hwr)
                  have hLn : ∀ j, j < n5 → L[j]! = FI F j := fun j hj => by rw [HL.out, getElem!_pos _ j (by simpa using hj)]; simp
                  have HLn : Hid (∀ j, j < n5 → L[j]! = FI F j) := hLn
                  clear hLn B7 HBr
                  generalize hsv : (u28 : Value) = sv at *
                  clear hsv
                  go_wp2
                  go_loopg [30, 31] n5 (fun gg s30 s31 wr => Wm = wr ∧ ∃ i : Nat, i ≤ n5 ∧ n5 - i ≤ gg ∧ s31 = .int .i64 i ∧ s30 = .int .i64 (-1) ∧ Hid (∀ j, j < i → ((F j).toList == q.toList) = false))
                  case atStart => exact ⟨rfl, 0, Nat.zero_le _, by omega, rfl, rfl, fun j hj => absurd hj (Nat.not_lt_zero _)⟩
                  case round =>
                    obtain ⟨rfl, i, hi, hg7, rfl, rfl, A7⟩ := hrel
                    by_cases hlt7 : i < n5
                    case pos =>
                      have hltz7 : (i : Int) < (n5 : Int) := by omega
                      obtain ⟨b5, o5, rfl, hb5, hc5⟩ := H5.out (by omega)
                      have cF : Wm.cell? ⟨b5, o5 + i, none⟩ = some (.string (F i)) := (HBm.out.cell (p := ⟨b5, o5 + i, none⟩) hb5).trans (hc5 i hlt7)
                      clear hc5
                      cases hd : ((F i).toList == q.toList) with
                      | true =>
                        have HFD : Hid (fnd q L = some (FI F i)) := by
                          have h := fnd_first q L i (by omega) (by rw [HLn.out i hlt7]; exact hd) (fun j hj => by rw [HLn.out j (by omega)]; exact A7.out j hj)
                          rw [HLn.out i hlt7] at h
                          exact h
                        go_wp2_with fail
                        refine (find14' _ L q Wl.heap.size Wm O7.out (by omega)).mono ?_
                        rintro e w8 ⟨⟨f, rfl, HFF⟩, hb8⟩
                        obtain rfl : f = FI F i := by rw [HFF.out, HFD.out]; rfl
                        have hsm : (fnd q L).isSome = true := by rw [HFD.out]; rfl
                        rw [hsm]
                        have HB8 : Hid (Below w.heap.size w w8) := HBm.out.trans (hb8.mono HBm.out.size)
                        clear hb8 HFF cF
                        rw [show (FI F i).nm = F i from rfl, show (FI F i).un = ⟨#[117]⟩ from rfl, show (FI F i).tg = ⟨#[102]⟩ ++ ita i from rfl]
                        have hits : ¬ 9223372036854775807 < 1 + (ita i).size := by have := ita_size i (by omega); omega
                        have hz0 : ¬ (i : Int) < 0 := by omega
                        go_wp2
                        have d0 : (w8.alloc (.cells #[.string (F i), .string ⟨#[117]⟩, .pointer none, .pointer none, .string (⟨#[102]⟩ ++ ita i), .pointer none] 51)).cell? ⟨w8.heap.size, 0, none⟩ = some (.string (F i)) := by simp
                        have d1 : (w8.alloc (.cells #[.string (F i), .string ⟨#[117]⟩, .pointer none, .pointer none, .string (⟨#[102]⟩ ++ ita i), .pointer none] 51)).cell? ⟨w8.heap.size, 1, none⟩ = some (.string ⟨#[117]⟩) := by simp
                        have d4 : (w8.alloc (.cells #[.string (F i), .string ⟨#[117]⟩, .pointer none, .pointer none, .string (⟨#[102]⟩ ++ ita i), .pointer none] 51)).cell? ⟨w8.heap.size, 4, none⟩ = some (.string (⟨#[102]⟩ ++ ita i)) := by simp
                        have hB9 : Below w.heap.size w (w8.alloc (.cells #[.string (F i), .string ⟨#[117]⟩, .pointer none, .pointer none, .string (⟨#[102]⟩ ++ ita i), .pointer none] 51)) := HB8.out.alloc HB8.out.size _
                        generalize w8.alloc (.cells #[.string (F i), .string ⟨#[117]⟩, .pointer none, .pointer none, .string (⟨#[102]⟩ ++ ita i), .pointer none] 51) = W9 at d0 d1 d4 hB9 ⊢
                        have HB9 : Hid (Below w.heap.size w W9) := hB9
                        clear hB9
                        go_region_held3 (fun w' => w'.cell? ⟨w8.heap.size, 0, none⟩ = some (.string (F i)) ∧ w'.cell? ⟨w8.heap.size, 1, none⟩ = some (.string ⟨#[117]⟩) ∧ w'.cell? ⟨w8.heap.size, 4, none⟩ = some (.string (⟨#[102]⟩ ++ ita i))) (first | exact ⟨d0, d1, d4⟩ | exact ⟨cell_later hb9 d0, cell_later hb9 d1, cell_later hb9 d4⟩) ((go_at_call 12; refine (itoa12 i _ (by omega)).mono ?_; rintro e w10 ⟨rfl, hb9'⟩; have hb9 : Below W9.heap.size W9 w10 := Below.trans' W9 hb9'; clear hb9'))
                        have HB10 : Hid (Below W9.heap.size W9 w10) := hb9
                        clear hb9
                        go_wp2
                        go_ret
                        exact ⟨rfl, HB9.out.trans (HB10.out.mono HB9.out.size)⟩
                      | false =>
                        go_wp2
                        go_roundg (n5 - (i + 1))
                        case measure => omega
                        case rel =>
                          refine ⟨rfl, i + 1, by omega, by omega, by go_num, rfl, (show Hid _ from fun j hj => ?_)⟩
                          by_cases e : j = i
                          · subst e; exact hd
                          · exact A7.out j (by omega)
                    case neg =>
                      have hltz7 : ¬ (i : Int) < (n5 : Int) := by omega
                      obtain rfl : n5 = i := by omega
                      have HFD : Hid (fnd q L = none) := fnd_none q L (fun j hj => by rw [HLn.out j (by omega)]; exact A7.out j (by omega))
                      go_wp2_with fail
                      refine (find14' _ L q Wl.heap.size Wm O7.out (by omega)).mono ?_
                      rintro e w8 ⟨⟨f, rfl, HFF⟩, hb8⟩
                      obtain rfl : f = default := by rw [HFF.out, HFD.out]; rfl
                      have hsm : (fnd q L).isSome = false := by rw [HFD.out]; rfl
                      rw [hsm]
                      have HB8 : Hid (Below w.heap.size w w8) := HBm.out.trans (hb8.mono HBm.out.size)
                      clear hb8 HFF
                      have e1 : (default : Ind).nm = ⟨#[]⟩ := rfl
                      have e2 : (default : Ind).un = ⟨#[]⟩ := rfl
                      have e3 : (default : Ind).tg = ⟨#[]⟩ := rfl
                      rw [e1, e2, e3]
                      clear e1 e2 e3
                      go_wp2
                      go_ret
                      exact ⟨rfl, HB8.out.alloc (by have := HB8.out.size; omega) _⟩
end Go.Proofs.Qxb6003328a
