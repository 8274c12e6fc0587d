/-
  DERIVED. THE WALKS of zzc2Ind, FindIndicator's closure, slices.IndexFunc at this dump, FindIndicator.
-/
import Derived.Test.Qxb6003328aRows
import Derived.WalkKit
import Derived.WalkSpells
import Derived.WalkLawsBesides
import Derived.Deep.LoopGhost
import Derived.Deep.MidRow
import Derived.Deep.OwnRows
import Derived.Deep.AppendLies
import Derived.Lib.Walk
namespace Go.Proofs.Qxb6003328a
open Go.RowKit

/-- An indicator as the law builds it: name, unit, tag. -/
structure Ind where
  nm : ByteArray
  un : ByteArray
  tg : ByteArray
instance : Inhabited Ind := ⟨⟨ByteArray.empty, ByteArray.empty, ByteArray.empty⟩⟩
/-- Its six cells. -/
def enc (x : Ind) : List Value := [.string x.nm, .string x.un, .pointer none, .pointer none, .string x.tg, .pointer none]
theorem enc_length (x : Ind) : (enc x).length = 6 := rfl
theorem info51 : (Try.prog.info? 51).map (·.size) = some 6 := by kernel_rfl
/-- The cells of many. -/
def cellsOf (zs : List Ind) : List Value := zs.flatMap enc
theorem cellsOf_length (zs : List Ind) : (cellsOf zs).length = zs.length * 6 := by
  induction zs with
  | nil => rfl
  | cons x xs ih => simp only [cellsOf, List.flatMap_cons, List.length_append, List.length_cons] at ih ⊢; rw [ih, enc_length]; omega
theorem cellsOf_at : ∀ (zs : List Ind) (j i : Nat), j < zs.length → i < 6 → (cellsOf zs)[j * 6 + i]? = (enc zs[j]!)[i]?
  | [], j, i, h, _ => by simp at h
  | x :: xs, 0, i, _, hi => by
    have : cellsOf (x :: xs) = enc x ++ cellsOf xs := rfl
    rw [this, Nat.zero_mul, Nat.zero_add, List.getElem?_append_left (by rw [enc_length]; exact hi)]; rfl
  | x :: xs, j + 1, i, h, hi => by
    have : cellsOf (x :: xs) = enc x ++ cellsOf xs := rfl
    have e : (j + 1) * 6 + i - 6 = j * 6 + i := by omega
    rw [this, List.getElem?_append_right (by rw [enc_length]; omega), enc_length, e, cellsOf_at xs j i (by simpa using h) hi]; simp
/-- The value v is a slice of the indicators zs, in a row of its own. -/
def Own (w : World) (base : Nat) (v : Value) (zs : List Ind) : Prop := w.ownsRow base 51 6 v zs.length (cellsOf zs)

theorem Own.form {w : World} {base : Nat} {v : Value} {zs : List Ind} (h : Own w base v zs) :
    ∃ ad cap, v = .slice ad zs.length cap ∧ (0 < zs.length → ∃ g, ad = some ⟨g, 0, none⟩ ∧ base ≤ g ∧ g < w.heap.size ∧ ∀ j, j < zs.length → w.rangeAt g (j * 6) (enc zs[j]!)) := by
  rcases Nat.eq_zero_or_pos zs.length with h0 | hp
  · rcases h.2 with ⟨hv, hn⟩ | ⟨g, cap, cur, hv, _⟩
    · exact ⟨_, 0, by rw [hv, hn], fun h => by omega⟩
    · exact ⟨_, cap, hv, fun h => by omega⟩
  · obtain ⟨g, cap, rfl, hb, hg⟩ := World.ownsRow.form h hp
    refine ⟨_, cap, rfl, fun _ => ⟨g, rfl, hb, hg, fun j hj i u hu => ?_⟩⟩
    have hi : i < 6 := by
      rcases Nat.lt_or_ge i 6 with h | h
      · exact h
      · rw [List.getElem?_eq_none (by rw [enc_length]; exact h)] at hu; cases hu
    have := World.ownsRow.cells h (g := g) rfl (j * 6 + i) u (by rw [cellsOf_at zs j i hj hi]; exact hu)
    rwa [Addr.add_mid, Nat.zero_add] at this

/-- The six cells, one by one. -/
theorem six {w : World} {g o : Nat} {x : Ind} (h : w.rangeAt g o (enc x)) : w.cell? ⟨g, o, none⟩ = some (.string x.nm) ∧ w.cell? ⟨g, o + 1, none⟩ = some (.string x.un) ∧ w.cell? ⟨g, o + 2, none⟩ = some (.pointer none) ∧ w.cell? ⟨g, o + 3, none⟩ = some (.pointer none) ∧ w.cell? ⟨g, o + 4, none⟩ = some (.string x.tg) ∧ w.cell? ⟨g, o + 5, none⟩ = some (.pointer none) :=
  ⟨h 0 _ rfl, h 1 _ rfl, h 2 _ rfl, h 3 _ rfl, h 4 _ rfl, h 5 _ rfl⟩

theorem ownsRow_below {w w' : World} {base B n size : Nat} {e : TypeId} {v : Value} {xs : List Value} (h : w.ownsRow base e size v n xs) (hb : Below B w w') (hB : ∀ k, v.ownBlock = some k → k < B) : w'.ownsRow base e size v n xs := by
  refine ⟨h.1, ?_⟩
  rcases h.2 with h | ⟨g, cap, cur, hv, h1, h2, h3⟩
  · exact .inl h
  · exact .inr ⟨g, cap, cur, hv, h1, (hb.block g (hB g (by rw [hv]; rfl))).trans h2, h3⟩

theorem bel1 (w : World) (o : Obj) : Below w.heap.size w (w.alloc o) := (Below.refl _ _).alloc (Nat.le_refl _) o

theorem bel6 {w w1 : World} {b : Nat} {v0 v1 v2 v3 v4 v5 : Value} (h : Below w.heap.size w w1) (hb : w.heap.size ≤ b) : Below w.heap.size w ((((((w1.setCell ⟨b, 0, none⟩ v0).setCell ⟨b, 1, none⟩ v1).setCell ⟨b, 2, none⟩ v2).setCell ⟨b, 3, none⟩ v3).setCell ⟨b, 4, none⟩ v4).setCell ⟨b, 5, none⟩ v5) :=
  (((((h.setCell (p := ⟨b, 0, none⟩) hb _).setCell (p := ⟨b, 1, none⟩) hb _).setCell (p := ⟨b, 2, none⟩) hb _).setCell (p := ⟨b, 3, none⟩) hb _).setCell (p := ⟨b, 4, none⟩) hb _).setCell (p := ⟨b, 5, none⟩) hb _

/-- The first place of the name q, or -1. -/
def idx (q : ByteArray) (zs : List Ind) : Int := match zs.findIdx? (fun x => x.nm.toList == q.toList) with
  | some i => i
  | none => -1
def hit (q : ByteArray) (x : Ind) : Bool := x.nm.toList == q.toList

theorem idx_hit (q : ByteArray) (zs : List Ind) (k : Nat) (hk : k < zs.length) (h : hit q zs[k]! = true) (A : ∀ j, j < k → hit q zs[j]! = false) : idx q zs = k := by
  have : zs.findIdx? (fun x => x.nm.toList == q.toList) = some k := by
    rw [List.findIdx?_eq_some_iff_getElem]
    refine ⟨hk, ?_, fun j hj => ?_⟩
    · rw [← getElem!_pos zs k hk]; exact h
    · rw [← getElem!_pos zs j (by omega)]; have := A j hj; unfold hit at this; rw [this]; decide
  unfold idx; rw [this]
theorem idx_miss (q : ByteArray) (zs : List Ind) (A : ∀ j, j < zs.length → hit q zs[j]! = false) : idx q zs = -1 := by
  have : zs.findIdx? (fun x => x.nm.toList == q.toList) = none := by
    rw [List.findIdx?_eq_none_iff]
    intro x hx
    obtain ⟨j, hj, rfl⟩ := List.getElem_of_mem hx
    rw [← getElem!_pos zs j hj]; exact A j hj
  unfold idx; rw [this]

theorem ind11 (a b c : ByteArray) (w : World) :
    Calls Try.prog 11 #[.string a, .string b, .string c] w fun e w' => e = .returned (.agg (enc ⟨a, b, c⟩).toArray) ∧ w' = w.alloc (.cells (enc ⟨a, b, c⟩).toArray 51) := by
  go_enter Try.func11, Try.ntmps11
  go_wp2
  exact bodyPost_ret (v := .agg #[.string a, .string b, .pointer none, .pointer none, .string c, .pointer none]) (by simp [results, Try.results11, go_sem]) rfl ⟨rfl, rfl⟩

theorem closure18 (x : Ind) (q : ByteArray) (nb : Nat) (w : World) (hq : w.cell? ⟨nb, 0, none⟩ = some (.string q)) :
    Calls Try.prog 18 #[.agg (enc x).toArray, .pointer (some ⟨nb, 0, none⟩)] w fun e w' => e = .returned (.bool (hit q x)) ∧ w' = w.alloc (.cells (enc x).toArray 51) := by
  have hb : nb < w.heap.size := World.block_lt_of_cell? w _ hq
  have hne : nb ≠ w.heap.size := by omega
  show Calls Try.prog 18 #[.agg #[.string x.nm, .string x.un, .pointer none, .pointer none, .string x.tg, .pointer none], .pointer (some ⟨nb, 0, none⟩)] w _
  go_enter Try.func18, Try.ntmps18
  go_wp2
  go_ret
  exact ⟨rfl, rfl⟩

set_option maxHeartbeats 1000000 in
theorem index17 (v : Value) (zs : List Ind) (q : ByteArray) (nb : Nat) (w : World) (hown : Own w 0 v zs) (hn : zs.length ≤ 1000000) (hq : w.cell? ⟨nb, 0, none⟩ = some (.string q)) :
    Calls Try.prog 17 #[v, .func (.func 18) #[] #[.pointer (some ⟨nb, 0, none⟩)]] w fun e w' => e = .returned (.int .i64 (idx q zs)) ∧ Below w.heap.size w w' := by
  obtain ⟨ad, cap, rfl, hf⟩ := hown.form
  clear hown
  have HF : Hid (0 < zs.length → ∃ g, ad = some ⟨g, 0, none⟩ ∧ 0 ≤ g ∧ g < w.heap.size ∧ ∀ j, j < zs.length → w.rangeAt g (j * 6) (enc zs[j]!)) := hf
  clear hf
  have HQ : Hid (w.cell? ⟨nb, 0, none⟩ = some (.string q)) := hq
  have hnb : nb < w.heap.size := World.block_lt_of_cell? w _ hq
  clear hq
  generalize hnn : zs.length = n at *
  have HN : Hid (zs.length = n) := hnn
  clear hnn
  go_enter Try.func17, Try.ntmps17
  go_wp2
  go_loopg [5, 8] n (fun gg _ s8 wr => ∃ kk : Nat, kk ≤ n ∧ n - kk ≤ gg ∧ s8 = .int .i64 kk ∧ Hid (Below w.heap.size w wr) ∧ Hid (∀ j, j < kk → hit q zs[j]! = false))
  case atStart => exact ⟨0, Nat.zero_le _, by omega, rfl, Below.refl _ w, fun j hj => absurd hj (Nat.not_lt_zero _)⟩
  case round =>
    obtain ⟨kk, hkk, hg, rfl, BW, A⟩ := hrel
    by_cases hlt : kk < n
    · have hltz : (kk : Int) < (n : Int) := by omega
      obtain ⟨g, rfl, _, hgl, hr⟩ := HF.out (by omega)
      have hq1 : wr.cell? ⟨nb, 0, none⟩ = some (.string q) := (BW.out.cell (p := ⟨nb, 0, none⟩) hnb).trans HQ.out
      obtain ⟨c0, c1, c2, c3, c4, c5⟩ := six (w := wr) (fun i u hi => (BW.out.cell (p := ⟨g, kk * 6 + i, none⟩) hgl).trans (hr kk hlt i u hi))
      have hcall := closure18 zs[kk]! q nb wr hq1
      clear hr
      generalize hy : zs[kk]! = y at c0 c1 c2 c3 c4 c5 hcall
      have B : Hid (zs[kk]! = y) := hy
      clear hy
      have HC : Hid (Calls Try.prog 18 #[.agg #[.string y.nm, .string y.un, .pointer none, .pointer none, .string y.tg, .pointer none], .pointer (some ⟨nb, 0, none⟩)] wr fun e w' => e = .returned (.bool (hit q y)) ∧ w' = wr.alloc (.cells (enc y).toArray 51)) := hcall
      clear hcall
      go_wp2_with fail
      refine HC.out.mono ?_
      rintro e w1 ⟨rfl, hw1⟩
      have HB1 : Hid (Below w.heap.size w w1) := by rw [hw1]; exact BW.out.alloc BW.out.size _
      clear hw1 c0 c1 c2 c3 c4 c5 hq1 BW HC
      cases hq : hit q y with
      | true =>
        go_wp2
        go_ret
        refine ⟨?_, HB1.out⟩
        rw [idx_hit q zs kk (by rw [HN.out]; exact hlt) (by rw [B.out]; exact hq) A.out]
        rfl
      | false =>
        go_wp2
        go_roundg (n - (kk + 1))
        case measure => omega
        case rel =>
          refine ⟨kk + 1, by omega, by omega, by go_num, HB1, (show Hid _ from fun j hj => ?_)⟩
          by_cases e : j = kk
          · subst e
            rw [B.out]; exact hq
          · exact A.out j (by omega)
    · have hltz : ¬ (kk : Int) < (n : Int) := by omega
      have : kk = n := by omega
      subst this
      go_wp2
      go_ret
      refine ⟨?_, BW.out⟩
      rw [idx_miss q zs (by rw [HN.out]; exact A.out)]
      rfl

/-- What FindIndicator hands back. -/
def fnd (q : ByteArray) (zs : List Ind) : Option Ind := zs.find? (hit q)
def fndV : Option Ind → List Value
  | some x => enc x
  | none => [.string ByteArray.empty, .string ByteArray.empty, .pointer none, .pointer none, .string ByteArray.empty, .pointer none]
theorem fnd_idx (q : ByteArray) (zs : List Ind) : (idx q zs = -1 ∧ fnd q zs = none) ∨ ∃ k : Nat, k < zs.length ∧ idx q zs = k ∧ fnd q zs = some zs[k]! := by
  unfold idx fnd
  cases h : zs.findIdx? (fun x => x.nm.toList == q.toList) with
  | none =>
    left
    refine ⟨rfl, ?_⟩
    rw [List.findIdx?_eq_none_iff] at h
    rw [List.find?_eq_none]
    intro x hx
    have := h x hx
    unfold hit; rw [this]; decide
  | some k =>
    right
    rw [List.findIdx?_eq_some_iff_getElem] at h
    obtain ⟨hk, h1, h2⟩ := h
    refine ⟨k, hk, rfl, ?_⟩
    rw [getElem!_pos zs k hk, List.find?_eq_some_iff_getElem]
    exact ⟨h1, k, hk, rfl, fun j hj => by have := h2 j hj; simpa [hit] using this⟩

set_option maxHeartbeats 1000000 in
theorem find14 (v : Value) (zs : List Ind) (q : ByteArray) (w : World) (hown : Own w 0 v zs) (hn : zs.length ≤ 1000000) :
    Calls Try.prog 14 #[v, .string q] w fun e w' => e = .returned (.tuple #[.agg (fndV (fnd q zs)).toArray, .bool (fnd q zs).isSome]) ∧ Below w.heap.size w w' := by
  have hlt : ∀ k, v.ownBlock = some k → k < w.heap.size := fun k hk => (World.ownsRow.lt hown k hk).2
  have HO : Hid (Own w 0 v zs) := hown
  clear hown
  have HL : Hid (∀ k, v.ownBlock = some k → k < w.heap.size) := hlt
  clear hlt
  go_enter Try.func14, Try.ntmps14
  go_wp2_with fail
  refine (index17 v zs q w.heap.size _ (ownsRow_below (ownsRow_below HO.out (bel1 w (.cells #[.string q] 9)) HL.out) (bel1 _ _) (fun k hk => by have := HL.out k hk; simp; omega)) hn (by simp)).mono ?_
  rintro e w1 ⟨rfl, hb⟩
  have HB : Hid (Below w.heap.size w w1) := ((bel1 w _).alloc (by simp) _).trans (hb.mono (by simp; omega))
  have hc : ∀ i, i < 6 → w1.cell? ⟨w.heap.size + 1, i, none⟩ = some ((fndV none)[i]!) := fun i hi => by
    rw [hb.cell (p := ⟨w.heap.size + 1, i, none⟩) (by simp)]
    rcases (show i = 0 ∨ i = 1 ∨ i = 2 ∨ i = 3 ∨ i = 4 ∨ i = 5 by omega) with rfl | rfl | rfl | rfl | rfl | rfl <;> simp [fndV] <;> rfl
  have hf : ∀ i, w1.frozen? ⟨w.heap.size + 1, i, none⟩ = false := fun i => by
    rw [hb.frozen (p := ⟨w.heap.size + 1, i, none⟩) (by simp)]
    simp
  have d0 : w1.cell? ⟨w.heap.size + 1, 0, none⟩ = some (.string ByteArray.empty) := hc 0 (by omega)
  have d1 : w1.cell? ⟨w.heap.size + 1, 1, none⟩ = some (.string ByteArray.empty) := hc 1 (by omega)
  have d2 : w1.cell? ⟨w.heap.size + 1, 2, none⟩ = some (.pointer none) := hc 2 (by omega)
  have d3 : w1.cell? ⟨w.heap.size + 1, 3, none⟩ = some (.pointer none) := hc 3 (by omega)
  have d4 : w1.cell? ⟨w.heap.size + 1, 4, none⟩ = some (.string ByteArray.empty) := hc 4 (by omega)
  have d5 : w1.cell? ⟨w.heap.size + 1, 5, none⟩ = some (.pointer none) := hc 5 (by omega)
  have f0 := hf 0
  have f1 := hf 1
  have f2 := hf 2
  have f3 := hf 3
  have f4 := hf 4
  have f5 := hf 5
  clear hc hf hb
  rcases fnd_idx q zs with ⟨e1, e2⟩ | ⟨k, hk, e1, e2⟩
  · rw [e1]
    have hp : Hid (fnd q zs = none) := e2
    clear e1 e2
    go_wp2
    exact bodyPost_ret (v := .tuple #[.agg (fndV none).toArray, .bool false]) (by simp [results, Try.results14, go_sem, d0, d1, d2, d3, d4, d5, fndV]; rfl) rfl (by rw [hp.out]; exact ⟨rfl, bel6 HB.out (by omega)⟩)
  · rw [e1]
    have hp : Hid (fnd q zs = some zs[k]!) := e2
    clear e1 e2
    obtain ⟨ad, cap, rfl, hform⟩ := HO.out.form
    obtain ⟨g, rfl, _, hg, hr⟩ := hform (by omega)
    obtain ⟨c0, c1, c2, c3, c4, c5⟩ := six (w := w1) (fun i u hi => (HB.out.cell (p := ⟨g, k * 6 + i, none⟩) hg).trans (hr k hk i u hi))
    clear hform hr
    have hkz : (k : Int) < (zs.length : Int) := by omega
    generalize zs[k]! = y at c0 c1 c2 c3 c4 c5 hp
    go_wp2
    exact bodyPost_ret (v := .tuple #[.agg (fndV (some y)).toArray, .bool true]) (by simp [results, Try.results14, go_sem, d0, d1, d2, d3, d4, d5, fndV, enc]) rfl (by rw [hp.out]; exact ⟨rfl, bel6 HB.out (by omega)⟩)
end Go.Proofs.Qxb6003328a
