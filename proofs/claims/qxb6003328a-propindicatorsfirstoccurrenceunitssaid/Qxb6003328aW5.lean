/-
  DERIVED. Frames, appends at a drawn step, and THE PLAIN LAW.
-/
import Derived.Test.Qxb6003328aW3
import Derived.Test.Qxb6003328aW4
import Derived.Lib.OwnKind
import Derived.Deep.RegionHeld3
namespace Go.Proofs.Qxb6003328a
open Go.RowKit

/-- Below B, but for the one block fb, w' is as w was. -/
structure But (B fb : Nat) (w w' : World) : Prop where
  os : w'.os = w.os
  tape : w'.tape = w.tape
  output : w'.output = w.output
  size : w.heap.size ≤ w'.heap.size
  block : ∀ k, k < B → k ≠ fb → w'.heap[k]? = w.heap[k]?
theorem But.refl (B fb : Nat) (w : World) : But B fb w w := ⟨rfl, rfl, rfl, Nat.le_refl _, fun _ _ _ => rfl⟩
theorem But.below {B fb : Nat} {a w w' : World} {C : Nat} (h : But B fb a w) (k : Below C w w') (hC : B ≤ C) : But B fb a w' :=
  ⟨k.os.trans h.os, k.tape.trans h.tape, k.output.trans h.output, Nat.le_trans h.size k.size, fun i hi hn => (k.block i (by omega)).trans (h.block i hi hn)⟩
theorem But.setCell {B fb : Nat} {a w : World} (h : But B fb a w) {p : Addr} (hp : B ≤ p.block ∨ p.block = fb) (u : Value) : But B fb a (w.setCell p u) :=
  ⟨h.os, h.tape, h.output, by simpa [World.setCell] using h.size, fun k hk hn => (Below.heap_setCell _ _ _ _ (by omega)).trans (h.block k hk hn)⟩
theorem But.grown {B fb : Nat} {a w w' : World} {row : Option Nat} (h : But B fb a w) (hg : w.grownBy w' row) (hB : B ≤ w.heap.size) (hr : ∀ k, row = some k → B ≤ k) : But B fb a w' :=
  ⟨hg.os.trans h.os, hg.tape.trans h.tape, hg.output.trans h.output, Nat.le_trans h.size hg.size, fun k hk hn => (hg.block k (by omega) (fun e => by have := hr k e.symm; omega)).trans (h.block k hk hn)⟩
theorem But.toBelow {B fb C : Nat} {w0 w w' : World} (k : Below C w0 w) (h : But B fb w w') (h1 : C ≤ fb) (h2 : C ≤ B) : Below C w0 w' :=
  ⟨h.os.trans k.os, h.tape.trans k.tape, h.output.trans k.output, Nat.le_trans k.size h.size, fun i hi => (h.block i (by omega) (by omega)).trans (k.block i hi)⟩
theorem But.cell {B fb : Nat} {w w' : World} (h : But B fb w w') {p : Addr} (hp : p.block < B) (hn : p.block ≠ fb) : w'.cell? p = w.cell? p := World.cell?_of_block (w := w) (h.block p.block hp hn)

theorem own_move {w w' : World} {base n size : Nat} {e : TypeId} {v : Value} {xs : List Value} (h : w.ownsRow base e size v n xs) (hk : ∀ k, base ≤ k → k < w.heap.size → w'.heap[k]? = w.heap[k]?) : w'.ownsRow base e size v n xs := by
  refine ⟨h.1, ?_⟩
  have hl := World.ownsRow.lt h
  rcases h.2 with h | ⟨g, cap, cur, hv, h1, h2, h3⟩
  · exact .inl h
  · exact .inr ⟨g, cap, cur, hv, h1, (hk g h1 (hl g (by rw [hv]; rfl)).2).trans h2, h3⟩
theorem own_base {w : World} {base base' n size : Nat} {e : TypeId} {v : Value} {xs : List Value} (h : w.ownsRow base e size v n xs) (hb : base' ≤ base) : w.ownsRow base' e size v n xs := by
  refine ⟨h.1, ?_⟩
  rcases h.2 with h | ⟨g, cap, cur, hv, h1, h2⟩
  · exact .inl h
  · exact .inr ⟨g, cap, cur, hv, by omega, h2⟩
theorem OwnT.move {w w' : World} {base : Nat} {tv : Value} {T : List Tr} (h : OwnT w base tv T) (hk : ∀ k, base ≤ k → k < w.heap.size → w'.heap[k]? = w.heap[k]?) : OwnT w' base tv T :=
  ⟨own_move h.row hk, fun j hj => ⟨own_move (h.each j hj).1 hk, (h.each j hj).2⟩⟩
theorem own_kinds {w : World} {b1 b2 n1 n2 s1 s2 : Nat} {e1 e2 : TypeId} {v1 v2 : Value} {x1 x2 : List Value} (h1 : w.ownsRow b1 e1 s1 v1 n1 x1) (h2 : w.ownsRow b2 e2 s2 v2 n2 x2) (he : e1 ≠ e2) : v1.ownBlock = none ∨ v1.ownBlock ≠ v2.ownBlock := by
  cases hb : v1.ownBlock with
  | none => exact .inl rfl
  | some g =>
    right
    intro e
    obtain ⟨c1, f1, k1⟩ := Lib.ownsRow_kind h1 g hb
    obtain ⟨c2, f2, k2⟩ := Lib.ownsRow_kind h2 g e.symm
    rw [k1] at k2
    injection k2 with k2
    injection k2 with _ k2 _
    exact he k2
theorem OwnT.snoc {w w2 : World} {base : Nat} {tv tv2 : Value} {T : List Tr} {t : Tr} (h : OwnT w base tv T) (hg : w.grownBy w2 tv.ownBlock) (hr : w2.ownsRow base 48 4 tv2 (T.length + 1) (T.flatMap tenc ++ tenc t)) (ht : Own w base t.sl t.ins) (hl : t.ins.length ≤ 16) : OwnT w2 base tv2 (T ++ [t]) := by
  refine ⟨?_, fun j hj => ?_⟩
  · rw [List.length_append, List.length_singleton, show (T ++ [t]).flatMap tenc = T.flatMap tenc ++ tenc t from by simp]
    exact hr
  · rw [List.length_append, List.length_singleton] at hj
    by_cases e : j < T.length
    · rw [show (T ++ [t])[j]! = T[j]! from by rw [getElem!_pos _ j (by simp; omega), getElem!_pos _ j e, List.getElem_append_left e]]
      exact ⟨World.ownsRow.kept (h.each j e).1 hg (own_kinds (h.each j e).1 h.row (by decide)), (h.each j e).2⟩
    · have : j = T.length := by omega
      subst this
      rw [show (T ++ [t])[T.length]! = t from by rw [getElem!_pos _ _ (by simp)]; simp]
      exact ⟨World.ownsRow.kept ht hg (own_kinds ht h.row (by decide)), hl⟩

/-- append at []Indicator, at a drawn step. -/
theorem step44 {ops : Array Oper} {o : Oper} {a : Act} {K : Act → World → Prop} {Q : Exit → Act → World → Prop} {E : Prop} (w : World) (hgd : o.guard = none) (s x : Operand)
    (ho : o.op = .call { callee := .builtin .append, args := #[s, x], argTypes := #[44, 44] }) (base : Nat) (v : Value) (zs : List Ind) (x0 : Ind) (B : Nat) (hs : a.eval s = v) (hx : a.eval x = .slice (some ⟨B, 0, none⟩) 1 1)
    (hown : Own w base v zs) (hB : w.heap[B]? = some (.cells (enc x0).toArray 51 (0, 0))) (hn : zs.length ≤ 100000) (hbase : base ≤ w.heap.size)
    (h : ∀ g cap w', Own w' base (.slice (some ⟨g, 0, none⟩) (zs.length + 1) cap) (zs ++ [x0]) → w.grownBy w' v.ownBlock → (v.ownBlock = some g ∨ g = w.heap.size) → g < w'.heap.size → K (a.put o.dst (.slice (some ⟨g, 0, none⟩) (zs.length + 1) cap)) w') :
    if Region.wanted o (yielded ops a.tmps) = true then Oper.wp Try.prog o a w K Q else E := by
  obtain ⟨i, hi, hz, hsz, hby⟩ := inf_of inf51
  exact step_append_lies w hgd s x 44 ho base 51 i z51 6 72 Try.underlying44 hi hz hsz hby rfl (by decide) v zs.length (cellsOf zs) hs hown ⟨B, 0, none⟩ 1 1 (enc x0) hx rfl (World.news_of_block hB) (enc_one x0) (by omega) (by unfold maxLen; omega) (by omega) hbase _ rfl
    fun g cap w' h1 h2 h3 h4 => h g cap w' (Own.snoc h1) h2 h3 h4

/-- append at []Tranche, at a drawn step. -/
theorem step38 {ops : Array Oper} {o : Oper} {a : Act} {K : Act → World → Prop} {Q : Exit → Act → World → Prop} {E : Prop} (w : World) (hgd : o.guard = none) (s x : Operand)
    (ho : o.op = .call { callee := .builtin .append, args := #[s, x], argTypes := #[38, 38] }) (base : Nat) (v : Value) (zs : List Tr) (x0 : Tr) (B : Nat) (hs : a.eval s = v) (hx : a.eval x = .slice (some ⟨B, 0, none⟩) 1 1)
    (hown : w.ownsRow base 48 4 v zs.length (zs.flatMap tenc)) (hB : w.heap[B]? = some (.cells (tenc x0).toArray 48 (0, 0))) (h1c : x0.sl.oneCell' = true) (hn : zs.length ≤ 100000) (hbase : base ≤ w.heap.size)
    (h : ∀ g cap w', w'.ownsRow base 48 4 (.slice (some ⟨g, 0, none⟩) (zs.length + 1) cap) (zs.length + 1) (zs.flatMap tenc ++ tenc x0) → w.grownBy w' v.ownBlock → (v.ownBlock = some g ∨ g = w.heap.size) → g < w'.heap.size → K (a.put o.dst (.slice (some ⟨g, 0, none⟩) (zs.length + 1) cap)) w') :
    if Region.wanted o (yielded ops a.tmps) = true then Oper.wp Try.prog o a w K Q else E := by
  obtain ⟨i, hi, hz, hsz, hby⟩ := inf_of inf48
  exact step_append_lies w hgd s x 38 ho base 48 i z48 4 48 Try.underlying38 hi hz hsz hby rfl (by decide) v zs.length (zs.flatMap tenc) hs hown ⟨B, 0, none⟩ 1 1 (tenc x0) hx rfl (World.news_of_block hB) (by
      intro u hu
      simp only [tenc, List.mem_cons, List.not_mem_nil, or_false] at hu
      rcases hu with rfl | rfl | rfl | rfl <;> first | rfl | exact h1c) (by omega) (by unfold maxLen; omega) (by omega) hbase _ rfl
    fun g cap w' h1 h2 h3 h4 => h g cap w' h1 h2 h3 h4

theorem inf3 : (Try.prog.info? 3).map (fun i => (i.zero, i.size, i.bytes)) = some (some (.int .i64 0), 1, 8) := by kernel_rfl
/-- A slice of ints of the call's own. -/
def OwnI (w : World) (base : Nat) (v : Value) (M : List Nat) : Prop := w.ownsRow base 3 1 v M.length (M.map fun m : Nat => Value.int .i64 (m : Int))
theorem OwnI.form {w : World} {base : Nat} {v : Value} {M : List Nat} (h : OwnI w base v M) :
    ∃ ad cap, v = .slice ad M.length cap ∧ (0 < M.length → ∃ g, ad = some ⟨g, 0, none⟩ ∧ base ≤ g ∧ g < w.heap.size ∧ ∀ j, j < M.length → w.cell? ⟨g, j, none⟩ = some (.int .i64 (M[j]! : Nat))) := by
  rcases Nat.eq_zero_or_pos M.length with h0 | hp
  · rcases h.2 with ⟨hv, hn⟩ | ⟨g, cap, cur, hv, _⟩
    · exact ⟨_, 0, by rw [hv, hn], fun h => by omega⟩
    · exact ⟨_, cap, hv, fun h => by omega⟩
  · obtain ⟨g, cap, rfl, hb, hg⟩ := World.ownsRow.form h hp
    refine ⟨_, cap, rfl, fun _ => ⟨g, rfl, hb, hg, fun j hj => ?_⟩⟩
    have := World.ownsRow.cells h (g := g) rfl j (.int .i64 (M[j]! : Nat)) (by rw [getElem!_pos M j hj]; simp [hj])
    rwa [Addr.add_mid, Nat.zero_add] at this
/-- append at []int, at a plain region's list. -/
theorem app29 {ops : Array Oper} {rest : List Oper} {o : Oper} {a : Act} {Q : Exit → Act → World → Prop} (w : World) (hgd : o.guard = none) (s x : Operand)
    (ho : o.op = .call { callee := .builtin .append, args := #[s, x], argTypes := #[29, 29] }) (base : Nat) (v : Value) (M : List Nat) (k : Nat) (B : Nat) (hs : a.eval s = v) (hx : a.eval x = .slice (some ⟨B, 0, none⟩) 1 1)
    (hown : OwnI w base v M) (hB : w.heap[B]? = some (.cells #[.int .i64 (k : Int)] 3 (0, 0))) (hn : M.length ≤ 100000) (hbase : base ≤ w.heap.size)
    (h : ∀ g cap w', OwnI w' base (.slice (some ⟨g, 0, none⟩) (M.length + 1) cap) (M ++ [k]) → w.grownBy w' v.ownBlock → wpList Try.prog ops Q rest (a.put o.dst (.slice (some ⟨g, 0, none⟩) (M.length + 1) cap)) w') : wpList Try.prog ops Q (o :: rest) a w := by
  obtain ⟨i, hi, hz, hsz, hby⟩ := inf_of inf3
  exact wpList_append_lies w hgd s x 29 ho base 3 i (.int .i64 0) 1 8 Try.underlying29 hi hz hsz hby rfl (by decide) v M.length (M.map fun m : Nat => Value.int .i64 (m : Int)) hs hown ⟨B, 0, none⟩ 1 1 [.int .i64 (k : Int)] hx rfl (World.news_of_block hB) (by intro u hu; simp at hu; subst hu; rfl) (by omega) (by unfold maxLen; omega) (by omega) hbase _ rfl
    fun g cap w' h1 h2 _ _ => h g cap w' (by unfold OwnI; rw [List.length_append, List.length_singleton, List.map_append]; exact h1) h2

/-! ### The plain law -/
theorem dg_len (n : Nat) (h : n < 1000) : (dg n).length ≤ 3 := by
  by_cases h0 : n = 0
  · subst h0; rw [dg_zero]; simp
  · rw [dg_pos h0]
    by_cases h1 : n / 10 = 0
    · rw [h1, dg_zero]; simp
    · rw [dg_pos h1]
      by_cases h2 : n / 10 / 10 = 0
      · rw [h2, dg_zero]; simp
      · rw [dg_pos h2, show n / 10 / 10 / 10 = 0 by omega, dg_zero]; simp
theorem ita_size (n : Nat) (h : n < 1000) : (ita n).size ≤ 3 := by
  unfold ita
  split
  · decide
  · rw [strOfNums_size]; exact dg_len n h
/-- The k-th indicator that the law lays down. -/
def IND (N U : Nat → ByteArray) (k : Nat) : Ind := ⟨N k, U k, ⟨#[112]⟩ ++ ita k⟩
def addP (y : Int) (FY : Nat → Int) (X : Nat → Ind) (acc : List Ind) (k : Nat) : List Ind := if FY k = y then addF acc (X k) else acc
def dup (N : Nat → ByteArray) (M : List Nat) (k : Nat) : Bool := M.any fun m => (N m).toList == (N k).toList
def addM (y : Int) (FY : Nat → Int) (N : Nat → ByteArray) (M : List Nat) (k : Nat) : List Nat := if FY k = y then (if dup N M k then M else M ++ [k]) else M

theorem isSome_find {α : Type} (p : α → Bool) : ∀ l : List α, (l.find? p).isSome = l.any p
  | [] => rfl
  | x :: l => by
    rw [List.find?_cons, List.any_cons]
    cases h : p x
    · simpa using isSome_find p l
    · rfl
theorem plain (y : Int) (FY : Nat → Int) (N U : Nat → ByteArray) (n : Nat) : (List.range n).foldl (addP y FY (IND N U)) [] = ((List.range n).foldl (addM y FY N) []).map (IND N U) := by
  induction n with
  | zero => rfl
  | succ n ih =>
    rw [List.range_succ, List.foldl_append, List.foldl_append, ih]
    generalize (List.range n).foldl (addM y FY N) [] = M
    show addP y FY (IND N U) (M.map (IND N U)) n = (addM y FY N M n).map (IND N U)
    unfold addP addM
    split
    · have : (fnd (IND N U n).nm (M.map (IND N U))).isSome = dup N M n := by
        unfold fnd dup
        rw [isSome_find, List.any_map]; rfl
      unfold addF
      rw [this]
      cases dup N M n <;> simp
    · rfl
theorem addM_lt (y : Int) (FY : Nat → Int) (N : Nat → ByteArray) (n : Nat) : ∀ m ∈ (List.range n).foldl (addM y FY N) [], m < n := by
  induction n with
  | zero => intro m hm; simp at hm
  | succ n ih =>
    rw [List.range_succ, List.foldl_append]
    generalize (List.range n).foldl (addM y FY N) [] = M at ih
    intro m hm
    have hm : m ∈ addM y FY N M n := hm
    unfold addM at hm
    split at hm
    · split at hm
      · have := ih m hm; omega
      · rw [List.mem_append, List.mem_singleton] at hm
        rcases hm with hm | rfl
        · have := ih m hm; omega
        · omega
    · have := ih m hm; omega
theorem addM_len (y : Int) (FY : Nat → Int) (N : Nat → ByteArray) (n : Nat) : ((List.range n).foldl (addM y FY N) []).length ≤ n := by
  induction n with
  | zero => simp
  | succ n ih =>
    rw [List.range_succ, List.foldl_append]
    generalize (List.range n).foldl (addM y FY N) [] = M at ih
    show (addM y FY N M n).length ≤ n + 1
    unfold addM
    split
    · split
      · omega
      · simp; omega
    · omega
theorem addP_congr (y : Int) (FY FZ : Nat → Int) (X : Nat → Ind) (n : Nat) (h : ∀ k, k < n → FY k = FZ k) : (List.range n).foldl (addP y FY X) [] = (List.range n).foldl (addP y FZ X) [] := by
  induction n with
  | zero => rfl
  | succ n ih =>
    rw [List.range_succ, List.foldl_append, List.foldl_append, ih (fun k hk => h k (by omega))]
    show addP _ _ _ _ _ = addP _ _ _ _ _
    unfold addP
    rw [h n (by omega)]

theorem fnd_first (q : ByteArray) (zs : List Ind) (k : Nat) (hk : k < zs.length) (h : hit q zs[k]! = true) (A : ∀ j, j < k → hit q zs[j]! = false) : fnd q zs = some zs[k]! := by
  have hi := idx_hit q zs k hk h A
  rcases fnd_idx q zs with ⟨h1, _⟩ | ⟨k', _, h1, h2⟩
  · omega
  · have : k' = k := by omega
    rw [h2, this]
theorem fnd_none (q : ByteArray) (zs : List Ind) (A : ∀ j, j < zs.length → hit q zs[j]! = false) : fnd q zs = none := by
  have hi := idx_miss q zs A
  rcases fnd_idx q zs with ⟨_, h2⟩ | ⟨k', _, h1, h2⟩
  · exact h2
  · omega
end Go.Proofs.Qxb6003328a
