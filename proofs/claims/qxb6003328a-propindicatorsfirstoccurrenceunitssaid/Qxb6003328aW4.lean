/-
  DERIVED. Appends at this program's types; THE WALK of (*Plan).Indicators.
-/
import Derived.Test.Qxb6003328aW1
namespace Go.Proofs.Qxb6003328a
open Go.RowKit

theorem inf_of {P : Program} {t : TypeId} {z : Value} {s b : Nat} (h : (P.info? t).map (fun i => (i.zero, i.size, i.bytes)) = some (some z, s, b)) : ∃ i, P.info? t = some i ∧ i.zero = some z ∧ i.size = s ∧ i.bytes = b := by
  cases hi : P.info? t with
  | none => rw [hi] at h; cases h
  | some i =>
    rw [hi] at h
    simp only [Option.map_some, Option.some.injEq, Prod.mk.injEq] at h
    exact ⟨i, rfl, h.1, h.2.1, h.2.2⟩
def z51 : Value := .agg (enc default).toArray
theorem inf51 : (Try.prog.info? 51).map (fun i => (i.zero, i.size, i.bytes)) = some (some z51, 6, 72) := by kernel_rfl
def z48 : Value := .agg #[.int .i64 0, .pointer none, .int .i64 0, .slice none 0 0]
theorem inf48 : (Try.prog.info? 48).map (fun i => (i.zero, i.size, i.bytes)) = some (some z48, 4, 48) := by kernel_rfl

theorem Own.snoc {w : World} {base : Nat} {v : Value} {zs : List Ind} {x : Ind} (h : w.ownsRow base 51 6 v (zs.length + 1) (cellsOf zs ++ enc x)) : Own w base v (zs ++ [x]) := by
  unfold Own
  rw [List.length_append, List.length_singleton, show cellsOf (zs ++ [x]) = cellsOf zs ++ enc x from by simp [cellsOf]]
  exact h

theorem enc_one (x : Ind) : ∀ u ∈ enc x, u.oneCell' = true := by
  intro u hu
  simp only [enc, List.mem_cons, List.not_mem_nil, or_false] at hu
  rcases hu with rfl | rfl | rfl | rfl | rfl | rfl <;> rfl

theorem new2 (w : World) (o1 o2 : Obj) : ((w.alloc o1).alloc o2).heap[w.heap.size + 1]? = some o2 := by
  have h := heap_alloc_new (w.alloc o1) o2
  rwa [show (w.alloc o1).heap.size = w.heap.size + 1 from by simp] at h

/-- append at []Indicator, at a plain region's list. -/
theorem app44 {ops : Array Oper} {rest : List Oper} {o : Oper} {a : Act} {Q : Exit → Act → World → Prop} (w : World) (hgd : o.guard = none) (s x : Operand)
    (ho : o.op = .call { callee := .builtin .append, args := #[s, x], argTypes := #[44, 44] }) (base : Nat) (v : Value) (zs : List Ind) (x0 : Ind) (B : Nat) (hs : a.eval s = v) (hx : a.eval x = .slice (some ⟨B, 0, none⟩) 1 1)
    (hown : Own w base v zs) (hB : w.heap[B]? = some (.cells (enc x0).toArray 51 (0, 0))) (hn : zs.length ≤ 100000) (hbase : base ≤ w.heap.size)
    (h : ∀ g cap w', Own w' base (.slice (some ⟨g, 0, none⟩) (zs.length + 1) cap) (zs ++ [x0]) → w.grownBy w' v.ownBlock → (v.ownBlock = some g ∨ g = w.heap.size) → g < w'.heap.size → wpList Try.prog ops Q rest (a.put o.dst (.slice (some ⟨g, 0, none⟩) (zs.length + 1) cap)) w') : wpList Try.prog ops Q (o :: rest) a w := by
  obtain ⟨i, hi, hz, hsz, hby⟩ := inf_of inf51
  exact wpList_append_lies w hgd s x 44 ho base 51 i z51 6 72 Try.underlying44 hi hz hsz hby rfl (by decide) v zs.length (cellsOf zs) hs hown ⟨B, 0, none⟩ 1 1 (enc x0) hx rfl (World.news_of_block hB) (enc_one x0) (by omega) (by unfold maxLen; omega) (by omega) hbase _ rfl
    fun g cap w' h1 h2 h3 h4 => h g cap w' (Own.snoc h1) h2 h3 h4

/-- A tranche as the law builds it: months, year, the slice of indicators and what it holds. -/
structure Tr where
  mo : Int
  yr : Int
  sl : Value
  ins : List Ind
instance : Inhabited Tr := ⟨⟨0, 0, .slice none 0 0, []⟩⟩
def tenc (t : Tr) : List Value := [.int .i64 t.mo, .pointer none, .int .i64 t.yr, t.sl]
theorem tcells_at : ∀ (zs : List Tr) (j i : Nat), j < zs.length → i < 4 → (zs.flatMap tenc)[j * 4 + i]? = (tenc zs[j]!)[i]?
  | [], j, i, h, _ => by simp at h
  | x :: xs, 0, i, _, hi => by
    rw [List.flatMap_cons, Nat.zero_mul, Nat.zero_add, List.getElem?_append_left (by exact hi)]; rfl
  | x :: xs, j + 1, i, h, hi => by
    have e : (j + 1) * 4 + i - 4 = j * 4 + i := by omega
    rw [List.flatMap_cons, List.getElem?_append_right (by show 4 ≤ _; omega), show (tenc x).length = 4 from rfl, e, tcells_at xs j i (by simpa using h) hi]; simp
/-- The tranches T lie in the slice tv, each with its indicators. -/
structure OwnT (w : World) (base : Nat) (tv : Value) (T : List Tr) : Prop where
  row : w.ownsRow base 48 4 tv T.length (T.flatMap tenc)
  each : ∀ j, j < T.length → Own w base T[j]!.sl T[j]!.ins ∧ T[j]!.ins.length ≤ 16

theorem OwnT.form {w : World} {base : Nat} {v : Value} {zs : List Tr} (h : OwnT w base v zs) :
    ∃ ad cap, v = .slice ad zs.length cap ∧ (0 < zs.length → ∃ g, ad = some ⟨g, 0, none⟩ ∧ base ≤ g ∧ g < w.heap.size ∧ ∀ j, j < zs.length → w.rangeAt g (j * 4) (tenc zs[j]!)) := by
  rcases Nat.eq_zero_or_pos zs.length with h0 | hp
  · rcases h.row.2 with ⟨hv, hn⟩ | ⟨g, cap, cur, hv, _⟩
    · exact ⟨_, 0, by rw [hv, hn], fun h => by omega⟩
    · exact ⟨_, cap, hv, fun h => by omega⟩
  · obtain ⟨g, cap, rfl, hb, hg⟩ := World.ownsRow.form h.row hp
    refine ⟨_, cap, rfl, fun _ => ⟨g, rfl, hb, hg, fun j hj i u hu => ?_⟩⟩
    have hi : i < 4 := by
      rcases Nat.lt_or_ge i 4 with h | h
      · exact h
      · rw [List.getElem?_eq_none (by exact h)] at hu; cases hu
    have := World.ownsRow.cells h.row (g := g) rfl (j * 4 + i) u (by rw [tcells_at zs j i hj hi]; exact hu)
    rwa [Addr.add_mid, Nat.zero_add] at this
theorem four {w : World} {g o : Nat} {x : Tr} (h : w.rangeAt g o (tenc x)) : w.cell? ⟨g, o, none⟩ = some (.int .i64 x.mo) ∧ w.cell? ⟨g, o + 1, none⟩ = some (.pointer none) ∧ w.cell? ⟨g, o + 2, none⟩ = some (.int .i64 x.yr) ∧ w.cell? ⟨g, o + 3, none⟩ = some x.sl :=
  ⟨h 0 _ rfl, h 1 _ rfl, h 2 _ rfl, h 3 _ rfl⟩

/-- One indicator more, unless its name is there. -/
def addF (acc : List Ind) (x : Ind) : List Ind := if (fnd x.nm acc).isSome then acc else acc ++ [x]
/-- One tranche more. -/
def addT (y : Int) (acc : List Ind) (t : Tr) : List Ind := if t.yr = y then t.ins.foldl addF acc else acc
theorem addF_len (acc : List Ind) (x : Ind) : (addF acc x).length ≤ acc.length + 1 := by unfold addF; split <;> simp
theorem foldl_take_succ {α β : Type} [Inhabited α] (f : β → α → β) (b : β) (xs : List α) (k : Nat) (h : k < xs.length) : (xs.take (k + 1)).foldl f b = f ((xs.take k).foldl f b) xs[k]! := by
  rw [List.take_succ_eq_append_getElem h, List.foldl_append, getElem!_pos xs k h]; rfl

theorem find14' (v : Value) (zs : List Ind) (q : ByteArray) (base : Nat) (w : World) (hown : Own w base v zs) (hn : zs.length ≤ 1000000) :
    Calls Try.prog 14 #[v, .string q] w fun e w' => (∃ f : Ind, e = .returned (.tuple #[.agg #[.string f.nm, .string f.un, .pointer none, .pointer none, .string f.tg, .pointer none], .bool (fnd q zs).isSome]) ∧ Hid (f = (fnd q zs).getD default)) ∧ Below w.heap.size w w' := by
  refine (find14 v zs q w ⟨hown.1, ?_⟩ hn).mono ?_
  · rcases hown.2 with h | ⟨g, cap, cur, h1, h2, h3⟩
    · exact .inl h
    · exact .inr ⟨g, cap, cur, h1, Nat.zero_le _, h3⟩
  · rintro e w' ⟨rfl, hb⟩
    refine ⟨⟨_, ?_, rfl⟩, hb⟩
    cases fnd q zs <;> rfl

set_option maxHeartbeats 2000000 in
theorem indicators13 (pb : Nat) (y : Int) (base : Nat) (tv : Value) (T : List Tr) (w : World) (hp : w.cell? ⟨pb, 4, none⟩ = some tv) (hT : OwnT w base tv T) (hn : T.length ≤ 64) :
    Calls Try.prog 13 #[.pointer (some ⟨pb, 0, none⟩), .int .i64 y] w fun e w' => ∃ v, e = .returned v ∧ Own w' w.heap.size v (T.foldl (addT y) []) ∧ Below w.heap.size w w' := by
  obtain ⟨ad, cap, rfl, hf⟩ := hT.form
  have HT : Hid (∀ j, j < T.length → Own w base T[j]!.sl T[j]!.ins ∧ T[j]!.ins.length ≤ 16) := hT.each
  clear hT
  have HF : Hid (0 < T.length → ∃ g, ad = some ⟨g, 0, none⟩ ∧ base ≤ g ∧ g < w.heap.size ∧ ∀ j, j < T.length → w.rangeAt g (j * 4) (tenc T[j]!)) := hf
  clear hf
  generalize hnn : T.length = n at *
  have HN : Hid (T.length = n) := hnn
  clear hnn
  go_enter Try.func13, Try.ntmps13
  go_wp2
  go_loopg [5, 17] n (fun gg s5 s17 wr => ∃ (kk : Nat) (acc : List Ind), kk ≤ n ∧ n - kk ≤ gg ∧ s17 = .int .i64 kk ∧ acc.length ≤ 16 * kk ∧ Hid (Below w.heap.size w wr) ∧ Hid (acc = (T.take kk).foldl (addT y) []) ∧ Hid (Own wr w.heap.size s5 acc))
  case atStart => exact ⟨0, [], Nat.zero_le _, by omega, rfl, Nat.zero_le _, Below.refl _ w, (show Hid _ from rfl), World.ownsRow_nil _ _ _ _⟩
  case round =>
    obtain ⟨kk, acc, hkk, hg, rfl, hal, BW, A, O⟩ := hrel
    by_cases hlt : kk < n
    · have hltz : (kk : Int) < (n : Int) := by omega
      obtain ⟨g, rfl, _, hgl, hr⟩ := HF.out (by omega)
      obtain ⟨c0, c1, c2, c3⟩ := four (w := wr) (fun i u hi => (BW.out.cell (p := ⟨g, kk * 4 + i, none⟩) hgl).trans (hr kk hlt i u hi))
      clear hr
      obtain ⟨ho, hl⟩ := HT.out kk hlt
      have HA : Hid ((T.take (kk + 1)).foldl (addT y) [] = addT y acc T[kk]!) := by rw [A.out]; exact foldl_take_succ _ _ _ _ (by rw [HN.out]; exact hlt)
      generalize T[kk]! = t at c0 c1 c2 c3 ho hl HA
      obtain ⟨mo, yr, sl, ins⟩ := t
      dsimp only at c0 c1 c2 c3 ho hl
      obtain ⟨ad2, cap2, rfl, hf2⟩ := ho.form
      have HF2 : Hid (0 < ins.length → ∃ g, ad2 = some ⟨g, 0, none⟩ ∧ base ≤ g ∧ g < w.heap.size ∧ ∀ j, j < ins.length → w.rangeAt g (j * 6) (enc ins[j]!)) := hf2
      clear hf2 ho
      by_cases hy : yr = y
      · subst hy
        have HA' : Hid ((T.take (kk + 1)).foldl (addT yr) [] = ins.foldl addF acc) := by have := HA.out; simp only [addT, if_true] at this; exact this
        clear HA
        generalize hmm : ins.length = m at *
        have HM : Hid (ins.length = m) := hmm
        clear hmm
        go_wp2
        clear c0 c1 c2 c3
        go_loopg [5, 30] m (fun gg s5 s30 wr => ∃ (jj : Nat) (acc2 : List Ind), jj ≤ m ∧ m - jj ≤ gg ∧ s30 = .int .i64 jj ∧ acc2.length ≤ 16 * kk + jj ∧ Hid (Below w.heap.size w wr) ∧ Hid (acc2 = (ins.take jj).foldl addF acc) ∧ Hid (Own wr w.heap.size s5 acc2))
        case atStart => exact ⟨0, acc, Nat.zero_le _, by omega, rfl, by omega, BW.out.alloc BW.out.size _, (show Hid _ from rfl), World.ownsRow.alloc O.out _⟩
        case round =>
          clear BW O
          obtain ⟨jj, acc2, hjj, hg2, rfl, hal2, BW, A2, O⟩ := hrel
          by_cases hlt2 : jj < m
          · have hltz2 : (jj : Int) < (m : Int) := by omega
            obtain ⟨g2, rfl, _, hgl2, hr⟩ := HF2.out (by omega)
            obtain ⟨c0, c1, c2, c3, c4, c5⟩ := six (w := wr) (fun i u hi => (BW.out.cell (p := ⟨g2, jj * 6 + i, none⟩) hgl2).trans (hr jj hlt2 i u hi))
            clear hr
            have HA2 : Hid ((ins.take (jj + 1)).foldl addF acc = addF acc2 ins[jj]!) := by rw [A2.out]; exact foldl_take_succ _ _ _ _ (by rw [HM.out]; exact hlt2)
            generalize ins[jj]! = x at c0 c1 c2 c3 c4 c5 HA2
            go_wp2_with fail
            refine (find14' _ acc2 x.nm w.heap.size _ (World.ownsRow.alloc O.out _) (by omega)).mono ?_
            rintro e w1 ⟨⟨f, rfl, HFF⟩, hb⟩
            have HB1 : Hid (Below w.heap.size w w1) := (BW.out.alloc BW.out.size _).trans (hb.mono (by have := BW.out.size; simp; omega))
            have hsz : w.heap.size ≤ wr.heap.size := BW.out.size
            have HO1 : Hid (Own w1 w.heap.size _ acc2) := ownsRow_below (World.ownsRow.alloc O.out _) hb (fun k hk => (World.ownsRow.lt (World.ownsRow.alloc O.out _) k hk).2)
            have e0 : w1.cell? ⟨wr.heap.size, 0, none⟩ = some (.string x.nm) := by rw [hb.cell (p := ⟨wr.heap.size, 0, none⟩) (by simp)]; simp
            have e1 : w1.cell? ⟨wr.heap.size, 1, none⟩ = some (.string x.un) := by rw [hb.cell (p := ⟨wr.heap.size, 1, none⟩) (by simp)]; simp
            have e2 : w1.cell? ⟨wr.heap.size, 2, none⟩ = some (.pointer none) := by rw [hb.cell (p := ⟨wr.heap.size, 2, none⟩) (by simp)]; simp
            have e3 : w1.cell? ⟨wr.heap.size, 3, none⟩ = some (.pointer none) := by rw [hb.cell (p := ⟨wr.heap.size, 3, none⟩) (by simp)]; simp
            have e4 : w1.cell? ⟨wr.heap.size, 4, none⟩ = some (.string x.tg) := by rw [hb.cell (p := ⟨wr.heap.size, 4, none⟩) (by simp)]; simp
            have e5 : w1.cell? ⟨wr.heap.size, 5, none⟩ = some (.pointer none) := by rw [hb.cell (p := ⟨wr.heap.size, 5, none⟩) (by simp)]; simp
            have hlt1 : wr.heap.size < w1.heap.size := by have := hb.size; simp at this; omega
            have hne1 : wr.heap.size ≠ w1.heap.size := by omega
            clear hb c0 c1 c2 c3 c4 c5 BW O HFF
            cases hfd : (fnd x.nm acc2).isSome with
            | true =>
              go_wp2
              go_roundg (m - (jj + 1))
              case measure => omega
              case rel =>
                refine ⟨jj + 1, acc2, by omega, by omega, by go_num, by omega, HB1.out.alloc (by omega) _, (show Hid _ from ?_), World.ownsRow.alloc HO1.out _⟩
                have : acc2 = (ins.take (jj + 1)).foldl addF acc := by rw [HA2.out]; simp [addF, hfd]
                exact this
            | false =>
              go_wp2_with (at_builtin; refine app44 _ rfl _ _ rfl w.heap.size _ acc2 x (w1.heap.size + 1) rfl rfl ?c1 ?c2 ?c3 ?c4 ?_)
              case c1 => exact World.ownsRow.alloc (World.ownsRow.alloc HO1.out _) _
              case c2 => exact new2 _ _ _
              case c3 => omega
              case c4 => simp; omega
              intro g3 cap3 w3 ho3 hg3 ha3 hl3
              have HB3 : Hid (Below w.heap.size w w3) := Below.grown ((HB1.out.alloc (by omega) _).alloc (by simp; omega) _) hg3 (by simp; omega) (fun k hk => (World.ownsRow.lt HO1.out k hk).1)
              have HO3 : Hid (Own w3 w.heap.size (.slice (some ⟨g3, 0, none⟩) (acc2.length + 1) cap3) (acc2 ++ [x])) := ho3
              clear ho3 hg3 ha3 hl3 e0 e1 e2 e3 e4 e5
              go_wp2
              go_roundg (m - (jj + 1))
              case measure => omega
              case rel =>
                refine ⟨jj + 1, acc2 ++ [x], by omega, by omega, by go_num, by simp; omega, HB3.out, (show Hid _ from ?_), HO3.out⟩
                have : acc2 ++ [x] = (ins.take (jj + 1)).foldl addF acc := by rw [HA2.out]; simp [addF, hfd]
                exact this
          · have hltz2 : ¬ (jj : Int) < (m : Int) := by omega
            have : jj = m := by omega
            subst this
            go_wp2
            go_roundg (n - (kk + 1))
            case measure => omega
            case rel =>
              refine ⟨kk + 1, acc2, by omega, by omega, by go_num, by omega, BW.out, (show Hid _ from ?_), O.out⟩
              have : acc2 = (T.take (kk + 1)).foldl (addT yr) [] := by rw [HA'.out, A2.out, ← HM.out, List.take_length]
              exact this
      · go_wp2
        go_roundg (n - (kk + 1))
        case measure => omega
        case rel =>
          refine ⟨kk + 1, acc, by omega, by omega, by go_num, by omega, BW.out.alloc BW.out.size _, (show Hid _ from ?_), (show Hid _ from ?_)⟩
          · have : acc = (T.take (kk + 1)).foldl (addT y) [] := by rw [HA.out]; simp [addT, hy]
            exact this
          · exact World.ownsRow.alloc O.out _
    · have hltz : ¬ (kk : Int) < (n : Int) := by omega
      have : kk = n := by omega
      subst this
      go_wp2
      go_ret
      refine ⟨_, rfl, ?_, BW.out⟩
      rw [show T = T.take kk from by rw [← HN.out, List.take_length], ← A.out]
      exact O.out
end Go.Proofs.Qxb6003328a
