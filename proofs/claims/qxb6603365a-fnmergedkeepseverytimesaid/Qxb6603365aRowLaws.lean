/-
  TWO LAWS FOR THE WALK, OVER ROWS THAT ARE KNOWN WHOLE BY THEIR INDEX ('rowIs'): append of one element where there is room; copy from one row into another. All other blocks are as they were.
-/
import Derived.Test.Qxb6603365aBase
import Derived.Laws.CopyOwn
namespace Go.Proofs.Qxb6603365a
open Go.ChangeShapes Go.WideShapes Go.ChangeAt Go.RowKit

/-- What such a step leaves: the row says 'f'; every other block is as it was; none is new. -/
structure RowStep (w w' : World) (g : Nat) (e : TypeId) (c : Nat) (f : Nat → Value) : Prop where
  row : w'.rowIs g e c f
  grown : w.grownBy w' (some g)
  size : w'.heap.size = w.heap.size

theorem RowStep.other {w w' : World} {g : Nat} {e : TypeId} {c : Nat} {f : Nat → Value} (h : RowStep w w' g e c f) {k : Nat} (hk : k ≠ g) : w'.heap[k]? = w.heap[k]? := by
  by_cases hl : k < w.heap.size
  · exact h.grown.block k hl (fun e => hk (by simpa using e))
  · rw [Array.getElem?_eq_none (by rw [h.size]; omega), Array.getElem?_eq_none (by omega)]

theorem RowStep.rowOther {w w' : World} {g : Nat} {e : TypeId} {c : Nat} {f : Nat → Value} (h : RowStep w w' g e c f) {b : Nat} {t : TypeId} {n : Nat} {u : Nat → Value} (hr : w.rowIs b t n u) (hne : b ≠ g) : w'.rowIs b t n u := hr.of_block (h.other hne)

theorem RowStep.below {w0 w w' : World} {B g : Nat} {e : TypeId} {c : Nat} {f : Nat → Value} (h : RowStep w w' g e c f) (hb : Below B w0 w) (hB : B ≤ g) : Below B w0 w' :=
  hb.trans ⟨h.grown.os, h.grown.tape, h.grown.output, by rw [h.size]; exact Nat.le_refl _, fun k hk => h.other (by omega)⟩

theorem wpList_append_row {P : Program} (w : World) {ops : Array Oper} {rest : List Oper} {o : Oper} {a : Act} {Q : Exit → Act → World → Prop}
    (hg : o.guard = none) (s x : Operand) (t : TypeId) (hop : o.op = Op.call { callee := Callee.builtin Builtin.append, args := #[s, x], argTypes := #[t, t] })
    (e : TypeId) (i : TypeInfo) (h1 : P.underlying t = some (.slice e)) (h2 : P.info? e = some i) (h4 : i.size = 1)
    (g k cap : Nat) (f : Nat → Value) (v : Value) (hs : a.eval s = .slice (some ⟨g, 0, none⟩) k cap) (hrow : w.rowIs g e cap f) (ad : Addr) (c : Nat) (hx : a.eval x = .slice (some ad) 1 c)
    (hc : w.cell? ad = some v) (h1c : v.oneCell' = true) (b1 : k < cap)
    (hK : ∀ w', RowStep w w' g e cap (fun j => if j = k then v else f j) → wpList P ops Q rest (a.put o.dst (.slice (some ⟨g, 0, none⟩) (k + 1) cap)) w') :
    wpList P ops Q (o :: rest) a w := by
  refine wpList_plain hg fun K hK' => ?_
  obtain ⟨cur, hcur, hsz, hf⟩ := hrow
  have hcell : ∀ j u, [v][j]? = some u → w.cell? (ad.add j) = some u := by
    intro j u hj
    match j, hj with
    | 0, hj => simp at hj; subst hj; simpa [Addr.add] using hc
    | j + 1, hj => simp at hj
  have hr := run_append_room (P := P) w t o.type e i h1 h2 g k cap cur hcur ad 1 c [v] (by simp [h4]) hcell (by intro u hu; simp at hu; subst hu; exact h1c) (by omega) (by rw [h4]; simp; omega)
  have hrow' : (w.setRow g (cur.toList.take (k * i.size) ++ [v] ++ cur.toList.drop (k * i.size + [v].length)).toArray).rowIs g e cap (fun j => if j = k then v else f j) := by
    refine ⟨_, setRow_heap w g cur _ e _ hcur, ?_, ?_⟩
    · simp [h4, hsz]; omega
    · intro j hj
      simp only [h4, Nat.mul_one, List.getElem?_toArray, List.length_singleton]
      by_cases e1 : j < k
      · rw [List.append_assoc, List.getElem?_append_left (by simp; omega)]
        have := hf j hj
        rw [if_neg (by omega)]
        simp [e1, this]
      · by_cases e2 : j = k
        · subst e2
          rw [List.append_assoc, List.getElem?_append_right (by simp; omega)]
          simp
          have : j - min j cur.size = 0 := by omega
          simp [this]
        · rw [List.getElem?_append_right (by simp; omega)]
          rw [if_neg e2]
          have := hf j hj
          simp
          rw [show k + 1 + (j - (min k cur.size + 1)) = j by omega]
          exact this
  have hst : RowStep w (w.setRow g (cur.toList.take (k * i.size) ++ [v] ++ cur.toList.drop (k * i.size + [v].length)).toArray) g e cap (fun j => if j = k then v else f j) :=
    ⟨hrow', ⟨rfl, rfl, rfl, by simp, fun k' _ hk => setRow_other w g k' _ (fun e => hk (by simp [e]))⟩, by simp⟩
  unfold Oper.wp
  simp only [execOp, hop, resolve, invoke, builtin, Sem.run_bind, Sem.run_pure, Result.andThen_ok, List.map_toArray, List.map_cons, List.map_nil, hs, hx, hr]
  exact hK' _ _ (hK _ hst)

/-- 'copy(into[k:], ends[a:b])' inside a region that draws its order: m cells go over. -/
theorem step_copy_row {P : Program} {ops : Array Oper} {o : Oper} {a : Act} {w : World} {K : Act → World → Prop} {Q : Exit → Act → World → Prop} {E : Prop} (hgd : o.guard = none) (d s : Operand) (dT sT : TypeId)
    (ho : o.op = .call { callee := .builtin .copy, args := #[d, s], argTypes := #[dT, sT] }) (elem : TypeId) (hu : P.underlying dT = some (.slice elem)) (hsz : (P.info? elem).map (·.size) = some 1)
    (dp sp : Option Addr) (dLen dCap sLen sCap : Nat) (hd : a.eval d = .slice dp dLen dCap) (hs : a.eval s = .slice sp sLen sCap)
    (g off c : Nat) (f : Nat → Value) (hg : w.rowIs g elem c f) (u : Nat → Value) (hn : sLen ≤ dLen)
    (hpos : 0 < sLen → dp = some ⟨g, off, none⟩ ∧ ∃ ad, sp = some ad ∧ ∀ j, j < sLen → w.cell? (ad.add j) = some (u j))
    (hfit : off + sLen ≤ c) (h1 : ∀ j, j < sLen → (u j).oneCell' = true)
    (h : ∀ w', RowStep w w' g elem c (fun j => if off ≤ j ∧ j < off + sLen then u (j - off) else f j) → K (a.put o.dst (goInt sLen)) w') :
    if Region.wanted o (yielded ops a.tmps) = true then Oper.wp P o a w K Q else E := by
  have hw : Region.wanted o (yielded ops a.tmps) = true := by simp [Region.wanted, hgd]
  rw [if_pos hw]
  by_cases h0 : sLen = 0
  · subst h0
    have hrun := run_copy_none (P := P) w dT sT o.type elem dp sp dLen dCap 0 sCap hu hsz (by simp)
    unfold Oper.wp
    simp [execOp, ho, resolve, invoke, builtin, hd, hs, hrun, Result.andThen]
    refine h w ⟨hg.congr ?_, ⟨rfl, rfl, rfl, Nat.le_refl _, fun _ _ _ => rfl⟩, rfl⟩
    intro j _
    rw [if_neg (by omega)]
  · obtain ⟨rfl, ad, rfl, hsrc⟩ := hpos (by omega)
    obtain ⟨cur, hcur, hcs, hf⟩ := hg
    have hmin : Nat.min sLen dLen = sLen := Nat.min_eq_left hn
    have hl : ((List.range sLen).map u).length = sLen := by simp
    have hrun := run_copy_row (P := P) w dT sT o.type elem g off dLen dCap ad sLen sCap cur elem ((List.range sLen).map u) hu hsz hcur (by rw [hl, hmin])
      (by intro j v hj
          have hj' : j < sLen := by have := (List.getElem?_eq_some_iff.1 hj).1; simpa using this
          have e : v = u j := by simpa [hj'] using hj.symm
          rw [e]; exact hsrc j hj')
      (by rw [hl, hcs]; exact hfit)
      (by intro v hv
          obtain ⟨j, hj, rfl⟩ := List.mem_map.1 hv
          exact h1 j (List.mem_range.1 hj))
    have hrow' : (w.setRow g (cur.toList.take off ++ ((List.range sLen).map u ++ cur.toList.drop (off + ((List.range sLen).map u).length))).toArray).rowIs g elem c (fun j => if off ≤ j ∧ j < off + sLen then u (j - off) else f j) := by
      refine ⟨_, setRow_heap w g cur _ elem _ hcur, ?_, ?_⟩
      · simp [hcs]; omega
      · intro j hj
        simp only [hl, List.getElem?_toArray]
        have hfj := hf j hj
        by_cases e1 : j < off
        · rw [List.getElem?_append_left (by simp; omega), if_neg (by omega)]
          simp [e1, hfj]
        · rw [List.getElem?_append_right (by simp; omega)]
          simp only [List.length_take, Array.length_toList]
          by_cases e2 : j < off + sLen
          · rw [List.getElem?_append_left (by simp; omega), if_pos ⟨by omega, e2⟩]
            have e3 : min off cur.size = off := by omega
            have e4 : j - off < sLen := by omega
            rw [e3]
            simp [e4]
          · rw [List.getElem?_append_right (by simp; omega), if_neg (by omega)]
            simp
            rw [show off + sLen + (j - min off cur.size - sLen) = j by omega]
            exact hfj
    have hst : RowStep w (w.setRow g (cur.toList.take off ++ ((List.range sLen).map u ++ cur.toList.drop (off + ((List.range sLen).map u).length))).toArray) g elem c (fun j => if off ≤ j ∧ j < off + sLen then u (j - off) else f j) :=
      ⟨hrow', ⟨rfl, rfl, rfl, by simp, fun k' _ hk => setRow_other w g k' _ (fun e => hk (by simp [e]))⟩, by simp⟩
    rw [hl] at hrun
    unfold Oper.wp
    simp only [execOp, ho, resolve, invoke, builtin, Sem.run_bind, Sem.run_pure, Result.andThen_ok, List.map_toArray, List.map_cons, List.map_nil, hd, hs, hrun]
    exact h _ (by rw [hl, ← List.append_assoc] at hst; exact hst)
end Go.Proofs.Qxb6603365a
