/-
  THE STRUCT 'ahead' BEHIND ITS POINTER, AND ITS SLICE OF EDGES; 'block' (28) AND 'edge' (27).
-/
import Derived.Test.Qxb6603365aBase
import Derived.Deep.RegionWith
namespace Go.Proofs.Qxb6603365a
open Go.ChangeShapes Go.WideShapes Go.ChangeAt Go.RowKit

theorem info51 : (Try.prog.info? 51).map (fun i => (i.zero, i.size, i.bytes)) = some (some (.agg #[.int .i32 0, .int .i32 0]), 2, 8) := by kernel_rfl

structure Ah where
  nodes : Int
  later : Int
  active : Int
  leaves : Int
  up : Int
  down : Int

def Ah.cells (F : Ah) (ev : Value) : Array Value :=
  #[.slice none 0 0, .slice none 0 0, ev, .int .i64 F.nodes, .int .i64 F.later, .int .i64 F.active, .int .i64 F.leaves, .int .i64 F.up, .int .i64 F.down, .slice none 0 0, .slice none 0 0, .slice none 0 0, .int .i64 0]

/-- Block A holds the struct with these fields; 'ev' owns the cells 'xs' of m edges, in a block behind A; what lies below A is as it was. -/
structure AMem (A : Nat) (W : World) (F : Ah) (ev : Value) (m : Nat) (xs : List Value) (w : World) : Prop where
  bel : Below A W w
  blk : w.heap[A]? = some (.cells (F.cells ev) 49 (0, 0))
  own : w.ownsRow (A + 1) 51 2 ev m xs

variable {A : Nat} {W : World} {F : Ah} {ev : Value} {m : Nat} {xs : List Value} {w : World}

theorem AMem.lt (h : AMem A W F ev m xs w) : A < w.heap.size := (Array.getElem?_eq_some_iff.1 h.blk).1
theorem AMem.cell (h : AMem A W F ev m xs w) (j : Nat) : w.cell? ⟨A, j, none⟩ = (F.cells ev)[j]? := cell_of_row w A j _ 49 (0, 0) h.blk
theorem AMem.frozen (h : AMem A W F ev m xs w) (j : Nat) : w.frozen? ⟨A, j, none⟩ = false := frozen_of_row w A j _ 49 h.blk

theorem AMem.keep {w' : World} (h : AMem A W F ev m xs w) (hb : Below w.heap.size w w') : AMem A W F ev m xs w' := by
  have hz := h.lt
  have hg : w.grownBy w' none := ⟨hb.os, hb.tape, hb.output, hb.size, fun k hk _ => hb.block k hk⟩
  refine ⟨h.bel.trans (hb.mono (by omega)), by rw [hb.block A hz]; exact h.blk, h.own.kept hg ?_⟩
  cases ev.ownBlock <;> simp

/-- A store into one of the struct's plain fields. -/
theorem AMem.store {F' : Ah} (h : AMem A W F ev m xs w) (j : Nat) (v : Value) (e : (F.cells ev).setIfInBounds j v = F'.cells ev) : AMem A W F' ev m xs (w.setCell ⟨A, j, none⟩ v) := by
  have hg : w.grownBy (w.setCell ⟨A, j, none⟩ v) (some A) := ⟨rfl, rfl, rfl, by simp, fun k _ hk => heap_setCell_other w ⟨A, j, none⟩ k _ (fun e => hk (by simp [e]))⟩
  refine ⟨h.bel.setCell (Nat.le_refl _) _, by rw [← e]; exact heap_setCell_same w A j _ 49 v h.blk, h.own.kept hg ?_⟩
  rcases h.own.2 with ⟨e, _⟩ | ⟨g, cap, cur, e, hb, _⟩
  · left; rw [e]; rfl
  · right; rw [e]; simp [Value.ownBlock]; omega

/-- The edges have grown (append), and the new slice is stored. -/
theorem AMem.grow {ev' : Value} {m' : Nat} {xs' : List Value} {w' : World} (h : AMem A W F ev m xs w) (hg : w.grownBy w' ev.ownBlock) (ho : w'.ownsRow (A + 1) 51 2 ev' m' xs') : AMem A W F ev' m' xs' (w'.setCell ⟨A, 2, none⟩ ev') := by
  have hz := h.lt
  have hne : ∀ k, ev.ownBlock = some k → A + 1 ≤ k := fun k hk => (h.own.lt k hk).1
  have hblk : w'.heap[A]? = some (.cells (F.cells ev) 49 (0, 0)) := by
    rw [hg.block A hz (fun e => by have := hne A e.symm; omega)]; exact h.blk
  have hg' : w'.grownBy (w'.setCell ⟨A, 2, none⟩ ev') (some A) := ⟨rfl, rfl, rfl, by simp, fun k _ hk => heap_setCell_other w' ⟨A, 2, none⟩ k _ (fun e => hk (by simp [e]))⟩
  refine ⟨(h.bel.grown hg (by omega) (fun k hk => by have := hne k hk; omega)).setCell (Nat.le_refl _) _, ?_, ho.kept hg' ?_⟩
  · have := heap_setCell_same w' A 2 _ 49 ev' hblk
    rw [this]
    rfl
  · rcases ho.2 with ⟨e, _⟩ | ⟨g, cap, cur, e, hb, _⟩
    · left; rw [e]; rfl
    · right; rw [e]; simp [Value.ownBlock]; omega

theorem AMem.cellsBehind {w' : World} (h : AMem A W F ev m xs w) (hg : w.grownBy w' ev.ownBlock) (j : Nat) : w'.cell? ⟨A, j, none⟩ = (F.cells ev)[j]? ∧ w'.frozen? ⟨A, j, none⟩ = false ∧ A < w'.heap.size := by
  have hz := h.lt
  have hne : ∀ k, ev.ownBlock = some k → A + 1 ≤ k := fun k hk => (h.own.lt k hk).1
  have hblk : w'.heap[A]? = some (.cells (F.cells ev) 49 (0, 0)) := by
    rw [hg.block A hz (fun e => by have := hne A e.symm; omega)]; exact h.blk
  exact ⟨cell_of_row w' A j _ 49 (0, 0) hblk, frozen_of_row w' A j _ 49 hblk, (Array.getElem?_eq_some_iff.1 hblk).1⟩

def BlockPost (w : World) (e : Ending) (w' : World) : Prop := ∃ r : Int, e = .returned (.int .i64 r) ∧ ∃ n, w' = w.drewN n

set_option maxHeartbeats 400000 in
theorem block_any (x base : Int) (lv la : Int) (w : World) (c4 : w.cell? ⟨A, 4, none⟩ = some (.int .i64 la)) (c6 : w.cell? ⟨A, 6, none⟩ = some (.int .i64 lv)) :
    Calls Try.prog 28 #[.pointer (some ⟨A, 0, none⟩), .int .i64 x, .int .i64 base] w (BlockPost w) := by
  by_cases hx : lv ≤ x
  · go_enter Try.func28, Try.ntmps28
    go_wp2
    go_region
    all_goals
      go_wp2
      go_ret
      exact ⟨_, rfl, 1, rfl⟩
  · go_enter Try.func28, Try.ntmps28
    go_wp2
    go_ret
    exact ⟨_, rfl, 0, rfl⟩

def EdgePost (A : Nat) (W : World) (F : Ah) (m : Nat) (xs : List Value) (e : Ending) (w' : World) : Prop := e = .returned (.tuple #[]) ∧ ∃ ev', ∃ a b : Int, AMem A W F ev' (m + 1) (xs ++ [.int .i32 a, .int .i32 b]) w'

set_option maxHeartbeats 400000 in
theorem edge_any (x y : Int) (h : AMem A W F ev m xs w) (hm : m ≤ 1000000) :
    Calls Try.prog 27 #[.pointer (some ⟨A, 0, none⟩), .int .i64 x, .int .i64 y] w (EdgePost A W F m xs) := by
  obtain ⟨i0, hi, hz0, hz1, hz2⟩ := info_parts info51
  have c2 : w.cell? ⟨A, 2, none⟩ = some ev := h.cell 2
  have hlt := h.lt
  go_enter Try.func27, Try.ntmps27
  go_wp2_with (at_builtin; refine wpList_append_own _ rfl (.tmp 10) (.tmp 16) 47 rfl (A + 1) 51 i0 (.agg #[.int .i32 0, .int .i32 0]) 2 8 Try.underlying47 hi hz0 hz1 hz2 rfl (by decide) _ _ _ rfl (h.own.alloc _) ⟨w.heap.size, 0, none⟩ 1 1 [.int .i32 (wrap32 x), .int .i32 (wrap32 y)] rfl rfl ?c1 ?c2 ?c3 ?c4 ?c5 ?_)
  case c1 => exact cell_two_new _ _ _ _
  case c2 => simp [Value.oneCell']
  case c3 => unfold maxLen; omega
  case c4 => omega
  case c5 => simp; omega
  intro v' w1 ho hg _
  have hK := h.keep (w' := w.alloc (.cells #[.int .i32 (wrap32 x), .int .i32 (wrap32 y)] 51)) ((Below.refl _ _).alloc (Nat.le_refl _) _)
  have hex : ∃ g cap, v' = .slice (some ⟨g, 0, none⟩) (m + 1) cap := by
    rcases ho.2 with ⟨_, h0⟩ | ⟨g, cap, cur, e, _⟩
    · omega
    · exact ⟨g, cap, e⟩
  obtain ⟨g, cap, hv⟩ := hex
  subst hv
  obtain ⟨d2, f2, l2⟩ := hK.cellsBehind hg 2
  have d2' : w1.cell? ⟨A, 2, none⟩ = some ev := d2
  clear d2
  have hG := hK.grow hg ho
  clear c2 hg ho
  go_wp2
  go_end0
  exact ⟨rfl, _, _, _, hG⟩
end Go.Proofs.Qxb6603365a
