/-
  SHARED BY ALL STATEMENTS OF THIS SEAT: closed facts of the program's tables, and how a slice of integers reads.
-/
import Derived.Test.Qxb6603365aRows
import Derived.WalkKit
import Derived.WalkSmall
import Derived.ProofKit
import Derived.Below
import Derived.WalkSpells
import Derived.Deep.LoopGhost
import Derived.Deep.QuietTactic
import Derived.BigQuiet
import Derived.Deep.OwnRows
namespace Go.Proofs.Qxb6603365a
open Go.ChangeShapes Go.WideShapes Go.ChangeAt Go.RowKit

theorem info3 : (Try.prog.info? 3).map (fun i => (i.zero, i.size, i.bytes)) = some (some (.int .i64 0), 1, 8) := by kernel_rfl
theorem info4 : (Try.prog.info? 4).map (fun i => (i.zero, i.size, i.bytes)) = some (some (.bool false), 1, 1) := by kernel_rfl
theorem info21 : (Try.prog.info? 21).map (fun i => (i.zero, i.size, i.bytes)) = some (some (.int .i32 0), 1, 4) := by kernel_rfl

/-- The i-th number of a list (a plain name, that the walk's rules do not open). -/
def nth (zs : List Int) (i : Nat) : Int := zs.getD i 0

/-- WHAT THE WALK IS TOLD OF A SLICE OF INTEGERS: its elements are 'zs'. -/
def Reads (k : IntKind) (w : World) (a : Option Addr) (zs : List Int) : Prop :=
  ∀ i, i < zs.length → ∃ b off, a = some ⟨b, off, none⟩ ∧ w.cell? ⟨b, off + i, none⟩ = some (.int k (nth zs i))

theorem Reads.below {k : IntKind} {w w' : World} {a : Option Addr} {zs : List Int} (h : Reads k w a zs) (hb : Below w.heap.size w w') : Reads k w' a zs := by
  intro i hi
  obtain ⟨b, off, e, hc⟩ := h i hi
  exact ⟨b, off, e, by rw [hb.cell (World.block_lt_of_cell? w _ hc)]; exact hc⟩

theorem Reads.nil (k : IntKind) (w : World) (a : Option Addr) : Reads k w a [] := by intro i hi; simp at hi

theorem Reads.at {k : IntKind} {w : World} {a : Option Addr} {zs : List Int} (h : Reads k w a zs) {i : Nat} (hi : i < zs.length) : ∃ b off, a = some ⟨b, off, none⟩ ∧ b < w.heap.size ∧ ∀ j, j < zs.length → w.cell? ⟨b, off + j, none⟩ = some (.int k (nth zs j)) := by
  obtain ⟨b, off, e, hc⟩ := h i hi
  refine ⟨b, off, e, World.block_lt_of_cell? w _ hc, fun j hj => ?_⟩
  obtain ⟨b', off', e', hc'⟩ := h j hj
  rw [e] at e'
  cases e'
  exact hc'

/-- A slice value '.slice a zs.length cap' whose elements are 'zs'. -/
structure SliceOf (k : IntKind) (w : World) (a : Option Addr) (zs : List Int) (cap : Nat) : Prop where
  reads : Reads k w a zs
  le : zs.length ≤ cap
  nil : a = none → cap = 0

theorem SliceOf.below {k : IntKind} {w w' : World} {a : Option Addr} {zs : List Int} {cap : Nat} (h : SliceOf k w a zs cap) (hb : Below w.heap.size w w') : SliceOf k w' a zs cap := ⟨h.reads.below hb, h.le, h.nil⟩

/-- The numbers are int32's. -/
def B32 (zs : List Int) : Prop := ∀ i, -2147483648 ≤ nth zs i ∧ nth zs i ≤ 2147483647

theorem below_drawn (w : World) (n : Nat) : Below w.heap.size w (w.drewN n) := ⟨rfl, rfl, rfl, Nat.le_refl _, fun _ _ => rfl⟩

set_option maxHeartbeats 400000 in
theorem bytesFK_any (a0 a1 : Option Addr) (n0 n1 c0 c1 : Nat) (w : World) (h0 : n0 ≤ maxLen) (h1 : n1 ≤ maxLen) :
    Calls Try.prog 20 #[.slice a0 n0 c0, .slice a1 n1 c1] w fun e w' => e = .returned (.bool (decide (n0 + n1 ≤ 1048576))) ∧ w = w' := by
  unfold maxLen at h0 h1
  by_cases g0 : n0 ≤ 1048576
  · by_cases g1 : n1 ≤ 1048576
    · by_cases g2 : n0 + n1 ≤ 1048576
      · rw [decide_eq_true g2]
        go_enter Try.func20, Try.ntmps20
        go_wp2
        go_ret
        exact ⟨rfl, rfl⟩
      · rw [decide_eq_false g2]
        go_enter Try.func20, Try.ntmps20
        go_wp2
        go_ret
        exact ⟨rfl, rfl⟩
    · rw [decide_eq_false (by omega)]
      go_enter Try.func20, Try.ntmps20
      go_wp2
      go_ret
      exact ⟨rfl, rfl⟩
  · rw [decide_eq_false (by omega)]
    go_enter Try.func20, Try.ntmps20
    go_wp2
    go_ret
    exact ⟨rfl, rfl⟩
end Go.Proofs.Qxb6603365a
