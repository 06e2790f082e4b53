/-
  'sim.merged' (23): the runs of versions, and the memory of the merge.
-/
import Derived.Test.Qxb6603365aCloneRuns
import Derived.Test.Qxb6603365aRowLaws
import Derived.Deep.DeepCutAuto
namespace Go.Proofs.Qxb6603365a
open Go.ChangeShapes Go.WideShapes Go.ChangeAt Go.RowKit

/-- A run of versions whose times are r. -/
def VSlice : Phi := fun w a r c => r.length ≤ c ∧ ∀ j, j < r.length → ∃ b off, a = some ⟨b, off, none⟩ ∧ b < w.heap.size ∧
  w.cell? ⟨b, off + j * 4, none⟩ = some (.int .i64 0) ∧ w.cell? ⟨b, off + j * 4 + 1, none⟩ = some (.int .i64 (nth r j)) ∧ w.cell? ⟨b, off + j * 4 + 2, none⟩ = some (.pointer none) ∧ w.cell? ⟨b, off + j * 4 + 3, none⟩ = some (.int .i32 0)

theorem heap_lt_of_cell {w : World} {b o : Nat} {v : Value} (h : w.cell? ⟨b, o, none⟩ = some v) : b < w.heap.size := World.block_lt_of_cell? w _ h

theorem stable_v : Stable VSlice := by
  intro w w' a r c h hs
  refine ⟨h.1, fun j hj => ?_⟩
  obtain ⟨b, off, e, _, c0, c1, c2, c3⟩ := h.2 j hj
  have hb := hs ⟨b, off, none⟩ e
  have hcell : ∀ o, w'.cell? ⟨b, o, none⟩ = w.cell? ⟨b, o, none⟩ := fun o => World.cell?_of_block (w := w) (a := ⟨b, o, none⟩) hb
  have c0' := (hcell (off + j * 4)).trans c0
  exact ⟨b, off, e, heap_lt_of_cell c0', c0', (hcell _).trans c1, (hcell _).trans c2, (hcell _).trans c3⟩

theorem VSlice.below {w w' : World} {a : Option Addr} {r : List Int} {c : Nat} (h : VSlice w a r c) (hb : Below w.heap.size w w') : VSlice w' a r c := by
  refine ⟨h.1, fun j hj => ?_⟩
  obtain ⟨b, off, e, hl, c0, c1, c2, c3⟩ := h.2 j hj
  exact ⟨b, off, e, Nat.lt_of_lt_of_le hl hb.size, (hb.cell (by exact hl)).trans c0, (hb.cell (by exact hl)).trans c1, (hb.cell (by exact hl)).trans c2, (hb.cell (by exact hl)).trans c3⟩

/-- The three rows of the merge. -/
structure MM (w : World) (B ge gi n N : Nat) (S : Nat → Nat) (E I : Nat → Int) (wr : World) : Prop where
  bel : Below B w wr
  rs : wr.rowIs B 3 (n + 1) (fun j => .int .i64 ((S j : Nat) : Int))
  re : wr.rowIs ge 3 N (fun j => .int .i64 (E j))
  ri : wr.rowIs gi 3 N (fun j => .int .i64 (I j))
  h1 : B < ge
  h2 : B < gi
  h3 : ge ≠ gi

variable {w : World} {B ge gi n N : Nat} {S : Nat → Nat} {E I : Nat → Int} {wr : World}

theorem MM.like {w' : World} (h : MM w B ge gi n N S E I wr) (h1 : w'.heap = wr.heap) (h2 : w'.os = wr.os) (h3 : w'.tape = wr.tape) (h4 : w'.output = wr.output) : MM w B ge gi n N S E I w' :=
  ⟨h.bel.trans ⟨h2, h3, h4, by rw [h1]; exact Nat.le_refl _, fun k _ => by rw [h1]⟩, h.rs.of_block (by rw [h1]), h.re.of_block (by rw [h1]), h.ri.of_block (by rw [h1]), h.h1, h.h2, h.h3⟩

theorem MM.swap (h : MM w B ge gi n N S E I wr) : MM w B gi ge n N S I E wr := ⟨h.bel, h.rs, h.ri, h.re, h.h2, h.h1, fun e => h.h3 e.symm⟩

theorem MM.keep {w' : World} (h : MM w B ge gi n N S E I wr) (hb : Below wr.heap.size wr w') : MM w B ge gi n N S E I w' :=
  ⟨h.bel.trans (hb.mono (by have := h.rs.lt; omega)), h.rs.of_block (hb.block _ h.rs.lt), h.re.of_block (hb.block _ h.re.lt), h.ri.of_block (hb.block _ h.ri.lt), h.h1, h.h2, h.h3⟩

/-- 'into[k] = v'. -/
theorem MM.setI (h : MM w B ge gi n N S E I wr) (k : Nat) (v : Int) : MM w B ge gi n N S E (updI I k v) (wr.setCell ⟨gi, k, none⟩ (.int .i64 v)) := by
  have a1 := h.h1
  have a2 := h.h2
  have a3 := h.h3
  refine ⟨h.bel.setCell (by show B ≤ gi; omega) _, h.rs.setOther (by show B ≠ gi; omega) _, h.re.setOther (by show ge ≠ gi; exact a3) _, (h.ri.set k _).congr ?_, a1, a2, a3⟩
  intro j _
  by_cases e : j = k
  · simp [e, updI]
  · simp [e, updI]

/-- A step on the row 'into'. -/
theorem MM.stepI {w' : World} {I' : Nat → Int} {f : Nat → Value} (h : MM w B ge gi n N S E I wr) (hs : RowStep wr w' gi 3 N f) (hf : ∀ j, j < N → f j = .int .i64 (I' j)) : MM w B ge gi n N S E I' w' := by
  have a1 := h.h1
  have a2 := h.h2
  have a3 := h.h3
  exact ⟨hs.below h.bel (by omega), hs.rowOther h.rs (by omega), hs.rowOther h.re a3, hs.row.congr hf, a1, a2, a3⟩

/-- A step on the row 'starts'. -/
theorem MM.stepS {w' : World} {S' : Nat → Nat} {f : Nat → Value} (h : MM w B ge gi n N S E I wr) (hs : RowStep wr w' B 3 (n + 1) f) (hf : ∀ j, j < n + 1 → f j = .int .i64 ((S' j : Nat) : Int)) : MM w B ge gi n N S' E I w' := by
  have a1 := h.h1
  have a2 := h.h2
  exact ⟨hs.below h.bel (Nat.le_refl _), hs.row.congr hf, hs.rowOther h.re (by omega), hs.rowOther h.ri (by omega), a1, a2, h.h3⟩

theorem MM.congrS {S' : Nat → Nat} (h : MM w B ge gi n N S E I wr) (hf : ∀ j, j < n + 1 → S j = S' j) : MM w B ge gi n N S' E I wr :=
  ⟨h.bel, h.rs.congr (fun j hj => by rw [hf j hj]), h.re, h.ri, h.h1, h.h2, h.h3⟩

def MPost (rs : List (List Int)) (w : World) (e : Ending) (w' : World) : Prop :=
  ∃ b out, e = .returned (.slice (some ⟨b, 0, none⟩) out.length out.length) ∧ MergeOut rs out ∧ Reads .i64 w' (some ⟨b, 0, none⟩) out ∧ Below w.heap.size w w'

theorem mm_done {rs : List (List Int)} {m : Nat} (h : MM w w.heap.size ge gi n N S E I wr) (o : OutI (∀ r ∈ rs, Asc r) rs.flatten N E S m) (hm : m ≤ 2) : MPost rs w (.returned (.slice (some ⟨ge, 0, none⟩) N N)) wr := by
  obtain ⟨o1, o2⟩ := out_done o hm
  have hl : (seg E 0 N).length = N := by rw [seg_len]; omega
  refine ⟨ge, seg E 0 N, by rw [hl], ⟨o1, o2⟩, ?_, h.bel⟩
  intro i hi
  rw [hl] at hi
  refine ⟨ge, 0, rfl, ?_⟩
  rw [Nat.zero_add, h.re.cell hi]
  have : nth (seg E 0 N) i = E i := by simp [nth, seg, hi]
  rw [this]
end Go.Proofs.Qxb6603365a
