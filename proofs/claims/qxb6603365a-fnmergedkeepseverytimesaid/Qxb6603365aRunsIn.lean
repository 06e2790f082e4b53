/-
  FROM THE READING OF A '[][]int' THAT CAME IN TO THE WALKS' OWN WORD ('RunsP').
-/
import Derived.Test.Qxb6603365aRuns
import Derived.Deep.Matrix
namespace Go.Proofs.Qxb6603365a
open Go.ChangeShapes Go.WideShapes Go.ChangeAt Go.RowKit Go.Deep

def runsOf (len : Nat) (L : Nat → Nat) (Z : Nat → List Int) : List (List Int) := (List.range len).map fun r => (Z r).take (L r)

theorem runsOf_len (len : Nat) (L : Nat → Nat) (Z : Nat → List Int) : (runsOf len L Z).length = len := by simp [runsOf]
theorem runsOf_run {len : Nat} {L : Nat → Nat} {Z : Nat → List Int} {i : Nat} (h : i < len) : run (runsOf len L Z) i = (Z i).take (L i) := by
  have h' : i < (runsOf len L Z).length := by rw [runsOf_len]; exact h
  rw [run_eq h']
  simp [runsOf]

theorem runs_in {w : World} {a : Addr} {len cap : Nat} {A : Nat → Option Addr} {L C : Nat → Nat} {Z : Nat → List Int} (hl : len ≤ cap)
    (h : ∀ r, r < cap → w.cell? (a.add r) = some (.slice (A r) (L r) (C r)) ∧ L r ≤ C r ∧ C r ≤ maxLen ∧ (Z r).length = C r ∧ (∀ n ∈ Z r, (Lit.int .i64 n).wf = true) ∧ (A r = none → C r = 0) ∧
        ∀ a', A r = some a' → 0 ≤ a'.block ∧ ∀ c, c < C r → w.cell? (a'.add c) = some (.int .i64 ((Z r).getD c 0))) :
    RunsP (SliceOf .i64) w (some a) (runsOf len L Z) cap := by
  refine ⟨fun i hi => ?_, fun h => by cases h⟩
  rw [runsOf_len] at hi
  obtain ⟨b, off, spot⟩ := a
  have hspot : spot = none := by simpa [Addr.add] using World.cell?_spot (h 0 (by omega)).1
  subst hspot
  obtain ⟨hc, h1, h2, h3, _, h5, h6⟩ := h i (by omega)
  rw [Addr.add_lit] at hc
  have hlen : ((Z i).take (L i)).length = L i := by rw [List.length_take]; omega
  refine ⟨b, off, A i, C i, rfl, World.block_lt_of_cell? w _ hc, ?_, ?_⟩
  · rw [runsOf_run hi, hlen]; exact hc
  · rw [runsOf_run hi]
    refine ⟨?_, by rw [hlen]; exact h1, h5⟩
    intro j hj
    rw [hlen] at hj
    cases hA : A i with
    | none => have := h5 hA; omega
    | some a' =>
      obtain ⟨_, h7⟩ := h6 a' hA
      obtain ⟨b', off', spot'⟩ := a'
      have hspot' : spot' = none := by simpa [Addr.add] using World.cell?_spot (h7 0 (by omega))
      subst hspot'
      refine ⟨b', off', rfl, ?_⟩
      have h8 := h7 j (by omega)
      rw [Addr.add_lit] at h8
      rw [h8]
      have : j < (Z i).length := by omega
      simp [nth, hj, this]

theorem runs_none (w : World) : RunsP (SliceOf .i64) w none [] 0 := ⟨fun i hi => by simp at hi, fun _ => ⟨rfl, rfl⟩⟩
end Go.Proofs.Qxb6603365a
