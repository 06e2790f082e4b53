/-
  FROM THE SHELL's WORD ON A SLICE THAT CAME IN ('IsRow', written out) TO THE WALKS' OWN ('SliceOf').
-/
import Derived.Test.Qxb6603365aBase
import Derived.OpenShut
namespace Go.Proofs.Qxb6603365a
open Go.ChangeShapes Go.WideShapes Go.ChangeAt Go.RowKit

theorem row_slice {k : IntKind} {w : World} {a : Option Addr} {len cap : Nat} {zs : List Int}
    (h : (a = none ∧ len = 0 ∧ cap = 0 ∧ zs = []) ∨ ∃ x, a = some x ∧ len ≤ cap ∧ cap ≤ maxLen ∧ zs.length = cap ∧ (∀ i, i < zs.length → w.cell? (x.add i) = some (.int k (zs.getD i 0))) ∧ ∀ n ∈ zs, (Lit.int k n).wf = true) :
    (zs.take len).length = len ∧ len ≤ maxLen ∧ SliceOf k w a (zs.take len) cap ∧ ∀ n ∈ zs.take len, (Lit.int k n).wf = true := by
  rcases h with ⟨rfl, rfl, rfl, rfl⟩ | ⟨x, rfl, hl, hm, hz, hc, hw⟩
  · exact ⟨rfl, by unfold maxLen; omega, ⟨Reads.nil _ _ _, Nat.le_refl _, fun _ => rfl⟩, by simp⟩
  · have hlen : (zs.take len).length = len := by rw [List.length_take]; omega
    refine ⟨hlen, Nat.le_trans hl hm, ⟨?_, by omega, fun h => by cases h⟩, fun n hn => hw n (List.mem_of_mem_take hn)⟩
    intro i hi
    rw [hlen] at hi
    obtain ⟨b, off, spot⟩ := x
    have hci := hc i (by omega)
    have hspot : spot = none := by simpa [Addr.add] using World.cell?_spot (hc 0 (by omega))
    subst hspot
    refine ⟨b, off, rfl, ?_⟩
    have e : nth (zs.take len) i = zs.getD i 0 := by
      have h1 : i < (zs.take len).length := by omega
      have h2 : i < zs.length := by omega
      simp [nth, hi, h2]
    rw [e]
    rw [Addr.add_lit] at hci
    exact hci

theorem b32_of {zs : List Int} (h : ∀ n ∈ zs, (Lit.int .i32 n).wf = true) : B32 zs := by
  intro i
  by_cases hi : i < zs.length
  · have e : nth zs i = zs[i] := by simp [nth, hi]
    rw [e]
    have := bounds_i32 (h _ (List.getElem_mem hi))
    omega
  · have e : nth zs i = 0 := by simp [nth, hi]
    rw [e]
    omega
end Go.Proofs.Qxb6603365a
