/-
  THE MERGE OF 'zzSortInts' AS PLAIN ARITHMETIC OF LISTS.
-/
import Derived.Test.Qxb6603365aMergePlain
namespace Go.Proofs.Qxb6603365a

structure LI (l r out : List Int) (i j : Nat) : Prop where
  hi : i ≤ l.length
  hj : j ≤ r.length
  len : out.length = i + j
  perm : (out ++ (l.drop i ++ r.drop j)).Perm (l ++ r)
  asc : Asc out
  le : ∀ x ∈ out, ∀ y ∈ l.drop i ++ r.drop j, x ≤ y

theorem li_start (l r : List Int) : LI l r [] 0 0 := ⟨Nat.zero_le _, Nat.zero_le _, rfl, by simp, List.Pairwise.nil, by simp⟩

theorem asc_drop_le {l : List Int} (h : Asc l) {i : Nat} (hi : i < l.length) : ∀ y ∈ l.drop i, l[i] ≤ y := by
  intro y hy
  rw [List.drop_eq_getElem_cons hi] at hy
  rcases List.mem_cons.1 hy with e | hy
  · rw [e]; exact Int.le_refl _
  · have h2 : Asc (l.drop i) := by
      unfold Asc at h ⊢
      rw [← List.take_append_drop i l, List.pairwise_append] at h
      exact h.2.1
    unfold Asc at h2
    rw [List.drop_eq_getElem_cons hi, List.pairwise_cons] at h2
    exact h2.1 y hy

theorem li_left {l r out : List Int} {i j : Nat} (h : LI l r out i j) (al : Asc l) (ar : Asc r) (hi : i < l.length) (hc : ∀ hj : j < r.length, l[i] ≤ r[j]) : LI l r (out ++ [l[i]]) (i + 1) j := by
  have hd := List.drop_eq_getElem_cons hi
  have hmem : l[i] ∈ l.drop i ++ r.drop j := by rw [hd]; exact List.mem_append.2 (.inl (List.mem_cons_self ..))
  refine ⟨hi, h.hj, by simp [h.len]; omega, ?_, ?_, ?_⟩
  · refine List.Perm.trans ?_ h.perm
    rw [hd, List.append_assoc]
    exact List.Perm.refl _
  · unfold Asc
    rw [List.pairwise_append]
    refine ⟨h.asc, by simp, ?_⟩
    intro x hx y hy
    have hy' : y = l[i] := by simpa using hy
    rw [hy']
    exact h.le x hx _ hmem
  · intro x hx y hy
    have hy2 : y ∈ l.drop i ++ r.drop j := by
      rw [hd]
      rcases List.mem_append.1 hy with a | a
      · exact List.mem_append.2 (.inl (List.mem_cons_of_mem _ a))
      · exact List.mem_append.2 (.inr a)
    rcases List.mem_append.1 hx with hx | hx
    · exact h.le x hx y hy2
    · have hx' : x = l[i] := by simpa using hx
      rw [hx']
      rcases List.mem_append.1 hy2 with a | a
      · exact asc_drop_le al hi y a
      · by_cases hj : j < r.length
        · exact Int.le_trans (hc hj) (asc_drop_le ar hj y a)
        · rw [List.drop_eq_nil_of_le (by omega)] at a
          cases a

theorem li_right {l r out : List Int} {i j : Nat} (h : LI l r out i j) (al : Asc l) (ar : Asc r) (hj : j < r.length) (hc : ∀ hi : i < l.length, r[j] ≤ l[i]) : LI l r (out ++ [r[j]]) i (j + 1) := by
  have hd := List.drop_eq_getElem_cons hj
  have hmem : r[j] ∈ l.drop i ++ r.drop j := by rw [hd]; exact List.mem_append.2 (.inr (List.mem_cons_self ..))
  refine ⟨h.hi, hj, by simp [h.len]; omega, ?_, ?_, ?_⟩
  · refine List.Perm.trans ?_ h.perm
    rw [hd, List.append_assoc]
    refine List.Perm.append_left _ ?_
    exact (List.perm_middle (l₁ := l.drop i) (a := r[j]) (l₂ := r.drop (j + 1))).symm
  · unfold Asc
    rw [List.pairwise_append]
    refine ⟨h.asc, by simp, ?_⟩
    intro x hx y hy
    have hy' : y = r[j] := by simpa using hy
    rw [hy']
    exact h.le x hx _ hmem
  · intro x hx y hy
    have hy2 : y ∈ l.drop i ++ r.drop j := by
      rw [hd]
      rcases List.mem_append.1 hy with a | a
      · exact List.mem_append.2 (.inl a)
      · exact List.mem_append.2 (.inr (List.mem_cons_of_mem _ a))
    rcases List.mem_append.1 hx with hx | hx
    · exact h.le x hx y hy2
    · have hx' : x = r[j] := by simpa using hx
      rw [hx']
      rcases List.mem_append.1 hy2 with a | a
      · by_cases hi : i < l.length
        · exact Int.le_trans (hc hi) (asc_drop_le al hi y a)
        · rw [List.drop_eq_nil_of_le (by omega)] at a
          cases a
      · exact asc_drop_le ar hj y a

theorem li_done {l r out : List Int} {i j : Nat} (h : LI l r out i j) (hi : l.length ≤ i) (hj : r.length ≤ j) : out.Perm (l ++ r) ∧ Asc out := by
  have := h.perm
  rw [List.drop_eq_nil_of_le hi, List.drop_eq_nil_of_le hj] at this
  exact ⟨by simpa using this, h.asc⟩

/-- Two lists in order that hold the same numbers, each as often, are one. -/
theorem asc_unique {l r : List Int} (hl : Asc l) (hr : Asc r) (h : l.Perm r) : l = r :=
  List.Perm.eq_of_pairwise (le := (· ≤ ·)) (fun _ _ _ _ h1 h2 => Int.le_antisymm h1 h2) hl hr h
end Go.Proofs.Qxb6603365a
