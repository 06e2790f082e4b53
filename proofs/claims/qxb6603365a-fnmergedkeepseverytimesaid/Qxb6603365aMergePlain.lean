/-
  THE MERGE OF 'sim.merged' AS PLAIN ARITHMETIC OF LISTS: what one merge of two runs, one pass over all pairs, and all passes make of the numbers.
-/
namespace Go.Proofs.Qxb6603365a

/-- The numbers of f from place a on, up to b. -/
def seg (f : Nat → Int) (a b : Nat) : List Int := (List.range (b - a)).map fun j => f (a + j)

variable {f g : Nat → Int} {a b c k : Nat}

theorem seg_len (f : Nat → Int) (a b : Nat) : (seg f a b).length = b - a := by simp [seg]
theorem seg_nil (f : Nat → Int) (h : b ≤ a) : seg f a b = [] := by simp [seg, Nat.sub_eq_zero_of_le h]
theorem seg_snoc (f : Nat → Int) (h : a ≤ b) : seg f a (b + 1) = seg f a b ++ [f b] := by
  have e : b + 1 - a = (b - a) + 1 := by omega
  have e2 : a + (b - a) = b := by omega
  simp [seg, e, List.range_succ, e2]
theorem seg_congr (h : ∀ j, a ≤ j → j < b → f j = g j) : seg f a b = seg g a b := by
  unfold seg
  apply List.map_congr_left
  intro j hj
  rw [List.mem_range] at hj
  exact h _ (by omega) (by omega)
theorem seg_append (f : Nat → Int) (h1 : a ≤ b) (h2 : b ≤ c) : seg f a c = seg f a b ++ seg f b c := by
  induction c with
  | zero =>
    have : b = 0 := by omega
    subst this
    rw [seg_nil f (show 0 ≤ 0 from Nat.le_refl _)]; simp
  | succ c ih =>
    by_cases e : b = c + 1
    · subst e
      rw [seg_nil f (Nat.le_refl (c + 1))]; simp
    · rw [seg_snoc f (by omega), seg_snoc f (by omega), ih (by omega), List.append_assoc]
theorem seg_one (f : Nat → Int) (a : Nat) : seg f a (a + 1) = [f a] := by
  rw [seg_snoc f (Nat.le_refl a), seg_nil f (Nat.le_refl a)]; rfl
theorem seg_cons (f : Nat → Int) (h : a < b) : seg f a b = f a :: seg f (a + 1) b := by
  rw [seg_append f (show a ≤ a + 1 by omega) (show a + 1 ≤ b by omega), seg_one]; rfl
theorem mem_seg {x : Int} : x ∈ seg f a b ↔ ∃ j, a ≤ j ∧ j < b ∧ f j = x := by
  simp only [seg, List.mem_map, List.mem_range]
  constructor
  · rintro ⟨j, hj, e⟩
    exact ⟨a + j, by omega, by omega, e⟩
  · rintro ⟨j, h1, h2, e⟩
    exact ⟨j - a, by omega, by rw [show a + (j - a) = j by omega]; exact e⟩

def updI (f : Nat → Int) (i : Nat) (v : Int) : Nat → Int := fun j => if j = i then v else f j
theorem updI_same (f : Nat → Int) (i : Nat) (v : Int) : updI f i v i = v := by simp [updI]
theorem updI_other (f : Nat → Int) {i j : Nat} (v : Int) (h : j ≠ i) : updI f i v j = f j := by simp [updI, h]
theorem seg_updI (f : Nat → Int) {a k : Nat} (v : Int) (h : a ≤ k) : seg (updI f k v) a (k + 1) = seg f a k ++ [v] := by
  rw [seg_snoc _ h, updI_same, seg_congr (g := f)]
  intro j _ hj
  exact updI_other f v (by omega)

/-- In order. -/
def Asc (l : List Int) : Prop := l.Pairwise (· ≤ ·)

theorem asc_seg_le {f : Nat → Int} {a b : Nat} (h : Asc (seg f a b)) {i j : Nat} (h1 : a ≤ i) (h2 : i ≤ j) (h3 : j < b) : f i ≤ f j := by
  by_cases e : i = j
  · subst e; exact Int.le_refl _
  · unfold Asc at h
    rw [seg_append f (show a ≤ j from by omega) (show j ≤ b by omega), List.pairwise_append] at h
    exact h.2.2 (f i) (mem_seg.2 ⟨i, h1, by omega, rfl⟩) (f j) (mem_seg.2 ⟨j, by omega, h3, rfl⟩)

theorem asc_sub {f : Nat → Int} {a b i : Nat} (h : Asc (seg f a b)) (h1 : a ≤ i) (h2 : i ≤ b) : Asc (seg f i b) := by
  unfold Asc at h ⊢
  rw [seg_append f h1 h2, List.pairwise_append] at h
  exact h.2.1

/-- One merge under way: 'a' and 'b' are what is left of the two runs, 'k' where the next number goes. -/
structure MI (P : Prop) (E I : Nat → Int) (lo mid hi a b k : Nat) : Prop where
  h1 : lo ≤ a
  h2 : a ≤ mid
  h3 : mid ≤ b
  h4 : b ≤ hi
  hk : k + mid = a + b
  perm : (seg I lo k ++ (seg E a mid ++ seg E b hi)).Perm (seg E lo hi)
  sort : P → Asc (seg I lo k) ∧ ∀ x ∈ seg I lo k, ∀ y ∈ seg E a mid ++ seg E b hi, x ≤ y

theorem mi_start (P : Prop) (E I : Nat → Int) {lo mid hi : Nat} (h1 : lo ≤ mid) (h2 : mid ≤ hi) : MI P E I lo mid hi lo mid lo := by
  refine ⟨Nat.le_refl _, h1, Nat.le_refl _, h2, rfl, ?_, ?_⟩
  · rw [seg_nil I (Nat.le_refl lo), ← seg_append E h1 h2]
    exact List.Perm.refl _
  · intro _
    rw [seg_nil I (Nat.le_refl lo)]
    exact ⟨List.Pairwise.nil, by simp⟩

theorem mi_takeB {P : Prop} {E I : Nat → Int} {lo mid hi a b k : Nat} (h : MI P E I lo mid hi a b k) (hb : b < hi) (lt : E b < E a) (s1 : P → Asc (seg E lo mid)) (s2 : P → Asc (seg E mid hi)) :
    MI P E (updI I k (E b)) lo mid hi a (b + 1) (k + 1) := by
  have e1 := h.h1
  have e2 := h.h3
  have e3 := h.hk
  have e4 := h.h2
  refine ⟨h.h1, h.h2, by omega, hb, by omega, ?_, ?_⟩
  · rw [seg_updI I _ (show lo ≤ k by omega)]
    refine List.Perm.trans ?_ h.perm
    rw [seg_cons E hb, List.append_assoc]
    refine List.Perm.append_left _ ?_
    exact (List.perm_middle (l₁ := seg E a mid) (a := E b) (l₂ := seg E (b + 1) hi)).symm
  · intro p
    rw [seg_updI I _ (show lo ≤ k by omega)]
    obtain ⟨q1, q2⟩ := h.sort p
    have hmem : E b ∈ seg E a mid ++ seg E b hi := List.mem_append.2 (.inr (mem_seg.2 ⟨b, Nat.le_refl _, hb, rfl⟩))
    refine ⟨?_, ?_⟩
    · unfold Asc
      rw [List.pairwise_append]
      refine ⟨q1, by simp, ?_⟩
      intro x hx y hy
      have hy' : y = E b := by simpa using hy
      rw [hy']
      exact q2 x hx _ hmem
    · intro x hx y hy
      rcases List.mem_append.1 hx with hx | hx
      · refine q2 x hx y ?_
        rcases List.mem_append.1 hy with hy | hy
        · exact List.mem_append.2 (.inl hy)
        · rw [seg_cons E hb]
          exact List.mem_append.2 (.inr (List.mem_cons_of_mem _ hy))
      · have hx' : x = E b := by simpa using hx
        subst hx'
        rcases List.mem_append.1 hy with hy | hy
        · obtain ⟨j, j1, j2, rfl⟩ := mem_seg.1 hy
          have := asc_seg_le (s1 p) (show lo ≤ a by omega) j1 j2
          omega
        · obtain ⟨j, j1, j2, rfl⟩ := mem_seg.1 hy
          exact asc_seg_le (s2 p) (show mid ≤ b by omega) (show b ≤ j by omega) j2

theorem mi_takeA {P : Prop} {E I : Nat → Int} {lo mid hi a b k : Nat} (h : MI P E I lo mid hi a b k) (ha : a < mid) (nlt : ¬ E b < E a) (s1 : P → Asc (seg E lo mid)) (s2 : P → Asc (seg E mid hi)) :
    MI P E (updI I k (E a)) lo mid hi (a + 1) b (k + 1) := by
  have e1 := h.h1
  have e2 := h.h3
  have e3 := h.hk
  refine ⟨by omega, ha, h.h3, h.h4, by omega, ?_, ?_⟩
  · rw [seg_updI I _ (show lo ≤ k by omega)]
    refine List.Perm.trans ?_ h.perm
    rw [seg_cons E ha, List.append_assoc]
    exact List.Perm.refl _
  · intro p
    rw [seg_updI I _ (show lo ≤ k by omega)]
    obtain ⟨q1, q2⟩ := h.sort p
    have hmem : E a ∈ seg E a mid ++ seg E b hi := List.mem_append.2 (.inl (mem_seg.2 ⟨a, Nat.le_refl _, ha, rfl⟩))
    refine ⟨?_, ?_⟩
    · unfold Asc
      rw [List.pairwise_append]
      refine ⟨q1, by simp, ?_⟩
      intro x hx y hy
      have hy' : y = E a := by simpa using hy
      rw [hy']
      exact q2 x hx _ hmem
    · intro x hx y hy
      rcases List.mem_append.1 hx with hx | hx
      · refine q2 x hx y ?_
        rcases List.mem_append.1 hy with hy | hy
        · rw [seg_cons E ha]
          exact List.mem_append.2 (.inl (List.mem_cons_of_mem _ hy))
        · exact List.mem_append.2 (.inr hy)
      · have hx' : x = E a := by simpa using hx
        subst hx'
        rcases List.mem_append.1 hy with hy | hy
        · obtain ⟨j, j1, j2, rfl⟩ := mem_seg.1 hy
          exact asc_seg_le (s1 p) (show lo ≤ a by omega) (show a ≤ j by omega) j2
        · obtain ⟨j, j1, j2, rfl⟩ := mem_seg.1 hy
          have := asc_seg_le (s2 p) (show mid ≤ b by omega) j1 j2
          omega

/-- The merge's end: what was left of the two runs has been laid behind. -/
theorem mi_finish {P : Prop} {E I I2 : Nat → Int} {lo mid hi a b k : Nat} (h : MI P E I lo mid hi a b k) (hend : a = mid ∨ b = hi) (s1 : P → Asc (seg E lo mid)) (s2 : P → Asc (seg E mid hi))
    (f1 : ∀ j, lo ≤ j → j < k → I2 j = I j) (f2 : seg I2 k hi = seg E a mid ++ seg E b hi) : (seg I2 lo hi).Perm (seg E lo hi) ∧ (P → Asc (seg I2 lo hi)) := by
  have e1 := h.h1
  have e2 := h.h2
  have e3 := h.h3
  have e4 := h.h4
  have e5 := h.hk
  have e6 : seg I2 lo hi = seg I lo k ++ (seg E a mid ++ seg E b hi) := by
    rw [seg_append I2 (show lo ≤ k by omega) (show k ≤ hi by omega), f2, seg_congr (g := I) f1]
  rw [e6]
  refine ⟨h.perm, fun p => ?_⟩
  obtain ⟨q1, q2⟩ := h.sort p
  unfold Asc
  rw [List.pairwise_append]
  refine ⟨q1, ?_, q2⟩
  rcases hend with e | e
  · rw [e, seg_nil E (Nat.le_refl mid)]
    exact asc_sub (s2 p) (by omega) h.h4
  · rw [e, seg_nil E (Nat.le_refl hi), List.append_nil]
    exact asc_sub (s1 p) h.h1 h.h2

/-! ### All passes -/

def updN (f : Nat → Nat) (i : Nat) (v : Nat) : Nat → Nat := fun j => if j = i then v else f j

/-- Before a pass: m places where the runs start and end. -/
structure OutI (P : Prop) (flat : List Int) (N : Nat) (E : Nat → Int) (S : Nat → Nat) (m : Nat) : Prop where
  pos : 1 ≤ m
  s0 : S 0 = 0
  mono : ∀ i, i + 1 < m → S i ≤ S (i + 1)
  last : S (m - 1) = N
  perm : (seg E 0 N).Perm flat
  sort : P → ∀ i, i + 1 < m → Asc (seg E (S i) (S (i + 1)))

/-- In the midst of a pass: t pairs are merged. -/
structure MidI (P : Prop) (E I : Nat → Int) (S K : Nat → Nat) (m t : Nat) : Prop where
  tb : 2 * t ≤ m
  k0 : K 0 = 0
  mono : ∀ i, i < t → K i ≤ K (i + 1)
  kt : K t = S (min (2 * t) (m - 1))
  perm : (seg I 0 (K t)).Perm (seg E 0 (K t))
  sort : P → ∀ i, i < t → Asc (seg I (K i) (K (i + 1)))

theorem OutI.mono_le {P : Prop} {flat : List Int} {N : Nat} {E : Nat → Int} {S : Nat → Nat} {m : Nat} (h : OutI P flat N E S m) (i j : Nat) (hij : i ≤ j) (hj : j < m) : S i ≤ S j := by
  induction j with
  | zero => have : i = 0 := by omega
            rw [this]; exact Nat.le_refl _
  | succ j ih =>
    by_cases e : i = j + 1
    · rw [e]; exact Nat.le_refl _
    · exact Nat.le_trans (ih (by omega) (by omega)) (h.mono j hj)

theorem OutI.le {P : Prop} {flat : List Int} {N : Nat} {E : Nat → Int} {S : Nat → Nat} {m : Nat} (h : OutI P flat N E S m) (i : Nat) (hi : i < m) : S i ≤ N := by
  have h1 := h.last
  have h2 := h.mono_le i (m - 1) (by omega) (by have := h.pos; omega)
  omega

theorem mid_start {P : Prop} {flat : List Int} {N : Nat} {E : Nat → Int} {S : Nat → Nat} {m : Nat} (h : OutI P flat N E S m) (I : Nat → Int) : MidI P E I S S m 0 := by
  refine ⟨by omega, h.s0, fun i hi => by omega, by rw [Nat.mul_zero, Nat.zero_min], ?_, fun _ i hi => by omega⟩
  rw [h.s0, seg_nil I (Nat.le_refl 0), seg_nil E (Nat.le_refl 0)]

theorem mid_step {P : Prop} {flat : List Int} {N : Nat} {E I I2 : Nat → Int} {S K : Nat → Nat} {m t hi : Nat} (o : OutI P flat N E S m) (h : MidI P E I S K m t) (hlt : 2 * t + 1 < m) (hhi : hi = S (min (2 * t + 2) (m - 1)))
    (f1 : ∀ j, j < S (2 * t) → I2 j = I j) (f2 : (seg I2 (S (2 * t)) hi).Perm (seg E (S (2 * t)) hi)) (f3 : P → Asc (seg I2 (S (2 * t)) hi)) :
    MidI P E I2 S (updN K (t + 1) hi) m (t + 1) := by
  have hkt : K t = S (2 * t) := by rw [h.kt, Nat.min_eq_left (by omega)]
  have hle : S (2 * t) ≤ hi := by rw [hhi]; exact o.mono_le _ _ (by omega) (by omega)
  have hu : ∀ i, i ≤ t → updN K (t + 1) hi i = K i := fun i hi' => by simp only [updN]; rw [if_neg (by omega)]
  have hut : updN K (t + 1) hi (t + 1) = hi := by simp [updN]
  refine ⟨by omega, ?_, ?_, ?_, ?_, ?_⟩
  · rw [hu 0 (by omega)]; exact h.k0
  · intro i hi'
    by_cases e : i = t
    · subst e
      rw [hu i (Nat.le_refl _), hut, hkt]; exact hle
    · rw [hu i (by omega), hu (i + 1) (by omega)]
      exact h.mono i (by omega)
  · rw [hut, hhi]
    have e2 : 2 * (t + 1) = 2 * t + 2 := by omega
    rw [e2]
  · rw [hut, seg_append I2 (Nat.zero_le _) hle, seg_append E (Nat.zero_le _) hle]
    refine List.Perm.append ?_ f2
    rw [seg_congr (g := I) (fun j _ hj => f1 j hj)]
    have := h.perm
    rw [hkt] at this
    exact this
  · intro p i hi'
    by_cases e : i = t
    · subst e
      rw [hu i (Nat.le_refl _), hut, hkt]
      exact f3 p
    · rw [hu i (by omega), hu (i + 1) (by omega)]
      have hm : K (i + 1) ≤ K t := by
        have : ∀ d, i + 1 + d ≤ t → K (i + 1) ≤ K (i + 1 + d) := by
          intro d
          induction d with
          | zero => intro _; exact Nat.le_refl _
          | succ d ih => intro hd; exact Nat.le_trans (ih (by omega)) (h.mono (i + 1 + d) (by omega))
        have h2 := this (t - (i + 1)) (by omega)
        rw [show i + 1 + (t - (i + 1)) = t by omega] at h2
        exact h2
      rw [seg_congr (g := I) (fun j _ hj => f1 j (by omega))]
      exact h.sort p i (by omega)

theorem mid_done {P : Prop} {flat : List Int} {N : Nat} {E I : Nat → Int} {S K : Nat → Nat} {m t : Nat} (o : OutI P flat N E S m) (h : MidI P E I S K m t) (hge : m ≤ 2 * t + 1) : OutI P flat N I K (t + 1) := by
  have hN : K t = N := by
    rw [h.kt, Nat.min_eq_right (by omega)]
    exact o.last
  refine ⟨by omega, h.k0, fun i hi => h.mono i (by omega), hN, ?_, fun p i hi => h.sort p i (by omega)⟩
  have := h.perm
  rw [hN] at this
  exact this.trans o.perm

/-- What is known of the answer. -/
def MergeOut (rs : List (List Int)) (out : List Int) : Prop := out.Perm rs.flatten ∧ ((∀ r ∈ rs, Asc r) → Asc out)

theorem out_done {P : Prop} {flat : List Int} {N : Nat} {E : Nat → Int} {S : Nat → Nat} {m : Nat} (o : OutI P flat N E S m) (hm : m ≤ 2) : (seg E 0 N).Perm flat ∧ (P → Asc (seg E 0 N)) := by
  refine ⟨o.perm, fun p => ?_⟩
  have h1 := o.pos
  by_cases e : m = 1
  · subst e
    have : N = 0 := by have := o.last; rw [← this]; exact o.s0
    rw [this, seg_nil E (Nat.le_refl 0)]
    exact List.Pairwise.nil
  · have e2 : m = 2 := by omega
    subst e2
    have h2 := o.sort p 0 (by omega)
    have h3 := o.last
    rw [o.s0, h3] at h2
    exact h2

/-! ### The start: the runs end to end -/

def startAt (rs : List (List Int)) (i : Nat) : Nat := (rs.take i).flatten.length
def at0 (l : List Int) (j : Nat) : Int := l.getD j 0

theorem startAt_succ {rs : List (List Int)} {i : Nat} (h : i < rs.length) : startAt rs (i + 1) = startAt rs i + (rs[i]).length := by
  unfold startAt
  rw [List.take_succ_eq_append_getElem h, List.flatten_append, List.length_append]
  simp

theorem seg_at0 (l m r : List Int) : seg (at0 (l ++ (m ++ r))) l.length (l.length + m.length) = m := by
  apply List.ext_getElem
  · rw [seg_len]; omega
  · intro i h1 h2
    simp only [seg, List.getElem_map, List.getElem_range, at0]
    rw [List.getD_eq_getElem?_getD, List.getElem?_append_right (by omega), Nat.add_sub_cancel_left, List.getElem?_append_left h2]
    simp [h2]

theorem seg_run {rs : List (List Int)} {i : Nat} (h : i < rs.length) : seg (at0 rs.flatten) (startAt rs i) (startAt rs (i + 1)) = rs[i] := by
  have e : rs.flatten = (rs.take i).flatten ++ (rs[i] ++ (rs.drop (i + 1)).flatten) := by
    have h1 : rs = rs.take i ++ (rs[i] :: rs.drop (i + 1)) := by
      rw [← List.drop_eq_getElem_cons h, List.take_append_drop]
    have h2 : (rs.take i ++ (rs[i] :: rs.drop (i + 1))).flatten = (rs.take i).flatten ++ (rs[i] ++ (rs.drop (i + 1)).flatten) := by
      rw [List.flatten_append, List.flatten_cons]
    rw [← h1] at h2
    exact h2
  rw [startAt_succ h, e]
  exact seg_at0 _ _ _

theorem seg_all (l : List Int) : seg (at0 l) 0 l.length = l := by
  have := seg_at0 [] l []
  simpa using this

theorem out_start (rs : List (List Int)) : OutI (∀ r ∈ rs, Asc r) rs.flatten rs.flatten.length (at0 rs.flatten) (startAt rs) (rs.length + 1) := by
  refine ⟨by omega, by simp [startAt], ?_, ?_, ?_, ?_⟩
  · intro i hi
    rw [startAt_succ (show i < rs.length by omega)]
    omega
  · simp [startAt]
  · rw [seg_all]
  · intro p i hi
    rw [seg_run (show i < rs.length by omega)]
    exact p _ (List.getElem_mem _)
end Go.Proofs.Qxb6603365a
