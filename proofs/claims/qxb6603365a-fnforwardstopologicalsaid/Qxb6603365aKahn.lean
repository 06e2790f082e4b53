/-
  THE COUNTING SORT OF 'zzAcyclic', AS PLAIN LEAN: the edges in their order, each node's successors, and the queue's law.
-/
import Derived.Test.Qxb6603365aFwdPlain
namespace Go.Proofs.Qxb6603365a

/-- The edges into the nodes below v, in the order in which they are listed. -/
def eU (G : Nat → List Nat) : Nat → List (Nat × Nat)
  | 0 => []
  | v + 1 => eU G v ++ (G v).map (fun u => (u, v))
/-- And the first j that are listed for v. -/
def eP (G : Nat → List Nat) (v j : Nat) : List (Nat × Nat) := eU G v ++ ((G v).take j).map (fun u => (u, v))

theorem eP_zero (G : Nat → List Nat) (v : Nat) : eP G v 0 = eU G v := by simp [eP]
theorem eP_full (G : Nat → List Nat) (v j : Nat) (h : (G v).length ≤ j) : eP G v j = eU G (v + 1) := by simp [eP, eU, List.take_of_length_le h]
theorem eP_succ (G : Nat → List Nat) (v j : Nat) (h : j < (G v).length) : eP G v (j + 1) = eP G v j ++ [((G v)[j], v)] := by
  simp only [eP]
  rw [List.take_succ_eq_append_getElem h, List.map_append, ← List.append_assoc]
  rfl

theorem eU_prefix (G : Nat → List Nat) {a b : Nat} (h : a ≤ b) : ∃ R, eU G a ++ R = eU G b := by
  induction b with
  | zero => have : a = 0 := by omega
            subst this; exact ⟨[], by simp⟩
  | succ b ih =>
    by_cases e : a = b + 1
    · subst e; exact ⟨[], by simp⟩
    · obtain ⟨R, hR⟩ := ih (by omega)
      exact ⟨R ++ (G b).map (fun u => (u, b)), by rw [← List.append_assoc, hR]; rfl⟩

theorem eP_prefix (G : Nat → List Nat) {v j n : Nat} (hv : v < n) (hj : j < (G v).length) : ∃ R, eP G v j ++ ((G v)[j], v) :: R = eU G n := by
  obtain ⟨R, hR⟩ := eU_prefix G (show v + 1 ≤ n by omega)
  refine ⟨((G v).drop (j + 1)).map (fun u => (u, v)) ++ R, ?_⟩
  rw [← hR]
  have e : (G v) = (G v).take j ++ (G v)[j] :: (G v).drop (j + 1) := by
    rw [← List.drop_eq_getElem_cons hj, List.take_append_drop]
  have e2 : (G v).map (fun u => (u, v)) = ((G v).take j).map (fun u => (u, v)) ++ ((G v)[j], v) :: ((G v).drop (j + 1)).map (fun u => (u, v)) := by
    rw [← List.map_cons (f := fun u => (u, v)), ← List.map_append, ← e]
  simp only [eP, eU]
  rw [e2]
  simp

theorem mem_eU {G : Nat → List Nat} {n : Nat} {e : Nat × Nat} : e ∈ eU G n ↔ e.2 < n ∧ e.1 ∈ G e.2 := by
  induction n with
  | zero => simp [eU]
  | succ n ih =>
    simp only [eU, List.mem_append, ih, List.mem_map]
    constructor
    · rintro (⟨h1, h2⟩ | ⟨u, hu, rfl⟩)
      · exact ⟨by omega, h2⟩
      · exact ⟨by simp, hu⟩
    · rintro ⟨h1, h2⟩
      by_cases h : e.2 < n
      · exact .inl ⟨h, h2⟩
      · have : e.2 = n := by omega
        subst this
        exact .inr ⟨e.1, h2, rfl⟩

/-- The nodes that u leads to, in the edges' order. -/
def sc (E : List (Nat × Nat)) (u : Nat) : List Nat := (E.filter (fun e => e.1 == u)).map Prod.snd
/-- How many edges lead to v. -/
def idg (E : List (Nat × Nat)) (v : Nat) : Nat := E.countP (fun e => e.2 == v)

theorem sc_append (P R : List (Nat × Nat)) (u : Nat) : sc (P ++ R) u = sc P u ++ sc R u := by simp [sc]
theorem sc_same (u v : Nat) : sc [(u, v)] u = [v] := by simp [sc]
theorem sc_other {u v x : Nat} (h : x ≠ u) : sc [(u, v)] x = [] := by simp [sc]; omega
theorem sc_len (E : List (Nat × Nat)) (u : Nat) : (sc E u).length ≤ E.length := by
  simp only [sc, List.length_map]
  exact List.length_filter_le _ _
theorem sc_cons_same (u v : Nat) (R : List (Nat × Nat)) : sc ((u, v) :: R) u = v :: sc R u := by simp [sc]
theorem mem_sc {E : List (Nat × Nat)} {u v : Nat} : v ∈ sc E u ↔ (u, v) ∈ E := by
  simp only [sc, List.mem_map, List.mem_filter]
  constructor
  · rintro ⟨⟨a, b⟩, ⟨h1, h2⟩, rfl⟩
    have : a = u := by simpa using h2
    subst this; exact h1
  · intro h
    exact ⟨(u, v), ⟨h, by simp⟩, rfl⟩
theorem ind_snoc_same (P : List (Nat × Nat)) (u v : Nat) : idg (P ++ [(u, v)]) v = idg P v + 1 := by simp [idg, List.countP_append]
theorem ind_snoc_other (P : List (Nat × Nat)) {u v x : Nat} (h : x ≠ v) : idg (P ++ [(u, v)]) x = idg P x := by
  simp [idg, List.countP_append]; omega
theorem ind_len (P : List (Nat × Nat)) (v : Nat) : idg P v ≤ P.length := List.countP_le_length

/-- Where u's successors start. -/
def OS (E : List (Nat × Nat)) : Nat → Nat
  | 0 => 0
  | x + 1 => OS E x + (sc E x).length
theorem OS_mono (E : List (Nat × Nat)) {a b : Nat} (h : a ≤ b) : OS E a ≤ OS E b := by
  induction b with
  | zero => have : a = 0 := by omega
            rw [this]; exact Nat.le_refl _
  | succ b ih =>
    by_cases e : a = b + 1
    · rw [e]; exact Nat.le_refl _
    · have := ih (by omega)
      rw [OS]; omega
theorem OS_le (E : List (Nat × Nat)) (hE : E.length ≤ 131072) (x : Nat) : OS E x ≤ x * 131072 := by
  induction x with
  | zero => exact Nat.le_refl _
  | succ x ih =>
    have := sc_len E x
    rw [OS]; omega
theorem OS_apart (E : List (Nat × Nat)) {a b k l : Nat} (hab : a ≠ b) (hk : k < (sc E a).length) (hl : l < (sc E b).length) : OS E a + k ≠ OS E b + l := by
  by_cases h : a < b
  · have := OS_mono E (show a + 1 ≤ b by omega)
    rw [OS] at this; omega
  · have := OS_mono E (show b + 1 ≤ a by omega)
    rw [OS] at this; omega

/-! ### The queue -/

/-- How many edges lead to w from a node outside T. -/
def cnt (E : List (Nat × Nat)) (T : List Nat) (w : Nat) : Nat := E.countP (fun e => !T.contains e.1 && e.2 == w)
theorem cnt_nil (E : List (Nat × Nat)) (w : Nat) : cnt E [] w = idg E w := by simp [cnt, idg]
theorem cnt_snoc (E : List (Nat × Nat)) (T : List Nat) (u w : Nat) (hu : u ∉ T) : cnt E T w = cnt E (T ++ [u]) w + (sc E u).count w := by
  induction E with
  | nil => simp [cnt, sc]
  | cons e E ih =>
    have hc : ∀ T : List Nat, cnt (e :: E) T w = cnt E T w + (if (!T.contains e.1 && e.2 == w) = true then 1 else 0) := by
      intro T; simp only [cnt, List.countP_cons]
    have hs : (sc (e :: E) u).count w = (sc E u).count w + (if e.1 = u ∧ e.2 = w then 1 else 0) := by
      by_cases h1 : e.1 = u
      · by_cases h2 : e.2 = w
        · simp [sc, h1, h2]
        · simp [sc, h1, h2]
      · simp [sc, h1]
    rw [hc, hc, hs, ih]
    by_cases h1 : e.1 = u
    · by_cases h2 : e.2 = w
      · simp [h1, h2, hu]; omega
      · simp [h1, h2]
    · by_cases h2 : e.2 = w
      · by_cases h3 : e.1 ∈ T
        · simp [h1, h2, h3]
        · simp [h1, h2, h3]; omega
      · simp [h2]
theorem cnt_zero {E : List (Nat × Nat)} {T : List Nat} {w : Nat} : cnt E T w = 0 ↔ ∀ u, (u, w) ∈ E → u ∈ T := by
  simp only [cnt, List.countP_eq_zero]
  constructor
  · intro h u hu
    have := h (u, w) hu
    simpa using this
  · intro h e he
    by_cases h2 : e.2 = w
    · have := h e.1 (by rw [← h2]; exact he)
      simp [this]
    · simp [h2]

structure KI (G : Nat → List Nat) (n : Nat) (q : List Nat) (d : Nat → Nat) : Prop where
  nd : q.Nodup
  lt : ∀ v ∈ q, v < n
  zero : ∀ v, v < n → (v ∈ q ↔ d v = 0)
  topo : Topo G q

theorem topo_snoc {G : Nat → List Nat} {q : List Nat} {v : Nat} (h : Topo G q) (hv : ∀ u ∈ G v, u ∈ q) : Topo G (q ++ [v]) := by
  intro pre x suf e u hu
  rcases List.eq_nil_or_concat suf with rfl | ⟨suf', y, rfl⟩
  · have e3 := List.append_inj' e rfl
    obtain ⟨rfl, e4⟩ := e3
    have e5 : v = x := by simpa using e4
    subst e5
    exact hv u hu
  · have e2 : q ++ [v] = (pre ++ x :: suf') ++ [y] := by rw [e, List.concat_eq_append]; simp
    exact h pre x suf' (List.append_inj' e2 rfl).1 u hu

/-- The queue's first filling: the nodes below v that nothing leads to. -/
structure K0 (G : Nat → List Nat) (n v : Nat) (q : List Nat) : Prop where
  nd : q.Nodup
  mem : ∀ x, x ∈ q ↔ x < v ∧ idg (eU G n) x = 0
  topo : Topo G q
theorem K0.start (G : Nat → List Nat) (n : Nat) : K0 G n 0 [] := ⟨by simp, by simp, fun pre v suf e => by simp at e⟩
theorem K0.skip {G : Nat → List Nat} {n v : Nat} {q : List Nat} (h : K0 G n v q) (hv : ¬ idg (eU G n) v = 0) : K0 G n (v + 1) q := by
  refine ⟨h.nd, fun x => ?_, h.topo⟩
  rw [h.mem]
  constructor
  · rintro ⟨a, b⟩; exact ⟨by omega, b⟩
  · rintro ⟨a, b⟩
    by_cases e : x = v
    · subst e; exact absurd b hv
    · exact ⟨by omega, b⟩
theorem no_in {G : Nat → List Nat} {n v : Nat} (hn : v < n) (h : idg (eU G n) v = 0) : G v = [] := by
  rw [← cnt_nil, cnt_zero] at h
  cases hg : G v with
  | nil => rfl
  | cons a l => exact absurd (h a (mem_eU.2 ⟨hn, by rw [hg]; exact List.mem_cons_self ..⟩)) (by simp)
theorem nodup_snoc {q : List Nat} {v : Nat} (h : q.Nodup) (hv : v ∉ q) : (q ++ [v]).Nodup := by
  rw [List.nodup_append]
  refine ⟨h, by simp, ?_⟩
  intro a ha b hb
  simp at hb
  subst hb
  intro e
  subst e
  exact hv ha
theorem K0.put {G : Nat → List Nat} {n v : Nat} {q : List Nat} (h : K0 G n v q) (hn : v < n) (hv : idg (eU G n) v = 0) : K0 G n (v + 1) (q ++ [v]) := by
  refine ⟨nodup_snoc h.nd (fun hq => by have := (h.mem v).1 hq; omega), fun x => ?_, topo_snoc h.topo (by rw [no_in hn hv]; simp)⟩
  rw [List.mem_append, h.mem, List.mem_singleton]
  constructor
  · rintro (⟨a, b⟩ | rfl)
    · exact ⟨by omega, b⟩
    · exact ⟨by omega, hv⟩
  · rintro ⟨a, b⟩
    by_cases e : x = v
    · exact .inr e
    · exact .inl ⟨by omega, b⟩
theorem K0.done {G : Nat → List Nat} {n : Nat} {q : List Nat} (h : K0 G n n q) : KI G n q (idg (eU G n)) :=
  ⟨h.nd, fun v hv => ((h.mem v).1 hv).1, fun v hv => by rw [h.mem]; exact ⟨fun a => a.2, fun a => ⟨hv, a⟩⟩, h.topo⟩
theorem K0.room {G : Nat → List Nat} {n v : Nat} {q : List Nat} (h : K0 G n v q) : q.length ≤ v := by
  have h1 := List.Nodup.length_le_of_subset h.nd (l₂ := List.range v) (fun x hx => List.mem_range.2 ((h.mem x).1 hx).1)
  simpa using h1
theorem KI.room {G : Nat → List Nat} {n : Nat} {q : List Nat} {d : Nat → Nat} (h : KI G n q d) : q.length ≤ n := by
  have h1 := List.Nodup.length_le_of_subset h.nd (l₂ := List.range n) (fun x hx => List.mem_range.2 (h.lt x hx))
  simpa using h1

/-- All that is done are the first k of the queue. -/
def Outer (G : Nat → List Nat) (n : Nat) (q : List Nat) (d : Nat → Nat) (k : Nat) : Prop := KI G n q d ∧ k ≤ q.length ∧ ∀ w, d w = cnt (eU G n) (q.take k) w
/-- And of the k-th the first j successors. -/
def Inner (G : Nat → List Nat) (n : Nat) (q : List Nat) (d : Nat → Nat) (k u j : Nat) : Prop :=
  KI G n q d ∧ k < q.length ∧ q[k]? = some u ∧ ∀ w, d w = cnt (eU G n) (q.take (k + 1)) w + ((sc (eU G n) u).drop j).count w

theorem take_next {q : List Nat} {k u : Nat} (hk : k < q.length) (hu : q[k]? = some u) : q.take (k + 1) = q.take k ++ [u] := by
  have e : q[k] = u := by
    rw [List.getElem?_eq_getElem hk] at hu
    exact Option.some.inj hu
  rw [List.take_succ_eq_append_getElem hk, e]
theorem not_before {q : List Nat} {k u : Nat} (nd : q.Nodup) (hk : k < q.length) (hu : q[k]? = some u) : u ∉ q.take k := by
  have h1 : (q.take (k + 1)).Nodup := List.Nodup.sublist (List.take_sublist _ _) nd
  rw [take_next hk hu, List.nodup_append] at h1
  intro h
  exact h1.2.2 u h u (by simp) rfl

theorem Outer.enter {G : Nat → List Nat} {n : Nat} {q : List Nat} {d : Nat → Nat} {k u : Nat} (h : Outer G n q d k) (hk : k < q.length) (hu : q[k]? = some u) : Inner G n q d k u 0 := by
  refine ⟨h.1, hk, hu, fun w => ?_⟩
  rw [h.2.2 w, take_next hk hu, cnt_snoc _ _ u w (not_before h.1.nd hk hu)]
  rfl
theorem Inner.leave {G : Nat → List Nat} {n : Nat} {q : List Nat} {d : Nat → Nat} {k u j : Nat} (h : Inner G n q d k u j) (hj : (sc (eU G n) u).length ≤ j) : Outer G n q d (k + 1) := by
  refine ⟨h.1, h.2.1, fun w => ?_⟩
  rw [h.2.2.2 w, List.drop_eq_nil_of_le hj]
  rfl

/-- One less at w. -/
def dec (d : Nat → Nat) (w : Nat) : Nat → Nat := fun x => if x = w then d x - 1 else d x
theorem Inner.pos {G : Nat → List Nat} {n : Nat} {q : List Nat} {d : Nat → Nat} {k u j w : Nat} (h : Inner G n q d k u j) (hj : j < (sc (eU G n) u).length) (hw : (sc (eU G n) u)[j] = w) : 0 < d w ∧ w < n ∧ w ∉ q := by
  have hd := h.2.2.2 w
  rw [List.drop_eq_getElem_cons hj, hw, List.count_cons_self] at hd
  have hm : (u, w) ∈ eU G n := by rw [← mem_sc, ← hw]; exact List.getElem_mem hj
  have hn := (mem_eU.1 hm).1
  refine ⟨by omega, hn, fun hq => ?_⟩
  have := (h.1.zero w hn).1 hq
  omega
theorem Inner.bound {G : Nat → List Nat} {n : Nat} {q : List Nat} {d : Nat → Nat} {k u j : Nat} (h : Inner G n q d k u j) (w : Nat) : d w ≤ 2 * (eU G n).length := by
  have h1 : cnt (eU G n) (q.take (k + 1)) w ≤ (eU G n).length := List.countP_le_length
  have h2 : ((sc (eU G n) u).drop j).count w ≤ ((sc (eU G n) u).drop j).length := List.count_le_length
  have h3 := sc_len (eU G n) u
  rw [List.length_drop] at h2
  rw [h.2.2.2 w]
  omega
theorem Inner.dcount {G : Nat → List Nat} {n : Nat} {q : List Nat} {d : Nat → Nat} {k u j w : Nat} (h : Inner G n q d k u j) (hj : j < (sc (eU G n) u).length) (hw : (sc (eU G n) u)[j] = w) :
    ∀ x, dec d w x = cnt (eU G n) (q.take (k + 1)) x + ((sc (eU G n) u).drop (j + 1)).count x := by
  intro x
  have hd := h.2.2.2 x
  rw [List.drop_eq_getElem_cons hj, hw] at hd
  by_cases e : x = w
  · subst e
    rw [List.count_cons_self] at hd
    simp only [dec, if_true]
    omega
  · rw [List.count_cons_of_ne (by omega)] at hd
    simp only [dec, e, if_false]
    exact hd
theorem Inner.pass {G : Nat → List Nat} {n : Nat} {q : List Nat} {d : Nat → Nat} {k u j w : Nat} (h : Inner G n q d k u j) (hj : j < (sc (eU G n) u).length) (hw : (sc (eU G n) u)[j] = w) (hz : d w - 1 ≠ 0) : Inner G n q (dec d w) k u (j + 1) := by
  have hp := h.pos hj hw
  refine ⟨⟨h.1.nd, h.1.lt, fun v hv => ?_, h.1.topo⟩, h.2.1, h.2.2.1, h.dcount hj hw⟩
  by_cases e : v = w
  · subst e
    simp only [dec, if_true]
    exact ⟨fun a => absurd a hp.2.2, fun a => absurd a hz⟩
  · simp only [dec, e, if_false]
    exact h.1.zero v hv
theorem Inner.push {G : Nat → List Nat} {n : Nat} {q : List Nat} {d : Nat → Nat} {k u j w : Nat} (h : Inner G n q d k u j) (hj : j < (sc (eU G n) u).length) (hw : (sc (eU G n) u)[j] = w) (hz : d w - 1 = 0) : Inner G n (q ++ [w]) (dec d w) k u (j + 1) := by
  have hp := h.pos hj hw
  have hk := h.2.1
  have ht : (q ++ [w]).take (k + 1) = q.take (k + 1) := List.take_append_of_le_length (by omega)
  have hc := h.dcount hj hw
  refine ⟨⟨nodup_snoc h.1.nd hp.2.2, ?_, fun v hv => ?_, topo_snoc h.1.topo ?_⟩, by simp; omega, ?_, by rw [ht]; exact hc⟩
  · intro v hv
    rcases List.mem_append.1 hv with a | a
    · exact h.1.lt v a
    · simp at a; rw [a]; exact hp.2.1
  · by_cases e : v = w
    · subst e
      simp only [dec, if_true]
      exact ⟨fun _ => hz, fun _ => by simp⟩
    · simp only [dec, e, if_false]
      rw [← h.1.zero v hv]
      simp [e]
  · intro a ha
    have h0 := hc w
    simp only [dec, if_true] at h0
    have h1 : cnt (eU G n) (q.take (k + 1)) w = 0 := by omega
    exact List.mem_of_mem_take (cnt_zero.1 h1 a (mem_eU.2 ⟨hp.2.1, ha⟩))
  · rw [List.getElem?_append_left hk]; exact h.2.2.1

theorem topo_rank {G : Nat → List Nat} {n : Nat} {q : List Nat} (nd : q.Nodup) (all : ∀ v, v < n → v ∈ q) (h : Topo G q) : Rank G n (fun v => q.idxOf v) := by
  intro v hv u hu
  obtain ⟨pre, suf, e⟩ := List.append_of_mem (all v hv)
  have hp := h pre v suf e u hu
  have nd' := nd
  rw [e, List.nodup_append] at nd'
  have hvp : v ∉ pre := fun a => nd'.2.2 v a v (by simp) rfl
  show q.idxOf u < q.idxOf v
  rw [e, List.idxOf_append, List.idxOf_append, if_pos hp, if_neg hvp]
  have := List.idxOf_lt_length_of_mem hp
  omega

theorem full_of_len {n : Nat} {q : List Nat} (nd : q.Nodup) (lt : ∀ v ∈ q, v < n) (hl : q.length = n) : ∀ v, v < n → v ∈ q := by
  intro v hv
  by_cases hq : v ∈ q
  · exact hq
  · exfalso
    have h1 := List.Nodup.length_le_of_subset (nodup_snoc nd hq) (l₂ := List.range n) (fun x hx => by
      rw [List.mem_range]
      rcases List.mem_append.1 hx with a | a
      · exact lt x a
      · simp at a; omega)
    simp at h1
    omega

theorem kahn_done {G : Nat → List Nat} {n : Nat} {q : List Nat} {d : Nat → Nat} (h : Outer G n q d q.length) (hlt : ∀ v, v < n → ∀ u ∈ G v, u < n) : q.length = n ↔ ∃ r, Rank G n r := by
  constructor
  · intro hl
    exact ⟨_, topo_rank h.1.nd (full_of_len h.1.nd h.1.lt hl) h.1.topo⟩
  · rintro ⟨r, hr⟩
    have all : ∀ m v, v < n → r v < m → v ∈ q := by
      intro m
      induction m with
      | zero => intro v _ h; omega
      | succ m ih =>
        intro v hv hm
        rw [h.1.zero v hv, h.2.2 v, List.take_length, cnt_zero]
        intro u hu
        have hu' := (mem_eU.1 hu).2
        have := hr v hv u hu'
        exact ih u (hlt v hv u hu') (by omega)
    have h1 := List.Nodup.length_le_of_subset (List.nodup_range (n := n)) (l₂ := q) (fun x hx => all _ x (List.mem_range.1 hx) (Nat.lt_succ_self _))
    have h2 := h.1.room
    simp at h1
    omega

/-- The law's own loop: every edge runs upwards in the order's places. -/
theorem fwd_iff {G : Nat → List Nat} {n : Nat} {q : List Nat} (hp : FwdPost G n q) : (∀ e ∈ eU G n, q.idxOf e.1 < q.idxOf e.2) ↔ ∃ r, Rank G n r := by
  constructor
  · intro h
    exact ⟨fun v => q.idxOf v, fun v hv u hu => h (u, v) (mem_eU.2 ⟨hv, hu⟩)⟩
  · rintro ⟨r, hr⟩ e he
    have h1 := mem_eU.1 he
    have hn : q.Nodup := hp.perm.nodup_iff.2 List.nodup_range
    exact topo_rank hn (fun v hv => hp.perm.mem_iff.2 (List.mem_range.2 hv)) (hp.topo r hr) e.2 h1.1 e.1 h1.2
end Go.Proofs.Qxb6603365a
