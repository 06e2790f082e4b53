/-
  THE SEARCH OF 'sim.forwards', AS PLAIN LEAN: its state, its steps, what holds of the state all along, and a number that every step lowers.
-/
namespace Go.Proofs.Qxb6603365a

structure St where
  order : List Nat
  seen : Nat → Bool
  path : List (Nat × Nat)

def upd (f : Nat → Bool) (i : Nat) : Nat → Bool := fun v => if v = i then true else f v

theorem upd_same (f : Nat → Bool) (i : Nat) : upd f i i = true := by simp [upd]
theorem upd_other (f : Nat → Bool) {i v : Nat} (h : v ≠ i) : upd f i v = f v := by simp [upd, h]
theorem upd_iff (f : Nat → Bool) (i v : Nat) : upd f i v = true ↔ v = i ∨ f v = true := by
  by_cases h : v = i
  · simp [upd, h]
  · simp [upd, h]

/-- The nodes that are on the path or done. -/
def St.met (s : St) : List Nat := s.order ++ s.path.map Prod.fst

/-- Every node stands behind all that are listed for it. -/
def Topo (G : Nat → List Nat) (order : List Nat) : Prop := ∀ pre v suf, order = pre ++ v :: suf → ∀ u ∈ G v, u ∈ pre
/-- A numbering in which every edge runs upwards. -/
def Rank (G : Nat → List Nat) (n : Nat) (r : Nat → Nat) : Prop := ∀ v, v < n → ∀ u ∈ G v, r u < r v
/-- Every node lists lower numbers alone. -/
def Fwd (G : Nat → List Nat) (n : Nat) : Prop := ∀ v, v < n → ∀ u ∈ G v, u < v

structure Inv (G : Nat → List Nat) (n j : Nat) (s : St) : Prop where
  nd : s.met.Nodup
  lt : ∀ v, v ∈ s.met → v < n
  seen : ∀ v, s.seen v = true ↔ v ∈ s.met
  looked : ∀ p ∈ s.path, p.2 ≤ (G p.1).length ∧ ∀ u ∈ (G p.1).take p.2, s.seen u = true
  chain : ∀ r, Rank G n r → (s.path.map Prod.fst).Pairwise (fun a b => r b < r a)
  topo : ∀ r, Rank G n r → Topo G s.order
  before : ∀ v, v < j → s.seen v = true
  fwd : Fwd G n → (s.path = [] → s.order = List.range (if s.seen j = true then j + 1 else j)) ∧ (s.path ≠ [] → ∃ l, s.path = [(j, l)] ∧ s.order = List.range j)

def St.start : St := ⟨[], fun _ => false, []⟩

theorem inv_start (G : Nat → List Nat) (n : Nat) : Inv G n 0 St.start := by
  refine ⟨by simp [St.start, St.met], by simp [St.start, St.met], by simp [St.start, St.met], by simp [St.start], by simp [St.start], ?_, by simp, ?_⟩
  · intro r _ pre v suf h
    have h' : ([] : List Nat) = pre ++ v :: suf := h
    simp at h'
  · intro _
    exact ⟨fun _ => by simp [St.start], fun h => absurd rfl h⟩

theorem inv_next {G : Nat → List Nat} {n j : Nat} {s : St} (h : Inv G n j s) (hp : s.path = []) (hs : s.seen j = true) : Inv G n (j + 1) s := by
  refine ⟨h.nd, h.lt, h.seen, h.looked, h.chain, h.topo, ?_, ?_⟩
  · intro v hv
    by_cases e : v = j
    · rw [e]; exact hs
    · exact h.before v (by omega)
  · intro hf
    have h1 := (h.fwd hf).1 hp
    rw [if_pos hs] at h1
    refine ⟨fun _ => ?_, fun hne => absurd hp hne⟩
    have h2 : ¬ s.seen (j + 1) = true := by
      rw [h.seen]
      simp [St.met, hp, h1]
    rw [if_neg h2]
    exact h1

theorem inv_enter {G : Nat → List Nat} {n j : Nat} {s : St} (h : Inv G n j s) (hp : s.path = []) (hs : s.seen j = false) (hj : j < n) : Inv G n j ⟨s.order, upd s.seen j, [(j, 0)]⟩ := by
  have hm : s.met = s.order := by simp [St.met, hp]
  have hnot : j ∉ s.order := by
    intro hin
    have := (h.seen j).2 (by rw [hm]; exact hin)
    rw [hs] at this
    cases this
  have hnd := h.nd
  rw [hm] at hnd
  refine ⟨?_, ?_, ?_, ?_, ?_, h.topo, ?_, ?_⟩
  · show (s.order ++ [j]).Nodup
    rw [List.nodup_append]
    refine ⟨hnd, by simp, ?_⟩
    intro a ha b hb
    simp at hb
    subst hb
    intro e
    subst e
    exact hnot ha
  · intro v hv
    have hv' : v ∈ s.order ++ [j] := hv
    rcases List.mem_append.1 hv' with a | a
    · exact h.lt v (by rw [hm]; exact a)
    · simp at a; omega
  · intro v
    show upd s.seen j v = true ↔ v ∈ s.order ++ [j]
    rw [upd_iff, h.seen, hm, List.mem_append, List.mem_singleton]
    exact or_comm
  · intro p hp'
    have hp'' : p = (j, 0) := by simpa using hp'
    subst hp''
    exact ⟨Nat.zero_le _, by simp⟩
  · intro r _
    simp
  · intro v hv
    exact (upd_iff _ _ _).2 (.inr (h.before v hv))
  · intro hf
    refine ⟨fun e => by simp at e, fun _ => ⟨0, rfl, ?_⟩⟩
    have h1 := (h.fwd hf).1 hp
    rw [hs] at h1
    simpa using h1

theorem inv_see {G : Nat → List Nat} {n j : Nat} {s : St} {p : List (Nat × Nat)} {v l : Nat} (h : Inv G n j s) (hp : s.path = p ++ [(v, l)]) (hl : l < (G v).length) (hu : s.seen (G v)[l] = true) : Inv G n j ⟨s.order, s.seen, p ++ [(v, l + 1)]⟩ := by
  have hmap : s.path.map Prod.fst = (p ++ [(v, l + 1)]).map Prod.fst := by rw [hp]; simp
  have hmet : s.met = St.met ⟨s.order, s.seen, p ++ [(v, l + 1)]⟩ := by simp only [St.met, hmap]
  refine ⟨by rw [← hmet]; exact h.nd, by rw [← hmet]; exact h.lt, by rw [← hmet]; exact h.seen, ?_, by intro r hr; show List.Pairwise _ ((p ++ [(v, l + 1)]).map Prod.fst); rw [← hmap]; exact h.chain r hr, h.topo, h.before, ?_⟩
  · intro q hq
    rcases List.mem_append.1 hq with a | a
    · exact h.looked q (by rw [hp]; exact List.mem_append.2 (.inl a))
    · have a' : q = (v, l + 1) := by simpa using a
      subst a'
      have h1 := h.looked (v, l) (by rw [hp]; simp)
      refine ⟨hl, ?_⟩
      intro u hu'
      have hu'' : u ∈ (G v).take (l + 1) := hu'
      rw [List.take_succ_eq_append_getElem hl] at hu''
      rcases List.mem_append.1 hu'' with b | b
      · exact h1.2 u b
      · have b' : u = (G v)[l] := by simpa using b
        rw [b']; exact hu
  · intro hf
    refine ⟨fun e => by simp at e, fun _ => ?_⟩
    obtain ⟨l', e1, e2⟩ := (h.fwd hf).2 (by rw [hp]; simp)
    rw [hp] at e1
    have e3 : p = [] ∧ v = j := by
      cases p with
      | nil => simp at e1; exact ⟨rfl, e1.1⟩
      | cons a p => simp at e1
    obtain ⟨rfl, rfl⟩ := e3
    exact ⟨l + 1, rfl, e2⟩

theorem inv_push {G : Nat → List Nat} {n j : Nat} {s : St} {p : List (Nat × Nat)} {v l u : Nat} (h : Inv G n j s) (hp : s.path = p ++ [(v, l)]) (hl : l < (G v).length) (hu : s.seen (G v)[l] = false) (hun : (G v)[l] < n) (eu : u = (G v)[l]) :
    Inv G n j ⟨s.order, upd s.seen u, p ++ [(v, l + 1)] ++ [(u, 0)]⟩ := by
  rw [← eu] at hu hun
  have hmem : u ∈ G v := by rw [eu]; exact List.getElem_mem hl
  have hmap : (p ++ [(v, l + 1)] ++ [(u, 0)]).map Prod.fst = s.path.map Prod.fst ++ [u] := by rw [hp]; simp
  have hmet : St.met ⟨s.order, upd s.seen u, p ++ [(v, l + 1)] ++ [(u, 0)]⟩ = s.met ++ [u] := by
    show s.order ++ (p ++ [(v, l + 1)] ++ [(u, 0)]).map Prod.fst = (s.order ++ s.path.map Prod.fst) ++ [u]
    rw [hmap, List.append_assoc]
  have hnot : u ∉ s.met := by
    intro hin
    have := (h.seen u).2 hin
    rw [hu] at this
    cases this
  have hvp : v ∈ s.path.map Prod.fst := by rw [hp]; simp
  have hvm : v ∈ s.met := List.mem_append.2 (.inr hvp)
  have hvn : v < n := h.lt v hvm
  refine ⟨?_, ?_, ?_, ?_, ?_, h.topo, ?_, ?_⟩
  · rw [hmet, List.nodup_append]
    refine ⟨h.nd, by simp, ?_⟩
    intro a ha b hb
    simp at hb
    subst hb
    intro e
    subst e
    exact hnot ha
  · rw [hmet]
    intro x hx
    rcases List.mem_append.1 hx with a | a
    · exact h.lt x a
    · simp at a; omega
  · intro x
    rw [hmet]
    show upd s.seen u x = true ↔ _
    rw [upd_iff, h.seen, List.mem_append, List.mem_singleton]
    exact or_comm
  · intro q hq
    have mono : ∀ x, s.seen x = true → upd s.seen u x = true := fun x hx => (upd_iff _ _ _).2 (.inr hx)
    rcases List.mem_append.1 hq with a | a
    · rcases List.mem_append.1 a with a | a
      · have h1 := h.looked q (by rw [hp]; exact List.mem_append.2 (.inl a))
        exact ⟨h1.1, fun x hx => mono x (h1.2 x hx)⟩
      · have a' : q = (v, l + 1) := by simpa using a
        subst a'
        have h1 := h.looked (v, l) (by rw [hp]; simp)
        refine ⟨hl, ?_⟩
        intro x hx
        have hx' : x ∈ (G v).take (l + 1) := hx
        rw [List.take_succ_eq_append_getElem hl] at hx'
        rcases List.mem_append.1 hx' with b | b
        · exact mono x (h1.2 x b)
        · have b' : x = (G v)[l] := by simpa using b
          rw [b', ← eu]; exact upd_same _ _
    · have a' : q = (u, 0) := by simpa using a
      subst a'
      exact ⟨Nat.zero_le _, by simp⟩
  · intro r hr
    show List.Pairwise _ ((p ++ [(v, l + 1)] ++ [(u, 0)]).map Prod.fst)
    rw [hmap, List.pairwise_append]
    refine ⟨h.chain r hr, by simp, ?_⟩
    intro a ha b hb
    have hb' : b = u := by simpa using hb
    subst hb'
    have h1 := hr v hvn b hmem
    have hc := h.chain r hr
    rw [hp, List.map_append, List.pairwise_append] at hc
    rw [hp, List.map_append] at ha
    rcases List.mem_append.1 ha with x | x
    · have := hc.2.2 a x v (by simp)
      omega
    · have x' : a = v := by simpa using x
      rw [x']; exact h1
  · intro x hx
    exact (upd_iff _ _ _).2 (.inr (h.before x hx))
  · intro hf
    exfalso
    obtain ⟨l', e1, e2⟩ := (h.fwd hf).2 (by rw [hp]; simp)
    rw [hp] at e1
    have e3 : p = [] ∧ v = j := by
      cases p with
      | nil => simp at e1; exact ⟨rfl, e1.1⟩
      | cons a p => simp at e1
    obtain ⟨_, rfl⟩ := e3
    have h1 := hf v hvn u hmem
    exact hnot (List.mem_append.2 (.inl (by rw [e2]; simp; exact h1)))

theorem inv_pop {G : Nat → List Nat} {n j : Nat} {s : St} {p : List (Nat × Nat)} {v l : Nat} (h : Inv G n j s) (hp : s.path = p ++ [(v, l)]) (hl : (G v).length ≤ l) : Inv G n j ⟨s.order ++ [v], s.seen, p⟩ := by
  have hmap : s.path.map Prod.fst = p.map Prod.fst ++ [v] := by rw [hp]; simp
  have hperm : s.met.Perm (St.met ⟨s.order ++ [v], s.seen, p⟩) := by
    simp only [St.met, hmap, List.append_assoc]
    exact List.Perm.append_left _ (List.perm_append_comm)
  have hvm : v ∈ s.met := by simp [St.met, hmap]
  have hvn : v < n := h.lt v hvm
  refine ⟨hperm.nodup h.nd, ?_, ?_, ?_, ?_, ?_, h.before, ?_⟩
  · intro x hx
    exact h.lt x (hperm.mem_iff.2 hx)
  · intro x
    rw [← hperm.mem_iff]
    exact h.seen x
  · intro q hq
    exact h.looked q (by rw [hp]; exact List.mem_append.2 (.inl hq))
  · intro r hr
    have hc := h.chain r hr
    rw [hmap, List.pairwise_append] at hc
    exact hc.1
  · intro r hr pre x suf e u hu
    have e' : s.order ++ [v] = pre ++ x :: suf := e
    rcases List.eq_nil_or_concat suf with rfl | ⟨suf', y, rfl⟩
    · have e2 : s.order ++ [v] = pre ++ [x] := e'
      have e3 := List.append_inj' e2 rfl
      obtain ⟨rfl, e4⟩ := e3
      have e5 : v = x := by simpa using e4
      subst e5
      have h1 := h.looked (v, l) (by rw [hp]; simp)
      have h2 : s.seen u = true := h1.2 u (by rw [List.take_of_length_le hl]; exact hu)
      rcases List.mem_append.1 ((h.seen u).1 h2) with a | a
      · exact a
      · exfalso
        have h3 := hr v hvn u hu
        have hc := h.chain r hr
        rw [hmap, List.pairwise_append] at hc
        rw [hmap] at a
        rcases List.mem_append.1 a with b | b
        · have := hc.2.2 u b v (by simp)
          omega
        · have b' : u = v := by simpa using b
          rw [b'] at h3
          omega
    · have e2 : s.order ++ [v] = (pre ++ x :: suf') ++ [y] := by rw [e', List.concat_eq_append]; simp
      have e3 := List.append_inj' e2 rfl
      exact h.topo r hr pre x suf' e3.1 u hu
  · intro hf
    obtain ⟨l', e1, e2⟩ := (h.fwd hf).2 (by rw [hp]; simp)
    rw [hp] at e1
    have e3 : p = [] ∧ v = j := by
      cases p with
      | nil => simp at e1; exact ⟨rfl, e1.1⟩
      | cons a p => simp at e1
    obtain ⟨rfl, rfl⟩ := e3
    refine ⟨fun _ => ?_, fun hne => absurd rfl hne⟩
    have h2 : s.seen v = true := (h.seen v).2 hvm
    show s.order ++ [v] = List.range (if s.seen v = true then v + 1 else v)
    rw [if_pos h2, e2, List.range_succ]

/-- What is known of the answer. -/
structure FwdPost (G : Nat → List Nat) (n : Nat) (order : List Nat) : Prop where
  perm : order.Perm (List.range n)
  topo : ∀ r, Rank G n r → Topo G order
  fwd : Fwd G n → order = List.range n

theorem inv_done {G : Nat → List Nat} {n : Nat} {s : St} (h : Inv G n n s) (hp : s.path = []) : FwdPost G n s.order := by
  have hm : s.met = s.order := by simp [St.met, hp]
  refine ⟨?_, h.topo, ?_⟩
  · have hnd := h.nd
    rw [hm] at hnd
    rw [List.perm_ext_iff_of_nodup hnd List.nodup_range]
    intro v
    rw [List.mem_range]
    constructor
    · intro hv; exact h.lt v (by rw [hm]; exact hv)
    · intro hv; rw [← hm]; exact (h.seen v).1 (h.before v hv)
  · intro hf
    have h1 := (h.fwd hf).1 hp
    have h2 : ¬ s.seen n = true := by
      rw [h.seen]
      intro hin
      have := h.lt n hin
      omega
    rw [if_neg h2] at h1
    exact h1

/-! ### The number that every step lowers -/

def wPath (G : Nat → List Nat) (p : List (Nat × Nat)) : Nat := (p.map fun q => (G q.1).length - q.2 + 1).sum
def wRest (G : Nat → List Nat) (f : Nat → Bool) : Nat → Nat
  | 0 => 0
  | m + 1 => wRest G f m + (if f m = true then 0 else (G m).length + 1)
def meas (G : Nat → List Nat) (n : Nat) (s : St) : Nat := wPath G s.path + wRest G s.seen n

theorem wPath_snoc (G : Nat → List Nat) (p : List (Nat × Nat)) (q : Nat × Nat) : wPath G (p ++ [q]) = wPath G p + ((G q.1).length - q.2 + 1) := by
  simp [wPath]

theorem wRest_upd_ge (G : Nat → List Nat) (f : Nat → Bool) (i m : Nat) (h : m ≤ i) : wRest G (upd f i) m = wRest G f m := by
  induction m with
  | zero => rfl
  | succ m ih =>
    rw [wRest, wRest, ih (by omega), upd_other f (show m ≠ i by omega)]

theorem wRest_upd (G : Nat → List Nat) (f : Nat → Bool) (i m : Nat) (h : i < m) (hf : f i = false) : wRest G (upd f i) m + ((G i).length + 1) = wRest G f m := by
  induction m with
  | zero => omega
  | succ m ih =>
    by_cases e : i = m
    · subst e
      rw [wRest, wRest, wRest_upd_ge G f i i (Nat.le_refl _), upd_same, hf]
      simp
    · have := ih (by omega)
      rw [wRest, wRest, upd_other f (show m ≠ i by omega)]
      omega

theorem meas_see {G : Nat → List Nat} {n : Nat} {s : St} {p : List (Nat × Nat)} {v l : Nat} (hp : s.path = p ++ [(v, l)]) (hl : l < (G v).length) : meas G n ⟨s.order, s.seen, p ++ [(v, l + 1)]⟩ < meas G n s := by
  simp only [meas, hp, wPath_snoc]
  omega

theorem meas_push {G : Nat → List Nat} {n : Nat} {s : St} {p : List (Nat × Nat)} {v l u : Nat} (hp : s.path = p ++ [(v, l)]) (hl : l < (G v).length) (hu : s.seen u = false) (hun : u < n) : meas G n ⟨s.order, upd s.seen u, p ++ [(v, l + 1)] ++ [(u, 0)]⟩ < meas G n s := by
  have := wRest_upd G s.seen u n hun hu
  simp only [meas, hp, wPath_snoc]
  omega

theorem meas_pop {G : Nat → List Nat} {n : Nat} {s : St} {p : List (Nat × Nat)} {v l : Nat} (hp : s.path = p ++ [(v, l)]) : meas G n ⟨s.order ++ [v], s.seen, p⟩ < meas G n s := by
  simp only [meas, hp, wPath_snoc]
  omega

/-- On the path there is always room for one more in the answer. -/
theorem inv_room {G : Nat → List Nat} {n j : Nat} {s : St} (h : Inv G n j s) : s.order.length + s.path.length ≤ n := by
  have h1 := List.Nodup.length_le_of_subset h.nd (l₂ := List.range n) (fun v hv => List.mem_range.2 (h.lt v hv))
  simpa [St.met] using h1
end Go.Proofs.Qxb6603365a
