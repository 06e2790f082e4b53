/-
  WHAT THE MEMORY OF 'zzAcyclic' HOLDS, AND WHAT EACH STEP MAKES OF IT.
-/
import Derived.Test.Qxb6603365aKahn
import Derived.Test.Qxb6603365aFwdWalk
namespace Go.Proofs.Qxb6603365a
open Go.ChangeShapes Go.WideShapes Go.ChangeAt Go.RowKit

/-- The adjacency in memory: where each node's list starts, and what it lists. -/
structure GMem (w : World) (b0 o0 : Nat) (a1 : Option Addr) (n L : Nat) (s : Nat → Nat) (G : Nat → List Nat) : Prop where
  hb : b0 < w.heap.size
  st : ∀ j, j ≤ n → w.cell? ⟨b0, o0 + j, none⟩ = some (.int .i32 ((s j : Nat) : Int))
  tt : ∀ v, v < n → ∀ x, s v ≤ x → x < s (v + 1) → ∃ b1 o1, a1 = some ⟨b1, o1, none⟩ ∧ b1 < w.heap.size ∧ w.cell? ⟨b1, o1 + x, none⟩ = some (.int .i32 ((nn (G v) (x - s v) : Nat) : Int))
  len : ∀ v, v < n → s (v + 1) = s v + (G v).length
  le : ∀ v, v ≤ n → s v ≤ L
  lt : ∀ v, v < n → ∀ u ∈ G v, u < n

theorem GMem.below {w w' : World} {b0 o0 : Nat} {a1 : Option Addr} {n L : Nat} {s : Nat → Nat} {G : Nat → List Nat} (h : GMem w b0 o0 a1 n L s G) (hb : Below w.heap.size w w') : GMem w' b0 o0 a1 n L s G := by
  refine ⟨Nat.lt_of_lt_of_le h.hb hb.size, fun j hj => by rw [hb.cell (by exact h.hb)]; exact h.st j hj, fun v hv x h1 h2 => ?_, h.len, h.le, h.lt⟩
  obtain ⟨b1, o1, e, hl, hc⟩ := h.tt v hv x h1 h2
  exact ⟨b1, o1, e, Nat.lt_of_lt_of_le hl hb.size, by rw [hb.cell (by exact hl)]; exact hc⟩

theorem GMem.eU_len {w : World} {b0 o0 : Nat} {a1 : Option Addr} {n L : Nat} {s : Nat → Nat} {G : Nat → List Nat} (h : GMem w b0 o0 a1 n L s G) : ∀ v, v ≤ n → (eU G v).length + s 0 = s v
  | 0, _ => by simp [eU]
  | v + 1, hv => by
    have := h.eU_len v (by omega)
    have := h.len v (by omega)
    simp only [eU, List.length_append, List.length_map]
    omega
theorem GMem.eP_len {w : World} {b0 o0 : Nat} {a1 : Option Addr} {n L : Nat} {s : Nat → Nat} {G : Nat → List Nat} (h : GMem w b0 o0 a1 n L s G) (hL : L ≤ 131072) {v j : Nat} (hv : v < n) (hj : j ≤ (G v).length) : (eP G v j).length ≤ 131072 := by
  have := h.eU_len v (by omega)
  have := h.len v hv
  have := h.le (v + 1) (by omega)
  simp only [eP, List.length_append, List.length_map, List.length_take]
  omega
theorem GMem.E_len {w : World} {b0 o0 : Nat} {a1 : Option Addr} {n L : Nat} {s : Nat → Nat} {G : Nat → List Nat} (h : GMem w b0 o0 a1 n L s G) (hL : L ≤ 131072) : (eU G n).length ≤ 131072 := by
  have := h.eU_len n (Nat.le_refl _)
  have := h.le n (Nat.le_refl _)
  omega

/-- The counts under way: how often each node leads on, one place up. -/
def oc (P : List (Nat × Nat)) : Nat → Nat
  | 0 => 0
  | x + 1 => (sc P x).length
theorem oc_le (P : List (Nat × Nat)) (x : Nat) : oc P x ≤ P.length := by
  cases x with
  | zero => exact Nat.zero_le _
  | succ x => exact sc_len P x
/-- The sums under way. -/
def offAt (E : List (Nat × Nat)) (t x : Nat) : Nat := if x ≤ t then OS E x else oc E x
theorem offAt_zero (E : List (Nat × Nat)) (x : Nat) : offAt E 0 x = oc E x := by
  unfold offAt
  by_cases h : x ≤ 0
  · have : x = 0 := by omega
    subst this; rfl
  · rw [if_neg h]
theorem offAt_next (E : List (Nat × Nat)) (t : Nat) : offAt E t (t + 1) = (sc E t).length := by
  unfold offAt; rw [if_neg (by omega)]; rfl
theorem offAt_here (E : List (Nat × Nat)) (t : Nat) : offAt E t t = OS E t := by
  unfold offAt; rw [if_pos (Nat.le_refl _)]

structure CM (B : Nat) (w0 : World) (n : Nat) (d o : Nat → Nat) (w : World) : Prop where
  size : w.heap.size = B + 2
  bel : Below B w0 w
  ind : w.rowIs B 3 n (fun v => .int .i64 ((d v : Nat) : Int))
  off : w.rowIs (B + 1) 3 (n + 1) (fun x => .int .i64 ((o x : Nat) : Int))

theorem CM.congr {B : Nat} {w0 : World} {n : Nat} {d o d' o' : Nat → Nat} {w : World} (h : CM B w0 n d o w) (hd : ∀ v, v < n → d v = d' v) (ho : ∀ x, x ≤ n → o x = o' x) : CM B w0 n d' o' w :=
  ⟨h.size, h.bel, h.ind.congr fun v hv => by rw [hd v hv], h.off.congr fun x hx => by rw [ho x (by omega)]⟩
theorem CM.drawn {B : Nat} {w0 : World} {n : Nat} {d o : Nat → Nat} {w : World} (h : CM B w0 n d o w) : CM B w0 n d o w.drew := ⟨h.size, h.bel.drew, h.ind.drew, h.off.drew⟩
theorem CM.setInd {B : Nat} {w0 : World} {n : Nat} {d o : Nat → Nat} {w : World} (h : CM B w0 n d o w) (v x : Nat) (y : Int) (hy : y = x) : CM B w0 n (fun j => if j = v then x else d j) o (w.setCell ⟨B, v, none⟩ (.int .i64 y)) := by
  subst hy
  refine ⟨by simpa [World.setCell] using h.size, h.bel.setCell (by exact Nat.le_refl _) _, (h.ind.set v _).congr fun j _ => ?_, h.off.setOther (by show B + 1 ≠ B; omega) _⟩
  by_cases e : j = v <;> simp [e]
theorem CM.setOff {B : Nat} {w0 : World} {n : Nat} {d o : Nat → Nat} {w : World} (h : CM B w0 n d o w) (v x : Nat) (y : Int) (hy : y = x) : CM B w0 n d (fun j => if j = v then x else o j) (w.setCell ⟨B + 1, v, none⟩ (.int .i64 y)) := by
  subst hy
  refine ⟨by simpa [World.setCell] using h.size, h.bel.setCell (by show B ≤ B + 1; omega) _, h.ind.setOther (by show B ≠ B + 1; omega) _, (h.off.set v _).congr fun j _ => ?_⟩
  by_cases e : j = v <;> simp [e]

theorem CM.start (w : World) (n : Nat) : CM w.heap.size w n (idg []) (oc []) ((w.alloc (.cells (madeCells #[.int .i64 0] n) 3)).alloc (.cells (madeCells #[.int .i64 0] (n + 1)) 3)) := by
  have h1 := (World.rowIs_made w (.int .i64 0) n 3).alloc (.cells (madeCells #[.int .i64 0] (n + 1)) 3)
  have h2 := World.rowIs_made (w.alloc (.cells (madeCells #[.int .i64 0] n) 3)) (.int .i64 0) (n + 1) 3
  have hz : (w.alloc (.cells (madeCells #[.int .i64 0] n) 3)).heap.size = w.heap.size + 1 := by simp
  rw [hz] at h2
  refine ⟨by simp, ((Below.refl _ _).alloc (Nat.le_refl _) _).alloc (by simp) _, h1.congr fun v _ => by simp [idg], h2.congr fun x _ => ?_⟩
  cases x <;> rfl

/-- One edge more is counted. -/
theorem CM.edge {B : Nat} {w0 : World} {n : Nat} {P : List (Nat × Nat)} {w : World} (h : CM B w0 n (idg P) (oc P) w) (u v : Nat) :
    CM B w0 n (idg (P ++ [(u, v)])) (oc (P ++ [(u, v)])) ((w.setCell ⟨B, v, none⟩ (.int .i64 ((idg P v : Nat) + 1))).setCell ⟨B + 1, u + 1, none⟩ (.int .i64 ((oc P (u + 1) : Nat) + 1))) := by
  refine ((h.setInd v (idg P v + 1) _ (by simp)).setOff (u + 1) (oc P (u + 1) + 1) _ (by simp)).congr (fun x _ => ?_) (fun x _ => ?_)
  · by_cases e : x = v
    · subst e; simp [ind_snoc_same]
    · simp [e, ind_snoc_other P e]
  · cases x with
    | zero => simp [oc]
    | succ x =>
      by_cases e : x = u
      · subst e; simp [oc, sc_append, sc_same]
      · simp [e, oc, sc_append, sc_other e]

theorem CM.sum {B : Nat} {w0 : World} {n : Nat} {d : Nat → Nat} {E : List (Nat × Nat)} {t : Nat} {w : World} (h : CM B w0 n d (offAt E t) w) (y : Int) (hy : y = (OS E (t + 1) : Nat)) : CM B w0 n d (offAt E (t + 1)) (w.setCell ⟨B + 1, t + 1, none⟩ (.int .i64 y)) := by
  refine (h.setOff (t + 1) (OS E (t + 1)) y hy).congr (fun _ _ => rfl) (fun x _ => ?_)
  by_cases e : x = t + 1
  · subst e; simp [offAt]
  · simp only [e, if_false, offAt]
    by_cases l : x ≤ t
    · rw [if_pos l, if_pos (by omega)]
    · rw [if_neg l, if_neg (by omega)]
theorem CM.summed {B : Nat} {w0 : World} {n t : Nat} {d : Nat → Nat} {E : List (Nat × Nat)} {w : World} (h : CM B w0 n d (offAt E t) w) (ht : n ≤ t) : CM B w0 n d (OS E) w :=
  h.congr (fun _ _ => rfl) fun x hx => by unfold offAt; rw [if_pos (by omega)]

/-! ### With the successors -/
structure CS (B : Nat) (w0 : World) (n m : Nat) (d o : Nat → Nat) (f : Nat → Value) (fl : Nat → Nat) (w : World) : Prop where
  size : w.heap.size = B + 4
  bel : Below B w0 w
  ind : w.rowIs B 3 n (fun v => .int .i64 ((d v : Nat) : Int))
  off : w.rowIs (B + 1) 3 (n + 1) (fun x => .int .i64 ((o x : Nat) : Int))
  succ : w.rowIs (B + 2) 3 m f
  fill : w.rowIs (B + 3) 3 n (fun v => .int .i64 ((fl v : Nat) : Int))

theorem CS.start {B : Nat} {w0 : World} {n m : Nat} {d o : Nat → Nat} {w : World} (h : CM B w0 n d o w) : CS B w0 n m d o (fun _ => .int .i64 0) (fun _ => 0) ((w.alloc (.cells (madeCells #[.int .i64 0] m) 3)).alloc (.cells (madeCells #[.int .i64 0] n) 3)) := by
  have h1 := (World.rowIs_made w (.int .i64 0) m 3).alloc (.cells (madeCells #[.int .i64 0] n) 3)
  have h2 := World.rowIs_made (w.alloc (.cells (madeCells #[.int .i64 0] m) 3)) (.int .i64 0) n 3
  have hz : (w.alloc (.cells (madeCells #[.int .i64 0] m) 3)).heap.size = B + 3 := by simp [h.size]
  rw [hz] at h2
  rw [h.size] at h1
  exact ⟨by simp [h.size], (h.bel.alloc (by rw [h.size]; omega) _).alloc (by rw [hz]; omega) _, (h.ind.alloc _).alloc _, (h.off.alloc _).alloc _, h1, h2⟩
theorem CS.setFill {B : Nat} {w0 : World} {n m : Nat} {d o : Nat → Nat} {f : Nat → Value} {fl : Nat → Nat} {w : World} (h : CS B w0 n m d o f fl w) (v x : Nat) (y : Int) (hy : y = x) : CS B w0 n m d o f (fun j => if j = v then x else fl j) (w.setCell ⟨B + 3, v, none⟩ (.int .i64 y)) := by
  subst hy
  refine ⟨by simpa [World.setCell] using h.size, h.bel.setCell (by show B ≤ B + 3; omega) _, h.ind.setOther (by show B ≠ B + 3; omega) _, h.off.setOther (by show B + 1 ≠ B + 3; omega) _, h.succ.setOther (by show B + 2 ≠ B + 3; omega) _, (h.fill.set v _).congr fun j _ => ?_⟩
  by_cases e : j = v <;> simp [e]
theorem CS.setSucc {B : Nat} {w0 : World} {n m : Nat} {d o : Nat → Nat} {f : Nat → Value} {fl : Nat → Nat} {w : World} (h : CS B w0 n m d o f fl w) (i : Nat) (y : Value) : CS B w0 n m d o (fun j => if j = i then y else f j) fl (w.setCell ⟨B + 2, i, none⟩ y) :=
  ⟨by simpa [World.setCell] using h.size, h.bel.setCell (by show B ≤ B + 2; omega) _, h.ind.setOther (by show B ≠ B + 2; omega) _, h.off.setOther (by show B + 1 ≠ B + 2; omega) _, h.succ.set i _, h.fill.setOther (by show B + 3 ≠ B + 2; omega) _⟩
theorem CS.refill {B : Nat} {w0 : World} {n m : Nat} {d o : Nat → Nat} {f : Nat → Value} {fl fl' : Nat → Nat} {w : World} (h : CS B w0 n m d o f fl w) (e : ∀ v, v < n → fl v = fl' v) : CS B w0 n m d o f fl' w :=
  ⟨h.size, h.bel, h.ind, h.off, h.succ, h.fill.congr fun v hv => by rw [e v hv]⟩

/-- The starts, copied for the nodes below t. -/
def flAt (E : List (Nat × Nat)) (t v : Nat) : Nat := if v < t then OS E v else 0
theorem CS.copy {B : Nat} {w0 : World} {n m : Nat} {d o : Nat → Nat} {f : Nat → Value} {E : List (Nat × Nat)} {t : Nat} {w : World} (h : CS B w0 n m d o f (flAt E t) w) : CS B w0 n m d o f (flAt E (t + 1)) (w.setCell ⟨B + 3, t, none⟩ (.int .i64 ((OS E t : Nat) : Int))) := by
  refine (h.setFill t (OS E t) _ rfl).refill fun v _ => ?_
  by_cases e : v = t
  · subst e; simp [flAt]
  · simp only [e, if_false, flAt]
    by_cases l : v < t
    · rw [if_pos l, if_pos (by omega)]
    · rw [if_neg l, if_neg (by omega)]

/-- What the successors' row says of the edges that are laid. -/
def Laid (E P : List (Nat × Nat)) (n : Nat) (f : Nat → Value) : Prop := ∀ u, u < n → ∀ k, k < (sc P u).length → f (OS E u + k) = .int .i64 ((nn (sc P u) k : Nat) : Int)
/-- Where u's next successor goes. -/
def flP (E P : List (Nat × Nat)) (u : Nat) : Nat := OS E u + (sc P u).length

structure CL (B : Nat) (w0 : World) (n : Nat) (E P : List (Nat × Nat)) (w : World) : Prop where
  mem : ∃ f, CS B w0 n (OS E n) (idg E) (OS E) f (flP E P) w ∧ Laid E P n f
theorem CL.start {B : Nat} {w0 : World} {n t : Nat} {E : List (Nat × Nat)} {f : Nat → Value} {w : World} (h : CS B w0 n (OS E n) (idg E) (OS E) f (flAt E t) w) (ht : n ≤ t) : CL B w0 n E [] w :=
  ⟨f, h.refill fun v hv => by simp [flAt, flP, sc]; omega, fun u _ k hk => by simp [sc] at hk⟩

theorem nn_append_left {l r : List Nat} {k : Nat} (h : k < l.length) : nn (l ++ r) k = nn l k := by
  rw [nn_eq h, nn_eq (by simp; omega), List.getElem_append_left h]
theorem nn_append_at {l : List Nat} {x : Nat} : nn (l ++ [x]) l.length = x := by
  rw [nn_eq (by simp)]
  simp

theorem flP_lt {E P R : List (Nat × Nat)} {u v n : Nat} (hE : P ++ (u, v) :: R = E) (hu : u < n) : flP E P u < OS E n := by
  have h1 : (sc E u).length = (sc P u).length + (sc R u).length + 1 := by
    rw [← hE, sc_append, sc_cons_same]; simp; omega
  have h2 := OS_mono E (show u + 1 ≤ n by omega)
  rw [OS] at h2
  unfold flP
  omega
theorem CL.edge {B : Nat} {w0 : World} {n : Nat} {E P R : List (Nat × Nat)} {w : World} {u v : Nat} (h : CL B w0 n E P w) (hE : P ++ (u, v) :: R = E) (hu : u < n) :
    CL B w0 n E (P ++ [(u, v)]) ((w.setCell ⟨B + 2, flP E P u, none⟩ (.int .i64 ((v : Nat) : Int))).setCell ⟨B + 3, u, none⟩ (.int .i64 ((flP E P u : Nat) + 1))) := by
  obtain ⟨f, hC, hl⟩ := h.mem
  have lens : ∀ x, (sc P x).length ≤ (sc E x).length := fun x => by rw [← hE, sc_append]; simp
  have lenu : (sc P u).length < (sc E u).length := by rw [← hE, sc_append, sc_cons_same]; simp
  refine ⟨_, ((hC.setSucc (flP E P u) (.int .i64 ((v : Nat) : Int))).setFill u (flP E P u + 1) _ (by simp)).refill (fun x _ => ?_), fun x hx k hk => ?_⟩
  · by_cases e : x = u
    · subst e; simp [flP, sc_append, sc_same]; omega
    · simp [e, flP, sc_append, sc_other e]
  · by_cases e : x = u
    · subst e
      rw [sc_append, sc_same] at hk ⊢
      by_cases ek : k = (sc P x).length
      · subst ek
        rw [nn_append_at]
        simp [flP]
      · have hk' : k < (sc P x).length := by simp at hk; omega
        rw [nn_append_left hk']
        exact (if_neg (by simp only [flP]; omega)).trans (hl x hx k hk')
    · rw [sc_append, sc_other e, List.append_nil] at hk ⊢
      have := lens x
      have := OS_apart E e (show k < (sc E x).length by omega) lenu
      exact (if_neg this).trans (hl x hx k hk)

/-! ### With the queue -/
def qCells (q : List Nat) : List Value := q.map fun v => .int .i64 ((v : Nat) : Int)
structure CQ (B : Nat) (w0 : World) (n : Nat) (E : List (Nat × Nat)) (d : Nat → Nat) (q : List Nat) (w : World) : Prop where
  bel : Below B w0 w
  ind : w.rowIs B 3 n (fun v => .int .i64 ((d v : Nat) : Int))
  off : w.rowIs (B + 1) 3 (n + 1) (fun x => .int .i64 ((OS E x : Nat) : Int))
  succ : ∃ f, w.rowIs (B + 2) 3 (OS E n) f ∧ Laid E E n f
  que : w.ownsRow (B + 4) 3 1 (.slice (some ⟨B + 4, 0, none⟩) q.length n) q.length (qCells q)
theorem CQ.start {B : Nat} {w0 : World} {n : Nat} {E : List (Nat × Nat)} {w : World} (h : CL B w0 n E E w) (hn : n ≤ maxLen) : CQ B w0 n E (idg E) [] (w.alloc (.cells (madeCells #[.int .i64 0] n) 3)) := by
  obtain ⟨f, hC, hl⟩ := h.mem
  have ho := World.ownsRow_made (base := B + 4) (e := 3) (size := 1) w (madeCells #[.int .i64 0] n) n (by rw [hC.size]; exact Nat.le_refl _) hn (by rw [size_madeCells]; omega)
  rw [hC.size] at ho
  exact ⟨hC.bel.alloc (by rw [hC.size]; omega) _, hC.ind.alloc _, hC.off.alloc _, ⟨f, hC.succ.alloc _, hl⟩, ho⟩
theorem CQ.size {B : Nat} {w0 : World} {n : Nat} {E : List (Nat × Nat)} {d : Nat → Nat} {q : List Nat} {w : World} (h : CQ B w0 n E d q w) : B + 5 ≤ w.heap.size := by
  have := (h.que.lt (B + 4) rfl).2
  omega
theorem CQ.keep {B : Nat} {w0 : World} {n : Nat} {E : List (Nat × Nat)} {d : Nat → Nat} {q : List Nat} {w : World} (h : CQ B w0 n E d q w) (o : Obj) : CQ B w0 n E d q (w.alloc o) := by
  obtain ⟨f, hf, hl⟩ := h.succ
  exact ⟨h.bel.alloc (by have := h.size; omega) _, h.ind.alloc _, h.off.alloc _, ⟨f, hf.alloc _, hl⟩, h.que.alloc _⟩
theorem CQ.dec {B : Nat} {w0 : World} {n : Nat} {E : List (Nat × Nat)} {d : Nat → Nat} {q : List Nat} {w : World} (h : CQ B w0 n E d q w) (v : Nat) (y : Int) (hy : y = ((d v - 1 : Nat) : Int)) : CQ B w0 n E (dec d v) q (w.setCell ⟨B, v, none⟩ (.int .i64 y)) := by
  subst hy
  obtain ⟨f, hf, hl⟩ := h.succ
  have hg : w.grownBy (w.setCell ⟨B, v, none⟩ (.int .i64 ((d v - 1 : Nat) : Int))) (some B) := ⟨rfl, rfl, rfl, by simp, fun k _ hk => heap_setCell_other w ⟨B, v, none⟩ k _ (fun e => hk (by simp [e]))⟩
  refine ⟨h.bel.setCell (by exact Nat.le_refl _) _, (h.ind.set v _).congr fun j _ => ?_, h.off.setOther (by show B + 1 ≠ B; omega) _, ⟨f, hf.setOther (by show B + 2 ≠ B; omega) _, hl⟩, h.que.kept hg (.inr (by simp [Value.ownBlock]))⟩
  by_cases e : j = v
  · subst e; simp [Go.Proofs.Qxb6603365a.dec]
  · simp [e, Go.Proofs.Qxb6603365a.dec]
theorem CQ.put {B : Nat} {w0 : World} {n : Nat} {E : List (Nat × Nat)} {d : Nat → Nat} {q : List Nat} {w w' : World} (h : CQ B w0 n E d q w) (v : Nat)
    (ho : w'.ownsRow (B + 4) 3 1 (.slice (some ⟨B + 4, 0, none⟩) (q.length + 1) n) (q.length + 1) (qCells q ++ [.int .i64 ((v : Nat) : Int)])) (hg : w.grownBy w' (some (B + 4))) : CQ B w0 n E d (q ++ [v]) w' := by
  have hz := h.size
  obtain ⟨f, hf, hl⟩ := h.succ
  refine ⟨h.bel.grown hg (by omega) (fun k hk => by simp at hk; omega), h.ind.of_block (hg.block _ (by omega) (by simp)), h.off.of_block (hg.block _ (by omega) (by simp)), ⟨f, hf.of_block (hg.block _ (by omega) (by simp)), hl⟩, ?_⟩
  have e : qCells (q ++ [v]) = qCells q ++ [.int .i64 ((v : Nat) : Int)] := by simp [qCells]
  rw [e, List.length_append]
  exact ho
theorem CQ.at {B : Nat} {w0 : World} {n : Nat} {E : List (Nat × Nat)} {d : Nat → Nat} {q : List Nat} {w : World} (h : CQ B w0 n E d q w) {k u : Nat} (hk : k < q.length) (hu : q[k]? = some u) : w.cell? ⟨B + 4, k, none⟩ = some (.int .i64 ((u : Nat) : Int)) := by
  rw [h.que.cellAt k (by omega)]
  simp [qCells, hu]
end Go.Proofs.Qxb6603365a
