/-
  WHAT THE MEMORY OF 'sim.forwards' HOLDS OF THE SEARCH's STATE, AND WHAT EACH STEP MAKES OF IT.
-/
import Derived.Test.Qxb6603365aOf
namespace Go.Proofs.Qxb6603365a
open Go.ChangeShapes Go.WideShapes Go.ChangeAt Go.RowKit

theorem info56 : (Try.prog.info? 56).map (fun i => (i.zero, i.size, i.bytes)) = some (some (.agg #[.int .i32 0, .int .i32 0]), 2, 8) := by kernel_rfl

def ordCells (o : List Nat) : List Value := o.map fun v => .int .i32 ((v : Nat) : Int)
def pathCells : List (Nat × Nat) → List Value
  | [] => []
  | q :: p => .int .i32 ((q.1 : Nat) : Int) :: .int .i32 ((q.2 : Nat) : Int) :: pathCells p

theorem pathCells_append (p q : List (Nat × Nat)) : pathCells (p ++ q) = pathCells p ++ pathCells q := by
  induction p with
  | nil => rfl
  | cons a p ih => simp [pathCells, ih]
theorem pathCells_len (p : List (Nat × Nat)) : (pathCells p).length = p.length * 2 := by
  induction p with
  | nil => rfl
  | cons a p ih => simp [pathCells, ih]; omega

structure FMem (B : Nat) (w : World) (n : Nat) (s : St) (pv : Value) (wr : World) : Prop where
  bel : Below (B + 1) w wr
  ord : wr.ownsRow (B + 1) 21 1 (.slice (some ⟨B + 1, 0, none⟩) s.order.length n) s.order.length (ordCells s.order)
  seen : wr.rowIs (B + 2) 4 n (fun v => .bool (s.seen v))
  path : wr.ownsRow (B + 3) 56 2 pv s.path.length (pathCells s.path)

/-- The path's value, where it holds something. -/
theorem FMem.shape {B : Nat} {w : World} {n : Nat} {s : St} {pv : Value} {wr : World} (h : FMem B w n s pv wr) (hp : s.path ≠ []) : ∃ g cap, pv = .slice (some ⟨g, 0, none⟩) s.path.length cap ∧ B + 3 ≤ g ∧ s.path.length ≤ cap := by
  rcases h.path.2 with ⟨_, h0⟩ | ⟨g, cap, cur, e, hb, _, hn, _⟩
  · exact absurd (List.eq_nil_of_length_eq_zero h0) hp
  · exact ⟨g, cap, e, hb, hn⟩

/-- The path's value, where it holds nothing: it is nil or has a length of nought. -/
theorem FMem.shape' {B : Nat} {w : World} {n : Nat} {s : St} {pv : Value} {wr : World} {p : List (Nat × Nat)} {q : Nat × Nat} (h : FMem B w n s pv wr) (hp : s.path = p ++ [q]) : ∃ g cap, pv = .slice (some ⟨g, 0, none⟩) (p.length + 1) cap ∧ B + 3 ≤ g ∧ p.length + 1 ≤ cap := by
  obtain ⟨g, cap, e, h1, h2⟩ := h.shape (by rw [hp]; simp)
  have hl : s.path.length = p.length + 1 := by rw [hp]; simp
  rw [hl] at e h2
  exact ⟨g, cap, e, h1, h2⟩

theorem FMem.size {B : Nat} {w : World} {n : Nat} {s : St} {pv : Value} {wr : World} (h : FMem B w n s pv wr) : B + 3 ≤ wr.heap.size := by
  have := h.seen.lt
  omega

/-- A step that turns nothing of the call's own and of what lies below (a new block, a draw). -/
theorem FMem.keep {B : Nat} {w : World} {n : Nat} {s : St} {pv : Value} {wr w' : World} (h : FMem B w n s pv wr) (hb : Below wr.heap.size wr w') : FMem B w n s pv w' := by
  have hz := h.size
  have hg : wr.grownBy w' none := ⟨hb.os, hb.tape, hb.output, hb.size, fun k hk _ => hb.block k hk⟩
  refine ⟨h.bel.trans (hb.mono (by omega)), h.ord.kept hg (.inr (by simp [Value.ownBlock])), h.seen.of_block (hb.block _ (by omega)), h.path.kept hg ?_⟩
  cases pv.ownBlock <;> simp

theorem below_alloc (w : World) (o : Obj) : Below w.heap.size w (w.alloc o) := (Below.refl _ _).alloc (Nat.le_refl _) o

/-- 'seen[i] = true'. -/
theorem FMem.mark {B : Nat} {w : World} {n : Nat} {s : St} {pv : Value} {wr : World} (h : FMem B w n s pv wr) (i : Nat) : FMem B w n ⟨s.order, upd s.seen i, s.path⟩ pv (wr.setCell ⟨B + 2, i, none⟩ (.bool true)) := by
  have hg : wr.grownBy (wr.setCell ⟨B + 2, i, none⟩ (.bool true)) (some (B + 2)) := ⟨rfl, rfl, rfl, by simp, fun k _ hk => heap_setCell_other wr ⟨B + 2, i, none⟩ k _ (fun e => hk (by simp [e]))⟩
  refine ⟨h.bel.setCell (by show B + 1 ≤ B + 2; omega) _, h.ord.kept hg (.inr (by simp [Value.ownBlock])), (h.seen.set i _).congr fun j _ => ?_, h.path.kept hg ?_⟩
  · by_cases e : j = i
    · simp [e, upd]
    · simp [e, upd]
  · rcases h.path.2 with ⟨e, _⟩ | ⟨g, cap, cur, e, hb, _⟩
    · left; rw [e]; rfl
    · right; rw [e]; simp [Value.ownBlock]; omega

/-- 'path = append(path, step{j: i})'. -/
theorem FMem.grow {B : Nat} {w : World} {n : Nat} {s : St} {pv pv' : Value} {wr w' : World} (h : FMem B w n s pv wr) (i : Nat)
    (ho : w'.ownsRow (B + 3) 56 2 pv' (s.path.length + 1) (pathCells s.path ++ [.int .i32 ((i : Nat) : Int), .int .i32 0])) (hg : wr.grownBy w' pv.ownBlock) : FMem B w n ⟨s.order, s.seen, s.path ++ [(i, 0)]⟩ pv' w' := by
  have hz := h.size
  have hne : ∀ k, pv.ownBlock = some k → B + 3 ≤ k := fun k hk => (h.path.lt k hk).1
  refine ⟨h.bel.grown hg (by omega) (fun k hk => by have := hne k hk; omega), h.ord.kept hg (.inr ?_), h.seen.of_block (hg.block _ (by omega) ?_), ?_⟩
  · intro e
    have := hne (B + 1) (by rw [← e]; rfl)
    omega
  · intro e
    have := hne (B + 2) e.symm
    omega
  · have e : pathCells (s.path ++ [(i, 0)]) = pathCells s.path ++ [.int .i32 ((i : Nat) : Int), .int .i32 0] := by rw [pathCells_append]; rfl
    show w'.ownsRow _ _ _ _ (s.path ++ [(i, 0)]).length _
    rw [e, List.length_append]
    exact ho

/-- 'top.looked++'. -/
theorem FMem.look {B : Nat} {w : World} {n : Nat} {s : St} {wr : World} {p : List (Nat × Nat)} {v l g cap : Nat} (h : FMem B w n s (.slice (some ⟨g, 0, none⟩) (p.length + 1) cap) wr) (hp : s.path = p ++ [(v, l)]) (hg3 : B + 3 ≤ g) :
    FMem B w n ⟨s.order, s.seen, p ++ [(v, l + 1)]⟩ (.slice (some ⟨g, 0, none⟩) (p.length + 1) cap) (wr.setCell ⟨g, p.length * 2 + 1, none⟩ (.int .i32 ((l : Int) + 1))) := by
  have hlen : s.path.length = p.length + 1 := by rw [hp]; simp
  have hpath := h.path
  rw [← hlen] at hpath
  obtain ⟨ho, hg⟩ := hpath.stored (p.length * 2 + 1) (.int .i32 ((l : Int) + 1))
  have hl : (p ++ [(v, l + 1)]).length = s.path.length := by rw [hp]; simp
  refine ⟨h.bel.setCell (by show B + 1 ≤ g; omega) _, h.ord.kept hg (.inr (by simp [Value.ownBlock]; omega)), h.seen.setOther (by show B + 2 ≠ g; omega) _, ?_⟩
  show World.ownsRow _ _ _ _ _ (p ++ [(v, l + 1)]).length _
  rw [hl, ← hlen]
  have e : pathCells (p ++ [(v, l + 1)]) = (pathCells s.path).set (p.length * 2 + 1) (.int .i32 ((l : Int) + 1)) := by
    rw [hp, pathCells_append, pathCells_append, List.set_append_right _ _ (by rw [pathCells_len]; omega), pathCells_len]
    have : p.length * 2 + 1 - p.length * 2 = 1 := by omega
    rw [this]
    rfl
  show World.ownsRow _ _ _ _ _ _ (pathCells (p ++ [(v, l + 1)]))
  rw [e]
  exact ho

/-- The top of the path, as its two cells. -/
theorem FMem.top {B : Nat} {w : World} {n : Nat} {s : St} {wr : World} {p : List (Nat × Nat)} {v l g cap : Nat} (h0 : FMem B w n s (.slice (some ⟨g, 0, none⟩) (p.length + 1) cap) wr) (hp : s.path = p ++ [(v, l)]) :
    wr.cell? ⟨g, p.length * 2, none⟩ = some (.int .i32 ((v : Nat) : Int)) ∧ wr.cell? ⟨g, p.length * 2 + 1, none⟩ = some (.int .i32 ((l : Nat) : Int)) ∧ wr.frozen? ⟨g, p.length * 2 + 1, none⟩ = false ∧ g < wr.heap.size := by
  have hl : s.path.length = p.length + 1 := by rw [hp]; simp
  have h := h0
  rw [← hl] at h
  refine ⟨?_, ?_, h.path.frozenAt _, (h.path.lt g rfl).2⟩
  · rw [h.path.cellAt _ (by omega), hp, pathCells_append, List.getElem?_append_right (by rw [pathCells_len]; omega), pathCells_len]
    simp [pathCells]
  · rw [h.path.cellAt _ (by omega), hp, pathCells_append, List.getElem?_append_right (by rw [pathCells_len]; omega), pathCells_len]
    have : p.length * 2 + 1 - p.length * 2 = 1 := by omega
    rw [this]
    rfl

/-- 'order = append(order, top.j)'. -/
theorem FMem.put {B : Nat} {w : World} {n : Nat} {s : St} {pv : Value} {wr w' : World} (h : FMem B w n s pv wr) (v : Nat)
    (ho : w'.ownsRow (B + 1) 21 1 (.slice (some ⟨B + 1, 0, none⟩) (s.order.length + 1) n) (s.order.length + 1) (ordCells s.order ++ [.int .i32 ((v : Nat) : Int)])) (hg : wr.grownBy w' (some (B + 1))) : FMem B w n ⟨s.order ++ [v], s.seen, s.path⟩ pv w' := by
  have hz := h.size
  refine ⟨h.bel.grown hg (by omega) (fun k hk => by simp at hk; omega), ?_, h.seen.of_block (hg.block _ (by omega) (by simp)), h.path.kept hg ?_⟩
  · have e : ordCells (s.order ++ [v]) = ordCells s.order ++ [.int .i32 ((v : Nat) : Int)] := by simp [ordCells]
    show w'.ownsRow _ _ _ (.slice _ (s.order ++ [v]).length n) (s.order ++ [v]).length _
    rw [e, List.length_append]
    exact ho
  · rcases h.path.2 with ⟨e, _⟩ | ⟨g, cap, cur, e, hb, _⟩
    · left; rw [e]; rfl
    · right; rw [e]; simp [Value.ownBlock]; omega

/-- 'path = path[:len(path)-1]'. -/
theorem FMem.pop {B : Nat} {w : World} {n : Nat} {s : St} {wr : World} {p : List (Nat × Nat)} {v l g cap : Nat} (h : FMem B w n s (.slice (some ⟨g, 0, none⟩) (p.length + 1) cap) wr) (hp : s.path = p ++ [(v, l)]) :
    FMem B w n ⟨s.order, s.seen, p⟩ (.slice (some ⟨g, 0, none⟩) p.length cap) wr := by
  refine ⟨h.bel, h.ord, h.seen, ?_⟩
  have ho := h.path
  rw [hp, pathCells_append] at ho
  have hl : (p ++ [(v, l)]).length = p.length + 1 := by simp
  rw [hl] at ho
  exact ownsRow_pop (by rw [pathCells_len]) ho

/-- The start: behind the two makes. -/
theorem FMem.start {w w1 : World} {n : Nat} (h : w1.ownsRow (w.heap.size) 21 1 (.slice (some ⟨w.heap.size, 0, none⟩) 0 n) 0 []) (hg : w.grownBy w1 none) (B : Nat) (hB : w.heap.size = B + 1) (hz : w1.heap.size = B + 2) :
    FMem B w n St.start (.slice none 0 0) (w1.alloc (.cells (madeCells #[.bool false] n) 4)) := by
  have hr := World.rowIs_made w1 (.bool false) n 4
  rw [hz] at hr
  rw [hB] at h
  refine ⟨?_, h.alloc _, hr, World.ownsRow_nil _ _ _ _⟩
  exact ((Below.refl _ _).grown hg (by omega) (by simp)).alloc (by omega) _
end Go.Proofs.Qxb6603365a
