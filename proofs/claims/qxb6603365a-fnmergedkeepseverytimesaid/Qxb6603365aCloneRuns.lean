/-
  A SLICE OF SLICES THAT THE CALL ITSELF LAYS, RUN BY RUN; zzCloneRuns (9).
-/
import Derived.Test.Qxb6603365aRuns
namespace Go.Proofs.Qxb6603365a
open Go.ChangeShapes Go.WideShapes Go.ChangeAt Go.RowKit

structure CMem (Φ : Phi) (e : TypeId) (w : World) (rs : List (List Int)) (A : Nat → Option Addr) (C : Nat → Nat) (k : Nat) (wr : World) : Prop where
  bel : Below w.heap.size w wr
  row : wr.rowIs w.heap.size e rs.length (fun i => if i < k then .slice (A i) (run rs i).length (C i) else .slice none 0 0)
  blk : ∀ i, i < k → ∀ x : Addr, A i = some x → w.heap.size < x.block ∧ x.block < wr.heap.size
  phi : ∀ i, i < k → Φ wr (A i) (run rs i) (C i)

def CM (Φ : Phi) (e : TypeId) (w : World) (rs : List (List Int)) (k : Nat) (wr : World) : Prop := ∃ A C, CMem Φ e w rs A C k wr

variable {Φ : Phi} {e : TypeId} {w : World} {rs : List (List Int)} {k : Nat} {wr : World}

theorem cm_start (Φ : Phi) (e : TypeId) (w : World) (rs : List (List Int)) : CM Φ e w rs 0 (w.alloc (.cells (madeCells #[.slice none 0 0] rs.length) e)) :=
  ⟨fun _ => none, fun _ => 0, (Below.refl _ _).alloc (Nat.le_refl _) _, (World.rowIs_made w _ _ _).congr (by intro j _; simp), fun i hi => by omega, fun i hi => by omega⟩

theorem CM.bel (h : CM Φ e w rs k wr) : Below w.heap.size w wr := by obtain ⟨A, C, h⟩ := h; exact h.bel
theorem CM.lt (h : CM Φ e w rs k wr) : w.heap.size < wr.heap.size := by obtain ⟨A, C, h⟩ := h; exact h.row.lt
theorem CM.cell (h : CM Φ e w rs k wr) (hk : k < rs.length) : wr.cell? ⟨w.heap.size, k, none⟩ = some (.slice none 0 0) ∧ wr.frozen? ⟨w.heap.size, k, none⟩ = false := by
  obtain ⟨A, C, h⟩ := h
  have := h.row.cell hk
  rw [if_neg (by omega)] at this
  exact ⟨this, h.row.frozen k⟩

/-- A run that is nil: nothing is laid. -/
theorem CM.skip (h : CM Φ e w rs k wr) (h0 : (run rs k).length = 0) (hp : Φ wr none (run rs k) 0) : CM Φ e w rs (k + 1) wr := by
  obtain ⟨A, C, h⟩ := h
  refine ⟨fun i => if i = k then none else A i, fun i => if i = k then 0 else C i, h.bel, h.row.congr ?_, ?_, ?_⟩
  · intro i _
    by_cases e1 : i = k
    · subst e1
      rw [if_neg (by omega), if_pos (by omega), h0]
      simp
    · simp only [e1, if_false]
      by_cases e2 : i < k
      · rw [if_pos e2, if_pos (by omega)]
      · rw [if_neg e2, if_neg (by omega)]
  · intro i hi x hx
    by_cases e1 : i = k
    · subst e1; simp at hx
    · simp only [e1, if_false] at hx
      exact h.blk i (by omega) x hx
  · intro i hi
    by_cases e1 : i = k
    · subst e1; simpa using hp
    · simp only [e1, if_false]
      exact h.phi i (by omega)

/-- A run laid in a block of its own, and stored. -/
theorem CM.store {w1 : World} {g : Nat} (st : Stable Φ) (h : CM Φ e w rs k wr) (hb : Below wr.heap.size wr w1) (hg : g = wr.heap.size) (hg1 : g < w1.heap.size) (hp : Φ w1 (some ⟨g, 0, none⟩) (run rs k) (run rs k).length) :
    CM Φ e w rs (k + 1) (w1.setCell ⟨w.heap.size, k, none⟩ (.slice (some ⟨g, 0, none⟩) (run rs k).length (run rs k).length)) := by
  have hlt := h.lt
  obtain ⟨A, C, h⟩ := h
  have hrow1 : w1.rowIs w.heap.size e rs.length (fun i => if i < k then .slice (A i) (run rs i).length (C i) else .slice none 0 0) := h.row.of_block (hb.block _ hlt)
  refine ⟨fun i => if i = k then some ⟨g, 0, none⟩ else A i, fun i => if i = k then (run rs k).length else C i, ?_, (hrow1.set k _).congr ?_, ?_, ?_⟩
  · exact (h.bel.trans (hb.mono (by omega))).setCell (Nat.le_refl _) _
  · intro i _
    by_cases e1 : i = k
    · subst e1; simp
    · simp only [e1, if_false]
      by_cases e2 : i < k
      · rw [if_pos e2, if_pos (by omega)]
      · rw [if_neg e2, if_neg (by omega)]
  · intro i hi x hx
    have hsz : (w1.setCell ⟨w.heap.size, k, none⟩ (.slice (some ⟨g, 0, none⟩) (run rs k).length (run rs k).length)).heap.size = w1.heap.size := by simp
    rw [hsz]
    by_cases e1 : i = k
    · subst e1
      simp at hx
      subst hx
      exact ⟨by show w.heap.size < g; omega, hg1⟩
    · simp only [e1, if_false] at hx
      have := h.blk i (by omega) x hx
      exact ⟨this.1, Nat.lt_of_lt_of_le this.2 hb.size⟩
  · intro i hi
    by_cases e1 : i = k
    · subst e1
      simp only [if_true]
      refine st _ _ _ _ _ hp ?_
      intro x hx
      cases hx
      exact Below.heap_setCell _ _ _ _ (by show g ≠ w.heap.size; omega)
    · simp only [e1, if_false]
      refine st _ _ _ _ _ (h.phi i (by omega)) ?_
      intro x hx
      have hx2 := h.blk i (by omega) x hx
      rw [Below.heap_setCell _ _ _ _ (by show x.block ≠ w.heap.size; omega)]
      exact hb.block _ hx2.2

theorem CM.done (h : CM Φ e w rs rs.length wr) : RunsP Φ wr (some ⟨w.heap.size, 0, none⟩) rs rs.length := by
  have hlt := h.lt
  obtain ⟨A, C, h⟩ := h
  refine ⟨fun i hi => ⟨w.heap.size, 0, A i, C i, rfl, hlt, ?_, h.phi i hi⟩, fun h => by cases h⟩
  have := h.row.cell hi
  rw [if_pos hi] at this
  rw [Nat.zero_add]
  exact this

theorem info24 : (Try.prog.info? 24).map (fun i => (i.zero, i.size, i.bytes)) = some (some (.slice none 0 0), 1, 24) := by kernel_rfl

def CPost (rs : List (List Int)) (w : World) (e : Ending) (w' : World) : Prop :=
  ∃ a', e = .returned (.slice a' rs.length rs.length) ∧ RunsP (SliceOf .i64) w' a' rs rs.length ∧ Below w.heap.size w w'

theorem sliceOf_nil (w : World) : SliceOf .i64 w none [] 0 := ⟨Reads.nil _ _ _, Nat.le_refl _, fun _ => rfl⟩

theorem cloneRuns_nil (w : World) : Calls Try.prog 9 #[.slice none 0 0] w (CPost [] w) := by
  have q22 : ∀ (w : World) (a : Option Addr) (n c n' c' : Nat), (binOp .eql 22 (.slice a n c) (.slice none n' c')).run Try.prog w = .ok (.bool a.isNone) w := fun w a n c n' c' => Lib.run_eql_slice_nil w _ _ a n c n' c' Try.underlying22
  go_enter Try.func9, Try.ntmps9
  go_wp2
  go_ret
  exact ⟨none, rfl, ⟨fun i hi => by simp at hi, fun _ => ⟨rfl, rfl⟩⟩, Below.refl _ _⟩

set_option maxHeartbeats 1000000 in
set_option maxRecDepth 20000 in
theorem cloneRuns_some (x : Addr) (cap : Nat) (rs : List (List Int)) (w : World) (hn : rs.length ≤ 1048576) (ht : startAt rs rs.length ≤ 1048576) (h : RunsP (SliceOf .i64) w (some x) rs cap) : Calls Try.prog 9 #[.slice (some x) rs.length cap] w (CPost rs w) := by
  have q22 : ∀ (w : World) (a : Option Addr) (n c n' c' : Nat), (binOp .eql 22 (.slice a n c) (.slice none n' c')).run Try.prog w = .ok (.bool a.isNone) w := fun w a n c n' c' => Lib.run_eql_slice_nil w _ _ a n c n' c' Try.underlying22
  have q24 : ∀ (w : World) (a : Option Addr) (n c n' c' : Nat), (binOp .neq 24 (.slice a n c) (.slice none n' c')).run Try.prog w = .ok (.bool (!a.isNone)) w := fun w a n c n' c' => run_neq_slice_nil_any w _ _ a n c n' c' Try.underlying24
  have hmk := run_make_row' (P := Try.prog) 22 24 (.slice none 0 0) 24 Try.underlying22 info24 rfl .i64 .i64 rs.length (by omega) (by omega)
  go_enter Try.func9, Try.ntmps9
  go_wp2_with fail
  clear hmk q22
  go_loopg [4] rs.length (fun g iv wr => ∃ k : Nat, rs.length - k ≤ g ∧ k ≤ rs.length ∧ iv = .int .i64 k ∧ CM (SliceOf .i64) 24 w rs k wr)
  case atStart => exact ⟨0, by omega, by omega, rfl, cm_start _ _ _ _⟩
  case round =>
    obtain ⟨k, hg, hk, rfl, hC⟩ := hrel
    by_cases hlt : k < rs.length
    · have hlt' : (k : Int) < rs.length := by omega
      obtain ⟨b, off, ai, ci, ex, hb, hc, hp⟩ := h.at_ k hlt
      cases ex
      have hc' : wr.cell? ⟨b, off + k, none⟩ = some (.slice ai (run rs k).length ci) := by rw [hC.bel.cell (by exact hb)]; exact hc
      obtain ⟨co, fo⟩ := hC.cell hlt
      cases ai with
      | none =>
        have hl0 : (run rs k).length = 0 := by have := hp.le; have := hp.nil rfl; omega
        have hr0 : run rs k = [] := List.eq_nil_of_length_eq_zero hl0
        have hS := hC.skip hl0 (by rw [hr0]; exact sliceOf_nil _)
        have HS : Hid (CM (SliceOf .i64) 24 w rs (k + 1) wr) := hS
        clear hr0 hl0 hS
        go_wp2_with fail
        go_roundg (gk - 1)
        case rel => exact ⟨k + 1, by omega, by omega, by go_num, HS.out⟩
        case measure => omega
      | some y =>
        have hrl : (run rs k).length ≤ 1048576 := by have := startAt_le (rs := rs) (k + 1); have := startAt_run hlt; omega
        have hmk := run_make_row' (P := Try.prog) 24 3 (.int .i64 0) 8 Try.underlying24 info3 rfl .i64 .i64 (run rs k).length (by omega) (by omega)
        obtain ⟨og, hog⟩ : ∃ og, og = gk := ⟨gk, rfl⟩
        subst hog
        obtain ⟨wo, hwo⟩ : ∃ wo, wo = wr := ⟨wr, rfl⟩
        subst hwo
        have hwl := hC.lt
        go_wp2_with fail
        clear hmk
        go_loopg [6] (run rs k).length (fun g jv wr => ∃ j : Nat, (run rs k).length - j ≤ g ∧ j ≤ (run rs k).length ∧ jv = .int .i64 j ∧ wr.rowIs wo.heap.size 3 (run rs k).length (fun i => if i < j then .int .i64 (nth (run rs k) i) else .int .i64 0) ∧ Below wo.heap.size wo wr)
        case atStart => exact ⟨0, by omega, by omega, rfl, (World.rowIs_made wo _ _ _).congr (by intro j _; simp), (Below.refl _ _).alloc (Nat.le_refl _) _⟩
        case round =>
          obtain ⟨j, hgj, hj, rfl, hrow, hbel⟩ := hrel
          have hc2 : wr.cell? ⟨b, off + k, none⟩ = some (.slice (some y) (run rs k).length ci) := by rw [hbel.cell (by show b < wo.heap.size; omega)]; exact hc'
          by_cases hlj : j < (run rs k).length
          · have hlj' : (j : Int) < (run rs k).length := by omega
            obtain ⟨b', off', ey, hb', rc⟩ := hp.reads.at hlj
            cases ey
            have hcj : wr.cell? ⟨b', off' + j, none⟩ = some (.int .i64 (nth (run rs k) j)) := by rw [hbel.cell (by show b' < wo.heap.size; omega), hC.bel.cell (by exact hb')]; exact rc j hlj
            have hcd := hrow.cell hlj
            have hfd := hrow.frozen j
            have R := row_step hrow
            have R2 := hbel.setCell (p := ⟨wo.heap.size, j, none⟩) (Nat.le_refl _) (.int .i64 (nth (run rs k) j))
            clear rc
            go_wp2_with fail
            go_roundg (gk - 1)
            case rel => exact ⟨j + 1, by omega, by omega, by go_num, R, R2⟩
            case measure => omega
          · have hp2 : SliceOf .i64 wr (some ⟨wo.heap.size, 0, none⟩) (run rs k) (run rs k).length := ⟨reads_row64 hrow (by intro i hi; rw [if_pos (by omega)]), Nat.le_refl _, fun h => by cases h⟩
            have hS := hC.store stable_slice hbel rfl hrow.lt hp2
            have co2 : wr.cell? ⟨w.heap.size, k, none⟩ = some (.slice none 0 0) := by rw [hbel.cell (by show w.heap.size < wo.heap.size; omega)]; exact co
            have fo2 : wr.frozen? ⟨w.heap.size, k, none⟩ = false := by rw [hbel.frozen (by show w.heap.size < wo.heap.size; omega)]; exact fo
            clear co fo hc'
            go_wp2_with fail
            go_roundg (og - 1)
            case rel => exact ⟨k + 1, by omega, by omega, by go_num, hS⟩
            case measure => omega
    · have e : k = rs.length := by omega
      have HC : Hid (CM (SliceOf .i64) 24 w rs rs.length wr) := by rw [← e]; rw [e] at hC ⊢; exact hC
      clear e
      go_wp2_with fail
      go_ret
      exact ⟨_, rfl, HC.out.done, hC.bel⟩

theorem cloneRuns_any (a : Option Addr) (cap : Nat) (rs : List (List Int)) (w : World) (hn : rs.length ≤ 1048576) (ht : startAt rs rs.length ≤ 1048576) (h : RunsP (SliceOf .i64) w a rs cap) : Calls Try.prog 9 #[.slice a rs.length cap] w (CPost rs w) := by
  cases a with
  | none =>
    obtain ⟨rfl, rfl⟩ := h.nil rfl
    exact cloneRuns_nil w
  | some x => exact cloneRuns_some x cap rs w hn ht h
end Go.Proofs.Qxb6603365a
