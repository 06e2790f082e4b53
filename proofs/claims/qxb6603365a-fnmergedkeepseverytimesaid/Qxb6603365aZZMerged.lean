/-
  'sim.ZZMerged' (10).
-/
import Derived.Test.Qxb6603365aMergedB
namespace Go.Proofs.Qxb6603365a
open Go.ChangeShapes Go.WideShapes Go.ChangeAt Go.RowKit

theorem info38 : (Try.prog.info? 38).map (fun i => (i.zero, i.size, i.bytes)) = some (some (.slice none 0 0), 1, 24) := by kernel_rfl
theorem info41 : (Try.prog.info? 41).map (fun i => (i.zero, i.size, i.bytes)) = some (some (.agg #[.int .i64 0, .int .i64 0, .pointer none, .int .i32 0]), 4, 32) := by kernel_rfl

/-- A version's cell that is not its time. -/
def vz (x : Nat) : Value := if x % 4 = 0 then .int .i64 0 else if x % 4 = 1 then .int .i64 0 else if x % 4 = 2 then .pointer none else .int .i32 0
def vrow (r : List Int) (j : Nat) (x : Nat) : Value := if x % 4 = 1 ∧ x / 4 < j then .int .i64 (nth r (x / 4)) else vz x

theorem vmade (n : Nat) : ∀ i, i < (madeCells #[.int .i64 0, .int .i64 0, .pointer none, .int .i32 0] (n * 4)).size → (madeCells #[.int .i64 0, .int .i64 0, .pointer none, .int .i32 0] (n * 4))[i]? = some (vz i) := by
  intro i hi
  rw [size_madeCells] at hi
  have h4 : i % 4 = 0 ∨ i % 4 = 1 ∨ i % 4 = 2 ∨ i % 4 = 3 := by omega
  rcases h4 with h4 | h4 | h4 | h4 <;> simp [madeCells, hi, h4, vz]

theorem vrow_start {w : World} {b n : Nat} {r : List Int} (h : w.rowIs b 41 n vz) : w.rowIs b 41 n (vrow r 0) := h.congr (by intro i _; unfold vrow; rw [if_neg (by omega)])

theorem vrow_step {w : World} {b n j : Nat} {r : List Int} (h : w.rowIs b 41 n (vrow r j)) : (w.setCell ⟨b, j * 4 + 1, none⟩ (.int .i64 (nth r j))).rowIs b 41 n (vrow r (j + 1)) := by
  refine (h.set (j * 4 + 1) _).congr fun x _ => ?_
  unfold vrow
  by_cases e : x = j * 4 + 1
  · subst e
    rw [if_pos rfl, if_pos (by omega), show (j * 4 + 1) / 4 = j by omega]
  · rw [if_neg e]
    by_cases e2 : x % 4 = 1 ∧ x / 4 < j
    · rw [if_pos e2, if_pos (by omega)]
    · rw [if_neg e2, if_neg (by omega)]

theorem vrow_done {w : World} {b : Nat} {r : List Int} (h : w.rowIs b 41 (r.length * 4) (vrow r r.length)) : VSlice w (some ⟨b, 0, none⟩) r r.length := by
  refine ⟨Nat.le_refl _, fun j hj => ⟨b, 0, rfl, h.lt, ?_, ?_, ?_, ?_⟩⟩
  · have := h.cell (show j * 4 < r.length * 4 by omega)
    rw [Nat.zero_add, this]
    unfold vrow vz
    rw [if_neg (by omega), if_pos (by omega)]
  · have := h.cell (show j * 4 + 1 < r.length * 4 by omega)
    rw [Nat.zero_add, this]
    unfold vrow
    rw [if_pos (by omega), show (j * 4 + 1) / 4 = j by omega]
  · have := h.cell (show j * 4 + 2 < r.length * 4 by omega)
    rw [Nat.zero_add, this]
    unfold vrow vz
    rw [if_neg (by omega), if_neg (by omega), if_neg (by omega), if_pos (by omega)]
  · have := h.cell (show j * 4 + 3 < r.length * 4 by omega)
    rw [Nat.zero_add, this]
    unfold vrow vz
    rw [if_neg (by omega), if_neg (by omega), if_neg (by omega), if_neg (by omega)]

theorem vrow_at {r : List Int} {j : Nat} : vrow r j (j * 4 + 1) = .int .i64 0 := by
  unfold vrow vz
  rw [if_neg (by omega), if_neg (by omega), if_pos (by omega)]

theorem make_wide {P : Program} (t e : TypeId) (z : Value) (zs : Array Value) (size bytes : Nat) (ht : P.underlying t = some (.slice e)) (hinfo : (P.info? e).map (fun i => (i.zero, i.size, i.bytes)) = some (some z, size, bytes)) (hz1 : z.cells = zs)
    (n : Nat) (hbytes : bytes * n ≤ 281474976710656) (h63 : n ≤ 9223372036854775807) (w : World) :
    (Instr.makeSlice t (.int .i64 (n : Int)) (.int .i64 (n : Int))).run P w = .ok (.slice (some ⟨w.heap.size, 0, none⟩) n n) (w.alloc (.cells (madeCells zs (n * size)) e)) := by
  obtain ⟨i, hi, hz, hs, hb⟩ := info_parts hinfo
  have hb' : (i.bytes : Int) * (n : Int) ≤ 281474976710656 := by
    have h : ((bytes * n : Nat) : Int) ≤ 281474976710656 := by omega
    rw [hb]
    rwa [Int.natCast_mul] at h
  have hr := run_make (P := P) w t e i z ht hi hz .i64 .i64 n n (by omega) (by omega) hb' (by omega)
  rw [hs, hz1] at hr
  simpa using hr

set_option maxHeartbeats 1000000 in
set_option maxRecDepth 20000 in
theorem zzMerged_any (a : Option Addr) (cap : Nat) (rs : List (List Int)) (w : World) (hn : rs.length ≤ 1048576) (ht : startAt rs rs.length ≤ 1048576) (h : RunsP (SliceOf .i64) w a rs cap) : Calls Try.prog 10 #[.slice a rs.length cap] w (MPost rs w) := by
  have q24 : ∀ (w : World) (a : Option Addr) (n c n' c' : Nat), (binOp .neq 24 (.slice a n c) (.slice none n' c')).run Try.prog w = .ok (.bool (!a.isNone)) w := fun w a n c n' c' => run_neq_slice_nil_any w _ _ a n c n' c' Try.underlying24
  have hmk := run_make_row' (P := Try.prog) 37 38 (.slice none 0 0) 24 Try.underlying37 info38 rfl .i64 .i64 rs.length (by omega) (by omega)
  go_enter Try.func10, Try.ntmps10
  go_wp2_with fail
  clear hmk
  go_loopg [12] rs.length (fun g iv wr => ∃ k : Nat, rs.length - k ≤ g ∧ k ≤ rs.length ∧ iv = .int .i64 k ∧ CM VSlice 38 w rs k wr)
  case atStart => exact ⟨0, by omega, by omega, rfl, cm_start _ _ _ _⟩
  case round =>
    obtain ⟨k, hg, hk, rfl, hC⟩ := hrel
    by_cases hlt : k < rs.length
    · have hlt' : (k : Int) < rs.length := by omega
      obtain ⟨b, off, ai, ci, rfl, hb, hc, hp⟩ := h.at_ k hlt
      have hc' : wr.cell? ⟨b, off + k, none⟩ = some (.slice ai (run rs k).length ci) := by rw [hC.bel.cell (by exact hb)]; exact hc
      obtain ⟨co, fo⟩ := hC.cell hlt
      cases ai with
      | none =>
        have hl0 : (run rs k).length = 0 := by have := hp.le; have := hp.nil rfl; omega
        have hr0 : run rs k = [] := List.eq_nil_of_length_eq_zero hl0
        have hS := hC.skip hl0 (by rw [hr0]; exact ⟨Nat.le_refl _, fun j hj => by simp at hj⟩)
        have HS : Hid (CM VSlice 38 w rs (k + 1) wr) := hS
        clear hr0 hl0 hS
        go_wp2_with fail
        go_roundg (gk - 1)
        case rel => exact ⟨k + 1, by omega, by omega, by go_num, HS.out⟩
        case measure => omega
      | some y =>
        have hrl : (run rs k).length ≤ 1048576 := by have := startAt_le (rs := rs) (k + 1); have := startAt_run hlt; omega
        have hmk := make_wide (P := Try.prog) 38 41 _ #[.int .i64 0, .int .i64 0, .pointer none, .int .i32 0] 4 32 Try.underlying38 info41 rfl (run rs k).length (by omega) (by omega)
        obtain ⟨og, hog⟩ : ∃ og, og = gk := ⟨gk, rfl⟩
        subst hog
        obtain ⟨wo, hwo⟩ : ∃ wo, wo = wr := ⟨wr, rfl⟩
        subst hwo
        have hwl := hC.lt
        have hbo : b < wo.heap.size := by omega
        go_wp2_with fail
        clear hmk
        go_loopg [31] (run rs k).length (fun g jv wr => ∃ j : Nat, (run rs k).length - j ≤ g ∧ j ≤ (run rs k).length ∧ jv = .int .i64 j ∧ wr.rowIs wo.heap.size 41 ((run rs k).length * 4) (vrow (run rs k) j) ∧ Below wo.heap.size wo wr)
        case atStart =>
          refine ⟨0, by omega, by omega, rfl, ?_, (Below.refl _ _).alloc (Nat.le_refl _) _⟩
          have := World.rowIs_alloc wo _ 41 vz (vmade (run rs k).length)
          rw [size_madeCells] at this
          exact vrow_start this
        case round =>
          obtain ⟨j, hgj, hj, rfl, hrow, hbel⟩ := hrel
          have hc2 : wr.cell? ⟨b, off + k, none⟩ = some (.slice (some y) (run rs k).length ci) := by rw [hbel.cell (by show b < wo.heap.size; omega)]; exact hc'
          by_cases hlj : j < (run rs k).length
          · have hlj' : (j : Int) < (run rs k).length := by omega
            obtain ⟨b', off', ey, hb', rc⟩ := hp.reads.at hlj
            cases ey
            have hcj : wr.cell? ⟨b', off' + j, none⟩ = some (.int .i64 (nth (run rs k) j)) := by rw [hbel.cell (by show b' < wo.heap.size; omega), hC.bel.cell (by exact hb')]; exact rc j hlj
            have hcd := hrow.cell (show j * 4 + 1 < (run rs k).length * 4 by omega)
            rw [vrow_at] at hcd
            have hfd := hrow.frozen (j * 4 + 1)
            have R := vrow_step hrow
            have R2 := hbel.setCell (p := ⟨wo.heap.size, j * 4 + 1, none⟩) (Nat.le_refl _) (.int .i64 (nth (run rs k) j))
            clear rc
            go_wp2_with fail
            go_roundg (gk - 1)
            case rel => exact ⟨j + 1, by omega, by omega, by go_num, R, R2⟩
            case measure => omega
          · have ej : j = (run rs k).length := by omega
            have hp2 : VSlice wr (some ⟨wo.heap.size, 0, none⟩) (run rs k) (run rs k).length := vrow_done (by have := hrow; rw [ej] at this; exact this)
            have hS := hC.store stable_v hbel rfl hrow.lt hp2
            have co2 : wr.cell? ⟨w.heap.size, k, none⟩ = some (.slice none 0 0) := by rw [hbel.cell (by show w.heap.size < wo.heap.size; omega)]; exact co
            have fo2 : wr.frozen? ⟨w.heap.size, k, none⟩ = false := by rw [hbel.frozen (by show w.heap.size < wo.heap.size; omega)]; exact fo
            clear co fo hc' ej
            go_wp2_with fail
            go_roundg (og - 1)
            case rel => exact ⟨k + 1, by omega, by omega, by go_num, hS⟩
            case measure => omega
    · have e : k = rs.length := by omega
      have HC : Hid (CM VSlice 38 w rs rs.length wr) := by rw [← e]; rw [e] at hC ⊢; exact hC
      have hbw := hC.bel
      clear e
      go_wp2_with fail
      refine (merged_any _ _ rs wr hn ht HC.out.done).mono ?_
      rintro e w2 ⟨b2, out, rfl, hmo, hrd, hb2⟩
      go_wp2_with fail
      go_ret
      exact ⟨b2, out, rfl, hmo, hrd, hbw.trans (hb2.mono hbw.size)⟩
end Go.Proofs.Qxb6603365a
