/-
  'utoa' (11): the text is one to twenty digits.
-/
import Derived.Test.Qxb6603165aRows
import Derived.WalkKit
import Derived.WalkSmall
import Derived.ProofKit
import Derived.WalkSpells
import Derived.Deep.LoopGhost
import Derived.Deep.QuietTactic
import Derived.BigQuiet
import Derived.Laws.BytesArg
namespace Go.Proofs.Qxb6603165a
open Go.ChangeShapes Go.WideShapes Go.ChangeAt Go.RowKit

/-- The buffer under way: from 'i' on it holds digits. -/
structure UM (w0 : World) (i : Nat) (w : World) : Prop where
  grown : Grown w0 w
  cells : ∃ f : Nat → Int, (∀ j, j < 20 → w.cell? ⟨w0.heap.size, j, none⟩ = some (.int .u8 (f j))) ∧ ∀ j, i ≤ j → j < 20 → 48 ≤ f j ∧ f j ≤ 57
  thawed : ∀ j, w.frozen? ⟨w0.heap.size, j, none⟩ = false

def Digs (s : ByteArray) : Prop := 1 ≤ s.size ∧ s.size ≤ 20 ∧ ∀ x ∈ s.data.toList, 48 ≤ x.toNat ∧ x.toNat ≤ 57

def UPost (w0 : World) (e : Ending) (w' : World) : Prop := ∃ s, e = .returned (.string s) ∧ Digs s ∧ Grown w0 w'

theorem UM.step {w0 : World} {i : Nat} {w : World} (h : UM w0 i w) (h1 : 1 ≤ i) (h20 : i ≤ 20) (x : Int) (hx : 48 ≤ x) (hx' : x ≤ 57) : UM w0 (i - 1) (w.setCell ⟨w0.heap.size, i - 1, none⟩ (.int .u8 x)) := by
  obtain ⟨f, hf, hd⟩ := h.cells
  refine ⟨h.grown.setCell (Nat.le_refl _) _, ⟨fun j => if j = i - 1 then x else f j, fun j hj => ?_, fun j h1 h2 => ?_⟩, fun j => ?_⟩
  · by_cases e : j = i - 1
    · subst e
      simp only [if_true]
      exact World.cell?_setCell_same _ _ _ (hf _ hj)
    · simp only [if_neg e]
      exact (World.cell?_setCell_other _ _ _ _ (by simp)).trans (hf j hj)
  · by_cases e : j = i - 1
    · simp only [e, if_true]; exact ⟨hx, hx'⟩
    · simp only [e, if_false]; exact hd j (by omega) h2
  · rw [World.frozen?_setCell]; exact h.thawed j

theorem UM.text {w0 : World} {i : Nat} {w : World} (h : UM w0 i w) (h20 : i < 20) : ∃ s, (convert 29 9 (.slice (some ⟨w0.heap.size, i, none⟩) (20 - i) (20 - i))).run Try.prog w = .ok (.string s) w ∧ Digs s := by
  obtain ⟨f, hf, hd⟩ := h.cells
  refine ⟨_, run_convert_bytes_arg w 29 5 Try.underlying29 Try.underlying5 w0.heap.size i (20 - i) (20 - i) ((List.range (20 - i)).map fun j => f (i + j)) (by simp) (fun j hj => ?_) 9 Try.underlying9, ?_⟩
  · rw [hf (i + j) (by omega)]
    simp [List.getD, hj]
  · refine ⟨by rw [strOfNums_size]; simp; omega, by rw [strOfNums_size]; simp, fun x hx => ?_⟩
    rw [strOfNums_data] at hx
    simp only [List.mem_map, List.mem_range] at hx
    obtain ⟨_, ⟨j, hj, rfl⟩, rfl⟩ := hx
    have := hd (i + j) (by omega) (by omega)
    have e : (UInt8.ofNat (f (i + j)).toNat).toNat = (f (i + j)).toNat := by
      rw [UInt8.toNat_ofNat']; omega
    rw [e]
    omega

theorem len28 : Try.prog.arrayLen 28 = 20 := by kernel_rfl
theorem elem28 : Try.prog.elem 28 = 5 := by kernel_rfl
theorem und28 : Try.prog.underlying 28 = some (.array (Try.prog.arrayLen 28) (Try.prog.elem 28)) := by kernel_rfl
theorem size5 (w : World) : (sizeOf 5).run Try.prog w = .ok 1 w := by kernel_rfl
theorem tail_run (w : World) (B i : Nat) (hi : 1 ≤ i) (h20 : i ≤ 20) : (Instr.sliceAt 28 (.pointer (some ⟨B, 0, none⟩)) (some (.int .i64 ((i : Int) - 1))) none none).run Try.prog w = .ok (.slice (some ⟨B, i - 1, none⟩) (20 - (i - 1)) (20 - (i - 1))) w := by
  rw [run_sliceAt_array_l w 28 ⟨B, 0, none⟩ und28 .i64 ((i : Int) - 1) (by omega) (by rw [len28]; omega), elem28, size5, len28]
  have e : ((i : Int) - 1).toNat = i - 1 := by omega
  simp only [Result.andThen, slicedAt, e]
  rw [if_neg (by omega)]
  simp [Addr.add]
  omega

theorem step_lt {i : Nat} {u : Int} (hi : 1 ≤ i) (h0 : 0 ≤ u) (hu : u < 10 ^ i) (hz : ¬ u / 10 = 0) : 1 ≤ i - 1 ∧ u / 10 < 10 ^ (i - 1) := by
  obtain ⟨k, rfl⟩ : ∃ k, i = k + 1 := ⟨i - 1, by omega⟩
  have e : (10 : Int) ^ (k + 1) = 10 ^ k * 10 := Int.pow_succ _ _
  rw [e] at hu
  simp only [Nat.add_sub_cancel]
  have : u / 10 < 10 ^ k := by omega
  refine ⟨?_, this⟩
  cases k with
  | zero => exfalso; simp at this; omega
  | succ k => omega

set_option maxHeartbeats 1000000 in
set_option maxRecDepth 20000 in
theorem utoa_any (v : Int) (w : World) (h0 : 0 ≤ v) (h1 : v < 18446744073709551616) : Calls Try.prog 11 #[.int .u64 v] w (UPost w) := by
  go_enter Try.func11, Try.ntmps11
  go_wp2_with fail
  go_loopg [0, 4] 20 (fun g a b wr => ∃ (i : Nat) (u : Int), i ≤ g ∧ a = .int .u64 u ∧ b = .int .i64 (i : Int) ∧ 1 ≤ i ∧ i ≤ 20 ∧ 0 ≤ u ∧ u < 10 ^ i ∧ u < 18446744073709551616 ∧ UM w i wr)
  case atStart => 
    refine ⟨20, v, by omega, rfl, rfl, by omega, by omega, h0, by omega, h1, (Grown.refl w).alloc _ _, ⟨fun _ => 0, fun j hj => ?_, fun j h1 h2 => by omega⟩, fun j => ?_⟩
    · rw [World.cell?_alloc_new]
      rcases (by omega : j = 0 ∨ j = 1 ∨ j = 2 ∨ j = 3 ∨ j = 4 ∨ j = 5 ∨ j = 6 ∨ j = 7 ∨ j = 8 ∨ j = 9 ∨ j = 10 ∨ j = 11 ∨ j = 12 ∨ j = 13 ∨ j = 14 ∨ j = 15 ∨ j = 16 ∨ j = 17 ∨ j = 18 ∨ j = 19) with h | h | h | h | h | h | h | h | h | h | h | h | h | h | h | h | h | h | h | h <;> subst h <;> rfl
    · exact World.frozen?_alloc_new _ _ _ _
  case round =>
    obtain ⟨i, u, hg, rfl, rfl, hi1, hi20, hu0, hui, hu64, hW⟩ := hrel
    have fz := hW.thawed (i - 1)
    have hc : ∃ x, wr.cell? ⟨w.heap.size, i - 1, none⟩ = some (.int .u8 x) := by
      obtain ⟨f, hf, _⟩ := hW.cells
      exact ⟨_, hf (i - 1) (by omega)⟩
    obtain ⟨x, hc⟩ := hc
    have hW2 := hW.step hi1 hi20 (48 + u % 10) (by omega) (by omega)
    by_cases hz : u / 10 = 0
    · have hz' : (u / 10 == 0) = true := by simp [hz]
      clear hui hz
      obtain ⟨s, hs, hsd⟩ := hW2.text (by omega)
      have hsl := tail_run (wr.setCell ⟨w.heap.size, i - 1, none⟩ (.int .u8 (48 + u % 10))) w.heap.size i hi1 hi20
      go_wp2_with fail
      go_ret
      exact ⟨s, rfl, hsd, hW2.grown⟩
    · have hz' : (u / 10 == 0) = false := by simp [hz]
      have hq := step_lt hi1 hu0 hui hz
      clear hui
      go_wp2_with fail
      go_roundg (gk - 1)
      case rel => exact ⟨i - 1, u / 10, by omega, rfl, by simp; omega, hq.1, by omega, by omega, hq.2, by omega, hW2⟩
      case measure => omega

/-- The text of an int64. -/
def Whole (s : ByteArray) : Prop := ∃ t, Digs t ∧ (s = t ∨ s = { data := #[45] } ++ t)
def IPost (w0 : World) (e : Ending) (w' : World) : Prop := ∃ s, e = .returned (.string s) ∧ Whole s ∧ Grown w0 w'

set_option maxHeartbeats 1000000 in
set_option maxRecDepth 20000 in
theorem itoa_any (n : Int) (w : World) (h0 : -9223372036854775808 ≤ n) (h1 : n ≤ 9223372036854775807) : Calls Try.prog 10 #[.int .i64 n] w (IPost w) := by
  by_cases hn : 0 ≤ n
  · go_enter Try.func10, Try.ntmps10
    go_wp2_with fail
    refine (utoa_any n w hn (by omega)).mono ?_
    rintro e w1 ⟨s, rfl, hs, hg⟩
    go_wp2_with fail
    go_ret
    exact ⟨s, rfl, ⟨s, hs, Or.inl rfl⟩, hg⟩
  · have hn' : n < 0 := by omega
    go_enter Try.func10, Try.ntmps10
    go_wp2_with fail
    refine (utoa_any (-(n + 1) + 1) w (by omega) (by omega)).mono ?_
    rintro e w1 ⟨s, rfl, hs, hg⟩
    have hz : s.size ≤ 20 := hs.2.1
    go_wp2_with fail
    go_ret
    exact ⟨_, rfl, ⟨s, hs, Or.inr rfl⟩, hg⟩
end Go.Proofs.Qxb6603165a
