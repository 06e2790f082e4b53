import Derived.Test.Qxb6603365aBase
namespace Go.Proofs.Qxb6603365a
open Go.ChangeShapes Go.WideShapes Go.ChangeAt Go.RowKit

theorem clone_nil (w : World) : Calls Try.prog 17 #[.slice none 0 0] w fun e w' => e = .returned (.slice none 0 0) ∧ w' = w := by
  have q29 : ∀ (w : World) (a : Option Addr) (n c n' c' : Nat), (binOp .eql 29 (.slice a n c) (.slice none n' c')).run Try.prog w = .ok (.bool a.isNone) w := fun w a n c n' c' => Lib.run_eql_slice_nil w _ _ a n c n' c' Try.underlying29
  go_enter Try.func17, Try.ntmps17
  go_wp2
  go_ret
  exact ⟨rfl, rfl⟩

theorem clone_step {W wr : World} {B n k : Nat} {zs : List Int} (hr : wr.rowIs B 21 n (fun j => if j < k then .int .i32 (nth zs j) else .int .i32 0)) (hB : B = W.heap.size) (hbel : Below W.heap.size W wr) :
    (wr.setCell ⟨B, k, none⟩ (.int .i32 (nth zs k))).rowIs B 21 n (fun j => if j < k + 1 then .int .i32 (nth zs j) else .int .i32 0) ∧ Below W.heap.size W (wr.setCell ⟨B, k, none⟩ (.int .i32 (nth zs k))) := by
  refine ⟨(hr.set k _).congr fun j hj => ?_, hbel.setCell (by show W.heap.size ≤ B; omega) _⟩
  by_cases e : j = k
  · subst e; simp
  · simp only [e, if_false]
    by_cases l : j < k
    · rw [if_pos l, if_pos (by omega)]
    · rw [if_neg l, if_neg (by omega)]

theorem reads_row {w : World} {b : Nat} {t : TypeId} {k : IntKind} {zs : List Int} {f : Nat → Value} (hr : w.rowIs b t zs.length f) (hf : ∀ j, j < zs.length → f j = .int k (nth zs j)) : Reads k w (some ⟨b, 0, none⟩) zs := by
  intro i hi
  exact ⟨b, 0, rfl, by rw [Nat.zero_add, hr.cell hi, hf i hi]⟩

set_option maxHeartbeats 400000 in
theorem clone_some (x : Addr) (cap : Nat) (zs : List Int) (w : World) (hl : zs.length ≤ 1048576) (hr : Reads .i32 w (some x) zs) :
    Calls Try.prog 17 #[.slice (some x) zs.length cap] w fun e w' => ∃ b, e = .returned (.slice (some ⟨b, 0, none⟩) zs.length zs.length) ∧ Reads .i32 w' (some ⟨b, 0, none⟩) zs ∧ Below w.heap.size w w' := by
  have q29 : ∀ (w : World) (a : Option Addr) (n c n' c' : Nat), (binOp .eql 29 (.slice a n c) (.slice none n' c')).run Try.prog w = .ok (.bool a.isNone) w := fun w a n c n' c' => Lib.run_eql_slice_nil w _ _ a n c n' c' Try.underlying29
  have hmk := run_make_row' (P := Try.prog) 29 21 (.int .i32 0) 4 Try.underlying29 info21 rfl .i64 .i64 zs.length (by omega) (by omega)
  go_enter Try.func17, Try.ntmps17
  go_wp2
  go_loopw [4] (fun i wr => ∃ k : Nat, k ≤ zs.length ∧ i = .int .i64 k ∧ wr.rowIs w.heap.size 21 zs.length (fun j => if j < k then .int .i32 (nth zs j) else .int .i32 0) ∧ Below w.heap.size w wr) (fun i _ => zs.length - (intOf i).toNat)
  case atStart => exact ⟨0, Nat.zero_le _, rfl, (World.rowIs_made w _ _ _).congr (by intro j _; simp), (Below.refl _ _).alloc (Nat.le_refl _) _⟩
  case round =>
    obtain ⟨k, hk, rfl, hrow, hbel⟩ := hrel
    by_cases hlt : k < zs.length
    · obtain ⟨b, off, e, hb, hc⟩ := hr.at hlt
      cases e
      have hck : wr.cell? ⟨b, off + k, none⟩ = some (.int .i32 (nth zs k)) := by rw [hbel.cell (by exact hb)]; exact hc k hlt
      have hcd := hrow.cell hlt
      have hfd := hrow.frozen k
      have R := clone_step hrow rfl hbel
      go_wp2
      go_roundw
      case rel => exact ⟨k + 1, by omega, by go_num, R.1, R.2⟩
      case measure => simp [intOf]; omega
    · go_wp2
      go_ret
      exact ⟨_, rfl, reads_row hrow (by intro j hj; rw [if_pos (by omega)]), hbel⟩

theorem clone_any (a : Option Addr) (cap : Nat) (zs : List Int) (w : World) (hl : zs.length ≤ 1048576) (h : SliceOf .i32 w a zs cap) :
    Calls Try.prog 17 #[.slice a zs.length cap] w fun e w' => ∃ a', e = .returned (.slice a' zs.length zs.length) ∧ SliceOf .i32 w' a' zs zs.length ∧ Below w.heap.size w w' := by
  cases a with
  | none =>
    have hc := h.nil rfl
    have hz : zs = [] := List.eq_nil_of_length_eq_zero (by have := h.le; omega)
    subst hz hc
    refine (clone_nil w).mono ?_
    rintro e w' ⟨rfl, rfl⟩
    exact ⟨none, rfl, h, Below.refl _ _⟩
  | some x =>
    refine (clone_some x cap zs w hl h.reads).mono ?_
    rintro e w' ⟨b, rfl, hr, hb⟩
    exact ⟨_, rfl, ⟨hr, Nat.le_refl _, fun h => by cases h⟩, hb⟩
end Go.Proofs.Qxb6603365a
