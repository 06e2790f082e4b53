/-
  '(*walker).blank' (9), 'ZZwalkerBlank' (6), 'zzIsBlank' (7), zzBytes (5, 8).
-/
import Derived.Test.Qxb6603574aRows
import Derived.WalkKit
import Derived.WalkSmall
import Derived.ProofKit
import Derived.WalkSpells
import Derived.Deep.LoopGhost
import Derived.Deep.QuietTactic
import Derived.BigQuiet
namespace Go.Proofs.Qxb6603574a
open Go.ChangeShapes Go.WideShapes Go.ChangeAt Go.RowKit

/-- The k-th byte; 0 behind the end. -/
def bt (s : ByteArray) (k : Nat) : Int := if h : k < s.size then (s[k].toNat : Int) else 0
theorem bt_eq {s : ByteArray} {k : Nat} (h : k < s.size) : bt s k = (s[k].toNat : Int) := by simp [bt, h]
def isBl (c : Int) : Bool := c == 32 || c == 9

/-- From i on, blank stops at j. -/
structure Stop (s : ByteArray) (i j : Nat) : Prop where
  le : i ≤ j
  past : s.size ≤ i → j = i
  inn : i ≤ s.size → j ≤ s.size
  bl : ∀ k, i ≤ k → k < j → isBl (bt s k) = true
  stop : j < s.size → isBl (bt s j) = false

theorem Stop.unique {s : ByteArray} {i j j' : Nat} (h : Stop s i j) (h' : Stop s i j') : j = j' := by
  by_cases hi : s.size ≤ i
  · rw [h.past hi, h'.past hi]
  · have e1 := h.inn (by omega)
    have e2 := h'.inn (by omega)
    by_cases lt : j < j'
    · have a := h'.bl j h.le lt
      have b := h.stop (by omega)
      rw [a] at b; cases b
    · by_cases gt : j' < j
      · have a := h.bl j' h'.le gt
        have b := h'.stop (by omega)
        rw [a] at b; cases b
      · omega

/-- The walker under way. -/
structure WM (w0 : World) (A : Nat) (s : ByteArray) (k : Nat) (w : World) : Prop where
  grown : Grown w0 w
  hA : w0.heap.size ≤ A
  c0 : w.cell? ⟨A, 0, none⟩ = some (.string s)
  c1 : w.cell? ⟨A, 1, none⟩ = some (.int .i64 (k : Int))
  f1 : w.frozen? ⟨A, 1, none⟩ = false

theorem WM.drawn {w0 : World} {A : Nat} {s : ByteArray} {k : Nat} {w : World} (h : WM w0 A s k w) (n : Nat) : WM w0 A s k (w.drewN n) := ⟨h.grown, h.hA, h.c0, h.c1, h.f1⟩

theorem WM.step {w0 : World} {A : Nat} {s : ByteArray} {k : Nat} {w : World} (h : WM w0 A s k w) (n : Nat) : WM w0 A s (k + 1) ((w.drewN n).setCell ⟨A, 1, none⟩ (.int .i64 ((k : Int) + 1))) := by
  have h' := h.drawn n
  have e := h'.c1
  refine ⟨h'.grown.setCell h.hA _, h.hA, ?_, ?_, ?_⟩
  · exact (World.cell?_setCell_other _ _ _ _ (by simp)).trans h'.c0
  · exact World.cell?_setCell_same _ _ _ e
  · rw [World.frozen?_setCell]; exact h'.f1

def BlankPost (w0 : World) (A : Nat) (s : ByteArray) (i : Nat) (e : Ending) (w' : World) : Prop := e = .returned (.tuple #[]) ∧ ∃ j, Stop s i j ∧ WM w0 A s j w'

set_option maxHeartbeats 1000000 in
set_option maxRecDepth 20000 in
theorem blank_any (w0 : World) (A : Nat) (s : ByteArray) (i : Nat) (w : World) (hs : s.size ≤ 1048576) (h : WM w0 A s i w) : Calls Try.prog 9 #[.pointer (some ⟨A, 0, none⟩)] w (BlankPost w0 A s i) := by
  go_enter Try.func9, Try.ntmps9
  go_wp2_with fail
  go_loopg [] s.size (fun g wr => ∃ k : Nat, s.size - k ≤ g ∧ i ≤ k ∧ Hid ((s.size ≤ i → k = i) ∧ (i ≤ s.size → k ≤ s.size) ∧ ∀ x, i ≤ x → x < k → isBl (bt s x) = true) ∧ WM w0 A s k wr)
  case atStart => exact ⟨i, by omega, Nat.le_refl _, ⟨fun _ => rfl, fun h => h, fun x h1 h2 => by omega⟩, h⟩
  case round =>
    obtain ⟨k, hg, hik, HB, hW⟩ := hrel
    have c0 := hW.c0
    have c1 := hW.c1
    have f1 := hW.f1
    by_cases hlt : k < s.size
    · have hlt' : (k : Int) < s.size := by omega
      have hb := bt_eq hlt
      by_cases h32 : (s[k].toNat : Int) = 32
      · have h32' : ((s[k].toNat : Int) == 32) = true := by simp [h32]
        have HB2 : Hid ((s.size ≤ i → k + 1 = i) ∧ (i ≤ s.size → k + 1 ≤ s.size) ∧ ∀ x, i ≤ x → x < k + 1 → isBl (bt s x) = true) := by
          refine ⟨fun _ => by omega, fun _ => by omega, fun x h1 h2 => ?_⟩
          by_cases e : x = k
          · rw [e, hb, h32]; rfl
          · exact HB.out.2.2 x h1 (by omega)
        clear hb h32
        go_wp2_with fail
        go_quiet (fail)
        go_wp2_with fail
        go_roundg (gk - 1)
        case rel => exact ⟨k + 1, by omega, by omega, HB2, hW.step _⟩
        case measure => omega
      · have h32' : ((s[k].toNat : Int) == 32) = false := by simp [h32]
        by_cases h9 : (s[k].toNat : Int) = 9
        · have h9' : ((s[k].toNat : Int) == 9) = true := by simp [h9]
          have HB2 : Hid ((s.size ≤ i → k + 1 = i) ∧ (i ≤ s.size → k + 1 ≤ s.size) ∧ ∀ x, i ≤ x → x < k + 1 → isBl (bt s x) = true) := by
            refine ⟨fun _ => by omega, fun _ => by omega, fun x h1 h2 => ?_⟩
            by_cases e : x = k
            · rw [e, hb, h9]; rfl
            · exact HB.out.2.2 x h1 (by omega)
          clear hb h32 h9
          go_wp2_with fail
          go_quiet (fail)
          go_wp2_with fail
          go_roundg (gk - 1)
          case rel => exact ⟨k + 1, by omega, by omega, HB2, hW.step _⟩
          case measure => omega
        · have h9' : ((s[k].toNat : Int) == 9) = false := by simp [h9]
          have HE : Hid (Stop s i k) := ⟨hik, HB.out.1, HB.out.2.1, HB.out.2.2, fun _ => by rw [hb]; simp only [isBl, h32', h9']; rfl⟩
          clear hb h32 h9
          go_wp2_with fail
          go_quiet (fail)
          go_wp2_with fail
          go_end0
          exact ⟨rfl, k, HE.out, hW.drawn _⟩
    · have hlt' : decide ((k : Int) < s.size) = false := by simp; omega
      have HE : Hid (Stop s i k) := ⟨hik, HB.out.1, HB.out.2.1, HB.out.2.2, fun h => absurd h hlt⟩
      go_wp2_with fail
      go_quiet (fail)
      go_wp2_with fail
      go_end0
      exact ⟨rfl, k, HE.out, hW.drawn _⟩

def ZPost (s : ByteArray) (i : Nat) (w : World) (e : Ending) (w' : World) : Prop := ∃ j : Nat, Stop s i j ∧ e = .returned (.int .i64 (j : Int)) ∧ Grown w w'

theorem zz_any (s : ByteArray) (i : Nat) (w : World) (hs : s.size ≤ 1048576) : Calls Try.prog 6 #[.string s, .int .i64 (i : Int)] w (ZPost s i w) := by
  have hW : WM w w.heap.size s i (w.alloc (.cells #[.string s, .int .i64 (i : Int), .slice none 0 0, .map none, .map none] 30)) := ⟨(Grown.refl w).alloc _ _, Nat.le_refl _, by simp, by simp, by simp⟩
  go_enter Try.func6, Try.ntmps6
  go_wp2_with fail
  refine (blank_any w w.heap.size s i _ hs hW).mono ?_
  rintro e w1 ⟨rfl, j, hst, hW1⟩
  have c1 := hW1.c1
  go_wp2_with fail
  go_ret
  exact ⟨j, hst, rfl, hW1.grown⟩

theorem isBl_any (c : Int) (w : World) : Calls Try.prog 7 #[.int .u8 c] w fun e w' => e = .returned (.bool (isBl c)) ∧ w = w' := by
  unfold isBl
  by_cases h32 : (c == 32) = true
  · rw [h32]
    go_enter Try.func7, Try.ntmps7
    go_wp2_with fail
    go_ret
    exact ⟨rfl, rfl⟩
  · have h32' : (c == 32) = false := by simpa using h32
    rw [h32']
    go_enter Try.func7, Try.ntmps7
    go_wp2_with fail
    go_ret
    exact ⟨rfl, rfl⟩

theorem bytes5_any (s : ByteArray) (i : Int) (w : World) (h : s.size ≤ maxLen) : Calls Try.prog 5 #[.string s, .int .i64 i] w fun e w' => e = .returned (.bool (decide (s.size ≤ 1048576))) ∧ w = w' := by
  unfold maxLen at h
  by_cases g : s.size ≤ 1048576
  · rw [decide_eq_true g]
    go_enter Try.func5, Try.ntmps5
    go_wp2
    go_ret
    exact ⟨rfl, rfl⟩
  · rw [decide_eq_false g]
    go_enter Try.func5, Try.ntmps5
    go_wp2
    go_ret
    exact ⟨rfl, rfl⟩

theorem bytes8_any (s : ByteArray) (i : Int) (w : World) (h : s.size ≤ maxLen) : Calls Try.prog 8 #[.string s, .int .i64 i] w fun e w' => e = .returned (.bool (decide (s.size ≤ 1048576))) ∧ w = w' := by
  unfold maxLen at h
  by_cases g : s.size ≤ 1048576
  · rw [decide_eq_true g]
    go_enter Try.func8, Try.ntmps8
    go_wp2
    go_ret
    exact ⟨rfl, rfl⟩
  · rw [decide_eq_false g]
    go_enter Try.func8, Try.ntmps8
    go_wp2
    go_ret
    exact ⟨rfl, rfl⟩
end Go.Proofs.Qxb6603574a
