/-
  THE LAWS 'FnBlankStopsAtFirstNonBlank' (3) AND 'FnBlankIdempotentAndShiftFree' (4), WALKED.
-/
import Derived.Test.Qxb6603574aBlank
namespace Go.Proofs.Qxb6603574a
open Go.ChangeShapes Go.WideShapes Go.ChangeAt Go.RowKit

theorem Grown.trans {a b c : World} (h : Grown a b) (k : Grown b c) : Grown a c :=
  ⟨World.keptBut_trans h.1 (by
    refine ⟨k.1.1, k.1.2.1, fun i hi => ?_⟩
    exact k.1.2.2 i (Nat.lt_of_lt_of_le hi (Nat.le_refl _))), fun x => (k.2.1 x).trans (h.2.1 x), Nat.le_trans h.2.2 k.2.2⟩

set_option maxHeartbeats 1000000 in
set_option maxRecDepth 20000 in
theorem stops_any (s : ByteArray) (i : Int) (w : World) (h : s.size ≤ maxLen) (hi : i ≤ 9223372036854775807) : Calls Try.prog 3 #[.string s, .int .i64 i] w fun e w' => e = .returned (.bool true) ∧ Grown w w' := by
  by_cases g : s.size ≤ 1048576
  case neg =>
    have hd := decide_eq_false g
    go_enter Try.func3, Try.ntmps3
    go_wp2_with (go_at_call 5; refine (bytes5_any _ _ _ h).mono ?_; rintro e w' ⟨rfl, rfl⟩)
    go_ret
    exact ⟨rfl, Grown.refl _⟩
  have hd := decide_eq_true g
  by_cases g1 : i < 0
  · go_enter Try.func3, Try.ntmps3
    go_wp2_with (go_at_call 5; refine (bytes5_any _ _ _ h).mono ?_; rintro e w' ⟨rfl, rfl⟩)
    go_ret
    exact ⟨rfl, Grown.refl _⟩
  obtain ⟨n, rfl⟩ : ∃ n : Nat, i = (n : Int) := ⟨i.toNat, by omega⟩
  have g' : ¬ (1048576 : Int) < s.size := by omega
  clear g1
  by_cases g2 : s.size ≤ n
  · go_enter Try.func3, Try.ntmps3
    go_wp2_with (go_at_call 5; refine (bytes5_any _ _ _ h).mono ?_; rintro e w' ⟨rfl, rfl⟩)
    refine (zz_any s n w g).mono ?_
    rintro e w1 ⟨j, hst, rfl, hG⟩
    have ej := hst.past g2
    subst ej
    go_wp2_with fail
    go_ret
    exact ⟨by simp, hG⟩
  · have g2' : ¬ (s.size : Int) ≤ (n : Int) := by omega
    go_enter Try.func3, Try.ntmps3
    go_wp2_with (go_at_call 5; refine (bytes5_any _ _ _ h).mono ?_; rintro e w' ⟨rfl, rfl⟩)
    refine (zz_any s n w g).mono ?_
    rintro e w1 ⟨j, hst, rfl, hG⟩
    have j1 := hst.le
    have j2 := hst.inn (by omega)
    have j1' : ¬ (j : Int) < (n : Int) := by omega
    have j2' : ¬ (s.size : Int) < (j : Int) := by omega
    have Hst : Hid (Stop s n j) := hst
    have k1 : decide (j < n) = false := by simp; omega
    have k2 : decide (s.size < j) = false := by simp; omega
    clear hst j1' j2'
    go_wp2_with fail
    go_loopg [6] j (fun g iv wr => ∃ k : Nat, j - k ≤ g ∧ n ≤ k ∧ k ≤ j ∧ iv = .int .i64 (k : Int) ∧ w1 = wr)
    case atStart => exact ⟨n, by omega, by omega, by omega, rfl, rfl⟩
    case round =>
      obtain ⟨k, hg, hk1, hk2, rfl, rfl⟩ := hrel
      by_cases hlt : k < j
      · have hlt' : (k : Int) < (j : Int) := by omega
        have hks : k < s.size := by omega
        have hks' : (k : Int) < s.size := by omega
        have hbl : isBl (s[k].toNat : Int) = true := by have := Hst.out.bl k hk1 hlt; rw [bt_eq hks] at this; exact this
        have HBL : Hid (isBl (s[k].toNat : Int) = true) := hbl
        clear hbl
        go_wp2_with fail
        refine (isBl_any _ w1).mono ?_
        rintro e w' ⟨rfl, rfl⟩
        rw [HBL.out]
        go_wp2_with fail
        go_roundg (gk - 1)
        case rel => exact ⟨k + 1, by omega, by omega, by omega, by go_num, rfl⟩
        case measure => omega
      · by_cases he : j = s.size
        · have he' : ((j : Int) == (s.size : Int)) = true := by simp [he]
          clear he
          go_wp2_with fail
          go_ret
          exact ⟨rfl, hG⟩
        · have he' : ((j : Int) == (s.size : Int)) = false := by simp; omega
          have hjs : j < s.size := by omega
          have hjs' : (j : Int) < s.size := by omega
          have HBL : Hid (isBl (s[j].toNat : Int) = false) := by have := Hst.out.stop hjs; rw [bt_eq hjs] at this; exact this
          clear he
          go_wp2_with fail
          refine (isBl_any _ w1).mono ?_
          rintro e w' ⟨rfl, rfl⟩
          rw [HBL.out]
          go_wp2_with fail
          go_ret
          exact ⟨rfl, hG⟩

theorem bt_extract {s : ByteArray} {n k : Nat} (hn : n ≤ s.size) : bt (s.extract n s.size) k = bt s (n + k) := by
  have hsz : (s.extract n s.size).size = s.size - n := by simp
  by_cases h : n + k < s.size
  · have h1 : k < (s.extract n s.size).size := by omega
    rw [bt_eq h1, bt_eq h]
    simp [ByteArray.getElem_extract]
  · have h1 : ¬ k < (s.extract n s.size).size := by omega
    simp only [bt]
    rw [dif_neg h1, dif_neg h]

theorem stop_shift {s : ByteArray} {n j m : Nat} (hn : n ≤ s.size) (h : Stop s n j) (h' : Stop (s.extract n s.size) 0 m) : m = j - n := by
  have hsz : (s.extract n s.size).size = s.size - n := by simp
  have a := h.le
  have b := h.inn hn
  refine h'.unique ⟨Nat.zero_le _, ?_, ?_, ?_, ?_⟩
  · intro h1
    have := h.past (by omega)
    omega
  · intro _
    omega
  · intro k _ hk
    rw [bt_extract hn]
    exact h.bl (n + k) (by omega) (by omega)
  · intro hk
    rw [bt_extract hn, show n + (j - n) = j by omega]
    exact h.stop (by omega)

theorem stop_again {s : ByteArray} {n j m : Nat} (h : Stop s n j) (h' : Stop s j m) : m = j := by
  refine h'.unique ⟨Nat.le_refl _, fun _ => rfl, fun h => h, fun k h1 h2 => by omega, h.stop⟩

theorem zz_zero (s : ByteArray) (w : World) (hs : s.size ≤ 1048576) : Calls Try.prog 6 #[.string s, .int .i64 0] w (ZPost s 0 w) := zz_any s 0 w hs

set_option maxHeartbeats 1000000 in
set_option maxRecDepth 20000 in
theorem shift_any (s : ByteArray) (i : Int) (w : World) (h : s.size ≤ maxLen) : Calls Try.prog 4 #[.string s, .int .i64 i] w fun e w' => e = .returned (.bool true) ∧ Grown w w' := by
  by_cases g : s.size ≤ 1048576
  case neg =>
    have hd := decide_eq_false g
    go_enter Try.func4, Try.ntmps4
    go_wp2_with (go_at_call 8; refine (bytes8_any _ _ _ h).mono ?_; rintro e w' ⟨rfl, rfl⟩)
    go_ret
    exact ⟨rfl, Grown.refl _⟩
  have hd := decide_eq_true g
  by_cases g1 : i < 0
  · go_enter Try.func4, Try.ntmps4
    go_wp2_with (go_at_call 8; refine (bytes8_any _ _ _ h).mono ?_; rintro e w' ⟨rfl, rfl⟩)
    go_ret
    exact ⟨rfl, Grown.refl _⟩
  by_cases g2 : (s.size : Int) < i
  · go_enter Try.func4, Try.ntmps4
    go_wp2_with (go_at_call 8; refine (bytes8_any _ _ _ h).mono ?_; rintro e w' ⟨rfl, rfl⟩)
    go_ret
    exact ⟨rfl, Grown.refl _⟩
  obtain ⟨n, rfl⟩ : ∃ n : Nat, i = (n : Int) := ⟨i.toNat, by omega⟩
  have hn : n ≤ s.size := by omega
  go_enter Try.func4, Try.ntmps4
  go_wp2_with (go_at_call 8; refine (bytes8_any _ _ _ h).mono ?_; rintro e w' ⟨rfl, rfl⟩)
  refine (zz_any s n w g).mono ?_
  rintro e w1 ⟨j, hst, rfl, hG⟩
  have j1 := hst.le
  have j2 := hst.inn hn
  have Hst : Hid (Stop s n j) := hst
  have k1 : decide (j < n) = false := by simp; omega
  have k2 : decide (s.size < j) = false := by simp; omega
  clear hst
  by_cases hj : j < s.size
  · have hj' : (j : Int) < s.size := by omega
    have HBL : Hid (isBl (s[j].toNat : Int) = false) := by have := Hst.out.stop hj; rw [bt_eq hj] at this; exact this
    go_wp2_with fail
    refine (isBl_any _ w1).mono ?_
    rintro e w' ⟨rfl, rfl⟩
    rw [HBL.out]
    go_wp2_with fail
    refine (zz_any s j w1 g).mono ?_
    rintro e w2 ⟨m, hst2, rfl, hG2⟩
    have em := stop_again Hst.out hst2
    subst em
    have hmm : ((m : Int) != (m : Int)) = false := by simp
    go_wp2_with fail
    refine (zz_zero (s.extract n s.size) w2 (by simp; omega)).mono ?_
    rintro e w3 ⟨m2, hst3, rfl, hG3⟩
    have em2 := stop_shift hn Hst.out hst3
    have hfin : ((m2 : Int) == (m : Int) - (n : Int)) = true := by simp; omega
    have hGG : Grown w w3 := Grown.trans (Grown.trans hG hG2) hG3
    clear em2 hst3
    go_wp2_with fail
    go_ret
    exact ⟨rfl, hGG⟩
  · have hj' : decide (j < s.size) = false := by simp; omega
    go_wp2_with fail
    refine (zz_any s j w1 g).mono ?_
    rintro e w2 ⟨m, hst2, rfl, hG2⟩
    have em := stop_again Hst.out hst2
    subst em
    have hmm : ((m : Int) != (m : Int)) = false := by simp
    go_wp2_with fail
    refine (zz_zero (s.extract n s.size) w2 (by simp; omega)).mono ?_
    rintro e w3 ⟨m2, hst3, rfl, hG3⟩
    have em2 := stop_shift hn Hst.out hst3
    have hfin : ((m2 : Int) == (m : Int) - (n : Int)) = true := by simp; omega
    have hGG : Grown w w3 := Grown.trans (Grown.trans hG hG2) hG3
    clear em2 hst3
    go_wp2_with fail
    go_ret
    exact ⟨rfl, hGG⟩
end Go.Proofs.Qxb6603574a
