/-
  THE LAW 'FnBlocksLayout' (7), WALKED.
-/
import Derived.Test.Qxb6603365aZZBlocks
import Derived.Test.Qxb6603365aClone
namespace Go.Proofs.Qxb6603365a
open Go.ChangeShapes Go.WideShapes Go.ChangeAt Go.RowKit

set_option maxHeartbeats 400000 in
theorem bytesBL_any (i0 i1 i4 : Int) (a0 a1 : Option Addr) (n0 n1 c0 c1 : Nat) (w : World) (h0 : n0 ≤ maxLen) (h1 : n1 ≤ maxLen) :
    Calls Try.prog 21 #[.int .i64 i0, .int .i64 i1, .slice a0 n0 c0, .slice a1 n1 c1, .int .i64 i4] w fun e w' => e = .returned (.bool (decide (n0 + n1 ≤ 1048576))) ∧ w = w' := by
  unfold maxLen at h0 h1
  by_cases g0 : n0 ≤ 1048576
  · by_cases g1 : n1 ≤ 1048576
    · by_cases g2 : n0 + n1 ≤ 1048576
      · rw [decide_eq_true g2]
        go_enter Try.func21, Try.ntmps21
        go_wp2
        go_ret
        exact ⟨rfl, rfl⟩
      · rw [decide_eq_false g2]
        go_enter Try.func21, Try.ntmps21
        go_wp2
        go_ret
        exact ⟨rfl, rfl⟩
    · rw [decide_eq_false (by omega)]
      go_enter Try.func21, Try.ntmps21
      go_wp2
      go_ret
      exact ⟨rfl, rfl⟩
  · rw [decide_eq_false (by omega)]
    go_enter Try.func21, Try.ntmps21
    go_wp2
    go_ret
    exact ⟨rfl, rfl⟩

theorem pw_and_k : ∀ k : Nat, k < 17 → bits BinOp.and IntKind.i64 ((2 ^ k : Nat) : Int) (((2 ^ k : Nat) : Int) - 1) = 0 := by decide +kernel

theorem pw_and {n : Int} {L : Nat} (h : Pw n L) : bits BinOp.and IntKind.i64 (L : Int) ((L : Int) - 1) = 0 := by
  obtain ⟨k, hk, rfl, _⟩ := h
  exact pw_and_k k (by omega)

theorem wrapD (a l : Int) : wrap64 (wrap64 (wrap64 (a - 1) + l) - 1) = wrap64 (wrap64 (a + l) - 2) := by unfold wrap64; omega
theorem wrapN (a l : Int) : wrap64 (wrap64 (wrap64 (wrap64 (a - 1) + l) - 1) + l) = wrap64 (wrap64 (a + 2 * l) - 2) := by unfold wrap64; omega

set_option maxHeartbeats 1600000 in
set_option maxRecDepth 20000 in
theorem bl_any (later active n : Int) (a2 a3 : Option Addr) (c2 c3 : Nat) (fr tt : List Int) (w : World) (m2 : fr.length ≤ maxLen) (m3 : tt.length ≤ maxLen) (s2 : SliceOf .i32 w a2 fr c2) (s3 : SliceOf .i32 w a3 tt c3) (hn0 : -9223372036854775808 ≤ n) :
    Calls Try.prog 7 #[.int .i64 later, .int .i64 active, .slice a2 fr.length c2, .slice a3 tt.length c3, .int .i64 n] w fun e w' => e = .returned (.bool true) ∧ Below w.heap.size w w' := by
  by_cases g0 : fr.length + tt.length ≤ 1048576
  case neg =>
    have hd := decide_eq_false g0
    go_enter Try.func7, Try.ntmps7
    go_wp2_with (go_at_call 21; refine (bytesBL_any _ _ _ _ _ _ _ _ _ _ m2 m3).mono ?_; rintro e w' ⟨rfl, rfl⟩)
    go_ret
    exact ⟨rfl, Below.refl _ _⟩
  have hd := decide_eq_true g0
  by_cases g1 : 131072 < fr.length
  · have g1' : (131072 : Int) < fr.length := by omega
    go_enter Try.func7, Try.ntmps7
    go_wp2_with (go_at_call 21; refine (bytesBL_any _ _ _ _ _ _ _ _ _ _ m2 m3).mono ?_; rintro e w' ⟨rfl, rfl⟩)
    go_ret
    exact ⟨rfl, Below.refl _ _⟩
  have g1' : decide ((131072 : Int) < fr.length) = false := by simp; omega
  by_cases g2 : 131072 < tt.length
  · have g2' : (131072 : Int) < tt.length := by omega
    go_enter Try.func7, Try.ntmps7
    go_wp2_with (go_at_call 21; refine (bytesBL_any _ _ _ _ _ _ _ _ _ _ m2 m3).mono ?_; rintro e w' ⟨rfl, rfl⟩)
    go_ret
    exact ⟨rfl, Below.refl _ _⟩
  have g2' : decide ((131072 : Int) < tt.length) = false := by simp; omega
  by_cases g3 : 65536 < n
  · go_enter Try.func7, Try.ntmps7
    go_wp2_with (go_at_call 21; refine (bytesBL_any _ _ _ _ _ _ _ _ _ _ m2 m3).mono ?_; rintro e w' ⟨rfl, rfl⟩)
    go_ret
    exact ⟨rfl, Below.refl _ _⟩
  have g3' : decide (65536 < n) = false := by simp; omega
  by_cases g4 : fr.length = tt.length
  case neg =>
    have g4' : ((fr.length : Int) != (tt.length : Int)) = true := by simp; omega
    go_enter Try.func7, Try.ntmps7
    go_wp2_with (go_at_call 21; refine (bytesBL_any _ _ _ _ _ _ _ _ _ _ m2 m3).mono ?_; rintro e w' ⟨rfl, rfl⟩)
    go_ret
    exact ⟨rfl, Below.refl _ _⟩
  have g4' : ((fr.length : Int) != (tt.length : Int)) = false := by simp; omega
  have g5 : fr.length ≤ tt.length := by omega
  have g6 : tt.length ≤ fr.length := by omega
  have n1 : fr.length ≤ 1048576 := by omega
  have n2 : tt.length ≤ 1048576 := by omega
  have n3 : fr.length ≤ 131072 := by omega
  have n4 : n ≤ 65536 := by omega
  clear g4 g3 g2 g1
  go_enter Try.func7, Try.ntmps7
  go_wp2_with (go_at_call 21; refine (bytesBL_any _ _ _ _ _ _ _ _ _ _ m2 m3).mono ?_; rintro e w' ⟨rfl, rfl⟩)
  refine (clone_any _ _ fr _ n1 s2).mono ?_
  rintro e w1 ⟨a2', rfl, q2, hb2⟩
  have t3 := s3.below hb2
  go_wp2_with fail
  refine (clone_any _ _ tt _ n2 t3).mono ?_
  rintro e w2 ⟨a3', rfl, q3, hb3⟩
  have q2' := q2.below hb3
  go_wp2_with fail
  refine (zzBlocks_any later active n _ _ _ _ fr tt _ g5 n3 q2' q3 n4 hn0).mono ?_
  rintro e w3 ⟨L, M, b1, b2, U, D, N, hP, hLn, hM, ⟨hU, hD, hN⟩, rfl, hc, hb4⟩
  have hLb := pw_le hP
  have hand := pw_and hP
  have hhalf : (L : Int) = 1 ∨ (L : Int) < 2 * n := by obtain ⟨k, _, _, h⟩ := hP; omega
  rw [wrapD] at hD
  rw [wrapN] at hN
  obtain ⟨l, hl⟩ : ∃ l : Int, l = (L : Int) := ⟨_, rfl⟩
  rw [← hl] at hD hN hand hhalf hLn hM ⊢
  have hl1 : 1 ≤ l := by omega
  have hl2 : l ≤ 65536 := by omega
  subst hU hD hN
  have r2 := (q2'.below hb4).reads
  have r3 := (q3.below hb4).reads
  have hfin : Below w.heap.size w w3 := (hb2.trans (hb3.mono hb2.size)).trans (hb4.mono (Nat.le_trans hb2.size hb3.size))
  clear hl hLb hP q2 q3 q2' t3 hb2 hb3 hb4 s2 s3
  have HM : Hid (M = fr.length + 2 * (l + n - 2).toNat) := hM
  have hMf : fr.length ≤ M := by omega
  have hMb : M ≤ 1000000 := by omega
  have Hh : Hid (l = 1 ∨ l < 2 * n) := hhalf
  clear hM hhalf
  have d1 : decide (l < 1) = false := by simp; omega
  have d3 : decide (l < n) = false := by simp; omega
  go_upto_region 16 with fail
  go_cut [77] (fun s77 wc => s77 = .bool false ∧ w3 = wc)
  case first =>
    by_cases h1 : 1 < l
    · have h2 : ¬ n ≤ l / 2 := by have := Hh.out; omega
      go_wp2_with fail
      go_meet
      case rel => exact ⟨rfl, rfl⟩
    · have h1' : decide (1 < l) = false := by simp; omega
      go_wp2_with fail
      go_meet
      case rel => exact ⟨rfl, rfl⟩
  case rest =>
    obtain ⟨rfl, rfl⟩ := hcut
    go_upto_if 102 with fail
    go_cut [17] (fun s17 wc => s17 = .int .i64 ((M : Int) - fr.length) ∧ w3 = wc)
    case first =>
      by_cases h1 : 2 < l + n
      · have h2 : 2 * (l + n - 2) = (M : Int) - fr.length := by have := HM.out; omega
        go_wp2_with fail
        go_meet
        case rel => exact ⟨by first | rfl | rw [h2], rfl⟩
      · have h2 : (0 : Int) = (M : Int) - fr.length := by have := HM.out; omega
        have H2 : Hid ((0 : Int) = (M : Int) - fr.length) := h2
        clear h2
        go_wp2_with fail
        go_meet
        case rel => exact ⟨by rw [← H2.out], rfl⟩
    case rest =>
      obtain ⟨rfl, rfl⟩ := hcut
      have e1 : (fr.length : Int) + ((M : Int) - fr.length) = M := by omega
      have e2 : ((M : Int) != (M : Int)) = false := by simp
      go_wp2_with fail
      clear e1 d1 d3 hand e2
      go_loopg [18] fr.length (fun g i wr => ∃ k : Nat, fr.length - k ≤ g ∧ k ≤ fr.length ∧ i = .int .i64 k ∧ ∃ nd, wr = w3.drewN nd)
      case atStart => exact ⟨0, by omega, by omega, rfl, 0, rfl⟩
      case round =>
        obtain ⟨k, hg, hk, rfl, nd, rfl⟩ := hrel
        by_cases hlt : k < fr.length
        · have hlt' : (k : Int) < fr.length := by omega
          have hlt2 : (k : Int) < M := by omega
          have hlt3 : (k : Int) < tt.length := by omega
          obtain ⟨x2, o2, rfl, _, v2⟩ := r2.at hlt
          obtain ⟨x3, o3, rfl, _, v3⟩ := r3.at (show k < tt.length by omega)
          obtain ⟨y2, y3⟩ := hc k hlt
          have z2 := v2 k hlt
          have z3 := v3 k (by omega)
          clear hc v2 v3 r2 r3
          go_wp2_with fail
          go_quiet (fail)
          go_wp2_with fail
          go_roundg (gk - 1)
          case rel => exact ⟨k + 1, by omega, by omega, by go_num, _, rfl⟩
          case measure => omega
        · go_wp2_with fail
          go_ret
          exact ⟨rfl, hfin.trans ((below_drawn _ _).mono hfin.size)⟩
end Go.Proofs.Qxb6603365a
