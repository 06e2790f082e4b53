/-
  THE LAWS 'FnMergedSortsRuns' (3) AND 'FnMergedKeepsEveryTime' (4), WALKED.
-/
import Derived.Test.Qxb6603365aZZMerged
namespace Go.Proofs.Qxb6603365a
open Go.ChangeShapes Go.WideShapes Go.ChangeAt Go.RowKit

theorem asc_of_adj : ∀ (r : List Int), (∀ x, x + 1 < r.length → nth r x ≤ nth r (x + 1)) → Asc r
  | [], _ => List.Pairwise.nil
  | [x], _ => List.pairwise_singleton _ _
  | x :: y :: r, h => by
    have ih := asc_of_adj (y :: r) (fun i hi => by
      have := h (i + 1) (by simpa using hi)
      simpa [nth] using this)
    have h0 : x ≤ y := by simpa [nth] using h 0 (by simp)
    unfold Asc at ih ⊢
    rw [List.pairwise_cons]
    refine ⟨fun z hz => ?_, ih⟩
    rcases List.mem_cons.1 hz with e | hz
    · rw [e]; exact h0
    · rw [List.pairwise_cons] at ih
      exact Int.le_trans h0 (ih.1 z hz)

theorem startAt_mono {rs : List (List Int)} {i : Nat} (h : i < rs.length) : startAt rs i + (run rs i).length ≤ startAt rs rs.length := by
  have h1 := startAt_le (rs := rs) (i + 1)
  have h2 := startAt_run h
  omega

set_option maxHeartbeats 1600000 in
set_option maxRecDepth 20000 in
theorem keeps_any (a : Option Addr) (cap : Nat) (rs : List (List Int)) (w : World) (hm : rs.length ≤ maxLen) (h : RunsP (SliceOf .i64) w a rs cap) :
    Calls Try.prog 4 #[.slice a rs.length cap] w fun e w' => e = .returned (.bool true) ∧ Below w.heap.size w w' := by
  by_cases g0 : 131072 < rs.length
  · have g0' : (131072 : Int) < rs.length := by omega
    go_enter Try.func4, Try.ntmps4
    go_wp2_with fail
    refine (bytes14_any a cap rs w hm h).mono ?_
    rintro e w' ⟨b, rfl, hb, rfl⟩
    cases b
    · go_wp2_with fail
      go_ret
      exact ⟨rfl, Below.refl _ _⟩
    · go_wp2_with fail
      go_ret
      exact ⟨rfl, Below.refl _ _⟩
  have g0' : decide ((131072 : Int) < rs.length) = false := by simp; omega
  go_enter Try.func4, Try.ntmps4
  go_wp2_with fail
  refine (bytes14_any a cap rs w hm h).mono ?_
  rintro e w' ⟨b, rfl, hb, rfl⟩
  cases b
  · go_wp2_with fail
    go_ret
    exact ⟨rfl, Below.refl _ _⟩
  have hb := hb rfl
  have hn : rs.length ≤ 1048576 := by omega
  have ht : startAt rs rs.length ≤ 1048576 := by omega
  clear hm
  go_wp2_with fail
  go_loopg [3, 4] rs.length (fun g tv iv wr => ∃ k : Nat, rs.length - k ≤ g ∧ k ≤ rs.length ∧ iv = .int .i64 k ∧ tv = .int .i64 (8 * (rs.length : Int) + 8 * (startAt rs k : Int)) ∧ startAt rs k ≤ 1048576 ∧ w = wr)
  case atStart => exact ⟨0, by omega, by omega, rfl, by rw [startAt_zero]; simp, by rw [startAt_zero]; omega, rfl⟩
  case round =>
    obtain ⟨k, hg, hk, rfl, rfl, hs, rfl⟩ := hrel
    by_cases hlt : k < rs.length
    · have hlt' : (k : Int) < rs.length := by omega
      obtain ⟨b, off, ai, ci, rfl, _, hc, _⟩ := h.at_ k hlt
      have HS : Hid (startAt rs (k + 1) = startAt rs k + (run rs k).length) := startAt_run hlt
      have hle := startAt_mono hlt
      by_cases g1 : (1048576 : Int) < 8 * (rs.length : Int) + 8 * (startAt rs k : Int) + 8 * ((run rs k).length : Int)
      · go_wp2_with fail
        go_ret
        exact ⟨rfl, Below.refl _ _⟩
      · go_wp2_with fail
        go_roundg (gk - 1)
        case rel => exact ⟨k + 1, by omega, by omega, by go_num, by rw [HS.out]; go_num, by rw [HS.out]; omega, rfl⟩
        case measure => omega
    · clear hg hs
      go_wp2_with fail
      refine (cloneRuns_any a cap rs w hn ht h).mono ?_
      rintro e w1 ⟨a', rfl, h1, hb1⟩
      go_wp2_with fail
      refine (zzMerged_any a' _ rs w1 hn ht h1).mono ?_
      rintro e w2 ⟨b2, out, rfl, hmo, hrd, hb2⟩
      go_wp2_with fail
      refine (flatten_any a' _ rs w2 hn ht (runs_below h1 hb2)).mono ?_
      rintro e w3 ⟨b3, rfl, hrf, hb3⟩
      have hrd3 := hrd.below hb3
      have hfl : rs.flatten.length ≤ 1048576 := by rw [← startAt_all]; exact ht
      obtain ⟨fl, hfle⟩ : ∃ fl, fl = rs.flatten := ⟨_, rfl⟩
      rw [← hfle] at hrf hfl ⊢
      have HFL : Hid (fl = rs.flatten) := hfle
      have HP : Hid (out.Perm fl) := by show out.Perm fl; rw [hfle]; exact hmo.1
      have hlen : ((out.length : Int) != (fl.length : Int)) = false := by rw [HP.out.length_eq]; simp
      have hol : out.length ≤ 1048576 := by rw [HP.out.length_eq]; exact hfl
      have hoc : Hid (out.length = fl.length) := HP.out.length_eq
      have hbw : Below w.heap.size w w3 := (hb1.trans (hb2.mono hb1.size)).trans (hb3.mono (Nat.le_trans hb1.size hb2.size))
      clear hfle hmo hrd hb1 hb2 hb3 h1
      go_wp2_with fail
      refine (sort_any out.length out _ out.length out.length w3 rfl (Nat.le_refl _) (Nat.le_refl _) hol hrd3).mono ?_
      rintro e w4 ⟨b4, z1, c4, rfl, p1, s1, r1, hb4⟩
      have hrf4 := hrf.below hb4
      go_wp2_with fail
      refine (sort_any fl.length fl _ fl.length fl.length w4 rfl (Nat.le_refl _) (Nat.le_refl _) hfl hrf4).mono ?_
      rintro e w5 ⟨b5, z2, c5, rfl, p2, s2, r2, hb5⟩
      have ez : z1 = z2 := asc_unique s1 s2 ((p1.trans HP.out).trans p2.symm)
      subst ez
      have hz1 : z1.length ≤ 1048576 := by rw [p2.length_eq]; exact hfl
      have r1' := r1.below hb5
      have hbw5 : Below w.heap.size w w5 := (hbw.trans (hb4.mono hbw.size)).trans (hb5.mono (Nat.le_trans hbw.size hb4.size))
      clear hbw hb4 hb5 r1 hrf4 hrd3 hrf p1 p2 s1 s2
      go_wp2_with fail
      refine (same_any _ _ _ _ z1 w5 hz1 r1' r2).mono ?_
      rintro e w6 ⟨rfl, nd, rfl⟩
      go_wp2_with fail
      go_ret
      exact ⟨rfl, hbw5.trans ((below_drawn _ _).mono hbw5.size)⟩

set_option maxHeartbeats 1600000 in
set_option maxRecDepth 20000 in
theorem sorts_any (a : Option Addr) (cap : Nat) (rs : List (List Int)) (w : World) (hm : rs.length ≤ maxLen) (h : RunsP (SliceOf .i64) w a rs cap) :
    Calls Try.prog 3 #[.slice a rs.length cap] w fun e w' => e = .returned (.bool true) ∧ Below w.heap.size w w' := by
  by_cases g0 : 131072 < rs.length
  · have g0' : (131072 : Int) < rs.length := by omega
    go_enter Try.func3, Try.ntmps3
    go_wp2_with fail
    refine (bytes8_any a cap rs w hm h).mono ?_
    rintro e w' ⟨b, rfl, hb, rfl⟩
    cases b
    · go_wp2_with fail
      go_ret
      exact ⟨rfl, Below.refl _ _⟩
    · go_wp2_with fail
      go_ret
      exact ⟨rfl, Below.refl _ _⟩
  have g0' : decide ((131072 : Int) < rs.length) = false := by simp; omega
  go_enter Try.func3, Try.ntmps3
  go_wp2_with fail
  refine (bytes8_any a cap rs w hm h).mono ?_
  rintro e w' ⟨b, rfl, hb, rfl⟩
  cases b
  · go_wp2_with fail
    go_ret
    exact ⟨rfl, Below.refl _ _⟩
  have hb := hb rfl
  have hn : rs.length ≤ 1048576 := by omega
  have ht : startAt rs rs.length ≤ 1048576 := by omega
  clear hm
  go_wp2_with fail
  go_loopg [3, 4] rs.length (fun g tv iv wr => ∃ k : Nat, rs.length - k ≤ g ∧ k ≤ rs.length ∧ iv = .int .i64 k ∧ tv = .int .i64 (8 * (rs.length : Int) + 8 * (startAt rs k : Int)) ∧ startAt rs k ≤ 1048576 ∧ w = wr)
  case atStart => exact ⟨0, by omega, by omega, rfl, by rw [startAt_zero]; simp, by rw [startAt_zero]; omega, rfl⟩
  case round =>
    obtain ⟨k, hg, hk, rfl, rfl, hs, rfl⟩ := hrel
    by_cases hlt : k < rs.length
    · have hlt' : (k : Int) < rs.length := by omega
      obtain ⟨b, off, ai, ci, rfl, _, hc, _⟩ := h.at_ k hlt
      have HS : Hid (startAt rs (k + 1) = startAt rs k + (run rs k).length) := startAt_run hlt
      have hle := startAt_mono hlt
      by_cases g1 : (1048576 : Int) < 8 * (rs.length : Int) + 8 * (startAt rs k : Int) + 8 * ((run rs k).length : Int)
      · go_wp2_with fail
        go_ret
        exact ⟨rfl, Below.refl _ _⟩
      · go_wp2_with fail
        go_roundg (gk - 1)
        case rel => exact ⟨k + 1, by omega, by omega, by go_num, by rw [HS.out]; go_num, by rw [HS.out]; omega, rfl⟩
        case measure => omega
    · clear hg hs
      go_wp2_with fail
      go_loopg [5] rs.length (fun g iv wr => ∃ q : Nat, rs.length - q ≤ g ∧ q ≤ rs.length ∧ iv = .int .i64 q ∧ Hid (∀ x, x < q → Asc (run rs x)) ∧ ∃ nd, wr = w.drewN nd)
      case atStart => exact ⟨0, by omega, by omega, rfl, (fun x hx => by omega), 0, rfl⟩
      case round =>
        obtain ⟨q, hg, hq, rfl, HA, nd, rfl⟩ := hrel
        by_cases hlt2 : q < rs.length
        · have hlt' : (q : Int) < rs.length := by omega
          obtain ⟨b, off, ai, ci, rfl, _, hc, hp⟩ := h.at_ q hlt2
          have hrl : (run rs q).length ≤ 1048576 := by have := startAt_mono hlt2; omega
          obtain ⟨og, hog⟩ : ∃ og, og = gk := ⟨gk, rfl⟩
          subst hog
          go_wp2_with fail
          go_loopg [6] (run rs q).length (fun g jv wr => ∃ j : Nat, (run rs q).length - j ≤ g ∧ 1 ≤ j ∧ j ≤ (run rs q).length + 1 ∧ jv = .int .i64 j ∧ Hid (∀ x, x + 1 < j → nth (run rs q) x ≤ nth (run rs q) (x + 1)) ∧ ∃ nd, wr = w.drewN nd)
          case atStart => exact ⟨1, by omega, by omega, by omega, rfl, (fun x hx => by omega), nd, rfl⟩
          case round =>
            obtain ⟨j, hgj, hj1, hj2, rfl, HJ, nd, rfl⟩ := hrel
            by_cases hlj : j < (run rs q).length
            · have hlj' : (j : Int) < (run rs q).length := by omega
              obtain ⟨b', off', rfl, _, rc⟩ := hp.reads.at hlj
              have c1 := rc j hlj
              have c2 := rc (j - 1) (by omega)
              have hj1' : (1 : Int) ≤ (j : Int) := by omega
              clear rc
              by_cases hd : nth (run rs q) j < nth (run rs q) (j - 1)
              · go_wp2_with fail
                go_quiet (fail)
                go_wp2_with fail
                go_ret
                exact ⟨rfl, (below_drawn w nd).trans (below_drawn (w.drewN nd) nq)⟩
              · have HJ2 : Hid (∀ x, x + 1 < j + 1 → nth (run rs q) x ≤ nth (run rs q) (x + 1)) := by
                  intro x hx
                  by_cases e : x + 1 = j
                  · rw [e, show x = j - 1 by omega]; omega
                  · exact HJ.out x (by omega)
                go_wp2_with fail
                go_quiet (fail)
                go_wp2_with fail
                go_roundg (gk - 1)
                case rel => exact ⟨j + 1, by omega, by omega, by omega, by go_num, HJ2, _, rfl⟩
                case measure => omega
            · have HA2 : Hid (∀ x, x < q + 1 → Asc (run rs x)) := by
                intro x hx
                by_cases e : x = q
                · rw [e]; exact asc_of_adj _ (fun y hy => HJ.out y (by omega))
                · exact HA.out x (by omega)
              go_wp2_with fail
              go_roundg (og - 1)
              case rel => exact ⟨q + 1, by omega, by omega, by go_num, HA2, _, rfl⟩
              case measure => omega
        · have HAll : Hid (∀ r ∈ rs, Asc r) := by
            intro r hr
            obtain ⟨x, hx, rfl⟩ := List.getElem_of_mem hr
            rw [← run_eq hx]
            exact HA.out x (by omega)
          have hd0 := runs_below h (below_drawn w nd)
          clear HA hg
          go_wp2_with fail
          refine (cloneRuns_any a cap rs _ hn ht hd0).mono ?_
          rintro e w1 ⟨a', rfl, h1, hb1⟩
          go_wp2_with fail
          refine (zzMerged_any a' _ rs w1 hn ht h1).mono ?_
          rintro e w2 ⟨b2, out, rfl, hmo, hrd, hb2⟩
          go_wp2_with fail
          refine (flatten_any a' _ rs w2 hn ht (runs_below h1 hb2)).mono ?_
          rintro e w3 ⟨b3, rfl, hrf, hb3⟩
          have hrd3 := hrd.below hb3
          have hfl : rs.flatten.length ≤ 1048576 := by rw [← startAt_all]; exact ht
          obtain ⟨fl, hfle⟩ : ∃ fl, fl = rs.flatten := ⟨_, rfl⟩
          rw [← hfle] at hrf hfl ⊢
          have HP : Hid (out.Perm fl) := by show out.Perm fl; rw [hfle]; exact hmo.1
          have HS2 : Hid (Asc out) := hmo.2 HAll.out
          have hbw : Below w.heap.size w w3 := ((below_drawn w nd).trans (hb1.mono (Nat.le_refl _))).trans ((hb2.mono hb1.size).trans (hb3.mono (Nat.le_trans hb1.size hb2.size)))
          clear hfle hmo hrd hb1 hb2 hb3 h1 hd0
          go_wp2_with fail
          refine (sort_any fl.length fl _ fl.length fl.length w3 rfl (Nat.le_refl _) (Nat.le_refl _) hfl hrf).mono ?_
          rintro e w5 ⟨b5, z2, c5, rfl, p2, s2, r2, hb5⟩
          have ez : out = z2 := asc_unique HS2.out s2 (HP.out.trans p2.symm)
          subst ez
          have hz1 : out.length ≤ 1048576 := by rw [p2.length_eq]; exact hfl
          have r1' := hrd3.below hb5
          have hbw5 : Below w.heap.size w w5 := hbw.trans (hb5.mono hbw.size)
          clear hbw hb5 hrd3 hrf p2 s2
          go_wp2_with fail
          refine (same_any _ _ _ _ out w5 hz1 r1' r2).mono ?_
          rintro e w6 ⟨rfl, nd2, rfl⟩
          go_wp2_with fail
          go_ret
          exact ⟨rfl, hbw5.trans ((below_drawn _ _).mono hbw5.size)⟩
end Go.Proofs.Qxb6603365a
