/-
  A SLICE OF SLICES: how it reads; zzBytes (8, 14), zzFlatten (12), zzSameInts (13).
-/
import Derived.Test.Qxb6603365aSort
namespace Go.Proofs.Qxb6603365a
open Go.ChangeShapes Go.WideShapes Go.ChangeAt Go.RowKit

def run (rs : List (List Int)) (i : Nat) : List Int := rs.getD i []
theorem run_eq {rs : List (List Int)} {i : Nat} (h : i < rs.length) : run rs i = rs[i] := by simp [run, h]
theorem startAt_run {rs : List (List Int)} {i : Nat} (h : i < rs.length) : startAt rs (i + 1) = startAt rs i + (run rs i).length := by
  rw [run_eq h]; exact startAt_succ h

/-- What is said of one run. -/
abbrev Phi := World → Option Addr → List Int → Nat → Prop

/-- It holds on, wherever the run's own block is as it was. -/
def Stable (Φ : Phi) : Prop := ∀ w w' a r c, Φ w a r c → (∀ x : Addr, a = some x → w'.heap[x.block]? = w.heap[x.block]?) → Φ w' a r c

structure RunsP (Φ : Phi) (w : World) (a : Option Addr) (rs : List (List Int)) (cap : Nat) : Prop where
  at_ : ∀ i, i < rs.length → ∃ b off ai ci, a = some ⟨b, off, none⟩ ∧ b < w.heap.size ∧ w.cell? ⟨b, off + i, none⟩ = some (.slice ai (run rs i).length ci) ∧ Φ w ai (run rs i) ci
  nil : a = none → rs = [] ∧ cap = 0

theorem stable_slice : Stable (SliceOf .i64) := by
  intro w w' a r c h hs
  refine ⟨?_, h.le, h.nil⟩
  intro i hi
  obtain ⟨b, off, e, hc⟩ := h.reads i hi
  exact ⟨b, off, e, by rw [World.cell?_of_block (w := w) (a := ⟨b, off + i, none⟩) (hs ⟨b, off, none⟩ e)]; exact hc⟩

/-- As an argument: all that it leads to lies below a world's end. -/
theorem runs_below {w w' : World} {a : Option Addr} {rs : List (List Int)} {cap : Nat} (h : RunsP (SliceOf .i64) w a rs cap) (hb : Below w.heap.size w w') : RunsP (SliceOf .i64) w' a rs cap := by
  refine ⟨fun i hi => ?_, h.nil⟩
  obtain ⟨b, off, ai, ci, e, hlt, hc, hp⟩ := h.at_ i hi
  exact ⟨b, off, ai, ci, e, Nat.lt_of_lt_of_le hlt hb.size, by rw [hb.cell (by exact hlt)]; exact hc, hp.below hb⟩

/-! ### zzBytes -/
def BytesPost (rs : List (List Int)) (w : World) (e : Ending) (w' : World) : Prop := ∃ b, e = .returned (.bool b) ∧ (b = true → rs.length + startAt rs rs.length ≤ 1048576) ∧ w = w'
theorem BytesPost.no {rs : List (List Int)} {w : World} : BytesPost rs w (.returned (.bool false)) w := ⟨_, rfl, (fun h => by simp at h), rfl⟩
theorem BytesPost.yes {rs : List (List Int)} {w : World} (h : rs.length + startAt rs rs.length ≤ 1048576) : BytesPost rs w (.returned (.bool true)) w := ⟨_, rfl, (fun _ => h), rfl⟩

theorem startAt_zero (rs : List (List Int)) : startAt rs 0 = 0 := by simp [startAt]

set_option maxHeartbeats 400000 in
set_option maxRecDepth 20000 in
theorem bytes8_any (a : Option Addr) (cap : Nat) (rs : List (List Int)) (w : World) (hm : rs.length ≤ maxLen) (h : RunsP (SliceOf .i64) w a rs cap) : Calls Try.prog 8 #[.slice a rs.length cap] w (BytesPost rs w) := by
  unfold maxLen at hm
  by_cases h1 : rs.length ≤ 1048576
  · have h1' : ¬ (1048576 : Int) < rs.length := by omega
    go_enter Try.func8, Try.ntmps8
    go_wp2_with fail
    go_loopg [3, 4] rs.length (fun g nv iv wr => ∃ k : Nat, rs.length - k ≤ g ∧ k ≤ rs.length ∧ iv = .int .i64 k ∧ nv = .int .i64 ((rs.length : Int) + startAt rs k) ∧ rs.length + startAt rs k ≤ 1048576 ∧ wr = w)
    case atStart => exact ⟨0, by omega, by omega, rfl, by rw [startAt_zero]; simp, by rw [startAt_zero]; omega, rfl⟩
    case round =>
      obtain ⟨k, hg, hk, rfl, rfl, hs, rfl⟩ := hrel
      by_cases hlt : k < rs.length
      · have hlt' : (k : Int) < rs.length := by omega
        obtain ⟨b, off, ai, ci, rfl, _, hc, _⟩ := h.at_ k hlt
        have hsu := startAt_run hlt
        have HS : Hid (startAt rs (k + 1) = startAt rs k + (run rs k).length) := hsu
        clear hsu
        by_cases g1 : 1048576 < (run rs k).length
        · have g1' : (1048576 : Int) < (run rs k).length := by omega
          go_wp2_with fail
          go_ret
          exact BytesPost.no
        · by_cases g2 : 1048576 < rs.length + startAt rs k + (run rs k).length
          · have g2' : (1048576 : Int) < (rs.length : Int) + startAt rs k + (run rs k).length := by omega
            go_wp2_with fail
            go_ret
            exact BytesPost.no
          · go_wp2_with fail
            go_roundg (gk - 1)
            case rel => exact ⟨k + 1, by omega, by omega, by go_num, by rw [HS.out]; go_num, by rw [HS.out]; omega, rfl⟩
            case measure => omega
      · have e : k = rs.length := by omega
        have HE : Hid (rs.length + startAt rs rs.length ≤ 1048576) := by rw [← e]; show k + startAt rs k ≤ 1048576; omega
        clear e
        go_wp2_with fail
        go_ret
        exact BytesPost.yes HE.out
  · have h1' : (1048576 : Int) < rs.length := by omega
    go_enter Try.func8, Try.ntmps8
    go_wp2_with fail
    go_ret
    exact BytesPost.no

set_option maxHeartbeats 400000 in
set_option maxRecDepth 20000 in
theorem bytes14_any (a : Option Addr) (cap : Nat) (rs : List (List Int)) (w : World) (hm : rs.length ≤ maxLen) (h : RunsP (SliceOf .i64) w a rs cap) : Calls Try.prog 14 #[.slice a rs.length cap] w (BytesPost rs w) := by
  unfold maxLen at hm
  by_cases h1 : rs.length ≤ 1048576
  · have h1' : ¬ (1048576 : Int) < rs.length := by omega
    go_enter Try.func14, Try.ntmps14
    go_wp2_with fail
    go_loopg [3, 4] rs.length (fun g nv iv wr => ∃ k : Nat, rs.length - k ≤ g ∧ k ≤ rs.length ∧ iv = .int .i64 k ∧ nv = .int .i64 ((rs.length : Int) + startAt rs k) ∧ rs.length + startAt rs k ≤ 1048576 ∧ wr = w)
    case atStart => exact ⟨0, by omega, by omega, rfl, by rw [startAt_zero]; simp, by rw [startAt_zero]; omega, rfl⟩
    case round =>
      obtain ⟨k, hg, hk, rfl, rfl, hs, rfl⟩ := hrel
      by_cases hlt : k < rs.length
      · have hlt' : (k : Int) < rs.length := by omega
        obtain ⟨b, off, ai, ci, rfl, _, hc, _⟩ := h.at_ k hlt
        have hsu := startAt_run hlt
        have HS : Hid (startAt rs (k + 1) = startAt rs k + (run rs k).length) := hsu
        clear hsu
        by_cases g1 : 1048576 < (run rs k).length
        · have g1' : (1048576 : Int) < (run rs k).length := by omega
          go_wp2_with fail
          go_ret
          exact BytesPost.no
        · by_cases g2 : 1048576 < rs.length + startAt rs k + (run rs k).length
          · have g2' : (1048576 : Int) < (rs.length : Int) + startAt rs k + (run rs k).length := by omega
            go_wp2_with fail
            go_ret
            exact BytesPost.no
          · go_wp2_with fail
            go_roundg (gk - 1)
            case rel => exact ⟨k + 1, by omega, by omega, by go_num, by rw [HS.out]; go_num, by rw [HS.out]; omega, rfl⟩
            case measure => omega
      · have e : k = rs.length := by omega
        have HE : Hid (rs.length + startAt rs rs.length ≤ 1048576) := by rw [← e]; show k + startAt rs k ≤ 1048576; omega
        clear e
        go_wp2_with fail
        go_ret
        exact BytesPost.yes HE.out
  · have h1' : (1048576 : Int) < rs.length := by omega
    go_enter Try.func14, Try.ntmps14
    go_wp2_with fail
    go_ret
    exact BytesPost.no

/-! ### zzSameInts -/
def SamePost (w : World) (e : Ending) (w' : World) : Prop := e = .returned (.bool true) ∧ ∃ n, w' = w.drewN n

set_option maxHeartbeats 400000 in
theorem same_any (a b : Option Addr) (ca cb : Nat) (zs : List Int) (w : World) (hm : zs.length ≤ 1048576) (ha : Reads .i64 w a zs) (hb : Reads .i64 w b zs) : Calls Try.prog 13 #[.slice a zs.length ca, .slice b zs.length cb] w (SamePost w) := by
  have hne : ((zs.length : Int) != (zs.length : Int)) = false := by simp
  go_enter Try.func13, Try.ntmps13
  go_wp2_with fail
  go_loopg [5] zs.length (fun g iv wr => ∃ k : Nat, zs.length - k ≤ g ∧ k ≤ zs.length ∧ iv = .int .i64 k ∧ ∃ n, wr = w.drewN n)
  case atStart => exact ⟨0, by omega, by omega, rfl, 0, rfl⟩
  case round =>
    obtain ⟨k, hg, hk, rfl, m, rfl⟩ := hrel
    by_cases hlt : k < zs.length
    · have hlt' : (k : Int) < zs.length := by omega
      obtain ⟨b1, o1, rfl, _, c1⟩ := ha.at hlt
      obtain ⟨b2, o2, rfl, _, c2⟩ := hb.at hlt
      have d1 := c1 k hlt
      have d2 := c2 k hlt
      clear c1 c2
      go_wp2_with fail
      go_quiet (fail)
      go_wp2_with fail
      go_roundg (gk - 1)
      case rel => exact ⟨k + 1, by omega, by omega, by go_num, _, rfl⟩
      case measure => omega
    · go_wp2_with fail
      go_ret
      exact ⟨rfl, _, rfl⟩

/-! ### zzFlatten -/
theorem flat_take {rs : List (List Int)} {i j : Nat} (hj : j < (run rs i).length) : (rs.take i).flatten ++ (run rs i).take (j + 1) = (rs.take i).flatten ++ (run rs i).take j ++ [nth (run rs i) j] := by
  rw [List.take_succ_eq_append_getElem hj, List.append_assoc, nth_get hj]
theorem flat_next {rs : List (List Int)} {i : Nat} (hi : i < rs.length) : (rs.take (i + 1)).flatten = (rs.take i).flatten ++ (run rs i).take (run rs i).length := by
  rw [List.take_succ_eq_append_getElem hi, List.flatten_append, List.take_length, run_eq hi]
  simp

def FlatPost (rs : List (List Int)) (w : World) (e : Ending) (w' : World) : Prop :=
  ∃ b, e = .returned (.slice (some ⟨b, 0, none⟩) rs.flatten.length rs.flatten.length) ∧ Reads .i64 w' (some ⟨b, 0, none⟩) rs.flatten ∧ Below w.heap.size w w'

theorem startAt_all (rs : List (List Int)) : startAt rs rs.length = rs.flatten.length := by simp [startAt]
theorem startAt_le {rs : List (List Int)} (i : Nat) : startAt rs i ≤ startAt rs rs.length := by
  have h2 : rs = rs.take i ++ rs.drop i := (List.take_append_drop _ _).symm
  rw [startAt_all]
  unfold startAt
  have h3 : rs.flatten.length = (rs.take i).flatten.length + (rs.drop i).flatten.length := by
    rw [← List.length_append, ← List.flatten_append, ← h2]
  omega

set_option maxHeartbeats 1000000 in
set_option maxRecDepth 20000 in
theorem flatten_any (a : Option Addr) (cap : Nat) (rs : List (List Int)) (w : World) (hn : rs.length ≤ 1048576) (ht : startAt rs rs.length ≤ 1048576) (h : RunsP (SliceOf .i64) w a rs cap) : Calls Try.prog 12 #[.slice a rs.length cap] w (FlatPost rs w) := by
  obtain ⟨i3, hi3, _, hs3, _⟩ := info_parts info3
  obtain ⟨N, hN⟩ : ∃ N, N = startAt rs rs.length := ⟨_, rfl⟩
  have HN : Hid (N = startAt rs rs.length) := hN
  have hNb : N ≤ 1048576 := by omega
  clear hN
  have hmk := make_cap (P := Try.prog) 24 3 (.int .i64 0) 8 Try.underlying24 info3 rfl 0 (N : Int) 0 N rfl rfl (by omega) (by omega) (by omega)
  go_enter Try.func12, Try.ntmps12
  go_wp2_with fail
  go_loopg [3, 4] rs.length (fun g nv iv wr => ∃ k : Nat, rs.length - k ≤ g ∧ k ≤ rs.length ∧ iv = .int .i64 k ∧ nv = .int .i64 (startAt rs k) ∧ w = wr)
  case atStart => exact ⟨0, by omega, by omega, rfl, by rw [startAt_zero]; rfl, rfl⟩
  case round =>
    obtain ⟨k, hg, hk, rfl, rfl, rfl⟩ := hrel
    by_cases hlt : k < rs.length
    · have hlt' : (k : Int) < rs.length := by omega
      obtain ⟨b, off, ai, ci, rfl, _, hc, _⟩ := h.at_ k hlt
      have HS : Hid (startAt rs (k + 1) = startAt rs k + (run rs k).length) := startAt_run hlt
      have hle : startAt rs k + (run rs k).length ≤ 1048576 := by have := startAt_le (rs := rs) (k + 1); have := HS.out; omega
      go_wp2_with fail
      go_roundg (gk - 1)
      case rel => exact ⟨k + 1, by omega, by omega, by go_num, by rw [HS.out]; go_num, rfl⟩
      case measure => omega
    · have e : startAt rs k = N := by rw [HN.out, show k = rs.length by omega]
      go_wp2_with fail
      clear e hmk
      go_loopg [5, 6] rs.length (fun g ov iv wr => ∃ (k : Nat) (out : List Int), rs.length - k ≤ g ∧ k ≤ rs.length ∧ iv = .int .i64 k ∧ ov = .slice (some ⟨w.heap.size, 0, none⟩) out.length N ∧ Hid (out = (rs.take k).flatten) ∧ SMem w.heap.size w N out wr)
      case atStart => exact ⟨0, [], by omega, by omega, rfl, rfl, rfl, smem_start w N (by unfold maxLen; omega)⟩
      case round =>
        clear hk hlt hg
        obtain ⟨k, out, hg, hk, rfl, rfl, HO, hS⟩ := hrel
        by_cases hlt : k < rs.length
        · have hlt' : (k : Int) < rs.length := by omega
          obtain ⟨b, off, ai, ci, rfl, hb, hc, hp⟩ := h.at_ k hlt
          have hle : startAt rs k + (run rs k).length ≤ N := by have := startAt_le (rs := rs) (k + 1); have := startAt_run hlt; have := HN.out; omega
          have hol : out.length = startAt rs k := by rw [HO.out]; rfl
          have HL : Hid (out.length = startAt rs k) := hol
          clear hol
          obtain ⟨og, hog⟩ : ∃ og, og = gk := ⟨gk, rfl⟩
          subst hog
          go_wp2_with fail
          go_loopg [5, 7] (run rs k).length (fun g ov jv wr => ∃ (j : Nat) (out : List Int), (run rs k).length - j ≤ g ∧ j ≤ (run rs k).length ∧ jv = .int .i64 j ∧ ov = .slice (some ⟨w.heap.size, 0, none⟩) out.length N ∧ Hid (out = (rs.take k).flatten ++ (run rs k).take j) ∧ SMem w.heap.size w N out wr)
          case atStart => exact ⟨0, out, by omega, by omega, rfl, rfl, by show out = _; rw [HO.out]; simp, hS⟩
          case round =>
            clear hS HO HL
            obtain ⟨j, out, hgj, hj, rfl, rfl, HO, hS⟩ := hrel
            have hc' : wr.cell? ⟨b, off + k, none⟩ = some (.slice ai (run rs k).length ci) := by rw [hS.bel.cell (by exact hb)]; exact hc
            by_cases hlj : j < (run rs k).length
            · have hlj' : (j : Int) < (run rs k).length := by omega
              obtain ⟨b', off', rfl, hb', rc⟩ := hp.reads.at hlj
              have hcj : wr.cell? ⟨b', off' + j, none⟩ = some (.int .i64 (nth (run rs k) j)) := by rw [hS.bel.cell (by exact hb')]; exact rc j hlj
              have hroom : out.length + 1 ≤ N := by
                rw [HO.out, List.length_append, List.length_take]
                show startAt rs k + _ + 1 ≤ N
                omega
              clear rc
              go_wp2_with (at_builtin; refine wpList_append_fits _ rfl (.tmp 38) (.tmp 46) 24 rfl w.heap.size 3 i3 1 Try.underlying24 hi3 hs3 w.heap.size out.length N _ rfl (hS.own.alloc _) ⟨wr.heap.size, 0, none⟩ 1 1 [.int .i64 (nth (run rs k) j)] rfl rfl ?f1 ?f2 hroom ?_)
              case f1 => exact cell_one_at rfl
              case f2 => simp [Value.oneCell']
              intro w3 ho hgr
              have hS3 := hS.put ho hgr
              clear ho hgr hS hc' hcj
              go_wp2_with fail
              go_roundg (gk - 1)
              case rel => exact ⟨j + 1, out ++ [nth (run rs k) j], by omega, by omega, by go_num, by simp, by show out ++ _ = _; rw [flat_take hlj, HO.out], hS3⟩
              case measure => omega
            · have ej : j = (run rs k).length := by omega
              have HJ : Hid (j = (run rs k).length) := ej
              clear ej
              go_wp2_with fail
              go_roundg (og - 1)
              case rel => exact ⟨k + 1, out, by omega, by omega, by go_num, rfl, by show out = _; rw [flat_next hlt, HO.out, HJ.out], hS⟩
              case measure => omega
        · go_wp2_with fail
          go_ret
          have e : out = rs.flatten := by rw [HO.out, List.take_of_length_le (by omega)]
          have e2 : N = rs.flatten.length := by rw [HN.out, startAt_all]
          subst e
          rw [e2] at hS ⊢
          exact ⟨w.heap.size, rfl, hS.reads, hS.bel⟩
end Go.Proofs.Qxb6603365a
