/-
  'sim.merged' (23), WALKED.
-/
import Derived.Test.Qxb6603365aMergedA
namespace Go.Proofs.Qxb6603365a
open Go.ChangeShapes Go.WideShapes Go.ChangeAt Go.RowKit

theorem make_two {P : Program} (t e : TypeId) (z : Value) (bytes : Nat) (ht : P.underlying t = some (.slice e)) (hinfo : (P.info? e).map (fun i => (i.zero, i.size, i.bytes)) = some (some z, 1, bytes)) (hz1 : z.cells = #[z])
    (l c : Int) (ln cn : Nat) (hl : l = ln) (hc : c = cn) (hlc : ln ≤ cn) (hbytes : bytes * cn ≤ 281474976710656) (h63 : cn ≤ 9223372036854775807) (w : World) :
    (Instr.makeSlice t (.int .i64 l) (.int .i64 c)).run P w = .ok (.slice (some ⟨w.heap.size, 0, none⟩) ln cn) (w.alloc (.cells (madeCells #[z] cn) e)) := make_cap t e z bytes ht hinfo hz1 l c ln cn hl hc hlc hbytes h63 w

/-- The starts under way. -/
structure TMem (w : World) (rs : List (List Int)) (k : Nat) (wr : World) : Prop where
  bel : Below w.heap.size w wr
  row : wr.rowIs w.heap.size 3 (rs.length + 1) (fun j => .int .i64 (if j ≤ k then ((startAt rs j : Nat) : Int) else 0))

theorem tmem_start (w : World) (rs : List (List Int)) : TMem w rs 0 (w.alloc (.cells (madeCells #[.int .i64 0] (rs.length + 1)) 3)) := by
  refine ⟨(Below.refl _ _).alloc (Nat.le_refl _) _, (World.rowIs_made w _ _ _).congr ?_⟩
  intro j _
  by_cases e : j ≤ 0
  · have : j = 0 := by omega
    subst this
    simp [startAt]
  · rw [if_neg e]

theorem TMem.step {w : World} {rs : List (List Int)} {k : Nat} {wr w' : World} {o : Obj} (h : TMem w rs k wr) (hs : RowStep (wr.alloc o) w' w.heap.size 3 (rs.length + 1) (fun j => if j = k + 1 then .int .i64 ((startAt rs k : Int) + (run rs k).length) else .int .i64 (if j ≤ k then ((startAt rs j : Nat) : Int) else 0))) (hk : k < rs.length) : TMem w rs (k + 1) w' := by
  refine ⟨hs.below (h.bel.alloc (by have := h.bel.size; omega) o) (Nat.le_refl _), hs.row.congr ?_⟩
  intro j _
  by_cases e : j = k + 1
  · subst e
    rw [if_pos rfl, if_pos (Nat.le_refl _), startAt_run hk]
    simp
  · rw [if_neg e]
    by_cases e2 : j ≤ k
    · rw [if_pos e2, if_pos (by omega)]
    · rw [if_neg e2, if_neg (by omega)]

theorem SMem.alloc {B : Nat} {W : World} {cap : Nat} {out : List Int} {wr : World} (h : SMem B W cap out wr) (o : Obj) : SMem B W cap out (wr.alloc o) :=
  ⟨h.bel.alloc (by have := h.lt; omega) o, by have := h.lt; simp; omega, h.own.alloc o⟩

theorem row_of_full {w : World} {B b cap : Nat} {xs : List Int} (h : w.ownsRow B 3 1 (.slice (some ⟨b, 0, none⟩) cap cap) cap (xs.map (Value.int .i64))) : w.rowIs b 3 cap (fun j => .int .i64 (at0 xs j)) := by
  have hl : xs.length = cap := by simpa using h.1
  rcases h.2 with ⟨e, _⟩ | ⟨g, cap', cur, e, _, hg, _, _, hs, ht⟩
  · cases e
  · cases e
    refine ⟨cur, hg, by simpa using hs, fun i hi => ?_⟩
    have h1 : (cur.toList.take (cap * 1))[i]? = (xs.map (Value.int .i64))[i]? := by rw [ht]
    rw [List.getElem?_take, if_pos (by omega)] at h1
    have h2 : cur[i]? = (xs.map (Value.int .i64))[i]? := by simpa using h1
    rw [h2]
    have : i < xs.length := by omega
    simp [at0, this]

theorem mm_start {w W1 wr : World} {rs : List (List Int)} {N : Nat} {out : List Int} (hT : TMem w rs rs.length W1) (hS : SMem W1.heap.size W1 N out wr) (hN : out.length = N) :
    MM w w.heap.size W1.heap.size wr.heap.size rs.length N (startAt rs) (at0 out) (fun _ => 0) (wr.alloc (.cells (madeCells #[.int .i64 0] N) 3)) := by
  have h1 := hT.row.lt
  have h2 := hS.lt
  have ho := hS.own
  rw [hN] at ho
  refine ⟨(hT.bel.trans (hS.bel.mono (by omega))).alloc (by omega) _, ?_, (row_of_full ho).alloc _, World.rowIs_made wr _ _ _, h1, by omega, by omega⟩
  refine ((hT.row.of_block (hS.bel.block _ h1)).alloc _).congr ?_
  intro j hj
  rw [if_pos (by omega)]

/-- The row 'starts' in the midst of a pass: its head is overwritten. -/
def mixS (K S : Nat → Nat) (t : Nat) : Nat → Nat := fun j => if j ≤ t then K j else S j
theorem mixS_start (S : Nat → Nat) {n : Nat} : ∀ j, j < n → S j = mixS S S 0 j := by intro j _; simp [mixS]

theorem updI_low {I I2 : Nat → Int} {lo k : Nat} {v : Int} (h : ∀ j, j < lo → I j = I2 j) (hk : lo ≤ k) : Hid (∀ j, j < lo → updI I k v j = I2 j) := by
  intro j hj
  rw [updI_other I v (by omega)]
  exact h j hj

theorem pass_facts {P : Prop} {flat : List Int} {w : World} {B ge gi n N m i t : Nat} {E I2 : Nat → Int} {S K : Nat → Nat} {wr : World} (o : OutI P flat N E S m) (h : MidI P E I2 S K m t) (hM : MM w B ge gi n N (mixS K S t) E I2 wr) (hi : i = 2 * t) (hlt : i + 1 < m) (hmn : m ≤ n + 1) :
    ∃ lo mid hi : Nat, Hid ((lo = S i ∧ mid = S (i + 1) ∧ hi = S (min (i + 2) (m - 1))) ∧ (P → Asc (seg E lo mid)) ∧ (P → Asc (seg E mid hi))) ∧ lo ≤ mid ∧ mid ≤ hi ∧ hi ≤ N ∧
      wr.cell? ⟨B, i, none⟩ = some (.int .i64 (lo : Int)) ∧ wr.cell? ⟨B, i + 1, none⟩ = some (.int .i64 (mid : Int)) ∧ ((i + 2 < m → wr.cell? ⟨B, i + 2, none⟩ = some (.int .i64 (hi : Int))) ∧ (¬ i + 2 < m → mid = hi)) := by
  have e0 : mixS K S t i = S i := by
    unfold mixS
    by_cases e : i ≤ t
    · have : i = 0 := by omega
      subst this
      rw [if_pos (by omega), h.k0, o.s0]
    · rw [if_neg e]
  have e1 : mixS K S t (i + 1) = S (i + 1) := by unfold mixS; rw [if_neg (by omega)]
  have e2 : mixS K S t (i + 2) = S (i + 2) := by unfold mixS; rw [if_neg (by omega)]
  refine ⟨S i, S (i + 1), S (min (i + 2) (m - 1)), ⟨⟨rfl, rfl, rfl⟩, fun p => o.sort p i hlt, fun p => ?_⟩, o.mono i hlt, o.mono_le _ _ (by omega) (by omega), o.le _ (by omega), ?_, ?_, ?_, ?_⟩
  · by_cases e : i + 2 < m
    · rw [Nat.min_eq_left (by omega)]
      exact o.sort p (i + 1) e
    · rw [Nat.min_eq_right (by omega), show m - 1 = i + 1 by omega, seg_nil E (Nat.le_refl _)]
      exact List.Pairwise.nil
  · rw [hM.rs.cell (by omega), e0]
  · rw [hM.rs.cell (by omega), e1]
  · intro hl
    rw [hM.rs.cell (by omega), e2, Nat.min_eq_left (by omega)]
  · intro hl
    rw [Nat.min_eq_right (by omega), show m - 1 = i + 1 by omega]

theorem size3 : (Try.prog.info? 3).map (·.size) = some 1 := by kernel_rfl

theorem mixS_low (K S : Nat → Nat) (t : Nat) : ∀ j, j < t + 1 → K j = mixS K S t j := by
  intro j hj
  unfold mixS
  rw [if_pos (by omega)]

theorem out_congr {P : Prop} {flat : List Int} {N : Nat} {E : Nat → Int} {S S' : Nat → Nat} {m : Nat} (h : OutI P flat N E S m) (hs : ∀ j, j < m → S j = S' j) : OutI P flat N E S' m := by
  have hp := h.pos
  refine ⟨h.pos, by rw [← hs 0 (by omega)]; exact h.s0, fun i hi => ?_, by rw [← hs (m - 1) (by omega)]; exact h.last, h.perm, fun p i hi => ?_⟩
  · rw [← hs i (by omega), ← hs (i + 1) hi]; exact h.mono i hi
  · rw [← hs i (by omega), ← hs (i + 1) hi]; exact h.sort p i hi

/-- What the two copies want to know. -/
theorem copy_facts {P : Prop} {E I3 : Nat → Int} {S : Nat → Nat} {w : World} {B ge gi n N lo mid hi xa xb xk : Nat} {wr : World} (h : MI P E I3 lo mid hi xa xb xk) (hM : MM w B ge gi n N S E I3 wr) (o3 : hi ≤ N) :
    xk + (mid - xa) = xb ∧
    (0 < mid - xa → (if N = xk then some ⟨gi, 0, none⟩ else some ⟨gi, xk, none⟩) = some (⟨gi, xk, none⟩ : Addr) ∧ ∃ ad, (if N = xa then some (⟨ge, 0, none⟩ : Addr) else some ⟨ge, xa, none⟩) = some ad ∧ ∀ j, j < mid - xa → wr.cell? (ad.add j) = some (.int .i64 (E (xa + j)))) ∧
    (0 < hi - xb → (if N = xb then some ⟨gi, 0, none⟩ else some ⟨gi, xb, none⟩) = some (⟨gi, xb, none⟩ : Addr) ∧ ∃ ad, (if N = xb then some (⟨ge, 0, none⟩ : Addr) else some ⟨ge, xb, none⟩) = some ad ∧ ∀ j, j < hi - xb → wr.cell? (ad.add j) = some (.int .i64 (E (xb + j)))) ∧
    mid - xa ≤ N - xk ∧ hi - xb ≤ N - xb ∧ xk + (mid - xa) ≤ N ∧ xb + (hi - xb) ≤ N := by
  have h1 := h.h1
  have h2 := h.h2
  have h3 := h.h3
  have h4 := h.h4
  have h5 := h.hk
  refine ⟨by omega, ?_, ?_, by omega, by omega, by omega, by omega⟩
  · intro hp
    rw [if_neg (by omega), if_neg (by omega)]
    refine ⟨rfl, _, rfl, fun j hj => ?_⟩
    rw [Addr.add_lit]
    exact hM.re.cell (by omega)
  · intro hp
    rw [if_neg (by omega), if_neg (by omega)]
    refine ⟨rfl, _, rfl, fun j hj => ?_⟩
    rw [Addr.add_lit]
    exact hM.re.cell (by omega)

/-- 'copy(into[k:], ends[a:])' of m numbers. -/
def cpy (I : Nat → Int) (k m : Nat) (E : Nat → Int) (a : Nat) : Nat → Int := fun j => if k ≤ j ∧ j < k + m then E (a + (j - k)) else I j
theorem cpy_cell (I : Nat → Int) (k m : Nat) (E : Nat → Int) (a : Nat) {n : Nat} : ∀ j, j < n → (if k ≤ j ∧ j < k + m then Value.int .i64 (E (a + (j - k))) else .int .i64 (I j)) = .int .i64 (cpy I k m E a j) := by
  intro j _
  unfold cpy
  split <;> rfl

theorem copy_facts2 {P : Prop} {E I3 I4 : Nat → Int} {S : Nat → Nat} {w : World} {B ge gi n N lo mid hi xa xb xk : Nat} {wr : World} (h : MI P E I3 lo mid hi xa xb xk) (hM : MM w B ge gi n N S E I4 wr) (o3 : hi ≤ N) :
    xk + (mid - xa) = xb ∧ True ∧
    (0 < hi - xb → (if N = xb then some ⟨gi, 0, none⟩ else some ⟨gi, xb, none⟩) = some (⟨gi, xb, none⟩ : Addr) ∧ ∃ ad, (if N = xb then some (⟨ge, 0, none⟩ : Addr) else some ⟨ge, xb, none⟩) = some ad ∧ ∀ j, j < hi - xb → wr.cell? (ad.add j) = some (.int .i64 (E (xb + j)))) ∧
    True ∧ True ∧ True ∧ True := by
  have h2 := h.h2
  have h5 := h.hk
  have h4 := h.h4
  refine ⟨by omega, trivial, ?_, trivial, trivial, trivial, trivial⟩
  intro hp
  rw [if_neg (by omega), if_neg (by omega)]
  refine ⟨rfl, _, rfl, fun j hj => ?_⟩
  rw [Addr.add_lit]
  exact hM.re.cell (by omega)

theorem mi_copied {P : Prop} {E I3 : Nat → Int} {lo mid hi xa xb xk : Nat} (h : MI P E I3 lo mid hi xa xb xk) (hend : xa = mid ∨ xb = hi) (s1 : P → Asc (seg E lo mid)) (s2 : P → Asc (seg E mid hi)) :
    (∀ j, j < lo → cpy (cpy I3 xk (mid - xa) E xa) xb (hi - xb) E xb j = I3 j) ∧ (seg (cpy (cpy I3 xk (mid - xa) E xa) xb (hi - xb) E xb) lo hi).Perm (seg E lo hi) ∧ (P → Asc (seg (cpy (cpy I3 xk (mid - xa) E xa) xb (hi - xb) E xb) lo hi)) := by
  have h1 := h.h1
  have h2 := h.h2
  have h3 := h.h3
  have h4 := h.h4
  have h5 := h.hk
  have low : ∀ j, j < xk → cpy (cpy I3 xk (mid - xa) E xa) xb (hi - xb) E xb j = I3 j := by
    intro j hj
    unfold cpy
    rw [if_neg (by omega), if_neg (by omega)]
  refine ⟨fun j hj => low j (by omega), ?_⟩
  refine mi_finish h hend s1 s2 (fun j _ hj => low j hj) ?_
  rw [seg_append _ (show xk ≤ xb by omega) h4]
  have e1 : seg (cpy (cpy I3 xk (mid - xa) E xa) xb (hi - xb) E xb) xb hi = seg E xb hi := by
    refine seg_congr fun j j1 j2 => ?_
    unfold cpy
    rw [if_pos (by omega), show xb + (j - xb) = j by omega]
  have e2 : seg (cpy (cpy I3 xk (mid - xa) E xa) xb (hi - xb) E xb) xk xb = seg E xa mid := by
    apply List.ext_getElem
    · rw [seg_len, seg_len]; omega
    · intro i i1 i2
      rw [seg_len] at i1 i2
      simp only [seg, List.getElem_map, List.getElem_range]
      unfold cpy
      rw [if_neg (by omega), if_pos (by omega), show xa + (xk + i - xk) = xa + i by omega]
  rw [e1, e2]

theorem mixS_next (K S : Nat → Nat) (t hi : Nat) {n : Nat} : ∀ j, j < n → (if j = t + 1 then Value.int .i64 (hi : Int) else .int .i64 ((mixS K S t j : Nat) : Int)) = .int .i64 ((mixS (updN K (t + 1) hi) S (t + 1) j : Nat) : Int) := by
  intro j _
  unfold mixS updN
  by_cases e : j = t + 1
  · subst e
    simp
  · rw [if_neg e]
    by_cases e2 : j ≤ t
    · rw [if_pos e2, if_pos (by omega), if_neg e]
    · rw [if_neg e2, if_neg (by omega)]

set_option maxHeartbeats 4000000 in
set_option maxRecDepth 20000 in
theorem merged_any (a : Option Addr) (cap : Nat) (rs : List (List Int)) (w : World) (hn : rs.length ≤ 1048576) (ht : startAt rs rs.length ≤ 1048576) (h : RunsP VSlice w a rs cap) : Calls Try.prog 23 #[.slice a rs.length cap] w (MPost rs w) := by
  obtain ⟨i3, hi3, _, hs3, _⟩ := info_parts info3
  have hmk := make_two (P := Try.prog) 24 3 (.int .i64 0) 8 Try.underlying24 info3 rfl 1 ((rs.length : Int) + 1) 1 (rs.length + 1) rfl (by omega) (by omega) (by omega) (by omega)
  go_enter Try.func23, Try.ntmps23
  go_wp2_with fail
  clear hmk
  go_loopg [3, 26] rs.length (fun g sv iv wr => ∃ k : Nat, rs.length - k ≤ g ∧ k ≤ rs.length ∧ iv = .int .i64 k ∧ sv = .slice (some ⟨w.heap.size, 0, none⟩) (k + 1) (rs.length + 1) ∧ TMem w rs k wr)
  case atStart => exact ⟨0, by omega, by omega, rfl, rfl, tmem_start w rs⟩
  case round =>
    obtain ⟨k, hg, hk, rfl, rfl, hT⟩ := hrel
    by_cases hlt : k < rs.length
    · have hlt' : (k : Int) < rs.length := by omega
      obtain ⟨b, off, ai, ci, rfl, hb, hc, _⟩ := h.at_ k hlt
      have hc' : wr.cell? ⟨b, off + k, none⟩ = some (.slice ai (run rs k).length ci) := by rw [hT.bel.cell (by exact hb)]; exact hc
      have hck : wr.cell? ⟨w.heap.size, k, none⟩ = some (.int .i64 (startAt rs k)) := by have := hT.row.cell (show k < rs.length + 1 by omega); rw [if_pos (Nat.le_refl _)] at this; exact this
      have hle : startAt rs k + (run rs k).length ≤ 1048576 := by have := startAt_le (rs := rs) (k + 1); have := startAt_run hlt; omega
      have hrow := hT.row.alloc (.cells #[.int .i64 ((startAt rs k : Int) + (run rs k).length)] 3)
      go_wp2_with (at_builtin; refine wpList_append_row _ rfl (.tmp 30) (.tmp 40) 24 rfl 3 i3 Try.underlying24 hi3 hs3 w.heap.size (k + 1) (rs.length + 1) _ (.int .i64 ((startAt rs k : Int) + (run rs k).length)) rfl hrow ⟨wr.heap.size, 0, none⟩ 1 rfl ?f1 rfl ?f3 ?_)
      case f1 => simp
      case f3 => omega
      intro w1 hst
      have hT1 := hT.step hst hlt
      clear hst hrow hck hc'
      go_wp2_with fail
      go_roundg (gk - 1)
      case rel => exact ⟨k + 1, by omega, by omega, by go_num, rfl, hT1⟩
      case measure => omega
    · have e : k = rs.length := by omega
      have HK : Hid (k = rs.length) := e
      obtain ⟨N, hN⟩ : ∃ N, N = startAt rs rs.length := ⟨_, rfl⟩
      have HN : Hid (N = startAt rs rs.length) := hN
      have hNb : N ≤ 1048576 := by omega
      have hck : wr.cell? ⟨w.heap.size, k, none⟩ = some (.int .i64 (N : Int)) := by
        have := hT.row.cell (show k < rs.length + 1 by omega)
        rw [if_pos (Nat.le_refl _)] at this
        rw [hN, ← e]; exact this
      have HT : Hid (TMem w rs rs.length wr) := by show TMem w rs rs.length wr; rw [← e]; rw [e] at hT ⊢; exact hT
      clear e hN hg
      have hmk := make_two (P := Try.prog) 24 3 (.int .i64 0) 8 Try.underlying24 info3 rfl 0 (N : Int) 0 N rfl rfl (by omega) (by omega) (by omega)
      obtain ⟨W1, hW1⟩ : ∃ W1, W1 = wr := ⟨wr, rfl⟩
      subst hW1
      go_wp2_with fail
      clear hmk hck
      go_loopg [6, 52] rs.length (fun g ov iv wr => ∃ (q : Nat) (out : List Int), rs.length - q ≤ g ∧ q ≤ rs.length ∧ iv = .int .i64 q ∧ ov = .slice (some ⟨W1.heap.size, 0, none⟩) out.length N ∧ Hid (out = (rs.take q).flatten) ∧ SMem W1.heap.size W1 N out wr)
      case atStart => exact ⟨0, [], by omega, by omega, rfl, rfl, rfl, smem_start W1 N (by unfold maxLen; omega)⟩
      case round =>
        obtain ⟨q, out, hg, hq, rfl, rfl, HO, hS⟩ := hrel
        by_cases hlt2 : q < rs.length
        · have hlt' : (q : Int) < rs.length := by omega
          obtain ⟨b, off, ai, ci, rfl, hb, hc, hp⟩ := h.at_ q hlt2
          have hb1 : b < W1.heap.size := Nat.lt_of_lt_of_le hb hT.bel.size
          have hc' : wr.cell? ⟨b, off + q, none⟩ = some (.slice ai (run rs q).length ci) := by rw [hS.bel.cell (by exact hb1), hT.bel.cell (by exact hb)]; exact hc
          have hle : startAt rs q + (run rs q).length ≤ N := by have := startAt_le (rs := rs) (q + 1); have := startAt_run hlt2; have := HN.out; omega
          obtain ⟨og, hog⟩ : ∃ og, og = gk := ⟨gk, rfl⟩
          subst hog
          go_wp2_with fail
          clear hc'
          go_loopg [6, 58] (run rs q).length (fun g ov jv wr => ∃ (j : Nat) (out : List Int), (run rs q).length - j ≤ g ∧ j ≤ (run rs q).length ∧ jv = .int .i64 j ∧ ov = .slice (some ⟨W1.heap.size, 0, none⟩) out.length N ∧ Hid (out = (rs.take q).flatten ++ (run rs q).take j) ∧ SMem W1.heap.size W1 N out wr)
          case atStart => exact ⟨0, out, by omega, by omega, rfl, rfl, by show out = _; rw [HO.out]; simp, hS⟩
          case round =>
            clear hS HO
            obtain ⟨j, out, hgj, hj, rfl, rfl, HO, hS⟩ := hrel
            by_cases hlj : j < (run rs q).length
            · have hlj' : (j : Int) < (run rs q).length := by omega
              obtain ⟨b', off', rfl, hb', d0, d1, d2, d3⟩ := hp.2 j hlj
              have hb2 : b' < W1.heap.size := Nat.lt_of_lt_of_le hb' hT.bel.size
              have e0 : wr.cell? ⟨b', off' + j * 4, none⟩ = some (.int .i64 0) := by rw [hS.bel.cell (by exact hb2), hT.bel.cell (by exact hb')]; exact d0
              have e1 : wr.cell? ⟨b', off' + j * 4 + 1, none⟩ = some (.int .i64 (nth (run rs q) j)) := by rw [hS.bel.cell (by exact hb2), hT.bel.cell (by exact hb')]; exact d1
              have e2 : wr.cell? ⟨b', off' + j * 4 + 2, none⟩ = some (.pointer none) := by rw [hS.bel.cell (by exact hb2), hT.bel.cell (by exact hb')]; exact d2
              have e3 : wr.cell? ⟨b', off' + j * 4 + 3, none⟩ = some (.int .i32 0) := by rw [hS.bel.cell (by exact hb2), hT.bel.cell (by exact hb')]; exact d3
              have hroom : out.length + 1 ≤ N := by
                rw [HO.out, List.length_append, List.length_take]
                show startAt rs q + _ + 1 ≤ N
                omega
              clear d0 d1 d2 d3
              have hS1 := hS.alloc (.cells #[.int .i64 0, .int .i64 (nth (run rs q) j), .pointer none, .int .i32 0] 41)
              go_wp2_with (at_builtin; refine wpList_append_fits _ rfl (.tmp 62) (.tmp 65) 24 rfl W1.heap.size 3 i3 1 Try.underlying24 hi3 hs3 W1.heap.size out.length N _ rfl (hS1.own.alloc _) ⟨wr.heap.size + 1, 0, none⟩ 1 1 [.int .i64 (nth (run rs q) j)] rfl rfl ?p1 ?p2 hroom ?_)
              case p1 => exact cell_one_at (by simp)
              case p2 => simp [Value.oneCell']
              intro w3 ho hgr
              have hS3 := hS1.put ho hgr
              clear ho hgr hS hS1 e0 e1 e2 e3
              go_wp2_with fail
              go_roundg (gk - 1)
              case rel => exact ⟨j + 1, out ++ [nth (run rs q) j], by omega, by omega, by go_num, by simp, by show out ++ _ = _; rw [flat_take hlj, HO.out], hS3⟩
              case measure => omega
            · have ej : j = (run rs q).length := by omega
              have HJ : Hid (j = (run rs q).length) := ej
              clear ej
              go_wp2_with fail
              go_roundg (og - 1)
              case rel => exact ⟨q + 1, out, by omega, by omega, by go_num, rfl, by show out = _; rw [flat_next hlt2, HO.out, HJ.out], hS⟩
              case measure => omega
        · have eo : out = rs.flatten := by rw [HO.out, List.take_of_length_le (by omega)]
          have HOL : Hid (out.length = N) := by show out.length = N; rw [eo, HN.out, startAt_all]
          have HO2 : Hid (out = rs.flatten) := eo
          have hmk := make_two (P := Try.prog) 24 3 (.int .i64 0) 8 Try.underlying24 info3 rfl (N : Int) (N : Int) N N rfl rfl (by omega) (by omega) (by omega)
          have hol : out.length = N := HOL.out
          clear eo
          go_wp2_with fail
          clear hol hmk
          have HM := mm_start HT.out hS HOL.out
          have HM2 : Hid (MM w w.heap.size W1.heap.size wr.heap.size rs.length N (startAt rs) (at0 rs.flatten) (fun _ => 0) (wr.alloc (.cells (madeCells #[.int .i64 0] N) 3))) := by rw [← HO2.out]; exact HM
          have hOut := out_start rs
          have HOut : Hid (OutI (∀ r ∈ rs, Asc r) rs.flatten N (at0 rs.flatten) (startAt rs) (k + 1)) := by
            show OutI _ _ _ _ _ _
            rw [HK.out, HN.out, startAt_all]
            exact hOut
          clear HM hOut hS HT HN
          go_loopg [3, 6, 11] (rs.length + 1) (fun g sv ev iv wr => ∃ (m ge gi : Nat) (S : Nat → Nat) (E I : Nat → Int), m ≤ g ∧ m ≤ rs.length + 1 ∧ sv = .slice (some ⟨w.heap.size, 0, none⟩) m (rs.length + 1) ∧ ev = .slice (some ⟨ge, 0, none⟩) N N ∧ iv = .slice (some ⟨gi, 0, none⟩) N N ∧ OutI (∀ r ∈ rs, Asc r) rs.flatten N E S m ∧ MM w w.heap.size ge gi rs.length N S E I wr)
          case atStart => exact ⟨k + 1, W1.heap.size, wr.heap.size, startAt rs, at0 rs.flatten, fun _ => 0, by omega, by omega, rfl, by rw [HOL.out], rfl, HOut.out, HM2.out⟩
          case round =>
            clear HM2 HOut HO HO2 HOL
            obtain ⟨m, ge, gi, S, E, I, hgm, hmn, rfl, rfl, rfl, hO, hM⟩ := hrel
            by_cases hm : 2 < m
            · have hm' : (2 : Int) < m := by omega
              obtain ⟨og, hog⟩ : ∃ og, og = gk := ⟨gk, rfl⟩
              subst hog
              go_wp2_with fail
              go_loopg [12, 13] m (fun g kv iv wr => ∃ (i t : Nat) (K : Nat → Nat) (I2 : Nat → Int), Hid (i = 2 * t) ∧ m - i ≤ g ∧ i ≤ m ∧ iv = .int .i64 i ∧ kv = .slice (some ⟨w.heap.size, 0, none⟩) (t + 1) (rs.length + 1) ∧ MidI (∀ r ∈ rs, Asc r) E I2 S K m t ∧ MM w w.heap.size ge gi rs.length N (mixS K S t) E I2 wr)
              case atStart => exact ⟨0, 0, S, I, rfl, by omega, by omega, rfl, rfl, mid_start hO I, hM.congrS (mixS_start S)⟩
              case round =>
                clear hM
                obtain ⟨i, t, K, I2, HI, hgi, him, rfl, rfl, hMid, hM⟩ := hrel
                by_cases hlt : i + 1 < m
                · have hlt' : (i : Int) + 1 < m := by omega
                  obtain ⟨lo, mid, hi, HLMH, o1, o2, o3, c0, c1, c2⟩ := pass_facts hO hMid hM HI.out hlt hmn
                  go_wp2_with fail
                  go_quiet (fail)
                  have hM' := hM.like (w' := wr.drewN nq) rfl rfl rfl rfl
                  go_upto_if 102 with fail
                  go_cut [16] (fun s16 wc => s16 = .int .i64 hi ∧ wr.drewN nq = wc)
                  case first =>
                    by_cases h2 : i + 2 < m
                    · have h2' : (i : Int) + 2 < m := by omega
                      have c2' := c2.1 h2
                      go_wp2_with fail
                      go_meet
                      case rel => exact ⟨rfl, rfl⟩
                    · have HX : Hid (mid = hi) := c2.2 h2
                      clear c2
                      go_wp2_with fail
                      go_meet
                      case rel => exact ⟨by rw [HX.out], rfl⟩
                  case rest =>
                    obtain ⟨rfl, rfl⟩ := hcut
                    clear c0 c1 c2 hM
                    obtain ⟨og2, hog2⟩ : ∃ og2, og2 = gk := ⟨gk, rfl⟩
                    subst hog2
                    go_wp2_with fail
                    go_loopg [17, 18, 19] (hi - lo) (fun g av bv kv wr => ∃ (xa xb xk : Nat) (I3 : Nat → Int), (mid - xa) + (hi - xb) ≤ g ∧ av = .int .i64 xa ∧ bv = .int .i64 xb ∧ kv = .int .i64 xk ∧ MI (∀ r ∈ rs, Asc r) E I3 lo mid hi xa xb xk ∧ Hid (∀ j, j < lo → I3 j = I2 j) ∧ MM w w.heap.size ge gi rs.length N (mixS K S t) E I3 wr)
                    case atStart => exact ⟨lo, mid, lo, I2, by omega, rfl, rfl, rfl, mi_start _ E I2 o1 o2, fun _ _ => rfl, hM'⟩
                    case round =>
                      clear hM'
                      obtain ⟨xa, xb, xk, I3, hgx, rfl, rfl, rfl, hMI, HF, hM⟩ := hrel
                      have y1 := hMI.h1
                      have y2 := hMI.h2
                      have y3 := hMI.h3
                      have y4 := hMI.h4
                      have HY : Hid (xk + mid = xa + xb) := hMI.hk
                      have y5 : xk ≤ hi := by have := HY.out; omega
                      by_cases hend : xa < mid ∧ xb < hi
                      · obtain ⟨ha, hb⟩ := hend
                        have ha' : (xa : Int) < mid := by omega
                        have hb' : (xb : Int) < hi := by omega
                        have y6 : xk < N := by have := HY.out; omega
                        have ca := hM.re.cell (show xa < N by omega)
                        have cb := hM.re.cell (show xb < N by omega)
                        have ck := hM.ri.cell y6
                        have fk := hM.ri.frozen xk
                        have n3 := hM.h3
                        by_cases hE : E xb < E xa
                        · have hM5 := hM.setI xk (E xb)
                          have hMI5 := mi_takeB hMI hb hE (HLMH.out.2.1) (HLMH.out.2.2)
                          go_wp2_with fail
                          go_quiet (fail)
                          go_wp2_with fail
                          go_roundg (gk - 1)
                          case rel => exact ⟨xa, xb + 1, xk + 1, updI I3 xk (E xb), by omega, rfl, by go_num, by go_num, hMI5, updI_low HF.out (by have := HY.out; omega), hM5.like rfl rfl rfl rfl⟩
                          case measure => omega
                        · have hM5 := hM.setI xk (E xa)
                          have hMI5 := mi_takeA hMI ha hE (HLMH.out.2.1) (HLMH.out.2.2)
                          go_wp2_with fail
                          go_quiet (fail)
                          go_wp2_with fail
                          go_roundg (gk - 1)
                          case rel => exact ⟨xa + 1, xb, xk + 1, updI I3 xk (E xa), by omega, by go_num, rfl, by go_num, hMI5, updI_low HF.out (by have := HY.out; omega), hM5.like rfl rfl rfl rfl⟩
                          case measure => omega
                      · have hend2 : xa = mid ∨ xb = hi := by omega
                        have HEnd : Hid (xa = mid ∨ xb = hi) := hend2
                        go_upto_region 27 with fail
                        go_cut [118] (fun s118 wc => s118 = .bool false ∧ wr = wc)
                        case first =>
                          by_cases ha : xa < mid
                          · have ha' : (xa : Int) < mid := by omega
                            have hb' : ¬ (xb : Int) < hi := by omega
                            go_wp2_with fail
                            go_meet
                            case rel => exact ⟨rfl, rfl⟩
                          · have ha' : decide ((xa : Int) < mid) = false := by simp; omega
                            go_wp2_with fail
                            go_meet
                            case rel => exact ⟨rfl, rfl⟩
                        case rest =>
                          obtain ⟨rfl, rfl⟩ := hcut
                          clear hend hend2
                          obtain ⟨hMc, hpos1, hpos2, hle1, hle2, hfit1, hfit2⟩ := copy_facts hMI hM o3
                          obtain ⟨dp, hdp⟩ : ∃ dp, (if N = xk then some (⟨gi, 0, none⟩ : Addr) else some ⟨gi, xk, none⟩) = dp := ⟨_, rfl⟩
                          obtain ⟨sp, hsp⟩ : ∃ sp, (if N = xa then some (⟨ge, 0, none⟩ : Addr) else some ⟨ge, xa, none⟩) = sp := ⟨_, rfl⟩
                          obtain ⟨dp2, hdp2⟩ : ∃ dp, (if N = xb then some (⟨gi, 0, none⟩ : Addr) else some ⟨gi, xb, none⟩) = dp := ⟨_, rfl⟩
                          obtain ⟨sp2, hsp2⟩ : ∃ sp, (if N = xb then some (⟨ge, 0, none⟩ : Addr) else some ⟨ge, xb, none⟩) = sp := ⟨_, rfl⟩
                          rw [hdp, hsp] at hpos1
                          have HP1 : Hid (0 < mid - xa → dp = some (⟨gi, xk, none⟩ : Addr) ∧ ∃ ad, sp = some ad ∧ ∀ j, j < mid - xa → wr.cell? (ad.add j) = some (.int .i64 (E (xa + j)))) := hpos1
                          have HRI : Hid (wr.rowIs gi 3 N (fun j => .int .i64 (I3 j))) := hM.ri
                          have hwk : IntKind.i64.wrap ((xk : Int) + ((mid - xa : Nat) : Int)) = xb := by rw [IntKind.wrap_i64]; have := HY.out; omega
                          clear hpos1 hMc hpos2
                          have z1 : xk ≤ N := by omega
                          have z2 : mid ≤ N := by omega
                          have z3 : xb ≤ N := by omega
                          have hone : Hid (∀ j, j < mid - xa → (Value.int .i64 (E (xa + j))).oneCell' = true) := fun _ _ => rfl
                          go_wp2_with fail
                          go_region_law (refine step_copy_row rfl (.tmp 151) (.tmp 155) 24 24 rfl 3 Try.underlying24 size3 dp sp (N - xk) (N - xk) (mid - xa) (N - xa) (by simp [Act.eval, Act.put]) (by simp [Act.eval, Act.put]) gi xk N _ HRI.out (fun j => .int .i64 (E (xa + j))) hle1 HP1.out hfit1 hone.out ?_; intro w4 hst4)
                          have hM4 := (hM.like (w' := wr.drew) rfl rfl rfl rfl).stepI (I' := cpy I3 xk (mid - xa) E xa) hst4 (cpy_cell _ _ _ _ _)
                          have hMI' := hMI
                          obtain ⟨_, _, hpos2, _, _, _, _⟩ := copy_facts2 hMI' hM4 o3
                          rw [hdp2, hsp2] at hpos2
                          have HP2 : Hid (0 < hi - xb → dp2 = some (⟨gi, xb, none⟩ : Addr) ∧ ∃ ad, sp2 = some ad ∧ ∀ j, j < hi - xb → w4.cell? (ad.add j) = some (.int .i64 (E (xb + j)))) := hpos2
                          have HRI2 : Hid (w4.rowIs gi 3 N (fun j => .int .i64 (cpy I3 xk (mid - xa) E xa j))) := hM4.ri
                          have hone2 : Hid (∀ j, j < hi - xb → (Value.int .i64 (E (xb + j))).oneCell' = true) := fun _ _ => rfl
                          clear hpos2 HP1 HRI hone hst4 hM hMI'
                          go_wp2_with fail
                          go_region_law (refine step_copy_row rfl (.tmp 160) (.tmp 164) 24 24 rfl 3 Try.underlying24 size3 dp2 sp2 (N - xb) (N - xb) (hi - xb) (N - xb) (by simp [Act.eval, Act.put]) (by simp [Act.eval, Act.put]) gi xb N _ HRI2.out (fun j => .int .i64 (E (xb + j))) hle2 HP2.out hfit2 hone2.out ?_; intro w5 hst5)
                          have hM5 := (hM4.like (w' := w4.drew) rfl rfl rfl rfl).stepI (I' := cpy (cpy I3 xk (mid - xa) E xa) xb (hi - xb) E xb) hst5 (cpy_cell _ _ _ _ _)
                          obtain ⟨v1, v2, v3⟩ := mi_copied hMI HEnd.out HLMH.out.2.1 HLMH.out.2.2
                          have HMid : Hid (MidI (∀ r ∈ rs, Asc r) E (cpy (cpy I3 xk (mid - xa) E xa) xb (hi - xb) E xb) S (updN K (t + 1) hi) m (t + 1)) := by
                            obtain ⟨⟨l1, l2, l3⟩, _⟩ := HLMH.out
                            have hi2 := HI.out
                            rw [hi2] at l1 l3
                            rw [l1] at v1 v2 v3
                            exact mid_step hO hMid (by omega) l3 (fun j hj => (v1 j hj).trans (HF.out j (by rw [l1]; exact hj))) v2 v3
                          have htn : t + 1 < rs.length + 1 := by have := HI.out; omega
                          have hrs5 := hM5.rs.alloc (.cells #[.int .i64 (hi : Int)] 3)
                          clear v1 v2 v3 HP2 HRI2 hone2 hst5 hM4 hMI hdp hsp hdp2 hsp2 hwk hle1 hle2 hfit1 hfit2 z1 z2 z3 HY y1 y2 y3 y4 y5
                          go_wp2_with (at_builtin; refine wpList_append_row _ rfl (.tmp 166) (.tmp 168) 24 rfl 3 i3 Try.underlying24 hi3 hs3 w.heap.size (t + 1) (rs.length + 1) _ (.int .i64 (hi : Int)) rfl hrs5 ⟨w5.heap.size, 0, none⟩ 1 rfl ?r1 rfl htn ?_)
                          case r1 => simp
                          intro w6 hst6
                          have hM6 := (hM5.keep (w' := w5.alloc (.cells #[.int .i64 (hi : Int)] 3)) ((Below.refl _ _).alloc (Nat.le_refl _) _)).stepS (S' := mixS (updN K (t + 1) hi) S (t + 1)) hst6 (mixS_next K S t hi)
                          clear hst6 hrs5 hM5
                          go_wp2_with fail
                          go_roundg (og2 - 1)
                          case rel => exact ⟨i + 2, t + 1, updN K (t + 1) hi, _, by show i + 2 = 2 * (t + 1); have := HI.out; omega, by omega, by omega, by go_num, rfl, HMid.out, hM6⟩
                          case measure => omega
                · have HO3 := out_congr (S' := mixS K S t) (mid_done hO hMid (by have := HI.out; omega)) (mixS_low K S t)
                  have hMs := hM.swap
                  have hts : t + 1 < m := by have := hMid.tb; have := HI.out; omega
                  clear hM
                  go_wp2_with fail
                  go_roundg (og - 1)
                  case rel => exact ⟨t + 1, gi, ge, mixS K S t, I2, E, by omega, by omega, rfl, rfl, rfl, HO3, hMs⟩
                  case measure => omega
            · go_wp2_with fail
              go_ret
              exact mm_done hM hO (by omega)
end Go.Proofs.Qxb6603365a
