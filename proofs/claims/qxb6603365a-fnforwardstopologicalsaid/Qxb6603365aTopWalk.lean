/-
  'FnForwardsTopological' (5): the walk.
-/
import Derived.Test.Qxb6603365aKWalk
import Derived.Test.Qxb6603365aFKWalk
namespace Go.Proofs.Qxb6603365a
open Go.ChangeShapes Go.WideShapes Go.ChangeAt Go.RowKit

set_option maxHeartbeats 400000 in
theorem bytesTop_any (a0 a1 : Option Addr) (n0 n1 c0 c1 : Nat) (w : World) (h0 : n0 ≤ maxLen) (h1 : n1 ≤ maxLen) :
    Calls Try.prog 15 #[.slice a0 n0 c0, .slice a1 n1 c1] w fun e w' => e = .returned (.bool (decide (n0 + n1 ≤ 1048576))) ∧ w = w' := by
  unfold maxLen at h0 h1
  by_cases g0 : n0 ≤ 1048576
  · by_cases g1 : n1 ≤ 1048576
    · by_cases g2 : n0 + n1 ≤ 1048576
      · rw [decide_eq_true g2]
        go_enter Try.func15, Try.ntmps15
        go_wp2
        go_ret
        exact ⟨rfl, rfl⟩
      · rw [decide_eq_false g2]
        go_enter Try.func15, Try.ntmps15
        go_wp2
        go_ret
        exact ⟨rfl, rfl⟩
    · rw [decide_eq_false (by omega)]
      go_enter Try.func15, Try.ntmps15
      go_wp2
      go_ret
      exact ⟨rfl, rfl⟩
  · rw [decide_eq_false (by omega)]
    go_enter Try.func15, Try.ntmps15
    go_wp2
    go_ret
    exact ⟨rfl, rfl⟩

theorem acyclic_at (b0 o0 : Nat) (a1 : Option Addr) (c0 c1 L n len0 : Nat) (x : Int) (s : Nat → Nat) (G : Nat → List Nat) (w : World) (hn : n ≤ 131071) (hL : L ≤ 131072) (hl : len0 = n + 1) (hx : x = n) (g : GMem w b0 o0 a1 n L s G) :
    Calls Try.prog 19 #[.slice (some ⟨b0, o0, none⟩) len0 c0, .slice a1 L c1, .int .i64 x] w (APost G n w) := by
  subst hl hx
  exact acyclic_any b0 o0 a1 c0 c1 L n s G w hn hL g

/-- Where the j-th node's list starts. -/
def sAt (st : List Int) (j : Nat) : Nat := (nth st j).toNat

theorem gmem_of {st tt : List Int} {w : World} {b0 o0 : Nat} {a1 : Option Addr} (hA : AdjOK st tt) (hb : b0 < w.heap.size) (r0 : ∀ j, j < st.length → w.cell? ⟨b0, o0 + j, none⟩ = some (.int .i32 (nth st j))) (r1 : Reads .i32 w a1 tt) :
    GMem w b0 o0 a1 (st.length - 1) tt.length (sAt st) (preds st tt) := by
  have hpos := hA.pos
  refine ⟨hb, fun j hj => ?_, fun v hv x h1 h2 => ?_, fun v hv => ?_, fun v hv => ?_, fun v hv u hu => ?_⟩
  · have := (hA.ok j (by omega)).1
    rw [r0 j (by omega)]
    simp only [sAt]
    rw [Int.toNat_of_nonneg this]
  · obtain ⟨p1, p2, p3⟩ := hA.ok (v + 1) (by omega)
    have p4 := (hA.ok v (by omega)).1
    have hlen := preds_len hA (show v + 1 < st.length by omega)
    simp only [sAt] at h1 h2 ⊢
    have hl : x - (nth st v).toNat < (preds st tt v).length := by omega
    have hp := (preds_at hA (show v + 1 < st.length by omega) hl).1
    have hx : x < tt.length := by omega
    obtain ⟨b1, o1, e, hc⟩ := r1 x hx
    refine ⟨b1, o1, e, World.block_lt_of_cell? w _ hc, ?_⟩
    rw [hc, hp]
    have e2 : (nth st v).toNat + (x - (nth st v).toNat) = x := by omega
    rw [e2]
  · have hlen := preds_len hA (show v + 1 < st.length by omega)
    have hm := adj_mono hA v (v + 1) (by omega) (by omega)
    have p4 := (hA.ok v (by omega)).1
    simp only [sAt]
    omega
  · have h := hA.ok v (by omega)
    obtain ⟨p1, p2, _⟩ := h
    simp only [sAt]
    omega
  · obtain ⟨l, hl, rfl⟩ := List.getElem_of_mem hu
    have h := (preds_at hA (show v + 1 < st.length by omega) hl).2
    rw [nn_eq hl] at h
    exact h

/-- The places under way. -/
structure PM (B : Nat) (w0 : World) (n : Nat) (p : Nat → Int) (w : World) : Prop where
  bel : Below B w0 w
  row : w.rowIs B 3 n (fun v => .int .i64 (p v))
theorem PM.congr {B : Nat} {w0 : World} {n : Nat} {p p' : Nat → Int} {w : World} (h : PM B w0 n p w) (e : ∀ v, v < n → p v = p' v) : PM B w0 n p' w := ⟨h.bel, h.row.congr fun v hv => by rw [e v hv]⟩
theorem PM.drawn {B : Nat} {w0 : World} {n : Nat} {p : Nat → Int} {w : World} (h : PM B w0 n p w) (m : Nat) : PM B w0 n p (w.drewN m) := ⟨⟨h.bel.os, h.bel.tape, h.bel.output, h.bel.size, h.bel.block⟩, h.row⟩
theorem PM.set {B : Nat} {w0 : World} {n : Nat} {p : Nat → Int} {w : World} (h : PM B w0 n p w) (v : Nat) (x : Int) : PM B w0 n (fun j => if j = v then x else p j) (w.setCell ⟨B, v, none⟩ (.int .i64 x)) := by
  refine ⟨h.bel.setCell (by exact Nat.le_refl _) _, (h.row.set v _).congr fun j _ => ?_⟩
  by_cases e : j = v <;> simp [e]
theorem PM.start (w : World) (n : Nat) : PM w.heap.size w n (fun v => if v < 0 then -1 else 0) (w.alloc (.cells (madeCells #[.int .i64 0] n) 3)) :=
  ⟨(Below.refl _ _).alloc (Nat.le_refl _) _, World.rowIs_made w (.int .i64 0) n 3⟩
theorem PM.clear {B : Nat} {w0 : World} {n k : Nat} {w : World} (h : PM B w0 n (fun v => if v < k then -1 else 0) w) : PM B w0 n (fun v => if v < k + 1 then -1 else 0) (w.setCell ⟨B, k, none⟩ (.int .i64 (-1))) := by
  refine (h.set k (-1)).congr fun v _ => ?_
  by_cases e : v = k
  · subst e; simp
  · simp only [e, if_false]
    by_cases l : v < k
    · rw [if_pos l, if_pos (by omega)]
    · rw [if_neg l, if_neg (by omega)]

/-- The places of the first k of the order. -/
def posAt (q : List Nat) (k v : Nat) : Int := if q.idxOf v < k then (q.idxOf v : Int) else -1
theorem idx_at {q : List Nat} {k : Nat} (nd : q.Nodup) (hk : k < q.length) : q.idxOf q[k] = k := nd.idxOf_getElem k hk
theorem PM.place {B : Nat} {w0 : World} {n k : Nat} {q : List Nat} {w : World} (h : PM B w0 n (posAt q k) w) (nd : q.Nodup) (hk : k < q.length) (v : Nat) (hv : v = q[k]) : PM B w0 n (posAt q (k + 1)) (w.setCell ⟨B, v, none⟩ (.int .i64 ((k : Nat) : Int))) := by
  subst hv
  refine (h.set q[k] k).congr fun v _ => ?_
  by_cases e : v = q[k]
  · subst e
    simp [posAt, idx_at nd hk]
  · have hne : q.idxOf v ≠ k := by
      intro e2
      apply e
      have h3 : q.idxOf v < q.length := by omega
      have h4 := List.getElem_idxOf h3
      rw [← h4]
      congr 1
    simp only [e, if_false, posAt]
    by_cases l : q.idxOf v < k
    · rw [if_pos l, if_pos (by omega)]
    · rw [if_neg l, if_neg (by omega)]

theorem edges_snoc {f : Nat → Nat} {P : List (Nat × Nat)} {u v : Nat} {b : Bool} (h : b = true ↔ ∀ e ∈ P, f e.1 < f e.2) (hl : f u < f v) : b = true ↔ ∀ e ∈ P ++ [(u, v)], f e.1 < f e.2 := by
  rw [h]
  constructor
  · intro a e he
    rcases List.mem_append.1 he with x | x
    · exact a e x
    · simp at x; subst x; exact hl
  · intro a e he
    exact a e (List.mem_append.2 (.inl he))
theorem edges_fail {f : Nat → Nat} {P : List (Nat × Nat)} {u v : Nat} (hl : ¬ f u < f v) : false = true ↔ ∀ e ∈ P ++ [(u, v)], f e.1 < f e.2 :=
  ⟨(fun h => by cases h), fun h => absurd (h (u, v) (by simp)) hl⟩

set_option maxHeartbeats 4000000 in
set_option maxRecDepth 20000 in
theorem top_any (a0 a1 : Option Addr) (c0 c1 : Nat) (st tt : List Int) (w : World) (m0 : st.length ≤ maxLen) (m1 : tt.length ≤ maxLen) (s0 : SliceOf .i32 w a0 st c0) (s1 : SliceOf .i32 w a1 tt c1) (b0 : B32 st) (b1 : B32 tt) :
    Calls Try.prog 5 #[.slice a0 st.length c0, .slice a1 tt.length c1] w fun e w' => e = .returned (.bool true) ∧ Below w.heap.size w w' := by
  by_cases g0 : st.length + tt.length ≤ 1048576
  case neg =>
    have hd := decide_eq_false g0
    go_enter Try.func5, Try.ntmps5
    go_wp2_with (go_at_call 15; refine (bytesTop_any _ _ _ _ _ _ _ m0 m1).mono ?_; rintro e w' ⟨rfl, rfl⟩)
    go_ret
    exact ⟨rfl, Below.refl _ _⟩
  have hd := decide_eq_true g0
  by_cases g1 : 131072 < st.length
  · have g1' : (131072 : Int) < st.length := by omega
    go_enter Try.func5, Try.ntmps5
    go_wp2_with (go_at_call 15; refine (bytesTop_any _ _ _ _ _ _ _ m0 m1).mono ?_; rintro e w' ⟨rfl, rfl⟩)
    go_ret
    exact ⟨rfl, Below.refl _ _⟩
  by_cases g2 : 131072 < tt.length
  · have g1' : ¬ (131072 : Int) < st.length := by omega
    have g2' : (131072 : Int) < tt.length := by omega
    go_enter Try.func5, Try.ntmps5
    go_wp2_with (go_at_call 15; refine (bytesTop_any _ _ _ _ _ _ _ m0 m1).mono ?_; rintro e w' ⟨rfl, rfl⟩)
    go_ret
    exact ⟨rfl, Below.refl _ _⟩
  have g1' : decide ((131072 : Int) < st.length) = false := by simp; omega
  have g2' : decide ((131072 : Int) < tt.length) = false := by simp; omega
  go_enter Try.func5, Try.ntmps5
  go_wp2_with (go_at_call 15; refine (bytesTop_any _ _ _ _ _ _ _ m0 m1).mono ?_; rintro e w' ⟨rfl, rfl⟩)
  refine (adjOK_any _ _ _ _ _ _ _ (by omega) (by omega) s0.reads s1.reads b0 b1).mono ?_
  rintro e w' ⟨b, rfl, hadj, nd, rfl⟩
  cases b
  · go_wp2
    go_ret
    exact ⟨rfl, below_drawn _ _⟩
  have hA := hadj rfl
  have hpos := hA.pos
  clear hadj hd
  have t0 := s0.below (below_drawn w nd)
  have t1 := s1.below (below_drawn w nd)
  have n1 : st.length ≤ 1048576 := by omega
  have n2 : tt.length ≤ 1048576 := by omega
  have n3 : st.length ≤ 131072 := by omega
  have n4 : tt.length ≤ 131072 := by omega
  clear s0 s1
  go_wp2_with fail
  refine (clone_any _ _ st _ n1 t0).mono ?_
  rintro e w1 ⟨a0', rfl, q0, hb0⟩
  have t1' := t1.below hb0
  go_wp2_with fail
  refine (clone_any _ _ tt _ n2 t1').mono ?_
  rintro e w2 ⟨a1', rfl, q1, hb1⟩
  have q0' := q0.below hb1
  go_wp2_with fail
  refine (zzForwards_any _ _ _ _ st tt _ n3 n4 q0' b0 q1 hA).mono ?_
  rintro e w3 ⟨bo, co, order, rfl, hrd, hpost, hb2⟩
  obtain ⟨bs, os, rfl, hbs, rs⟩ := (q0'.below hb2).reads.at hA.pos
  have G := gmem_of hA hbs rs (q1.below hb2).reads
  have hfin : Below w.heap.size w w3 := ((below_drawn w nd).trans (hb0.mono (Nat.le_refl _))).trans ((hb1.mono hb0.size).trans (hb2.mono (Nat.le_trans hb0.size hb1.size)))
  clear t0 t1 t1' q0 q1 q0' hb0 hb1 hb2 rs
  have hol : order.length = st.length - 1 := by rw [hpost.perm.length_eq, List.length_range]
  have hne : ((order.length : Int) != (st.length : Int) - 1) = false := by simp; omega
  have hmk := make64 ((st.length : Int) - 1) ((st.length : Int) - 1) (st.length - 1) (st.length - 1) (by omega) (by omega) (Nat.le_refl _) (by omega) w3 w3.heap.size rfl
  have HOl : Hid (order.length = st.length - 1) := hol
  have hnd : order.Nodup := hpost.perm.nodup_iff.2 List.nodup_range
  have HMem : Hid (∀ v, v ∈ order ↔ v < st.length - 1) := fun v => by rw [hpost.perm.mem_iff, List.mem_range]
  have HF : Hid ((∀ e ∈ eU (preds st tt) (st.length - 1), order.idxOf e.1 < order.idxOf e.2) ↔ ∃ r, Rank (preds st tt) (st.length - 1) r) := fwd_iff hpost
  have HR : Hid (Reads .i32 w3 (some ⟨bo, 0, none⟩) (order.map fun v => ((v : Nat) : Int))) := hrd
  clear hrd hol hpost
  go_wp2_with fail
  clear hmk hne
  go_loopg [8] (st.length - 1) (fun gh i wr => ∃ k : Nat, st.length - 1 - k ≤ gh ∧ k ≤ st.length - 1 ∧ i = .int .i64 k ∧ PM w3.heap.size w3 (st.length - 1) (fun v => if v < k then -1 else 0) wr)
  case atStart => exact ⟨0, by omega, by omega, rfl, PM.start w3 _⟩
  case round =>
    obtain ⟨k, hgk, hk, rfl, hM⟩ := hrel
    by_cases hlt : k < st.length - 1
    · have hlt' : (k : Int) < (st.length : Int) - 1 := by omega
      have ck := hM.row.cell hlt
      have fk := hM.row.frozen k
      have hM2 := hM.clear
      clear hM
      go_wp2_with fail
      go_roundg (gk - 1)
      case rel => exact ⟨k + 1, by omega, by omega, by go_num, hM2⟩
      case measure => omega
    · have hlt' : ¬ (k : Int) < (st.length : Int) - 1 := by omega
      have hM2 : PM w3.heap.size w3 (st.length - 1) (posAt order 0) wr := hM.congr fun v hv => by simp [posAt]; omega
      clear hM hlt
      go_wp2_with fail
      go_loopg [9] (st.length - 1) (fun gh i wr => ∃ k : Nat, st.length - 1 - k ≤ gh ∧ k ≤ st.length - 1 ∧ i = .int .i64 k ∧ PM w3.heap.size w3 (st.length - 1) (posAt order k) wr)
      case atStart => exact ⟨0, by omega, by omega, rfl, hM2⟩
      case round =>
        clear hM2 hlt' hgk
        obtain ⟨j, hgk, hj, rfl, hM⟩ := hrel
        by_cases hlt : j < st.length - 1
        · have hlt' : (j : Int) < (st.length : Int) - 1 := by omega
          have hjo : j < order.length := by rw [HOl.out]; exact hlt
          obtain ⟨bo', oo', eo, co'⟩ := HR.out j (by simpa using hjo)
          cases eo
          have hbo := World.block_lt_of_cell? w3 _ co'
          have hbo' : bo < w3.heap.size := hbo
          rw [← hM.bel.cell (by exact hbo)] at co'
          have ev : nth (order.map fun v => ((v : Nat) : Int)) j = ((order[j] : Nat) : Int) := by simp [nth, hjo]
          rw [ev, Nat.zero_add] at co'
          obtain ⟨v, hv⟩ : ∃ v, v = order[j] := ⟨_, rfl⟩
          rw [← hv] at co'
          have hvn : v < st.length - 1 := (HMem.out v).1 (by rw [hv]; exact List.getElem_mem hjo)
          have hvn' : (v : Int) < (st.length : Int) - 1 := by omega
          have cp := hM.row.cell hvn
          have fp := hM.row.frozen v
          have ep : posAt order j v = -1 := by rw [hv]; simp [posAt, idx_at hnd hjo]
          rw [ep] at cp
          have hM2 := hM.place hnd hjo v hv
          have hzz : w3.heap.size < wr.heap.size := hM.row.lt
          have hjo' : (j : Int) < order.length := by omega
          clear ev ep hv hbo hM hjo
          go_wp2_with fail
          go_roundg (gk - 1)
          case rel => exact ⟨j + 1, by omega, by omega, by go_num, hM2⟩
          case measure => omega
        · have hlt' : ¬ (j : Int) < (st.length : Int) - 1 := by omega
          have hM2 : PM w3.heap.size w3 (st.length - 1) (fun v => ((order.idxOf v : Nat) : Int)) wr := hM.congr fun v hv => by
            have h1 := List.idxOf_lt_length_of_mem ((HMem.out v).2 hv)
            rw [HOl.out] at h1
            unfold posAt
            rw [if_pos (by omega)]
          clear hM hlt
          have hn1 : st.length - 1 ≤ 131071 := by omega
          clear HR hnd HMem HOl
          go_wp2_with fail
          go_loopg [11, 12] (st.length - 1) (fun gh fv i wr => ∃ (v : Nat) (b : Bool), st.length - 1 - v ≤ gh ∧ v ≤ st.length - 1 ∧ i = .int .i64 v ∧ fv = .bool b ∧ Hid (b = true ↔ ∀ e ∈ eU (preds st tt) v, order.idxOf e.1 < order.idxOf e.2) ∧ PM w3.heap.size w3 (st.length - 1) (fun v => ((order.idxOf v : Nat) : Int)) wr)
          case atStart => exact ⟨0, true, by omega, by omega, rfl, rfl, ⟨(fun _ e he => by cases he), fun _ => rfl⟩, hM2⟩
          case round =>
            clear hM2 hlt' hgk
            obtain ⟨v, b, hg, hv, rfl, rfl, HB, hM⟩ := hrel
            have gr := G.below hM.bel
            have hb0 := G.hb
            have hb := gr.hb
            by_cases hlt : v < st.length - 1
            · have hlt' : (v : Int) < (st.length : Int) - 1 := by omega
              have cv := gr.st v (by omega)
              have cv' := gr.st (v + 1) (by omega)
              have HL : Hid (sAt st (v + 1) = sAt st v + (preds st tt v).length) := gr.len v hlt
              have hsv : sAt st v ≤ sAt st (v + 1) := by have := HL.out; omega
              have hle := gr.le (v + 1) (by omega)
              have HB0 : Hid (b = true ↔ ∀ e ∈ eP (preds st tt) v (sAt st v - sAt st v), order.idxOf e.1 < order.idxOf e.2) := by
                rw [Nat.sub_self, eP_zero]; exact HB
              clear gr HB
              obtain ⟨og, hog⟩ : ∃ og, og = gk := ⟨gk, rfl⟩
              subst hog
              go_wp2_with fail
              go_loopg [11, 13] (preds st tt v).length (fun gh fv i wr => ∃ (x : Nat) (b : Bool), sAt st (v + 1) - x ≤ gh ∧ sAt st v ≤ x ∧ x ≤ sAt st (v + 1) ∧ i = .int .i64 x ∧ fv = .bool b ∧ Hid (b = true ↔ ∀ e ∈ eP (preds st tt) v (x - sAt st v), order.idxOf e.1 < order.idxOf e.2) ∧ PM w3.heap.size w3 (st.length - 1) (fun v => ((order.idxOf v : Nat) : Int)) wr)
              case atStart => exact ⟨sAt st v, b, by have := HL.out; omega, by omega, by omega, rfl, rfl, HB0, hM⟩
              case round =>
                clear cv cv' HB0 hM hb
                obtain ⟨x, b2, hgx, hx, hxe, rfl, rfl, HB, hM⟩ := hrel
                have gr := G.below hM.bel
                have cv' := gr.st (v + 1) (by omega)
                have hb := gr.hb
                by_cases hlx : x < sAt st (v + 1)
                · have hlx' : (x : Int) < sAt st (v + 1) := by omega
                  obtain ⟨bt, ot, rfl, hbt, ct⟩ := gr.tt v hlt x hx hlx
                  have hj : x - sAt st v < (preds st tt v).length := by have := HL.out; omega
                  have hun : nn (preds st tt v) (x - sAt st v) < st.length - 1 := by rw [nn_eq hj]; exact gr.lt v hlt _ (List.getElem_mem hj)
                  have hstep := eP_succ (preds st tt) v (x - sAt st v) hj
                  rw [← nn_eq hj] at hstep
                  obtain ⟨u, eu⟩ : ∃ u, u = nn (preds st tt v) (x - sAt st v) := ⟨_, rfl⟩
                  rw [← eu] at ct hun hstep
                  have HS : Hid (eP (preds st tt) v (x + 1 - sAt st v) = eP (preds st tt) v (x - sAt st v) ++ [(u, v)]) := by
                    show _ = _
                    rw [← hstep]; congr 1; omega
                  have cu := hM.row.cell hun
                  have cw := hM.row.cell hlt
                  clear gr hstep eu hj
                  by_cases hge : order.idxOf v ≤ order.idxOf u
                  · have hge' : (order.idxOf v : Int) ≤ (order.idxOf u : Int) := by omega
                    have HB2 : Hid (false = true ↔ ∀ e ∈ eP (preds st tt) v (x + 1 - sAt st v), order.idxOf e.1 < order.idxOf e.2) := by
                      rw [HS.out]; exact edges_fail (f := fun v => order.idxOf v) (by omega)
                    clear HB HS
                    go_wp2_with fail
                    go_quiet (fail)
                    go_wp2_with fail
                    go_roundg (gk - 1)
                    case rel => exact ⟨x + 1, false, by omega, by omega, by omega, by go_num, rfl, HB2, hM.drawn _⟩
                    case measure => omega
                  · have hge' : ¬ (order.idxOf v : Int) ≤ (order.idxOf u : Int) := by omega
                    have HB2 : Hid (b2 = true ↔ ∀ e ∈ eP (preds st tt) v (x + 1 - sAt st v), order.idxOf e.1 < order.idxOf e.2) := by
                      rw [HS.out]; exact edges_snoc (f := fun v => order.idxOf v) HB.out (by omega)
                    clear HB HS
                    go_wp2_with fail
                    go_quiet (fail)
                    go_wp2_with fail
                    go_roundg (gk - 1)
                    case rel => exact ⟨x + 1, b2, by omega, by omega, by omega, by go_num, rfl, HB2, hM.drawn _⟩
                    case measure => omega
                · have hlx' : ¬ (x : Int) < sAt st (v + 1) := by omega
                  have HB2 : Hid (b2 = true ↔ ∀ e ∈ eU (preds st tt) (v + 1), order.idxOf e.1 < order.idxOf e.2) := by
                    rw [← eP_full (preds st tt) v (x - sAt st v) (by have := HL.out; omega)]; exact HB
                  clear HB gr
                  go_wp2_with fail
                  go_roundg (og - 1)
                  case rel => exact ⟨v + 1, b2, by omega, by omega, by go_num, rfl, HB2, hM⟩
                  case measure => omega
            · have hlt' : ¬ (v : Int) < (st.length : Int) - 1 := by omega
              have HB2 : Hid (b = true ↔ ∃ r, Rank (preds st tt) (st.length - 1) r) := by
                have e : v = st.length - 1 := by omega
                have h := HB.out
                rw [e, HF.out] at h
                exact h
              have hbel := hM.bel
              clear HB HF hlt hM
              go_wp2_with fail
              refine (acyclic_at _ _ _ _ _ _ (st.length - 1) _ _ _ _ _ hn1 n4 (by omega) (by omega) gr).mono ?_
              rintro e w5 ⟨b3, rfl, hiff, hb5⟩
              have hbb : (b == b3) = true := by
                have h := HB2.out.trans hiff.symm
                cases b <;> cases b3 <;> simp_all
              clear hiff HB2
              go_wp2_with fail
              go_ret
              exact ⟨by simp, hfin.trans ((hbel.mono hfin.size).trans (hb5.mono (Nat.le_trans hfin.size hbel.size)))⟩
end Go.Proofs.Qxb6603365a
