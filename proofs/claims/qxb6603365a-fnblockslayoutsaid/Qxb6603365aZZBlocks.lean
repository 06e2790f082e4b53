/-
  'sim.ZZBlocks' (22).
-/
import Derived.Test.Qxb6603365aBlocks
namespace Go.Proofs.Qxb6603365a
open Go.ChangeShapes Go.WideShapes Go.ChangeAt Go.RowKit

/-- The edges' numbers, one behind the other: from, to, from, to .. -/
def ep (fr tt : List Int) (j : Nat) : Int := if j % 2 = 0 then nth fr (j / 2) else nth tt (j / 2)
def eps (fr tt : List Int) : List Int := (List.range (2 * fr.length)).map (ep fr tt)
theorem eps_len (fr tt : List Int) : (eps fr tt).length = 2 * fr.length := by simp [eps]
theorem eps_at {fr tt : List Int} {j : Nat} (h : j < 2 * fr.length) (ys : List Int) : (eps fr tt ++ ys)[j]? = some (ep fr tt j) := by
  rw [List.getElem?_append_left (by rw [eps_len]; exact h)]
  simp [eps, h]

/-- A block whose cells are told by the index, as a row that is owned whole. -/
theorem owns_of_row {w : World} {b base : Nat} {t : TypeId} {n size : Nat} {f : Nat → Value} (h : w.rowIs b t (n * size) f) (hb : base ≤ b) (hn : n ≤ maxLen) : w.ownsRow base t size (.slice (some ⟨b, 0, none⟩) n n) n ((List.range (n * size)).map f) := by
  obtain ⟨c, hc, hs, hf⟩ := h
  refine ⟨by simp, .inr ⟨b, n, c, rfl, hb, hc, Nat.le_refl _, hn, hs, ?_⟩⟩
  rw [List.take_of_length_le (by rw [Array.length_toList, hs]; exact Nat.le_refl _)]
  apply List.ext_getElem?
  intro i
  by_cases hi : i < n * size
  · have := hf i hi
    simp [hi, this]
  · simp [hi, hs]

theorem make_any {P : Program} (t e : TypeId) (z : Value) (zs : Array Value) (size bytes : Nat) (ht : P.underlying t = some (.slice e)) (hinfo : (P.info? e).map (fun i => (i.zero, i.size, i.bytes)) = some (some z, size, bytes)) (hz1 : z.cells = zs)
    (n : Nat) (hbytes : bytes * n ≤ 281474976710656) (h63 : n ≤ 9223372036854775807) (w : World) :
    (Instr.makeSlice t (.int .i64 (n : Int)) (.int .i64 (n : Int))).run P w = .ok (.slice (some ⟨w.heap.size, 0, none⟩) n n) (w.alloc (.cells (madeCells zs (n * size)) e)) := by
  obtain ⟨i, hi, hz, hs, hb⟩ := info_parts hinfo
  have hb' : (i.bytes : Int) * (n : Int) ≤ 281474976710656 := by
    have h : ((bytes * n : Nat) : Int) ≤ 281474976710656 := by omega
    rw [hb]
    rwa [Int.natCast_mul] at h
  have hr := run_make (P := P) w t e i z ht hi hz .i64 .i64 n n (by omega) (by omega) hb' (by omega)
  rw [hs, hz1] at hr
  simpa using hr

def ZPost (active n : Int) (fr tt : List Int) (w : World) (e : Ending) (w' : World) : Prop :=
  ∃ (L M b1 b2 : Nat) (U D N : Int), Pw n L ∧ n ≤ L ∧ M = fr.length + 2 * ((L : Int) + n - 2).toNat ∧
    (U = wrap64 (active - 1) ∧ D = wrap64 (wrap64 (wrap64 (active - 1) + L) - 1) ∧ N = wrap64 (wrap64 (wrap64 (wrap64 (active - 1) + L) - 1) + L)) ∧
    e = .returned (.tuple #[.int .i64 L, .int .i64 U, .int .i64 D, .int .i64 N, .slice (some ⟨b1, 0, none⟩) M M, .slice (some ⟨b2, 0, none⟩) M M]) ∧
    (∀ i, i < fr.length → w'.cell? ⟨b1, i, none⟩ = some (.int .i32 (nth fr i)) ∧ w'.cell? ⟨b2, i, none⟩ = some (.int .i32 (nth tt i))) ∧ Below w.heap.size w w'

theorem nth_eps0 {fr tt : List Int} {i : Nat} (h : i < fr.length) (ys : List Int) : nth (eps fr tt ++ ys) (i * 2) = nth fr i := by
  have := eps_at (fr := fr) (tt := tt) (j := i * 2) (by omega) ys
  simp only [nth, List.getD, this, Option.getD_some]
  simp [ep, nth]
theorem nth_eps1 {fr tt : List Int} {i : Nat} (h : i < fr.length) (ys : List Int) : nth (eps fr tt ++ ys) (i * 2 + 1) = nth tt i := by
  have := eps_at (fr := fr) (tt := tt) (j := i * 2 + 1) (by omega) ys
  simp only [nth, List.getD, this, Option.getD_some]
  have e2 : (i * 2 + 1) / 2 = i := by omega
  simp [ep, nth, e2, show (i * 2 + 1) % 2 = 1 by omega]

/-- The k-th edge's two cells. -/
theorem AMem.edgeAt {A : Nat} {W : World} {F : Ah} {m : Nat} {es : List Int} {w : World} {a : Option Addr} {cap k : Nat} (h : AMem A W F (.slice a m cap) m (es.map (Value.int .i32)) w) (hk : k < m) :
    ∃ g, a = some ⟨g, 0, none⟩ ∧ g < w.heap.size ∧ w.cell? ⟨g, k * 2, none⟩ = some (.int .i32 (nth es (k * 2))) ∧ w.cell? ⟨g, k * 2 + 1, none⟩ = some (.int .i32 (nth es (k * 2 + 1))) := by
  have hl : es.length = m * 2 := by simpa using h.own.1
  rcases h.own.2 with ⟨e, h0⟩ | ⟨g, cap', cur, e, _⟩
  · omega
  · cases e
    refine ⟨g, rfl, (h.own.lt g rfl).2, ?_, ?_⟩
    · rw [h.own.cellAt _ (by omega)]
      have : k * 2 < es.length := by omega
      simp [nth, this]
    · rw [h.own.cellAt _ (by omega)]
      have : k * 2 + 1 < es.length := by omega
      simp [nth, this]

structure OMem (w1 : World) (M : Nat) (es : List Int) (k : Nat) (wr : World) : Prop where
  bel : Below w1.heap.size w1 wr
  r1 : wr.rowIs w1.heap.size 21 M (fun j => if j < k then .int .i32 (nth es (j * 2)) else .int .i32 0)
  r2 : wr.rowIs (w1.heap.size + 1) 21 M (fun j => if j < k then .int .i32 (nth es (j * 2 + 1)) else .int .i32 0)

theorem omem_start (w1 : World) (M : Nat) (es : List Int) : OMem w1 M es 0 ((w1.alloc (.cells (madeCells #[.int .i32 0] M) 21)).alloc (.cells (madeCells #[.int .i32 0] M) 21)) := by
  have hz : (w1.alloc (.cells (madeCells #[.int .i32 0] M) 21)).heap.size = w1.heap.size + 1 := by simp
  have h2 := World.rowIs_made (w1.alloc (.cells (madeCells #[.int .i32 0] M) 21)) (.int .i32 0) M 21
  rw [hz] at h2
  exact ⟨((Below.refl _ _).alloc (Nat.le_refl _) _).alloc (by simp) _, ((World.rowIs_made w1 (.int .i32 0) M 21).alloc _).congr (by intro j _; simp), h2.congr (by intro j _; simp)⟩

theorem row_next {w : World} {b n k : Nat} {f : Nat → Int} (h : w.rowIs b 21 n (fun j => if j < k then .int .i32 (f j) else .int .i32 0)) : (w.setCell ⟨b, k, none⟩ (.int .i32 (f k))).rowIs b 21 n (fun j => if j < k + 1 then .int .i32 (f j) else .int .i32 0) := by
  refine (h.set k _).congr fun j _ => ?_
  by_cases e : j = k
  · subst e; simp
  · simp only [e, if_false]
    by_cases l : j < k
    · rw [if_pos l, if_pos (by omega)]
    · rw [if_neg l, if_neg (by omega)]

theorem OMem.step {w1 : World} {M : Nat} {es : List Int} {k : Nat} {wr : World} (h : OMem w1 M es k wr) :
    OMem w1 M es (k + 1) ((wr.setCell ⟨w1.heap.size, k, none⟩ (.int .i32 (nth es (k * 2)))).setCell ⟨w1.heap.size + 1, k, none⟩ (.int .i32 (nth es (k * 2 + 1)))) := by
  refine ⟨(h.bel.setCell (Nat.le_refl _) _).setCell (by show w1.heap.size ≤ w1.heap.size + 1; omega) _, ?_, ?_⟩
  · exact (row_next (f := fun j => nth es (j * 2)) h.r1).setOther (by show w1.heap.size ≠ w1.heap.size + 1; omega) _
  · exact row_next (f := fun j => nth es (j * 2 + 1)) (h.r2.setOther (by show w1.heap.size + 1 ≠ w1.heap.size; omega) _)

/-- What memory holds while the edges that were there are laid: k of them are. -/
structure BMem (later active : Int) (fr tt : List Int) (w : World) (k : Nat) (wr : World) : Prop where
  bel : Below w.heap.size w wr
  blk : wr.heap[w.heap.size]? = some (.cells (Ah.cells ⟨0, later, active, 0, 0, 0⟩ (.slice (some ⟨w.heap.size + 1, 0, none⟩) fr.length fr.length)) 49 (0, 0))
  row : wr.rowIs (w.heap.size + 1) 51 (fr.length * 2) (fun j => if j < 2 * k then .int .i32 (ep fr tt j) else .int .i32 0)

theorem bmem_start (later active : Int) (fr tt : List Int) (w : World) : BMem later active fr tt w 0 ((w.alloc (.cells (Ah.cells ⟨0, later, active, 0, 0, 0⟩ (.slice (some ⟨w.heap.size + 1, 0, none⟩) fr.length fr.length)) 49)).alloc (.cells (madeCells #[.int .i32 0, .int .i32 0] (fr.length * 2)) 51)) := by
  refine ⟨((Below.refl _ _).alloc (Nat.le_refl _) _).alloc (by simp) _, ?_, ?_⟩
  · rw [Below.heap_alloc _ _ _ (by simp)]
    exact heap_alloc_new w _
  · have h := World.rowIs_alloc (w.alloc (.cells (Ah.cells ⟨0, later, active, 0, 0, 0⟩ (.slice (some ⟨w.heap.size + 1, 0, none⟩) fr.length fr.length)) 49)) (madeCells #[.int .i32 0, .int .i32 0] (fr.length * 2)) 51 (fun j => if j < 2 * 0 then .int .i32 (ep fr tt j) else .int .i32 0) (by
      intro i hi
      rw [size_madeCells] at hi
      have h2 : i % 2 = 0 ∨ i % 2 = 1 := by omega
      rcases h2 with h2 | h2 <;> simp [madeCells, hi, h2])
    rw [size_madeCells] at h
    have hz : (w.alloc (.cells (Ah.cells ⟨0, later, active, 0, 0, 0⟩ (.slice (some ⟨w.heap.size + 1, 0, none⟩) fr.length fr.length)) 49)).heap.size = w.heap.size + 1 := by simp
    rw [hz] at h
    exact h

theorem BMem.step {later active : Int} {fr tt : List Int} {w : World} {k : Nat} {wr : World} (h : BMem later active fr tt w k wr) :
    BMem later active fr tt w (k + 1) ((wr.setCell ⟨w.heap.size + 1, k * 2, none⟩ (.int .i32 (nth fr k))).setCell ⟨w.heap.size + 1, k * 2 + 1, none⟩ (.int .i32 (nth tt k))) := by
  refine ⟨(h.bel.setCell (by show w.heap.size ≤ w.heap.size + 1; omega) _).setCell (by show w.heap.size ≤ w.heap.size + 1; omega) _, ?_, ((h.row.set (k * 2) _).set (k * 2 + 1) _).congr ?_⟩
  · rw [Below.heap_setCell _ _ _ _ (by show w.heap.size ≠ w.heap.size + 1; omega), Below.heap_setCell _ _ _ _ (by show w.heap.size ≠ w.heap.size + 1; omega)]
    exact h.blk
  · intro j _
    by_cases e1 : j = k * 2 + 1
    · subst e1
      rw [if_pos rfl, if_pos (by omega)]
      have e2 : (k * 2 + 1) / 2 = k := by omega
      simp [ep, e2, show (k * 2 + 1) % 2 = 1 by omega]
    · rw [if_neg e1]
      by_cases e3 : j = k * 2
      · subst e3
        rw [if_pos rfl, if_pos (by omega)]
        have e2 : (k * 2) / 2 = k := by omega
        simp [ep, e2, show (k * 2) % 2 = 0 by omega]
      · rw [if_neg e3]
        by_cases e4 : j < 2 * k
        · rw [if_pos e4, if_pos (by omega)]
        · rw [if_neg e4, if_neg (by omega)]

theorem BMem.like {later active : Int} {fr tt : List Int} {w : World} {k : Nat} {wr w' : World} (h : BMem later active fr tt w k wr) (h1 : w'.heap = wr.heap) (h2 : w'.os = wr.os) (h3 : w'.tape = wr.tape) (h4 : w'.output = wr.output) : BMem later active fr tt w k w' := by
  refine ⟨h.bel.trans ⟨h2, h3, h4, by rw [h1]; exact Nat.le_refl _, fun k _ => by rw [h1]⟩, by rw [h1]; exact h.blk, h.row.of_block (by rw [h1])⟩

theorem BMem.done {later active : Int} {fr tt : List Int} {w : World} {wr : World} (h : BMem later active fr tt w fr.length wr) (hn : fr.length ≤ maxLen) : AGrown w.heap.size w ⟨0, later, active, 0, 0, 0⟩ fr.length (eps fr tt) 0 wr := by
  refine ⟨_, [], rfl, h.bel, h.blk, ?_⟩
  have ho := owns_of_row (h.row.congr (g := fun j => .int .i32 (ep fr tt j)) (by intro j hj; rw [if_pos (by omega)])) (Nat.le_refl _) hn
  have e : (eps fr tt ++ []).map (Value.int .i32) = (List.range (fr.length * 2)).map fun j => Value.int .i32 (ep fr tt j) := by
    simp [eps, Nat.mul_comm]
  rw [e]
  exact ho

set_option maxHeartbeats 1600000 in
set_option maxRecDepth 20000 in
theorem zzBlocks_any (later active n : Int) (a2 a3 : Option Addr) (cp2 cp3 : Nat) (fr tt : List Int) (w : World) (hl : fr.length ≤ tt.length) (h2 : fr.length ≤ 131072) (s2 : SliceOf .i32 w a2 fr cp2) (s3 : SliceOf .i32 w a3 tt cp3)
    (hn : n ≤ 65536) (hn0 : -9223372036854775808 ≤ n) :
    Calls Try.prog 22 #[.int .i64 later, .int .i64 active, .slice a2 fr.length cp2, .slice a3 tt.length cp3, .int .i64 n] w (ZPost active n fr tt w) := by
  have q29 : ∀ (w : World) (a : Option Addr) (n c n' c' : Nat), (binOp .neq 29 (.slice a n c) (.slice none n' c')).run Try.prog w = .ok (.bool (!a.isNone)) w := fun w a n c n' c' => run_neq_slice_nil_any w _ _ a n c n' c' Try.underlying29
  have hmk := make_any (P := Try.prog) 47 51 (.agg #[.int .i32 0, .int .i32 0]) #[.int .i32 0, .int .i32 0] 2 8 Try.underlying47 info51 rfl fr.length (by omega) (by omega)
  go_enter Try.func22, Try.ntmps22
  go_upto_if 24 with fail
  go_cut [] (fun wc => AGrown w.heap.size w ⟨0, later, active, 0, 0, 0⟩ fr.length (eps fr tt) 0 wc)
  case first =>
    cases a2 with
    | none =>
      have hc0 := s2.nil rfl
      have hf0 : fr = [] := List.eq_nil_of_length_eq_zero (by have := s2.le; omega)
      have HA : AGrown w.heap.size w ⟨0, later, active, 0, 0, 0⟩ fr.length (eps fr tt) 0 (w.alloc (.cells (Ah.cells ⟨0, later, active, 0, 0, 0⟩ (.slice none 0 0)) 49)) := by
        subst hf0
        exact ⟨.slice none 0 0, [], rfl, (Below.refl _ _).alloc (Nat.le_refl _) _, heap_alloc_new w _, World.ownsRow_nil _ _ _ _⟩
      clear hf0 hc0
      go_wp2
      go_meet
      case rel => exact HA
    | some x =>
      have Hs2 := s2.reads
      go_wp2
      go_loopg [33] fr.length (fun g i wr => ∃ k : Nat, fr.length - k ≤ g ∧ k ≤ fr.length ∧ i = .int .i64 k ∧ BMem later active fr tt w k wr)
      case atStart => exact ⟨0, by omega, by omega, rfl, bmem_start later active fr tt w⟩
      case round =>
        clear hmk
        obtain ⟨k, hg, hk, rfl, hB⟩ := hrel
        by_cases hlt : k < fr.length
        · have hlt' : (k : Int) < fr.length := by omega
          obtain ⟨b, off, e, hb, rf⟩ := Hs2.at hlt
          cases e
          obtain ⟨b', off', rfl, hb', rt⟩ := s3.reads.at (show k < tt.length by omega)
          have c2 : wr.cell? ⟨w.heap.size, 2, none⟩ = some (.slice (some ⟨w.heap.size + 1, 0, none⟩) fr.length fr.length) := cell_of_row wr w.heap.size 2 _ 49 (0, 0) hB.blk
          have cf : wr.cell? ⟨b, off + k, none⟩ = some (.int .i32 (nth fr k)) := by rw [hB.bel.cell (by exact hb)]; exact rf k hlt
          have ct : wr.cell? ⟨b', off' + k, none⟩ = some (.int .i32 (nth tt k)) := by rw [hB.bel.cell (by exact hb')]; exact rt k (by omega)
          have d0 := hB.row.cell (show k * 2 < fr.length * 2 by omega)
          have d1 := hB.row.cell (show k * 2 + 1 < fr.length * 2 by omega)
          rw [if_neg (by omega)] at d0 d1
          have g0 := hB.row.frozen (k * 2)
          have g1 := hB.row.frozen (k * 2 + 1)
          have hB' := hB.step
          go_wp2
          go_region
          go_wp2
          go_roundg (gk - 1)
          case rel => exact ⟨k + 1, by omega, by omega, by go_num, hB'.like rfl rfl rfl rfl⟩
          case measure => omega
        · go_wp2
          go_meet
          case rel => exact BMem.done (by have e : k = fr.length := by omega
                                          rw [e] at hB; exact hB) (by unfold maxLen; omega)
  case rest =>
    go_wp2_with fail
    refine (blocks_any n hn hn0 hcut (by omega)).mono ?_
    rintro e w1 ⟨rfl, L, hP, hLn, ev, ys, hys, hM⟩
    have hLb := pw_le hP
    obtain ⟨M, hMe⟩ : ∃ M, M = fr.length + 2 * ((L : Int) + n - 2).toNat := ⟨_, rfl⟩
    rw [← hMe] at hM
    have HMe : Hid (M = fr.length + 2 * ((L : Int) + n - 2).toNat) := hMe
    have hMb : M ≤ 1000000 := by omega
    have hMf : fr.length ≤ M := by omega
    clear hMe hmk
    obtain ⟨es, hes⟩ : ∃ es, es = eps fr tt ++ ys := ⟨_, rfl⟩
    rw [← hes] at hM
    have Hes : Hid (es = eps fr tt ++ ys) := hes
    clear hes hys
    generalize hN : wrap64 (wrap64 (wrap64 (wrap64 (active - 1) + L) - 1) + L) = N at hM
    generalize hD : wrap64 (wrap64 (wrap64 (active - 1) + L) - 1) = D at hM hN
    generalize hU : wrap64 (active - 1) = U at hM hD
    have HE : Hid (U = wrap64 (active - 1) ∧ D = wrap64 (wrap64 (wrap64 (active - 1) + L) - 1) ∧ N = wrap64 (wrap64 (wrap64 (wrap64 (active - 1) + L) - 1) + L)) := by
      subst hU
      subst hD
      exact ⟨rfl, rfl, hN.symm⟩
    clear hN hD hU hcut
    obtain ⟨ae, ce, hev⟩ : ∃ a cap, ev = .slice a M cap := by
      rcases hM.own.2 with ⟨e, h0⟩ | ⟨g, cap, cur, e, _⟩
      · exact ⟨none, 0, by rw [h0]; exact e⟩
      · exact ⟨_, cap, e⟩
    subst hev
    have hmk := make_any (P := Try.prog) 29 21 (.int .i32 0) #[.int .i32 0] 1 4 Try.underlying29 info21 rfl M (by omega) (by omega)
    simp only [Nat.mul_one] at hmk
    have hlt1 := hM.lt
    have k2 : w1.cell? ⟨w.heap.size, 2, none⟩ = some (.slice ae M ce) := hM.cell 2
    go_wp2_with fail
    go_loopg [72] M (fun g i wr => ∃ k : Nat, M - k ≤ g ∧ k ≤ M ∧ i = .int .i64 k ∧ OMem w1 M es k wr)
    case atStart => exact ⟨0, by omega, by omega, rfl, omem_start w1 M es⟩
    case round =>
      clear hmk
      obtain ⟨k, hg, hk, rfl, hO⟩ := hrel
      have j2 : wr.cell? ⟨w.heap.size, 2, none⟩ = some (.slice ae M ce) := by rw [hO.bel.cell (by exact hlt1)]; exact k2
      by_cases hlt : k < M
      · have hlt' : (k : Int) < M := by omega
        obtain ⟨g, rfl, hgl, q0, q1⟩ := hM.edgeAt hlt
        have p0 : wr.cell? ⟨g, k * 2, none⟩ = some (.int .i32 (nth es (k * 2))) := by rw [hO.bel.cell (by exact hgl)]; exact q0
        have p1 : wr.cell? ⟨g, k * 2 + 1, none⟩ = some (.int .i32 (nth es (k * 2 + 1))) := by rw [hO.bel.cell (by exact hgl)]; exact q1
        have d1 := hO.r1.cell hlt
        have d2 := hO.r2.cell hlt
        have g1 := hO.r1.frozen k
        have g2 := hO.r2.frozen k
        have hO' := hO.step
        clear k2 q0 q1
        go_wp2
        go_roundg (gk - 1)
        case rel => exact ⟨k + 1, by omega, by omega, by go_num, hO'⟩
        case measure => omega
      · have j3 : wr.cell? ⟨w.heap.size, 3, none⟩ = some (.int .i64 N) := by rw [hO.bel.cell (by exact hlt1)]; exact hM.cell 3
        have j6 : wr.cell? ⟨w.heap.size, 6, none⟩ = some (.int .i64 L) := by rw [hO.bel.cell (by exact hlt1)]; exact hM.cell 6
        have j7 : wr.cell? ⟨w.heap.size, 7, none⟩ = some (.int .i64 U) := by rw [hO.bel.cell (by exact hlt1)]; exact hM.cell 7
        have j8 : wr.cell? ⟨w.heap.size, 8, none⟩ = some (.int .i64 D) := by rw [hO.bel.cell (by exact hlt1)]; exact hM.cell 8
        clear k2 j2
        go_wp2
        go_quiet (fail)
        go_wp2
        refine bodyPost_ret (v := .tuple #[.int .i64 L, .int .i64 U, .int .i64 D, .int .i64 N, .slice (some ⟨w1.heap.size, 0, none⟩) M M, .slice (some ⟨w1.heap.size + 1, 0, none⟩) M M]) (by simp [results, Try.results22, go_sem]) rfl ?_
        refine ⟨L, M, w1.heap.size, w1.heap.size + 1, U, D, N, hP, hLn, HMe.out, HE.out, rfl, ?_, hM.bel.trans ((hO.bel.mono (by omega)).trans ((below_drawn _ _).mono (by have := hO.bel.size; omega)))⟩
        intro i hi
        have e0 : nth es (i * 2) = nth fr i := by rw [Hes.out]; exact nth_eps0 hi ys
        have e1 : nth es (i * 2 + 1) = nth tt i := by rw [Hes.out]; exact nth_eps1 hi ys
        refine ⟨?_, ?_⟩
        · have := hO.r1.cell (show i < M by omega)
          rw [if_pos (by omega), e0] at this
          exact this
        · have := hO.r2.cell (show i < M by omega)
          rw [if_pos (by omega), e1] at this
          exact this
end Go.Proofs.Qxb6603365a
