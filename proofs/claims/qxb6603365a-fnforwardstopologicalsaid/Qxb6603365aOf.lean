import Derived.Test.Qxb6603365aAdj
import Derived.Test.Qxb6603365aFwdPlain
namespace Go.Proofs.Qxb6603365a
open Go.ChangeShapes Go.WideShapes Go.ChangeAt Go.RowKit

/-- The l-th number of a list (a plain name). -/
def nn (ps : List Nat) (l : Nat) : Nat := ps.getD l 0
theorem nn_eq {ps : List Nat} {l : Nat} (h : l < ps.length) : nn ps l = ps[l] := by simp [nn, h]
theorem nth_eq {zs : List Int} {l : Nat} (h : l < zs.length) : nth zs l = zs[l] := by simp [nth, h]

/-- The nodes that the adjacency lists for v. -/
def preds (st to : List Int) (v : Nat) : List Nat := ((to.drop (nth st v).toNat).take ((nth st (v + 1)).toNat - (nth st v).toNat)).map Int.toNat

theorem adj_mono {st to : List Int} (h : AdjOK st to) (i j : Nat) (hij : i ≤ j) (hj : j < st.length) : nth st i ≤ nth st j := by
  induction j with
  | zero => have : i = 0 := by omega
            rw [this]; exact Int.le_refl _
  | succ j ih =>
    by_cases e : i = j + 1
    · rw [e]; exact Int.le_refl _
    · have h1 := ih (by omega) (by omega)
      have h2 := (h.ok (j + 1) hj).2.2 (by omega)
      simp at h2
      omega

theorem preds_len {st to : List Int} (h : AdjOK st to) {v : Nat} (hv : v + 1 < st.length) : (preds st to v).length = (nth st (v + 1)).toNat - (nth st v).toNat := by
  have h1 := h.ok (v + 1) hv
  have h2 := h.ok v (by omega)
  simp only [preds, List.length_map, List.length_take, List.length_drop]
  have := h1.2.1
  have := h1.1
  have := h2.1
  omega

theorem preds_len_le (st to : List Int) (v : Nat) : (preds st to v).length ≤ to.length := by
  simp only [preds, List.length_map, List.length_take, List.length_drop]
  omega

theorem preds_at {st to : List Int} (h : AdjOK st to) {v l : Nat} (hv : v + 1 < st.length) (hl : l < (preds st to v).length) : ((nn (preds st to v) l : Nat) : Int) = nth to ((nth st v).toNat + l) ∧ nn (preds st to v) l < st.length - 1 := by
  have hlen := preds_len h hv
  have h1 := h.ok (v + 1) hv
  have h2 := h.ok v (by omega)
  have m1 := adj_mono h 0 v (by omega) (by omega)
  have m2 := adj_mono h (v + 1) (st.length - 1) (by omega) (by omega)
  have a1 := h1.2.1
  have a2 := h1.1
  have a3 := h2.1
  have ht := h.to ((nth st v).toNat + l) (by omega) (by omega)
  have hi : (nth st v).toNat + l < to.length := by omega
  have e : nn (preds st to v) l = (nth to ((nth st v).toNat + l)).toNat := by
    rw [nn_eq hl]
    simp only [preds, List.getElem_map, List.getElem_take, List.getElem_drop]
    rw [nth_eq hi]
  have h3 := ht.1
  have h4 := ht.2
  rw [e]
  constructor
  · omega
  · omega

/-- A slice value that reads as a list of small numbers, in old memory. -/
def PReads (w : World) (a : Option Addr) (ps : List Nat) : Prop :=
  ∀ l, l < ps.length → ∃ b off, a = some ⟨b, off, none⟩ ∧ b < w.heap.size ∧ w.cell? ⟨b, off + l, none⟩ = some (.int .i32 ((nn ps l : Nat) : Int))

def OfPost (st to : List Int) (i : Nat) (w : World) (box : Obj) (e : Ending) (w' : World) : Prop :=
  ∃ a', e = .returned (.slice a' (preds st to i).length (preds st to i).length) ∧ PReads w a' (preds st to i) ∧ w' = (w.alloc box).drew

theorem of_none {st to : List Int} {i : Nat} {w : World} {box : Obj} {a1 : Option Addr} {n : Nat} (hn : (preds st to i).length = n) (h : n = 0) : OfPost st to i w box (.returned (.slice a1 0 0)) (w.alloc box).drew := by
  subst hn
  refine ⟨a1, by rw [h], ?_, rfl⟩
  intro l hl
  omega

theorem of_some {st to : List Int} {i : Nat} {w : World} {box : Obj} {a1 : Option Addr} (h : AdjOK st to) (hi : i + 1 < st.length) (r1 : Reads .i32 w a1 to) (e : Value)
    (he : e = .slice (Option.map (fun x => x.add (nth st i).toNat) a1) ((nth st (i + 1)).toNat - (nth st i).toNat) ((nth st (i + 1)).toNat - (nth st i).toNat)) : OfPost st to i w box (.returned e) (w.alloc box).drew := by
  subst he
  have hlen := preds_len h hi
  refine ⟨_, by rw [hlen], ?_, rfl⟩
  intro l hl
  have ha := (preds_at h hi hl).1
  have h1 := h.ok (i + 1) hi
  have h2 := h.ok i (by omega)
  have a1' := h1.2.1
  have a2 := h1.1
  have a3 := h2.1
  obtain ⟨b, off, rfl, hc⟩ := r1 ((nth st i).toNat + l) (by omega)
  refine ⟨b, off + (nth st i).toNat, by simp [Addr.add], World.block_lt_of_cell? w _ hc, ?_⟩
  rw [ha, Nat.add_assoc]
  exact hc

set_option maxHeartbeats 400000 in
theorem of_any (b0 o0 : Nat) (a1 : Option Addr) (c0 c1 : Nat) (st to : List Int) (i : Nat) (w : World) (h0 : st.length ≤ 1048576) (r0 : ∀ j, j < st.length → w.cell? ⟨b0, o0 + j, none⟩ = some (.int .i32 (nth st j))) (hb : b0 < w.heap.size) (b : B32 st)
    (r1 : Reads .i32 w a1 to) (hA : AdjOK st to) (hi : i + 1 < st.length) (hc : to.length ≤ c1) :
    Calls Try.prog 26 #[.agg #[.slice (some ⟨b0, o0, none⟩) st.length c0, .slice a1 to.length c1], .int .i64 i] w (OfPost st to i w (.cells #[.slice (some ⟨b0, o0, none⟩) st.length c0, .slice a1 to.length c1] 45)) := by
  have c1' := r0 i (by omega)
  have c2' := r0 (i + 1) (by omega)
  have e1 := b i
  have e2 := b (i + 1)
  obtain ⟨hlo, hx, _⟩ := hA.ok i (by omega)
  obtain ⟨hlo', hn, hle⟩ := hA.ok (i + 1) hi
  have hle := hle (by omega)
  simp only [Nat.add_sub_cancel] at hle
  go_enter Try.func26, Try.ntmps26
  go_wp2
  go_region
  go_wp2
  · go_ret
    exact of_none (preds_len hA hi) (by omega)
  · go_ret
    exact of_some hA hi r1 _ rfl
end Go.Proofs.Qxb6603365a
