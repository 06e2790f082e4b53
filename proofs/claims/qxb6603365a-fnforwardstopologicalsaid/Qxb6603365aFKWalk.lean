import Derived.Test.Qxb6603365aFwdWalk
import Derived.Test.Qxb6603365aClone
namespace Go.Proofs.Qxb6603365a
open Go.ChangeShapes Go.WideShapes Go.ChangeAt Go.RowKit

set_option maxHeartbeats 400000 in
theorem zzForwards_any (a0 a1 : Option Addr) (c0 c1 : Nat) (st tt : List Int) (w : World) (h0 : st.length ≤ 131072) (h1 : tt.length ≤ 131072) (s0 : SliceOf .i32 w a0 st c0) (b : B32 st)
    (s1 : SliceOf .i32 w a1 tt c1) (hA : AdjOK st tt) :
    Calls Try.prog 18 #[.slice a0 st.length c0, .slice a1 tt.length c1] w (FPost st tt w) := by
  obtain ⟨b0, o0, rfl, hb0, r0⟩ := s0.reads.at hA.pos
  go_enter Try.func18, Try.ntmps18
  go_wp2_with (go_at_call 24; refine (forwards_any b0 o0 a1 c0 c1 st tt _ h0 h1 r0 hb0 b s1.reads hA s1.le).mono ?_; rintro e w' ⟨b', cap', order, rfl, hrd, hpost, hbel⟩)
  go_ret
  exact ⟨b', cap', order, rfl, hrd, hpost, hbel⟩

theorem fwd_of {st tt : List Int} (hA : AdjOK st tt) (h : ∀ v, v < st.length - 1 → ∀ k : Nat, nth st v ≤ k → (k : Int) < nth st (v + 1) → nth tt k < v) : Fwd (preds st tt) (st.length - 1) := by
  intro v hv u hu
  obtain ⟨l, hl, rfl⟩ := List.getElem_of_mem hu
  have h1 := preds_at hA (show v + 1 < st.length by omega) hl
  have h2 := preds_len hA (show v + 1 < st.length by omega)
  have p1 := (hA.ok v (by omega)).1
  have p2 := (hA.ok (v + 1) (by omega)).1
  have h3 := h v hv ((nth st v).toNat + l) (by omega) (by omega)
  rw [nn_eq hl] at h1
  omega

theorem order_range {st tt : List Int} {w : World} {e : Ending} {w' : World} (h : FPost st tt w e w') (hf : Fwd (preds st tt) (st.length - 1)) :
    ∃ b cap, e = .returned (.slice (some ⟨b, 0, none⟩) (st.length - 1) cap) ∧ (∀ k, k < st.length - 1 → w'.cell? ⟨b, k, none⟩ = some (.int .i32 ((k : Nat) : Int))) ∧ Below w.heap.size w w' := by
  obtain ⟨b, cap, order, rfl, hr, hp, hb⟩ := h
  have ho := hp.fwd hf
  subst ho
  refine ⟨b, cap, by simp, ?_, hb⟩
  intro k hk
  obtain ⟨b', off', e, hc⟩ := hr k (by simpa using hk)
  cases e
  have e2 : nth ((List.range (st.length - 1)).map fun v => ((v : Nat) : Int)) k = k := by simp [nth, hk]
  rw [e2] at hc
  simpa using hc

def fwdUpto (st tt : List Int) (n : Nat) : Prop := ∀ v, v < n → ∀ k : Nat, nth st v ≤ k → (k : Int) < nth st (v + 1) → nth tt k < v
theorem fwdUpto_zero (st tt : List Int) : Hid (fwdUpto st tt 0) := fun v hv => by omega
theorem fwdUpto_succ {st tt : List Int} {n : Nat} (h : fwdUpto st tt n) (hn : ∀ k : Nat, nth st n ≤ k → (k : Int) < nth st (n + 1) → nth tt k < n) : Hid (fwdUpto st tt (n + 1)) := by
  intro v hv
  by_cases e : v = n
  · subst e; exact hn
  · exact h v (by omega)
theorem below_succ {tt : List Int} {lo x : Int} {v : Nat} (h : ∀ k : Nat, lo ≤ k → (k : Int) < x → nth tt k < v) (h0 : 0 ≤ x) (hx : nth tt x.toNat < v) : Hid (∀ k : Nat, lo ≤ k → (k : Int) < x + 1 → nth tt k < v) := by
  intro k h1 h2
  by_cases e : k = x.toNat
  · subst e; exact hx
  · exact h k h1 (by omega)

set_option maxHeartbeats 1600000 in
set_option maxRecDepth 20000 in
theorem fk_any (a0 a1 : Option Addr) (c0 c1 : Nat) (st tt : List Int) (w : World) (m0 : st.length ≤ maxLen) (m1 : tt.length ≤ maxLen) (s0 : SliceOf .i32 w a0 st c0) (s1 : SliceOf .i32 w a1 tt c1) (b0 : B32 st) (b1 : B32 tt) :
    Calls Try.prog 6 #[.slice a0 st.length c0, .slice a1 tt.length c1] w fun e w' => e = .returned (.bool true) ∧ Below w.heap.size w w' := by
  by_cases g0 : st.length + tt.length ≤ 1048576
  case neg =>
    have hd := decide_eq_false g0
    go_enter Try.func6, Try.ntmps6
    go_wp2_with (go_at_call 20; refine (bytesFK_any _ _ _ _ _ _ _ m0 m1).mono ?_; rintro e w' ⟨rfl, rfl⟩)
    go_ret
    exact ⟨rfl, Below.refl _ _⟩
  have hd := decide_eq_true g0
  by_cases g1 : 131072 < st.length
  · have g1' : (131072 : Int) < st.length := by omega
    go_enter Try.func6, Try.ntmps6
    go_wp2_with (go_at_call 20; refine (bytesFK_any _ _ _ _ _ _ _ m0 m1).mono ?_; rintro e w' ⟨rfl, rfl⟩)
    go_ret
    exact ⟨rfl, Below.refl _ _⟩
  by_cases g2 : 131072 < tt.length
  · have g1' : ¬ (131072 : Int) < st.length := by omega
    have g2' : (131072 : Int) < tt.length := by omega
    go_enter Try.func6, Try.ntmps6
    go_wp2_with (go_at_call 20; refine (bytesFK_any _ _ _ _ _ _ _ m0 m1).mono ?_; rintro e w' ⟨rfl, rfl⟩)
    go_ret
    exact ⟨rfl, Below.refl _ _⟩
  have g1' : decide ((131072 : Int) < st.length) = false := by simp; omega
  have g2' : decide ((131072 : Int) < tt.length) = false := by simp; omega
  go_enter Try.func6, Try.ntmps6
  go_wp2_with (go_at_call 20; refine (bytesFK_any _ _ _ _ _ _ _ m0 m1).mono ?_; rintro e w' ⟨rfl, rfl⟩)
  refine (adjOK_any _ _ _ _ _ _ _ (by omega) (by omega) s0.reads s1.reads b0 b1).mono ?_
  rintro e w' ⟨b, rfl, hadj, nd, rfl⟩
  cases b
  · go_wp2
    go_ret
    exact ⟨rfl, below_drawn _ _⟩
  have hA := hadj rfl
  have hpos := hA.pos
  clear hadj hd
  go_wp2
  go_loopg [6] (st.length - 1) (fun g i wr => ∃ v : Nat, st.length - 1 - v ≤ g ∧ v ≤ st.length - 1 ∧ i = .int .i64 v ∧ Hid (fwdUpto st tt v) ∧ wr = w.drewN nd)
  case atStart => exact ⟨0, by omega, by omega, rfl, fwdUpto_zero _ _, rfl⟩
  case round =>
    obtain ⟨v, hg, hv, rfl, HF, rfl⟩ := hrel
    obtain ⟨bs, os, rfl, hbs, rs⟩ := s0.reads.at hA.pos
    by_cases hlt : v < st.length - 1
    · have hlt' : (v : Int) < (st.length : Int) - 1 := by omega
      have cv := rs v (by omega)
      have cv' := rs (v + 1) (by omega)
      have bv := b0 v
      have bv' := b0 (v + 1)
      obtain ⟨o1, o2, _⟩ := hA.ok v (by omega)
      obtain ⟨o3, o4, _⟩ := hA.ok (v + 1) (by omega)
      obtain ⟨og, hog⟩ : ∃ og, og = gk := ⟨gk, rfl⟩
      subst hog
      go_wp2
      go_loopg [7] tt.length (fun g i wr => ∃ x : Int, tt.length - x.toNat ≤ g ∧ nth st v ≤ x ∧ i = .int .i64 x ∧ Hid (∀ k : Nat, nth st v ≤ k → (k : Int) < x → nth tt k < v) ∧ wr = w.drewN nd)
      case atStart => exact ⟨nth st v, by omega, by omega, rfl, (fun k h1 h2 => by omega), rfl⟩
      case round =>
        obtain ⟨x, hgx, hx, rfl, HX, rfl⟩ := hrel
        by_cases hlx : x < nth st (v + 1)
        · obtain ⟨bt, ot, rfl, hbt, rt⟩ := s1.reads.at (show x.toNat < tt.length by omega)
          have cx := rt x.toNat (by omega)
          have bx := b1 x.toNat
          by_cases hge : (v : Int) ≤ nth tt x.toNat
          · go_wp2
            go_ret
            exact ⟨rfl, below_drawn _ _⟩
          · go_wp2
            go_roundg (gk - 1)
            case rel => exact ⟨x + 1, by omega, by omega, rfl, below_succ HX.out (by omega) (by omega), rfl⟩
            case measure => omega
        · go_wp2
          go_roundg (og - 1)
          case rel => exact ⟨v + 1, by omega, by omega, by go_num, fwdUpto_succ HF.out fun k h1 h2 => HX.out k h1 (by omega), rfl⟩
          case measure => omega
    · have hf : Fwd (preds st tt) (st.length - 1) := fwd_of hA (fun v' hv' => HF.out v' (by omega))
      have t0 := s0.below (below_drawn w nd)
      have t1 := s1.below (below_drawn w nd)
      have n1 : st.length ≤ 1048576 := by omega
      have n2 : tt.length ≤ 1048576 := by omega
      have n3 : st.length ≤ 131072 := by omega
      have n4 : tt.length ≤ 131072 := by omega
      clear s0 s1 HF rs
      go_wp2_with fail
      refine (clone_any _ _ st _ n1 t0).mono ?_
      rintro e w1 ⟨a0', rfl, q0, hb0⟩
      have t1' := t1.below hb0
      go_wp2_with fail
      refine (clone_any _ _ tt _ n2 t1').mono ?_
      rintro e w2 ⟨a1', rfl, q1, hb1⟩
      have q0' := q0.below hb1
      go_wp2_with fail
      refine (zzForwards_any _ _ _ _ st tt _ n3 n4 q0' b0 q1 hA).mono ?_
      intro e w3 hP
      obtain ⟨bo, co, rfl, ho, hb2⟩ := order_range hP hf
      clear hP t0 t1 t1' q0 q1 q0'
      have hfin : Below w.heap.size w w3 := ((below_drawn w nd).trans (hb0.mono (Nat.le_refl _))).trans ((hb1.mono hb0.size).trans (hb2.mono (Nat.le_trans hb0.size hb1.size)))
      clear hb0 hb1 hb2
      have hne : (((st.length - 1 : Nat) : Int) != (st.length : Int) - 1) = false := by simp; omega
      go_wp2_with fail
      go_loopg [9] (st.length - 1) (fun g i wr => ∃ k : Nat, st.length - 1 - k ≤ g ∧ k ≤ st.length - 1 ∧ i = .int .i64 k ∧ wr = w3)
      case atStart => exact ⟨0, by omega, by omega, rfl, rfl⟩
      case round =>
        obtain ⟨k, hgk, hk, rfl, rfl⟩ := hrel
        by_cases hlt : k < st.length - 1
        · have ck := ho k hlt
          have hkk : ((k : Int) != (k : Int)) = false := by simp
          go_wp2_with fail
          go_roundg (gk - 1)
          case rel => exact ⟨k + 1, by omega, by omega, by go_num, rfl⟩
          case measure => omega
        · go_wp2_with fail
          go_ret
          exact ⟨rfl, hfin⟩
end Go.Proofs.Qxb6603365a
