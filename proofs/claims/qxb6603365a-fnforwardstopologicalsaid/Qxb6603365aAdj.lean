import Derived.Test.Qxb6603365aBase
namespace Go.Proofs.Qxb6603365a
open Go.ChangeShapes Go.WideShapes Go.ChangeAt Go.RowKit

/-- What 'zzAdjOK' asks of one place of 'start'. -/
def okAt (st to : List Int) (k : Nat) : Prop := 0 ≤ nth st k ∧ nth st k ≤ to.length ∧ (0 < k → nth st (k - 1) ≤ nth st k)
/-- What it asks of one place of 'to'. -/
def toAt (st to : List Int) (k : Nat) : Prop := 0 ≤ nth to k ∧ nth to k < (st.length : Int) - 1
/-- A well-formed adjacency. -/
structure AdjOK (st to : List Int) : Prop where
  pos : 0 < st.length
  ok : ∀ k, k < st.length → okAt st to k
  to : ∀ k : Nat, nth st 0 ≤ k → (k : Int) < nth st (st.length - 1) → toAt st to k

theorem okAll_succ {st to : List Int} {i : Nat} (h : ∀ j, j < i → okAt st to j) (hi : okAt st to i) : ∀ j, j < i + 1 → okAt st to j := by
  intro j hj
  by_cases e : j = i
  · subst e; exact hi
  · exact h j (by omega)

theorem toAll_succ {st to : List Int} {k : Int} (h : ∀ j : Nat, nth st 0 ≤ j → (j : Int) < k → toAt st to j) (h0 : 0 ≤ k) (hk : toAt st to k.toNat) : ∀ j : Nat, nth st 0 ≤ j → (j : Int) < k + 1 → toAt st to j := by
  intro j h1 hj
  by_cases e : j = k.toNat
  · subst e; exact hk
  · exact h j h1 (by omega)

theorem drewN_more (w : World) (m n : Nat) : (w.drewN m).drewN n = w.drewN (m + n) := by simp [World.drewN, Nat.add_assoc]

def AdjPost (st to : List Int) (w : World) (e : Ending) (w' : World) : Prop := ∃ b, e = .returned (.bool b) ∧ (b = true → AdjOK st to) ∧ ∃ n, w' = w.drewN n
theorem AdjPost.no {st to : List Int} {w : World} {n : Nat} : AdjPost st to w (.returned (.bool false)) (w.drewN n) := ⟨_, rfl, (fun h => by simp at h), n, rfl⟩
theorem AdjPost.yes {st to : List Int} {w : World} {n : Nat} (h : AdjOK st to) : AdjPost st to w (.returned (.bool true)) (w.drewN n) := ⟨_, rfl, (fun _ => h), n, rfl⟩

set_option maxHeartbeats 1000000 in
theorem adjOK_any (a0 a1 : Option Addr) (c0 c1 : Nat) (st to : List Int) (w : World) (h0 : st.length ≤ 1048576) (h1 : to.length ≤ 1048576) (r0 : Reads .i32 w a0 st) (r1 : Reads .i32 w a1 to) (b0 : B32 st) (b1 : B32 to) :
    Calls Try.prog 16 #[.slice a0 st.length c0, .slice a1 to.length c1] w (AdjPost st to w) := by
  by_cases hz : st.length = 0
  · go_enter Try.func16, Try.ntmps16
    go_wp2
    go_ret
    exact AdjPost.no (n := 0)
  · have hz0 : ((st.length : Int) == 0) = false := by simp; intro h; simp [h] at hz
    go_enter Try.func16, Try.ntmps16
    go_wp2
    go_loopg [6] st.length (fun g i wr => ∃ k : Nat, st.length - k ≤ g ∧ k ≤ st.length ∧ i = .int .i64 k ∧ (∀ j, j < k → okAt st to j) ∧ ∃ n, wr = w.drewN n)
    case atStart => exact ⟨0, by omega, Nat.zero_le _, rfl, (fun j hj => by omega), 0, rfl⟩
    case round =>
      obtain ⟨k, hg, hk, rfl, hall, m, rfl⟩ := hrel
      by_cases hlt : k < st.length
      · obtain ⟨b, off, rfl, hb, hc⟩ := r0.at hlt
        have hck := hc k hlt
        have bk := b0 k
        by_cases t1 : nth st k < 0
        · go_wp2
          go_ret
          exact AdjPost.no
        · by_cases t2 : (to.length : Int) < nth st k
          · go_wp2
            go_ret
            exact AdjPost.no
          · by_cases t3 : 0 < k
            · have t3' : (0 : Int) < (k : Int) := by omega
              have hcp := hc (k - 1) (by omega)
              by_cases t4 : nth st k < nth st (k - 1)
              · go_wp2
                go_quiet (fail)
                go_wp2
                go_ret
                rw [drewN_more]
                exact AdjPost.no
              · go_wp2
                go_quiet (fail)
                go_wp2
                go_roundg (gk - 1)
                case rel => exact ⟨k + 1, by omega, by omega, by go_num, okAll_succ hall ⟨by omega, by omega, fun _ => by omega⟩, _, rfl⟩
                case measure => omega
            · have t3' : decide ((0 : Int) < (k : Int)) = false := by simp; omega
              go_wp2
              go_quiet (fail)
              go_wp2
              go_roundg (gk - 1)
              case rel => exact ⟨k + 1, by omega, by omega, by go_num, okAll_succ hall ⟨by omega, by omega, fun h => absurd h t3⟩, _, rfl⟩
              case measure => omega
      · obtain ⟨b, off, rfl, hb, hc⟩ := r0.at (show 0 < st.length by omega)
        have hc0 : w.cell? ⟨b, off, none⟩ = some (.int .i32 (nth st 0)) := by simpa using hc 0 (by omega)
        have bk := b0 0
        have hcl := hc (st.length - 1) (by omega)
        have bl := b0 (st.length - 1)
        have hz' : (0 : Int) < st.length := by omega
        have k0 := hall 0 (by omega)
        have kl := hall (st.length - 1) (by omega)
        have eK : k = st.length := by omega
        have HA : Hid (∀ j, j < st.length → okAt st to j) := by rw [← eK]; exact hall
        obtain ⟨k01, k02, _⟩ := k0
        obtain ⟨kl1, kl2, _⟩ := kl
        clear hall eK
        go_wp2
        go_loopg [7] to.length (fun g i wr => ∃ x : Int, to.length - x.toNat ≤ g ∧ nth st 0 ≤ x ∧ i = .int .i64 x ∧ (∀ j : Nat, nth st 0 ≤ j → (j : Int) < x → toAt st to j) ∧ ∃ n, wr = w.drewN n)
        case atStart => exact ⟨nth st 0, by omega, by omega, rfl, (fun j _ _ => by omega), _, rfl⟩
        case round =>
          obtain ⟨x, hg, hx, rfl, hto, m, rfl⟩ := hrel
          by_cases hlx : x < nth st (st.length - 1)
          · obtain ⟨b', off', rfl, hb', hc'⟩ := r1.at (show x.toNat < to.length by omega)
            have hcx := hc' x.toNat (by omega)
            have bx := b1 x.toNat
            by_cases t1 : nth to x.toNat < 0
            · go_wp2
              go_ret
              exact AdjPost.no
            · by_cases t2 : (st.length : Int) - 1 ≤ nth to x.toNat
              · go_wp2
                go_ret
                exact AdjPost.no
              · go_wp2
                go_roundg (gk - 1)
                case rel => exact ⟨x + 1, by omega, by omega, rfl, toAll_succ hto (by omega) ⟨by omega, by omega⟩, _, rfl⟩
                case measure => omega
          · go_wp2
            go_ret
            exact AdjPost.yes ⟨by omega, HA.out, fun j h1 h2 => hto j h1 (by omega)⟩
end Go.Proofs.Qxb6603365a
