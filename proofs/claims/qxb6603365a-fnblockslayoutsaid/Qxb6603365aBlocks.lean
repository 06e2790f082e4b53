/-
  '(*ahead).blocks' (25).
-/
import Derived.Test.Qxb6603365aAhead
import Derived.Deep.DeepCutAuto
import Derived.Deep.RegionHeld3
namespace Go.Proofs.Qxb6603365a
open Go.ChangeShapes Go.WideShapes Go.ChangeAt Go.RowKit

/-- c edges more than the m that were there. -/
def AGrown (A : Nat) (W : World) (F : Ah) (m : Nat) (xs : List Int) (c : Nat) (w : World) : Prop := ∃ ev ys, ys.length = 2 * c ∧ AMem A W F ev (m + c) ((xs ++ ys).map (Value.int .i32)) w

variable {A : Nat} {W : World} {F : Ah} {m c : Nat} {xs : List Int} {w : World}

theorem AGrown.like {w' : World} (h : AGrown A W F m xs c w) (h1 : w'.heap = w.heap) (h2 : w'.os = w.os) (h3 : w'.tape = w.tape) (h4 : w'.output = w.output) : AGrown A W F m xs c w' := by
  obtain ⟨ev, ys, hl, hM⟩ := h
  exact ⟨ev, ys, hl, hM.keep ⟨h2, h3, h4, by rw [h1]; exact Nat.le_refl _, fun k _ => by rw [h1]⟩⟩

theorem AGrown.cells (h : AGrown A W F m xs c w) : w.cell? ⟨A, 3, none⟩ = some (.int .i64 F.nodes) ∧ w.cell? ⟨A, 4, none⟩ = some (.int .i64 F.later) ∧ w.cell? ⟨A, 5, none⟩ = some (.int .i64 F.active) ∧ w.cell? ⟨A, 6, none⟩ = some (.int .i64 F.leaves) ∧ w.cell? ⟨A, 7, none⟩ = some (.int .i64 F.up) ∧ w.cell? ⟨A, 8, none⟩ = some (.int .i64 F.down) := by
  obtain ⟨ev, ys, _, hM⟩ := h
  exact ⟨hM.cell 3, hM.cell 4, hM.cell 5, hM.cell 6, hM.cell 7, hM.cell 8⟩
theorem AGrown.frozen (h : AGrown A W F m xs c w) (j : Nat) : w.frozen? ⟨A, j, none⟩ = false := by
  obtain ⟨ev, ys, _, hM⟩ := h
  exact hM.frozen j
theorem AGrown.store {F' : Ah} (h : AGrown A W F m xs c w) (j : Nat) (v : Value) (e : ∀ ev, (F.cells ev).setIfInBounds j v = F'.cells ev) : AGrown A W F' m xs c (w.setCell ⟨A, j, none⟩ v) := by
  obtain ⟨ev, ys, hl, hM⟩ := h
  exact ⟨ev, ys, hl, hM.store j v (e ev)⟩

theorem agrown_eq {c' : Nat} (h : AGrown A W F m xs c w) (e : c = c') : AGrown A W F m xs c' w := by rw [← e]; exact h

def EdgePost' (A : Nat) (W : World) (F : Ah) (m : Nat) (xs : List Int) (c : Nat) (e : Ending) (w' : World) : Prop := e = .returned (.tuple #[]) ∧ AGrown A W F m xs (c + 1) w'

theorem edge_more (x y : Int) (h : AGrown A W F m xs c w) (hm : m + c ≤ 1000000) : Calls Try.prog 27 #[.pointer (some ⟨A, 0, none⟩), .int .i64 x, .int .i64 y] w (EdgePost' A W F m xs c) := by
  obtain ⟨ev, ys, hl, hM⟩ := h
  refine (edge_any x y hM hm).mono ?_
  rintro e w' ⟨rfl, ev', a, b, hM'⟩
  refine ⟨rfl, ev', ys ++ [a, b], by simp [hl]; omega, ?_⟩
  have e : (xs ++ (ys ++ [a, b])).map (Value.int .i32) = (xs ++ ys).map (Value.int .i32) ++ [.int .i32 a, .int .i32 b] := by simp
  rw [e]
  exact hM'

/-- A power of two up to 65536, and n lies behind its half. -/
def Pw (n : Int) (L : Nat) : Prop := ∃ k, k ≤ 16 ∧ L = 2 ^ k ∧ (L = 1 ∨ (L : Int) < 2 * n)

theorem pw_one (n : Int) : Pw n 1 := ⟨0, by omega, rfl, .inl rfl⟩
theorem pw_le {n : Int} {L : Nat} (h : Pw n L) : 1 ≤ L ∧ L ≤ 65536 := by
  obtain ⟨k, hk, rfl, _⟩ := h
  have h1 : 2 ^ k ≤ 2 ^ 16 := Nat.pow_le_pow_right (by omega) hk
  have h2 : 0 < 2 ^ k := Nat.pow_pos (by omega)
  omega
theorem pw_double {n : Int} {L : Nat} (h : Pw n L) (hn : n ≤ 65536) (hl : (L : Int) < n) : Pw n (2 * L) := by
  obtain ⟨k, hk, rfl, _⟩ := h
  refine ⟨k + 1, ?_, by rw [Nat.pow_succ]; omega, .inr (by omega)⟩
  by_cases e : k = 16
  · subst e; omega
  · omega

def BlocksPost (A : Nat) (W : World) (F : Ah) (m : Nat) (xs : List Int) (n : Int) (e : Ending) (w' : World) : Prop :=
  e = .returned (.tuple #[]) ∧ ∃ L : Nat, Pw n L ∧ n ≤ L ∧
    AGrown A W ⟨wrap64 (wrap64 (wrap64 (wrap64 (F.active - 1) + L) - 1) + L), F.later, F.active, L, wrap64 (F.active - 1), wrap64 (wrap64 (wrap64 (F.active - 1) + L) - 1)⟩ m xs (2 * ((L : Int) + n - 2).toNat) w'

set_option maxHeartbeats 1600000 in
set_option maxRecDepth 20000 in
theorem blocks_any (n : Int) (hn : n ≤ 65536) (hn0 : -9223372036854775808 ≤ n) (h : AGrown A W F m xs 0 w) (hm : m ≤ 131072) :
    Calls Try.prog 25 #[.pointer (some ⟨A, 0, none⟩), .int .i64 n] w (BlocksPost A W F m xs n) := by
  obtain ⟨c3, c4, c5, c6, c7, c8⟩ := h.cells
  have f6 := h.frozen 6
  have h1 : AGrown A W ⟨F.nodes, F.later, F.active, 1, F.up, F.down⟩ m xs 0 (w.setCell ⟨A, 6, none⟩ (.int .i64 1)) := h.store 6 _ (fun _ => rfl)
  go_enter Try.func25, Try.ntmps25
  go_wp2
  go_loopg [] 65536 (fun g wr => ∃ L : Nat, 65536 - L ≤ g ∧ Pw n L ∧ AGrown A W ⟨F.nodes, F.later, F.active, L, F.up, F.down⟩ m xs 0 wr)
  case atStart => exact ⟨1, by omega, pw_one n, h1⟩
  case round =>
    obtain ⟨L, hg, hL, hG⟩ := hrel
    clear h1 c3 c4 c5 c6 c7 c8 f6 h
    obtain ⟨c3, c4, c5, c6, c7, c8⟩ := hG.cells
    have f6 := hG.frozen 6
    have hLb := pw_le hL
    by_cases hlt : (L : Int) < n
    · have h2 : AGrown A W ⟨F.nodes, F.later, F.active, (L : Int) * 2, F.up, F.down⟩ m xs 0 (wr.setCell ⟨A, 6, none⟩ (.int .i64 ((L : Int) * 2))) := hG.store 6 _ (fun _ => rfl)
      go_wp2
      go_roundg (gk - 1)
      case rel => exact ⟨2 * L, by omega, pw_double hL hn hlt, by rw [show ((2 * L : Nat) : Int) = (L : Int) * 2 from by omega]; exact h2⟩
      case measure => omega
    · have f7 := hG.frozen 7
      have f8 := hG.frozen 8
      have f3 := hG.frozen 3
      go_wp2
      go_region
      go_wp2
      go_region
      go_wp2
      have HG := (((hG.store (F' := ⟨F.nodes, F.later, F.active, L, wrap64 (F.active - 1), F.down⟩) 7 (.int .i64 (wrap64 (F.active - 1))) (fun _ => rfl)).store (F' := ⟨F.nodes, F.later, F.active, L, wrap64 (F.active - 1), wrap64 (wrap64 (wrap64 (F.active - 1) + L) - 1)⟩) 8 (.int .i64 (wrap64 (wrap64 (wrap64 (F.active - 1) + L) - 1))) (fun _ => rfl)).store (F' := ⟨wrap64 (wrap64 (wrap64 (wrap64 (F.active - 1) + L) - 1) + L), F.later, F.active, L, wrap64 (F.active - 1), wrap64 (wrap64 (wrap64 (F.active - 1) + L) - 1)⟩) 3 (.int .i64 (wrap64 (wrap64 (wrap64 (wrap64 (F.active - 1) + L) - 1) + L))) (fun _ => rfl))
      clear hG c3 c4 c5 c6 c7 c8 f6 f7 f8 f3
      generalize hN : wrap64 (wrap64 (wrap64 (wrap64 (F.active - 1) + L) - 1) + L) = N at HG ⊢
      generalize hD : wrap64 (wrap64 (wrap64 (F.active - 1) + L) - 1) = D at HG ⊢ hN
      generalize hU : wrap64 (F.active - 1) = U at HG ⊢ hD
      have HE : Hid (∀ c w', AGrown A W ⟨N, F.later, F.active, L, U, D⟩ m xs c w' → c = 2 * ((L : Int) + n - 2).toNat → BlocksPost A W F m xs n (.returned (.tuple #[])) w') := by
        intro c w' h e
        subst e
        subst hU
        subst hD
        subst hN
        exact ⟨rfl, L, hL, by omega, h⟩
      clear hN hD hU
      have hLn : (L : Int) + n ≤ 131072 := by omega
      have hLn' : -9223372036854775808 ≤ (L : Int) + n := by omega
      go_loopg [4] ((L : Int) + n).toNat (fun g xv wr => ∃ x : Int, 2 ≤ x ∧ (x = 2 ∨ x ≤ (L : Int) + n) ∧ ((L : Int) + n - x).toNat ≤ g ∧ xv = .int .i64 x ∧ AGrown A W ⟨N, F.later, F.active, L, U, D⟩ m xs (x - 2).toNat wr)
      case atStart => exact ⟨2, by omega, .inl rfl, by omega, rfl, HG.like rfl rfl rfl rfl⟩
      case round =>
        clear HG
        obtain ⟨x, hx2, hxT, hgx, rfl, hG⟩ := hrel
        obtain ⟨c3, c4, c5, c6, c7, c8⟩ := hG.cells
        by_cases hxl : x < (L : Int) + n
        · go_wp2_with fail
          go_region_with (first | (go_at_call 28; refine (block_any _ _ L F.later _ ?_ ?_).mono ?_; exact c4; exact c6; rintro e w' ⟨r, rfl, k, rfl⟩) | (go_at_call 27; refine (edge_more _ _ (hG.like ?_ ?_ ?_ ?_) ?_).mono ?_; rfl; rfl; rfl; rfl; omega; rintro e w' ⟨rfl, hG3⟩))
          all_goals
            go_wp2_with fail
            go_roundg (gk - 1)
            case rel => exact ⟨x + 1, by omega, .inr (by omega), by omega, rfl, agrown_eq (c := (x - 2).toNat + 1) (by assumption) (by omega)⟩
            case measure => omega
        · have hG := agrown_eq (c' := ((L : Int) + n - 2).toNat + (min (2 * 1) ((L : Int) + n) - 2).toNat) hG (by omega)
          clear c3 c4 c5 c7 c8 hxT hgx
          go_wp2_with fail
          go_loopg [5] L (fun g xv wr => ∃ x : Int, 1 ≤ x ∧ x ≤ L ∧ ((L : Int) - x).toNat ≤ g ∧ xv = .int .i64 x ∧ AGrown A W ⟨N, F.later, F.active, L, U, D⟩ m xs (((L : Int) + n - 2).toNat + (min (2 * x) ((L : Int) + n) - 2).toNat) wr)
          case atStart => exact ⟨1, by omega, by omega, by omega, rfl, hG⟩
          case round =>
            clear hG c6
            obtain ⟨z, hz1, hzL, hgz, rfl, hG⟩ := hrel
            obtain ⟨c3, c4, c5, c6, c7, c8⟩ := hG.cells
            by_cases hzl : z < (L : Int)
            · have hG := agrown_eq (c' := ((L : Int) + n - 2).toNat + (min (2 * z) ((L : Int) + n) - 2).toNat) hG rfl
              obtain ⟨og, hog⟩ : ∃ og, og = gk := ⟨gk, rfl⟩
              subst hog
              go_wp2_with fail
              go_loopg [6] 3 (fun g yv wr => ∃ y : Int, 2 * z ≤ y ∧ y ≤ 2 * z + 2 ∧ (y = 2 * z ∨ y ≤ (L : Int) + n) ∧ (2 * z + 2 - y).toNat ≤ g ∧ yv = .int .i64 y ∧ AGrown A W ⟨N, F.later, F.active, L, U, D⟩ m xs (((L : Int) + n - 2).toNat + (min y ((L : Int) + n) - 2).toNat) wr)
              case atStart => exact ⟨2 * z, by omega, by omega, .inl rfl, by omega, rfl, hG⟩
              case round =>
                clear hG c3 c4 c5 c6 c7 c8
                obtain ⟨y, hy1, hy2, hyT, hgy, rfl, hG⟩ := hrel
                obtain ⟨c3, c4, c5, c6, c7, c8⟩ := hG.cells
                by_cases hyl : y ≤ 2 * z + 1
                · by_cases hyt : y < (L : Int) + n
                  · go_wp2_with fail
                    go_region_with (first | (go_at_call 28; refine (block_any _ _ L F.later _ ?_ ?_).mono ?_; exact c4; exact c6; rintro e w' ⟨r, rfl, k, rfl⟩) | (go_at_call 27; refine (edge_more _ _ (hG.like ?_ ?_ ?_ ?_) ?_).mono ?_; rfl; rfl; rfl; rfl; omega; rintro e w' ⟨rfl, hG3⟩))
                    all_goals
                      go_wp2_with fail
                      go_roundg (gk - 1)
                      case rel => exact ⟨y + 1, by omega, by omega, .inr (by omega), by omega, rfl, agrown_eq (c := ((L : Int) + n - 2).toNat + (min y ((L : Int) + n) - 2).toNat + 1) (by assumption) (by omega)⟩
                      case measure => omega
                  · go_wp2_with fail
                    go_roundg (og - 1)
                    case rel => exact ⟨z + 1, by omega, by omega, by omega, rfl, agrown_eq hG (by omega)⟩
                    case measure => omega
                · go_wp2_with fail
                  go_roundg (og - 1)
                  case rel => exact ⟨z + 1, by omega, by omega, by omega, rfl, agrown_eq hG (by omega)⟩
                  case measure => omega
            · go_wp2_with fail
              go_end0
              exact HE.out _ _ hG (by omega)
end Go.Proofs.Qxb6603365a
