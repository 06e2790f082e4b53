/-
  'zzAcyclic' (19): it answers whether a rank is.
-/
import Derived.Test.Qxb6603365aKMem
namespace Go.Proofs.Qxb6603365a
open Go.ChangeShapes Go.WideShapes Go.ChangeAt Go.RowKit

def APost (G : Nat → List Nat) (n : Nat) (w : World) (e : Ending) (w' : World) : Prop := ∃ b, e = .returned (.bool b) ∧ (b = true ↔ ∃ r, Rank G n r) ∧ Below w.heap.size w w'

theorem make64 (l c : Int) (ln cn : Nat) (hl : l = ln) (hc : c = cn) (hlc : ln ≤ cn) (hcn : cn ≤ 17179869184) (w : World) (b : Nat) (hb : w.heap.size = b) :
    (Instr.makeSlice 24 (.int .i64 l) (.int .i64 c)).run Try.prog w = .ok (.slice (some ⟨b, 0, none⟩) ln cn) (w.alloc (.cells (madeCells #[.int .i64 0] cn) 3)) := by
  subst hb
  exact make_at (P := Try.prog) 24 3 (.int .i64 0) 8 Try.underlying24 info3 rfl l c ln cn hl hc hlc (by omega) (by omega) w

theorem cell_one_at {w : World} {n : Nat} {a : Value} {t : TypeId} (hn : w.heap.size = n) : ∀ j u, [a][j]? = some u → (w.alloc (.cells #[a] t)).cell? ((⟨n, 0, none⟩ : Addr).add j) = some u := by
  subst hn
  exact cell_one_new _ _ _

set_option maxHeartbeats 4000000 in
set_option maxRecDepth 20000 in
theorem acyclic_any (b0 o0 : Nat) (a1 : Option Addr) (c0 c1 L n : Nat) (s : Nat → Nat) (G : Nat → List Nat) (w : World) (hn : n ≤ 131071) (hL : L ≤ 131072) (g : GMem w b0 o0 a1 n L s G) :
    Calls Try.prog 19 #[.slice (some ⟨b0, o0, none⟩) (n + 1) c0, .slice a1 L c1, .int .i64 (n : Int)] w (APost G n w) := by
  obtain ⟨i3, hi3, _, hs3, _⟩ := info_parts info3
  have hmk0 := make64 (n : Int) (n : Int) n n rfl rfl (Nat.le_refl _) (by omega) w w.heap.size rfl
  have hmk1 := make64 ((n : Int) + 1) ((n : Int) + 1) (n + 1) (n + 1) (by simp) (by simp) (Nat.le_refl _) (by omega) (w.alloc (.cells (madeCells #[.int .i64 0] n) 3)) (w.heap.size + 1) (by simp)
  go_enter Try.func19, Try.ntmps19
  go_wp2_with fail
  clear hmk0 hmk1
  go_loopg [9] n (fun gh i wr => ∃ v : Nat, n - v ≤ gh ∧ v ≤ n ∧ i = .int .i64 v ∧ CM w.heap.size w n (idg (eU G v)) (oc (eU G v)) wr)
  case atStart => exact ⟨0, by omega, by omega, rfl, CM.start w n⟩
  case round =>
    obtain ⟨v, hg, hv, rfl, hM⟩ := hrel
    by_cases hlt : v < n
    · have hlt' : (v : Int) < n := by omega
      have gr := g.below hM.bel
      have cv := gr.st v (by omega)
      have cv' := gr.st (v + 1) (by omega)
      have hb := gr.hb
      have HL : Hid (s (v + 1) = s v + (G v).length) := gr.len v hlt
      have hsv : s v ≤ s (v + 1) := by have := HL.out; omega
      have hle := gr.le (v + 1) (by omega)
      have hM0 : CM w.heap.size w n (idg (eP G v (s v - s v))) (oc (eP G v (s v - s v))) wr := by
        rw [Nat.sub_self, eP_zero]; exact hM
      clear gr hM
      obtain ⟨og, hog⟩ : ∃ og, og = gk := ⟨gk, rfl⟩
      subst hog
      go_wp2_with fail
      go_loopg [10] (G v).length (fun gh i wr => ∃ x : Nat, s (v + 1) - x ≤ gh ∧ s v ≤ x ∧ x ≤ s (v + 1) ∧ i = .int .i64 x ∧ CM w.heap.size w n (idg (eP G v (x - s v))) (oc (eP G v (x - s v))) wr)
      case atStart => exact ⟨s v, by have := HL.out; omega, by omega, by omega, rfl, hM0⟩
      case round =>
        clear cv cv' hM0 hb
        obtain ⟨x, hgx, hx, hxe, rfl, hM⟩ := hrel
        have gr := g.below hM.bel
        have cv' := gr.st (v + 1) (by omega)
        have hb := gr.hb
        by_cases hlx : x < s (v + 1)
        · have hlx' : (x : Int) < s (v + 1) := by omega
          obtain ⟨b1, o1, rfl, hb1, ct0⟩ := g.tt v hlt x hx hlx
          have ct := ct0
          rw [← hM.bel.cell (by exact hb1)] at ct
          clear ct0
          have hj : x - s v < (G v).length := by have := HL.out; omega
          have hun : nn (G v) (x - s v) < n := by rw [nn_eq hj]; exact gr.lt v hlt _ (List.getElem_mem hj)
          have hPl := gr.eP_len hL hlt (show x - s v ≤ (G v).length by omega)
          have hstep := eP_succ G v (x - s v) hj
          rw [← nn_eq hj] at hstep
          obtain ⟨u, eu⟩ : ∃ u, u = nn (G v) (x - s v) := ⟨_, rfl⟩
          rw [← eu] at ct hun hstep
          obtain ⟨P, eP'⟩ : ∃ P, P = eP G v (x - s v) := ⟨_, rfl⟩
          rw [← eP'] at hM hPl hstep
          have HS : Hid (eP G v (x + 1 - s v) = P ++ [(u, v)]) := by
            show _ = _
            rw [← hstep]; congr 1; omega
          have hi1 := ind_len P v
          have ho1 := oc_le P (u + 1)
          have ci := hM.ind.cell hlt
          have fi := hM.ind.frozen v
          have co := hM.off.cell (show u + 1 < n + 1 by omega)
          have fo := hM.off.frozen (u + 1)
          have hM2 := hM.edge u v
          clear hM gr hstep eP' eu hj
          go_wp2_with fail
          go_roundg (gk - 1)
          case rel => exact ⟨x + 1, by omega, by omega, by omega, by go_num, by rw [HS.out]; exact hM2⟩
          case measure => omega
        · have hlx' : ¬ (x : Int) < s (v + 1) := by omega
          have hM2 : CM w.heap.size w n (idg (eU G (v + 1))) (oc (eU G (v + 1))) wr := by
            rw [← eP_full G v (x - s v) (by have := HL.out; omega)]; exact hM
          clear hM gr
          go_wp2_with fail
          go_roundg (og - 1)
          case rel => exact ⟨v + 1, by omega, by omega, by go_num, hM2⟩
          case measure => omega
    · have hlt' : ¬ (v : Int) < n := by omega
      have hvn : v = n := by omega
      have hM1 : CM w.heap.size w n (idg (eU G n)) (offAt (eU G n) 0) wr := by
        rw [hvn] at hM
        exact hM.congr (fun _ _ => rfl) (fun x _ => (offAt_zero _ x).symm)
      have hEl := g.E_len hL
      obtain ⟨E, hE⟩ : ∃ E, E = eU G n := ⟨_, rfl⟩
      rw [← hE] at hM1 hEl
      have HE : Hid (E = eU G n) := hE
      clear hM hvn hE
      go_wp2_with fail
      go_loopg [11] n (fun gh i wr => ∃ t : Nat, n - t ≤ gh ∧ t ≤ n ∧ i = .int .i64 t ∧ CM w.heap.size w n (idg E) (offAt E t) wr)
      case atStart => exact ⟨0, by omega, by omega, rfl, hM1⟩
      case round =>
        clear hM1 hlt hlt'
        obtain ⟨t, hgt, htn, rfl, hM⟩ := hrel
        by_cases hlt : t < n
        · have hlt' : (t : Int) < n := by omega
          have c1 := hM.off.cell (show t + 1 < n + 1 by omega)
          have c2 := hM.off.cell (show t < n + 1 by omega)
          have f1 := hM.off.frozen (t + 1)
          have hb := hM.off.lt
          simp only [offAt_next, offAt_here] at c1 c2
          have l1 := sc_len E t
          have l2 := OS_le E hEl t
          have HO : Hid (OS E (t + 1) = OS E t + (sc E t).length) := rfl
          have hy : (((sc E t).length : Int) + (OS E t : Nat)) = ((OS E (t + 1) : Nat) : Int) := by rw [HO.out]; omega
          have hM2 := hM.sum _ hy
          clear hy HO
          go_wp2_with fail
          go_region
          go_wp2_with fail
          go_roundg (gk - 1)
          case rel => exact ⟨t + 1, by omega, by omega, by go_num, hM2.drawn⟩
          case measure => omega
        · have hlt' : ¬ (t : Int) < n := by omega
          have hM2 := hM.summed (show n ≤ t by omega)
          have hsz := hM2.size
          have cn := hM2.off.cell (show n < n + 1 by omega)
          have hOn := OS_le E hEl n
          have hmk2 := make64 ((OS E n : Nat) : Int) ((OS E n : Nat) : Int) (OS E n) (OS E n) rfl rfl (Nat.le_refl _) (by omega) wr (w.heap.size + 2) hsz
          have hmk3 := make64 (n : Int) (n : Int) n n rfl rfl (Nat.le_refl _) (by omega) (wr.alloc (.cells (madeCells #[.int .i64 0] (OS E n)) 3)) (w.heap.size + 3) (by simp [hsz])
          have hS : CS w.heap.size w n (OS E n) (idg E) (OS E) (fun _ => .int .i64 0) (flAt E 0) _ := (CS.start (m := OS E n) hM2).refill (fun v _ => by simp [flAt])
          clear hM hlt hsz
          go_wp2_with fail
          clear hmk2 hmk3 hM2 cn
          go_loopg [14] n (fun gh i wr => ∃ t : Nat, n - t ≤ gh ∧ t ≤ n ∧ i = .int .i64 t ∧ CS w.heap.size w n (OS E n) (idg E) (OS E) (fun _ => .int .i64 0) (flAt E t) wr)
          case atStart => exact ⟨0, by omega, by omega, rfl, hS⟩
          case round =>
            clear hS hlt'
            obtain ⟨x, hgx, hxn, rfl, hM⟩ := hrel
            by_cases hlt : x < n
            · have hlt' : (x : Int) < n := by omega
              have c1 := hM.off.cell (show x < n + 1 by omega)
              have c2 := hM.fill.cell hlt
              have f2 := hM.fill.frozen x
              have hM2 := hM.copy
              clear hM
              go_wp2_with fail
              go_roundg (gk - 1)
              case rel => exact ⟨x + 1, by omega, by omega, by go_num, hM2⟩
              case measure => omega
            · have hlt' : ¬ (x : Int) < n := by omega
              have hM2 := CL.start hM (show n ≤ x by omega)
              clear hM hlt
              go_wp2_with fail
              go_loopg [15] n (fun gh i wr => ∃ v : Nat, n - v ≤ gh ∧ v ≤ n ∧ i = .int .i64 v ∧ CL w.heap.size w n E (eU G v) wr)
              case atStart => exact ⟨0, by omega, by omega, rfl, hM2⟩
              case round =>
                clear hM2 hlt' hg hgt hgx
                obtain ⟨v2, hg, hv2, rfl, hM⟩ := hrel
                by_cases hlt : v2 < n
                · have hlt' : (v2 : Int) < n := by omega
                  have hbel : Below w.heap.size w wr := by obtain ⟨_, hC, _⟩ := hM.mem; exact hC.bel
                  have gr := g.below hbel
                  have cv := gr.st v2 (by omega)
                  have cv' := gr.st (v2 + 1) (by omega)
                  have hb := gr.hb
                  have HL : Hid (s (v2 + 1) = s v2 + (G v2).length) := gr.len v2 hlt
                  have hsv : s v2 ≤ s (v2 + 1) := by have := HL.out; omega
                  have hle := gr.le (v2 + 1) (by omega)
                  have hM0 : CL w.heap.size w n E (eP G v2 (s v2 - s v2)) wr := by
                    rw [Nat.sub_self, eP_zero]; exact hM
                  clear gr hM hbel
                  obtain ⟨og, hog⟩ : ∃ og, og = gk := ⟨gk, rfl⟩
                  subst hog
                  go_wp2_with fail
                  go_loopg [16] (G v2).length (fun gh i wr => ∃ x : Nat, s (v2 + 1) - x ≤ gh ∧ s v2 ≤ x ∧ x ≤ s (v2 + 1) ∧ i = .int .i64 x ∧ CL w.heap.size w n E (eP G v2 (x - s v2)) wr)
                  case atStart => exact ⟨s v2, by have := HL.out; omega, by omega, by omega, rfl, hM0⟩
                  case round =>
                    clear cv cv' hM0 hb
                    obtain ⟨y, hgy, hy, hye, rfl, hM⟩ := hrel
                    have hbel : Below w.heap.size w wr := by obtain ⟨_, hC, _⟩ := hM.mem; exact hC.bel
                    have gr := g.below hbel
                    have cv' := gr.st (v2 + 1) (by omega)
                    have hb := gr.hb
                    have hb0 := g.hb
                    by_cases hlx : y < s (v2 + 1)
                    · have hlx' : (y : Int) < s (v2 + 1) := by omega
                      obtain ⟨b1, o1, rfl, hb1, ct0⟩ := g.tt v2 hlt y hy hlx
                      have ct := ct0
                      rw [← hbel.cell (by exact hb1)] at ct
                      clear ct0
                      have hj : y - s v2 < (G v2).length := by have := HL.out; omega
                      have hun : nn (G v2) (y - s v2) < n := by rw [nn_eq hj]; exact gr.lt v2 hlt _ (List.getElem_mem hj)
                      have hstep := eP_succ G v2 (y - s v2) hj
                      obtain ⟨R, hR⟩ := eP_prefix G hlt hj
                      rw [← nn_eq hj] at hstep hR
                      rw [← HE.out] at hR
                      obtain ⟨u, eu⟩ : ∃ u, u = nn (G v2) (y - s v2) := ⟨_, rfl⟩
                      rw [← eu] at ct hun hstep hR
                      obtain ⟨P, eP'⟩ : ∃ P, P = eP G v2 (y - s v2) := ⟨_, rfl⟩
                      rw [← eP'] at hM hstep hR
                      have HS : Hid (eP G v2 (y + 1 - s v2) = P ++ [(u, v2)]) := by
                        show _ = _
                        rw [← hstep]; congr 1; omega
                      have hfl := flP_lt hR hun
                      have hM2 := hM.edge hR hun
                      obtain ⟨f, hC, _⟩ := hM.mem
                      have cf := hC.fill.cell hun
                      have ff := hC.fill.frozen u
                      have cs := hC.succ.cell hfl
                      have fs := hC.succ.frozen (flP E P u)
                      have hz := hC.size
                      clear hM gr hstep eP' eu hj hR hC
                      obtain ⟨z, ez⟩ : ∃ z, z = flP E P u := ⟨_, rfl⟩
                      rw [← ez] at hfl hM2 cf cs fs
                      clear ez
                      go_wp2_with fail
                      go_roundg (gk - 1)
                      case rel => exact ⟨y + 1, by omega, by omega, by omega, by go_num, by rw [HS.out]; exact hM2⟩
                      case measure => omega
                    · have hlx' : ¬ (y : Int) < s (v2 + 1) := by omega
                      have hM2 : CL w.heap.size w n E (eU G (v2 + 1)) wr := by
                        rw [← eP_full G v2 (y - s v2) (by have := HL.out; omega)]; exact hM
                      clear hM gr hbel
                      go_wp2_with fail
                      go_roundg (og - 1)
                      case rel => exact ⟨v2 + 1, by omega, by omega, by go_num, hM2⟩
                      case measure => omega
                · have hlt' : ¬ (v2 : Int) < n := by omega
                  have hM2 : CL w.heap.size w n E E wr := by
                    have e : v2 = n := by omega
                    rw [e, ← HE.out] at hM
                    exact hM
                  have hsz : wr.heap.size = w.heap.size + 4 := by obtain ⟨_, hC, _⟩ := hM2.mem; exact hC.size
                  have hmk4 := make64 0 (n : Int) 0 n rfl rfl (Nat.zero_le _) (by omega) wr (w.heap.size + 4) hsz
                  have hQ := CQ.start hM2 (by unfold maxLen; omega)
                  clear hM hlt hsz hM2
                  go_wp2_with fail
                  clear hmk4
                  go_loopg [18, 19] n (fun gh qv i wr => ∃ (v : Nat) (q : List Nat), n - v ≤ gh ∧ v ≤ n ∧ i = .int .i64 v ∧ qv = .slice (some ⟨w.heap.size + 4, 0, none⟩) q.length n ∧ Hid (K0 G n v q) ∧ CQ w.heap.size w n E (idg E) q wr)
                  case atStart => exact ⟨0, [], by omega, by omega, rfl, rfl, K0.start G n, hQ⟩
                  case round =>
                    clear hQ hlt' hg
                    obtain ⟨v3, q, hg, hv3, rfl, rfl, HK, hM⟩ := hrel
                    have hroom := HK.out.room
                    by_cases hlt : v3 < n
                    · have hlt' : (v3 : Int) < n := by omega
                      have ci := hM.ind.cell hlt
                      have hzq := hM.size
                      by_cases hz : idg E v3 = 0
                      · rw [hz] at ci
                        have HK2 : Hid (K0 G n (v3 + 1) (q ++ [v3])) := HK.out.put hlt (by rw [← HE.out]; exact hz)
                        clear hz
                        go_wp2_with (at_builtin; refine wpList_append_fits _ rfl (.tmp 151) (.tmp 153) 24 rfl (w.heap.size + 4) 3 i3 1 Try.underlying24 hi3 hs3 (w.heap.size + 4) q.length n _ rfl (hM.que.alloc _) ⟨wr.heap.size, 0, none⟩ 1 1 [.int .i64 v3] rfl rfl ?f1 ?f2 ?f3 ?_)
                        case f1 => exact cell_one_new _ _ _
                        case f2 => simp [Value.oneCell']
                        case f3 => omega
                        intro w2 ho hgw
                        have hM2 := (hM.keep _).put v3 ho hgw
                        clear ho hgw hM ci
                        go_wp2_with fail
                        go_roundg (gk - 1)
                        case rel => exact ⟨v3 + 1, q ++ [v3], by omega, by omega, by go_num, by simp, HK2, hM2⟩
                        case measure => omega
                      · have hz' : ((idg E v3 : Int) == 0) = false := by simp; omega
                        have HK2 : Hid (K0 G n (v3 + 1) q) := HK.out.skip (by rw [← HE.out]; exact hz)
                        clear hz
                        go_wp2_with fail
                        go_roundg (gk - 1)
                        case rel => exact ⟨v3 + 1, q, by omega, by omega, by go_num, rfl, HK2, hM⟩
                        case measure => omega
                    · have hlt' : ¬ (v3 : Int) < n := by omega
                      have HK2 : Hid (Outer G n q (idg E) 0) := by
                        have e : v3 = n := by omega
                        have h := HK.out
                        rw [e] at h
                        refine ⟨by rw [HE.out]; exact h.done, Nat.zero_le _, fun x => ?_⟩
                        rw [List.take_zero, cnt_nil, HE.out]
                      have hrm : q.length ≤ n := by omega
                      clear HK hroom hlt
                      go_wp2_with fail
                      go_loopg [18, 20] n (fun gh qv kv wr => ∃ (k : Nat) (q : List Nat) (d : Nat → Nat), n - k ≤ gh ∧ kv = .int .i64 k ∧ qv = .slice (some ⟨w.heap.size + 4, 0, none⟩) q.length n ∧ Hid (Outer G n q d k) ∧ k ≤ q.length ∧ q.length ≤ n ∧ CQ w.heap.size w n E d q wr)
                      case atStart => exact ⟨0, q, idg E, by omega, rfl, rfl, HK2, by omega, hrm, hM⟩
                      case round =>
                        clear hM HK2 hrm hlt' hg
                        obtain ⟨k, q2, d, hg, rfl, rfl, HO, hkq, hqn, hM⟩ := hrel
                        by_cases hlt : k < q2.length
                        · have hlt' : (k : Int) < q2.length := by omega
                          obtain ⟨u, hu⟩ : ∃ u, q2[k]? = some u := ⟨q2[k], List.getElem?_eq_getElem hlt⟩
                          have hun : u < n := HO.out.1.lt u (List.mem_of_getElem? hu)
                          have cq := hM.at hlt hu
                          have hzq := hM.size
                          have c1' := hM.off.cell (show u < n + 1 by omega)
                          have c2' := hM.off.cell (show u + 1 < n + 1 by omega)
                          have HI0 : Hid (Inner G n q2 d k u (OS E u - OS E u)) := by
                            show Inner _ _ _ _ _ _ _
                            rw [Nat.sub_self]; exact HO.out.enter hlt hu
                          have HU : Hid (OS E (u + 1) = OS E u + (sc E u).length) := rfl
                          have hO1 : OS E u ≤ OS E (u + 1) := OS_mono E (Nat.le_succ u)
                          have hO2 : OS E (u + 1) ≤ OS E n := OS_mono E hun
                          have hO3 := OS_le E hEl n
                          clear hu HO
                          obtain ⟨og, hog⟩ : ∃ og, og = gk := ⟨gk, rfl⟩
                          subst hog
                          go_wp2_with fail
                          go_loopg [18, 22] (OS E (u + 1) - OS E u) (fun gh qv iv wr => ∃ (x : Nat) (q : List Nat) (d : Nat → Nat), OS E (u + 1) - x ≤ gh ∧ OS E u ≤ x ∧ x ≤ OS E (u + 1) ∧ iv = .int .i64 x ∧ qv = .slice (some ⟨w.heap.size + 4, 0, none⟩) q.length n ∧ Hid (Inner G n q d k u (x - OS E u)) ∧ k < q.length ∧ q.length ≤ n ∧ CQ w.heap.size w n E d q wr)
                          case atStart => exact ⟨OS E u, q2, d, by omega, by omega, by omega, rfl, rfl, HI0, hlt, hqn, hM⟩
                          case round =>
                            clear cq hzq c1' c2' HI0 hM hlt hlt' hqn hkq
                            obtain ⟨y, q3, d3, hgy, hy1, hy2, rfl, rfl, HI, hkq, hqn, hM⟩ := hrel
                            have c2' := hM.off.cell (show u + 1 < n + 1 by omega)
                            have hzq := hM.size
                            by_cases hlx : y < OS E (u + 1)
                            · have hlx' : (y : Int) < OS E (u + 1) := by omega
                              have hj : y - OS E u < (sc (eU G n) u).length := by rw [← HE.out]; have := HU.out; omega
                              obtain ⟨z, ez⟩ : ∃ z, (sc (eU G n) u)[y - OS E u] = z := ⟨_, rfl⟩
                              obtain ⟨hd0, hzn, _⟩ := HI.out.pos hj ez
                              have hdb := HI.out.bound z
                              rw [← HE.out] at hdb
                              obtain ⟨f, hf, hl⟩ := hM.succ
                              have cs := hf.cell (show y < OS E n by omega)
                              have ez' : f y = .int .i64 ((z : Nat) : Int) := by
                                have h := hl u hun (y - OS E u) (by have := HU.out; omega)
                                have e1 : OS E u + (y - OS E u) = y := by omega
                                have e2 : nn (sc E u) (y - OS E u) = z := by
                                  have hj' := hj
                                  rw [← HE.out] at hj'
                                  rw [nn_eq hj', ← ez]
                                  congr 1
                                  rw [HE.out]
                                rw [e1, e2] at h
                                exact h
                              rw [ez'] at cs
                              have ci := hM.ind.cell hzn
                              have fi := hM.ind.frozen z
                              clear hf hl ez'
                              by_cases hz0 : d3 z = 1
                              · have HI2 : Hid (Inner G n (q3 ++ [z]) (dec d3 z) k u (y + 1 - OS E u)) := by
                                  show Inner _ _ _ _ _ _ _
                                  have e1 : y + 1 - OS E u = y - OS E u + 1 := by omega
                                  rw [e1]; exact HI.out.push hj ez (by omega)
                                have hrm := HI2.out.1.room
                                rw [List.length_append] at hrm
                                have hrm' : q3.length + 1 ≤ n := hrm
                                have hM2 := hM.dec z 0 (by omega)
                                rw [hz0] at ci
                                clear hj ez HI hM hz0 hdb hd0 hrm
                                go_wp2_with (at_builtin; refine wpList_append_fits _ rfl (.tmp 193) (.tmp 195) 24 rfl (w.heap.size + 4) 3 i3 1 Try.underlying24 hi3 hs3 (w.heap.size + 4) q3.length n _ rfl (hM2.que.alloc _) ⟨wr.heap.size, 0, none⟩ 1 1 [.int .i64 z] rfl rfl ?g1 ?g2 ?g3 ?_)
                                case g1 => exact cell_one_at (by simp)
                                case g2 => simp [Value.oneCell']
                                case g3 => omega
                                intro w2 ho hgw
                                have hM3 := (hM2.keep _).put z ho hgw
                                clear ho hgw hM2 ci fi cs c2'
                                go_wp2_with fail
                                go_roundg (gk - 1)
                                case rel => exact ⟨y + 1, q3 ++ [z], dec d3 z, by omega, by omega, by omega, by go_num, by simp, HI2, by simp; omega, by simpa using hrm', hM3⟩
                                case measure => omega
                              · have hz' : (((d3 z : Nat) : Int) - 1 == 0) = false := by simp; omega
                                have HI2 : Hid (Inner G n q3 (dec d3 z) k u (y + 1 - OS E u)) := by
                                  show Inner _ _ _ _ _ _ _
                                  have e1 : y + 1 - OS E u = y - OS E u + 1 := by omega
                                  rw [e1]; exact HI.out.pass hj ez (by omega)
                                have hM2 := hM.dec z ((d3 z : Nat) - 1) (by omega)
                                clear hj ez HI hM hz0
                                go_wp2_with fail
                                go_roundg (gk - 1)
                                case rel => exact ⟨y + 1, q3, dec d3 z, by omega, by omega, by omega, by go_num, rfl, HI2, hkq, hqn, hM2⟩
                                case measure => omega
                            · have hlx' : ¬ (y : Int) < OS E (u + 1) := by omega
                              have HO2 : Hid (Outer G n q3 d3 (k + 1)) := HI.out.leave (by rw [← HE.out]; have := HU.out; omega)
                              clear HI
                              go_wp2_with fail
                              go_roundg (og - 1)
                              case rel => exact ⟨k + 1, q3, d3, by omega, by go_num, rfl, HO2, by omega, hqn, hM⟩
                              case measure => omega
                        · have hlt' : ¬ (k : Int) < q2.length := by omega
                          have HO2 : Hid (q2.length = n ↔ ∃ r, Rank G n r) := by
                            have e : k = q2.length := by omega
                            have h := HO.out
                            rw [e] at h
                            exact kahn_done h g.lt
                          clear HO hlt
                          go_wp2_with fail
                          go_ret
                          exact ⟨_, rfl, by rw [← HO2.out]; simp; omega, hM.bel⟩
end Go.Proofs.Qxb6603365a
