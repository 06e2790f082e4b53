import Derived.Test.Qxb6603365aFwdMem
import Derived.Deep.RegionWith
import Derived.Deep.DeepCutAuto
namespace Go.Proofs.Qxb6603365a
open Go.ChangeShapes Go.WideShapes Go.ChangeAt Go.RowKit

theorem make_at {P : Program} (t e : TypeId) (z : Value) (bytes : Nat) (ht : P.underlying t = some (.slice e)) (hinfo : (P.info? e).map (fun i => (i.zero, i.size, i.bytes)) = some (some z, 1, bytes)) (hz1 : z.cells = #[z])
    (l c : Int) (ln cn : Nat) (hl : l = ln) (hc : c = cn) (hlc : ln ≤ cn) (hbytes : bytes * cn ≤ 281474976710656) (h63 : cn ≤ 9223372036854775807) (w : World) :
    (Instr.makeSlice t (.int .i64 l) (.int .i64 c)).run P w = .ok (.slice (some ⟨w.heap.size, 0, none⟩) ln cn) (w.alloc (.cells (madeCells #[z] cn) e)) := by
  obtain ⟨i, hi, hz, hs, hb⟩ := info_parts hinfo
  have hb' : (i.bytes : Int) * c ≤ 281474976710656 := by
    have h : ((bytes * cn : Nat) : Int) ≤ 281474976710656 := by omega
    rw [hc, hb]
    rwa [Int.natCast_mul] at h
  have hr := run_make (P := P) w t e i z ht hi hz .i64 .i64 l c (by omega) (by omega) hb' (by omega)
  have e1 : l.toNat = ln := by omega
  have e2 : c.toNat = cn := by omega
  rw [hs, hz1, e1, e2, Nat.mul_one] at hr
  exact hr

theorem fmem_start (w : World) (n : Nat) {box : Obj} (hn : n ≤ maxLen) : FMem w.heap.size (w.alloc box) n St.start (.slice none 0 0) (((w.alloc box).alloc (.cells (madeCells #[.int .i32 0] n) 21)).alloc (.cells (madeCells #[.bool false] n) 4)) := by
  have hr := World.rowIs_made ((w.alloc box).alloc (.cells (madeCells #[.int .i32 0] n) 21)) (.bool false) n 4
  have hz : ((w.alloc box).alloc (.cells (madeCells #[.int .i32 0] n) 21)).heap.size = w.heap.size + 2 := by simp
  rw [hz] at hr
  have ho := World.ownsRow_made (base := w.heap.size + 1) (e := 21) (size := 1) (w.alloc box) (madeCells #[.int .i32 0] n) n (by simp) hn (by rw [size_madeCells]; omega)
  have hz2 : (w.alloc box).heap.size = w.heap.size + 1 := by simp
  rw [hz2] at ho
  refine ⟨?_, ho.alloc _, hr, World.ownsRow_nil _ _ _ _⟩
  exact ((Below.refl _ _).alloc (by simp) _).alloc (by simp) _

theorem cell_two_at {w : World} {n : Nat} {a b : Value} {t : TypeId} (hn : w.heap.size = n) : ∀ j u, [a, b][j]? = some u → (w.alloc (.cells #[a, b] t)).cell? ((⟨n, 0, none⟩ : Addr).add j) = some u := by
  subst hn
  exact cell_two_new _ _ _ _

theorem path_snoc {p : List (Nat × Nat)} (h : p ≠ []) : ∃ q v l, p = q ++ [(v, l)] := by
  rcases List.eq_nil_or_concat p with rfl | ⟨q, a, rfl⟩
  · exact absurd rfl h
  · exact ⟨q, a.1, a.2, by simp [List.concat_eq_append]⟩

theorem FMem.value {B : Nat} {w : World} {n : Nat} {s : St} {pv : Value} {wr : World} (h : FMem B w n s pv wr) : ∃ a cap, pv = .slice a s.path.length cap := by
  rcases h.path.2 with ⟨e, h0⟩ | ⟨g, cap, cur, e, _⟩
  · exact ⟨none, 0, by rw [h0]; exact e⟩
  · exact ⟨_, cap, e⟩

theorem fmem_reads {B : Nat} {w : World} {n : Nat} {s : St} {pv : Value} {wr : World} (h : FMem B w n s pv wr) : Reads .i32 wr (some ⟨B + 1, 0, none⟩) (s.order.map fun v => ((v : Nat) : Int)) := by
  intro i hi
  have hi' : i < s.order.length := by simpa using hi
  refine ⟨B + 1, 0, rfl, ?_⟩
  rw [Nat.zero_add, h.ord.cellAt i (by omega)]
  simp [ordCells, nth, hi']

def FPost (st tt : List Int) (w : World) (e : Ending) (w' : World) : Prop :=
  ∃ b cap order, e = .returned (.slice (some ⟨b, 0, none⟩) order.length cap) ∧ Reads .i32 w' (some ⟨b, 0, none⟩) (order.map fun v => ((v : Nat) : Int)) ∧ FwdPost (preds st tt) (st.length - 1) order ∧ Below w.heap.size w w'

set_option maxHeartbeats 1600000 in
set_option maxRecDepth 20000 in
theorem forwards_any (b0 o0 : Nat) (a1 : Option Addr) (c0 c1 : Nat) (st tt : List Int) (w : World) (h0 : st.length ≤ 131072) (h1 : tt.length ≤ 131072) (r0 : ∀ j, j < st.length → w.cell? ⟨b0, o0 + j, none⟩ = some (.int .i32 (nth st j))) (hb : b0 < w.heap.size) (b : B32 st)
    (r1 : Reads .i32 w a1 tt) (hA : AdjOK st tt) (hc : tt.length ≤ c1) :
    Calls Try.prog 24 #[.agg #[.slice (some ⟨b0, o0, none⟩) st.length c0, .slice a1 tt.length c1]] w (FPost st tt w) := by
  have hpos := hA.pos
  have hmk0 := make_at (P := Try.prog) 29 21 (.int .i32 0) 4 Try.underlying29 info21 rfl 0 ((st.length : Int) - 1) 0 (st.length - 1) rfl (by omega) (by omega) (by omega) (by omega)
  have hmk1 := make_at (P := Try.prog) 53 4 (.bool false) 1 Try.underlying53 info4 rfl ((st.length : Int) - 1) ((st.length : Int) - 1) (st.length - 1) (st.length - 1) (by omega) (by omega) (by omega) (by omega) (by omega)
  obtain ⟨i0, hi, hz0, hz1, hz2⟩ := info_parts info56
  obtain ⟨i1, hi1, _, hs1, _⟩ := info_parts info21
  go_enter Try.func24, Try.ntmps24
  go_wp2
  go_loopg [4, 6, 21] (st.length - 1) (fun g ov pv jv wr => ∃ (j : Nat) (s : St), st.length - 1 - j ≤ g ∧ j ≤ st.length - 1 ∧ jv = .int .i32 j ∧ ov = .slice (some ⟨w.heap.size + 1, 0, none⟩) s.order.length (st.length - 1) ∧ s.path = [] ∧ Inv (preds st tt) (st.length - 1) j s ∧ FMem w.heap.size (w.alloc (.cells #[.slice (some ⟨b0, o0, none⟩) st.length c0, .slice a1 tt.length c1] 45)) (st.length - 1) s pv wr)
  case atStart => exact ⟨0, St.start, by omega, by omega, rfl, rfl, rfl, inv_start _ _, fmem_start _ _ (by unfold maxLen; omega)⟩
  case round =>
    obtain ⟨j, s, hg, hj, rfl, rfl, hp, hI, hM⟩ := hrel
    have Hp : Hid (s.path = []) := hp
    clear hp hmk0 hmk1
    by_cases hlt : j < st.length - 1
    · have cs : wr.cell? ⟨w.heap.size + 1 + 1, j, none⟩ = some (.bool (s.seen j)) := hM.seen.cell hlt
      have fs : wr.frozen? ⟨w.heap.size + 1 + 1, j, none⟩ = false := hM.seen.frozen j
      by_cases hs : s.seen j = true
      · go_wp2
        go_roundg (gk - 1)
        case rel => exact ⟨j + 1, s, by omega, by omega, by go_num, rfl, Hp.out, inv_next hI Hp.out hs, hM⟩
        case measure => omega
      · have hs : s.seen j = false := by simpa using hs
        have hM1 := hM.mark j
        have hroom := inv_room hI
        have hz1' := hM1.size
        go_wp2_with (at_builtin; refine wpList_append_own _ rfl (.tmp 31) (.tmp 34) 54 rfl (w.heap.size + 3) 56 i0 (.agg #[.int .i32 0, .int .i32 0]) 2 8 Try.underlying54 hi hz0 hz1 hz2 rfl (by decide) _ _ _ rfl (hM1.path.alloc _) ⟨wr.heap.size, 0, none⟩ 1 1 [.int .i32 j, .int .i32 0] rfl rfl ?c1 ?c2 ?c3 ?c4 ?c5 ?_)
        case c1 => exact cell_two_at (by simp)
        case c2 => simp [Value.oneCell']
        case c3 => unfold maxLen; show s.path.length + 1 ≤ _; omega
        case c4 => show (s.path.length + 1) * 8 ≤ _; omega
        case c5 => simp at hz1' ⊢; omega
        intro v' w1 ho hgw _
        have hM2 := (hM1.keep (below_alloc _ _)).grow j ho hgw
        have hI2 := inv_enter hI Hp.out hs hlt
        have hM3 : FMem w.heap.size (w.alloc (.cells #[.slice (some ⟨b0, o0, none⟩) st.length c0, .slice a1 tt.length c1] 45)) (st.length - 1) ⟨s.order, upd s.seen j, [(j, 0)]⟩ v' w1 := by
          have e : s.path ++ [(j, 0)] = [(j, 0)] := by rw [Hp.out]; rfl
          rw [← e]
          exact hM2
        clear ho hgw hM2 hM1 hM hI cs fs hz1' hroom Hp
        obtain ⟨og, hog⟩ : ∃ og, og = gk := ⟨gk, rfl⟩
        subst hog
        go_wp2_with fail
        go_loopg [4, 6] (meas (preds st tt) (st.length - 1) ⟨s.order, upd s.seen j, [(j, 0)]⟩) (fun g ov pv wr => ∃ s' : St, meas (preds st tt) (st.length - 1) s' ≤ g ∧ ov = .slice (some ⟨w.heap.size + 1, 0, none⟩) s'.order.length (st.length - 1) ∧ s'.seen j = true ∧ Inv (preds st tt) (st.length - 1) j s' ∧ FMem w.heap.size (w.alloc (.cells #[.slice (some ⟨b0, o0, none⟩) st.length c0, .slice a1 tt.length c1] 45)) (st.length - 1) s' pv wr)
        case atStart => exact ⟨_, Nat.le_refl _, rfl, upd_same _ _, hI2, hM3⟩
        case round =>
          clear hI2 hM3
          obtain ⟨s', hm, rfl, hsj, hI', hM'⟩ := hrel
          by_cases hpe : s'.path = []
          · obtain ⟨a, cap, rfl⟩ := hM'.value
            have hl0 : s'.path.length = 0 := by rw [hpe]; rfl
            go_wp2_with fail
            go_roundg (og - 1)
            case rel => exact ⟨j + 1, s', by omega, by omega, by go_num, rfl, hpe, inv_next hI' hpe hsj, by first | exact hM' | (rw [hl0] at hM'; exact hM')⟩
            case measure => omega
          · obtain ⟨p, v, l, hpp⟩ := path_snoc hpe
            obtain ⟨g, cap, rfl, hg3, hcap⟩ := hM'.shape' hpp
            have hroom : s'.order.length + (p.length + 1) ≤ st.length - 1 := by have := inv_room hI'; rw [hpp] at this; simpa using this
            obtain ⟨t1, t2, t3, t4⟩ := hM'.top hpp
            have x0 : wr.cell? ⟨w.heap.size, 0, none⟩ = some (.slice (some ⟨b0, o0, none⟩) st.length c0) := by rw [hM'.bel.cell (by show w.heap.size < w.heap.size + 1; omega)]; simp
            have x1 : wr.cell? ⟨w.heap.size, 1, none⟩ = some (.slice a1 tt.length c1) := by rw [hM'.bel.cell (by show w.heap.size < w.heap.size + 1; omega)]; simp
            have Hm : Hid (meas (preds st tt) (st.length - 1) s' ≤ gk) := hm
            have Hpp : Hid (s'.path = p ++ [(v, l)]) := hpp
            clear hpe hpp hm
            have hvn : v < st.length - 1 := hI'.lt v (by simp [St.met, Hpp.out])
            have R0 : ∀ i, i < st.length → wr.cell? ⟨b0, o0 + i, none⟩ = some (.int .i32 (nth st i)) := fun i hi => by
              rw [hM'.bel.cell (by show b0 < w.heap.size + 1; omega), (below_alloc w _).cell (by exact hb)]; exact r0 i hi
            have R1 : Reads .i32 wr a1 tt := (r1.below (below_alloc w _)).below (hM'.bel.mono (by simp))
            have HR : Hid (∀ i, i < st.length → wr.cell? ⟨b0, o0 + i, none⟩ = some (.int .i32 (nth st i))) := R0
            have hbw : b0 < wr.heap.size := by have := hM'.size; omega
            have hwv : IntKind.i64.wrap ((v : Nat) : Int) = v := by rw [IntKind.wrap_i64]; omega
            clear R0
            go_upto_region 13 with fail
            go_cut [9] (fun pv wc => ∃ a', pv = .slice a' (preds st tt v).length (preds st tt v).length ∧ PReads wr a' (preds st tt v) ∧ Below wr.heap.size wr wc)
            case first =>
              go_region_with (go_at_call 26; refine (of_any b0 o0 a1 c0 c1 st tt v _ (by omega) ?_ ?_ b ?_ hA (by omega) hc).mono ?_; exact HR.out; exact hbw; exact R1; rintro e w' ⟨a', rfl, hpr, rfl⟩)
              all_goals
                go_wp2_with fail
                go_meet
                case rel => exact ⟨_, rfl, by assumption, ((below_alloc wr _).drew).drew⟩
            case rest =>
              obtain ⟨a', rfl, hpr, hbc⟩ := hcut
              have hM4 := hM'.keep hbc
              have hlk := (hI'.looked (v, l) (by rw [Hpp.out]; simp)).1
              have hlk' : l ≤ (preds st tt v).length := hlk
              have hpl := preds_len_le st tt v
              clear t1 t2 t3 t4 x0 x1 HR R1 hbw hwv hM' hlk
              obtain ⟨t1, t2, t3, t4⟩ := hM4.top Hpp.out
              by_cases hl : l < (preds st tt v).length
              · obtain ⟨b', off', rfl, hb', hcell⟩ := hpr l hl
                have hcell' : wc.cell? ⟨b', off' + l, none⟩ = some (.int .i32 ((nn (preds st tt v) l : Nat) : Int)) := by rw [hbc.cell (by exact hb')]; exact hcell
                have hu := (preds_at hA (show v + 1 < st.length by omega) hl).2
                have hue := nn_eq hl
                obtain ⟨u, eu⟩ : ∃ u, u = nn (preds st tt v) l := ⟨_, rfl⟩
                rw [← eu] at hcell' hu hue
                have Hue : Hid (u = (preds st tt v)[l]) := hue
                have cs : wc.cell? ⟨w.heap.size + 1 + 1, u, none⟩ = some (.bool (s'.seen u)) := hM4.seen.cell hu
                have fs : wc.frozen? ⟨w.heap.size + 1 + 1, u, none⟩ = false := hM4.seen.frozen u
                have hM5 := hM4.look Hpp.out hg3
                clear hcell hpr eu hue hM4
                by_cases hsu : s'.seen u = true
                · go_wp2_with fail
                  go_roundg (gk - 1)
                  case rel => exact ⟨⟨s'.order, s'.seen, p ++ [(v, l + 1)]⟩, by have := meas_see (n := st.length - 1) Hpp.out hl; have := Hm.out; omega, rfl, hsj, inv_see hI' Hpp.out hl (by rw [← Hue.out]; exact hsu), hM5⟩
                  case measure => have := meas_see (n := st.length - 1) Hpp.out hl; have := Hm.out; omega
                · have hsu : s'.seen u = false := by simpa using hsu
                  have hM6 := hM5.mark u
                  have hz6 := hM6.size
                  have hms := meas_push (n := st.length - 1) Hpp.out hl hsu hu
                  have HI : Hid (Inv (preds st tt) (st.length - 1) j ⟨s'.order, upd s'.seen u, p ++ [(v, l + 1)] ++ [(u, 0)]⟩) := inv_push hI' Hpp.out hl (by rw [← Hue.out]; exact hsu) (by rw [← Hue.out]; exact hu) Hue.out
                  have Hms : Hid (meas (preds st tt) (st.length - 1) ⟨s'.order, upd s'.seen u, p ++ [(v, l + 1)] ++ [(u, 0)]⟩ < meas (preds st tt) (st.length - 1) s') := hms
                  clear hms
                  go_wp2_with (at_builtin; refine wpList_append_own _ rfl (.tmp 81) (.tmp 84) 54 rfl (w.heap.size + 3) 56 i0 (.agg #[.int .i32 0, .int .i32 0]) 2 8 Try.underlying54 hi hz0 hz1 hz2 rfl (by decide) _ _ _ rfl (hM6.path.alloc _) ⟨wc.heap.size, 0, none⟩ 1 1 [.int .i32 u, .int .i32 0] rfl rfl ?e1 ?e2 ?e3 ?e4 ?e5 ?_)
                  case e2 => simp [Value.oneCell']
                  case e3 => unfold maxLen; omega
                  case e4 => omega
                  case e5 => simp at hz6; omega
                  intro v'' w2 ho hgw _
                  have hM7 := (hM6.keep (below_alloc _ _)).grow u (by show World.ownsRow _ _ _ _ _ ((p ++ [(v, l + 1)]).length + 1) _; rw [List.length_append]; exact ho) hgw
                  clear ho hgw hM6 hM5 cs fs hz6
                  go_wp2_with fail
                  go_roundg (gk - 1)
                  case rel => exact ⟨⟨s'.order, upd s'.seen u, p ++ [(v, l + 1)] ++ [(u, 0)]⟩, by have := Hms.out; have := Hm.out; omega, rfl, (upd_iff _ _ _).2 (.inr hsj), HI.out, hM7⟩
                  case measure => have := Hms.out; have := Hm.out; omega
              · have hz4 := hM4.size
                go_wp2_with (at_builtin; refine wpList_append_fits _ rfl (.tmp 86) (.tmp 91) 29 rfl (w.heap.size + 1) 21 i1 1 Try.underlying29 hi1 hs1 (w.heap.size + 1) s'.order.length (st.length - 1) _ rfl (hM4.ord.alloc _) ⟨wc.heap.size, 0, none⟩ 1 1 [.int .i32 v] rfl rfl ?f1 ?f2 ?f3 ?_)
                case f1 => exact cell_one_new _ _ _
                case f2 => simp [Value.oneCell']
                case f3 => omega
                intro w2 ho hgw
                have hM8 := ((hM4.keep (below_alloc _ _)).put v ho hgw).pop Hpp.out
                clear ho hgw
                go_wp2_with fail
                go_roundg (gk - 1)
                case rel => exact ⟨⟨s'.order ++ [v], s'.seen, p⟩, by have := meas_pop (G := preds st tt) (n := st.length - 1) Hpp.out; have := Hm.out; omega, by simp, hsj, inv_pop hI' Hpp.out (by omega), hM8⟩
                case measure => have := meas_pop (G := preds st tt) (n := st.length - 1) Hpp.out; have := Hm.out; omega
    · have ej : j = st.length - 1 := by omega
      have HJ : Hid (j = st.length - 1) := ej
      clear ej
      go_wp2
      go_ret
      exact ⟨w.heap.size + 1, st.length - 1, s.order, rfl, fmem_reads hM, inv_done (by have := hI; rw [HJ.out] at this; exact this) Hp.out, (below_alloc w _).trans (hM.bel.mono (by omega))⟩
end Go.Proofs.Qxb6603365a
