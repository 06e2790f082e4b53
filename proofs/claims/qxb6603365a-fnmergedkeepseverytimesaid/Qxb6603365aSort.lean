/-
  'zzSortInts' (11), 'zzSameInts' (13).
-/
import Derived.Test.Qxb6603365aSortPlain
import Derived.Test.Qxb6603365aBase
namespace Go.Proofs.Qxb6603365a
open Go.ChangeShapes Go.WideShapes Go.ChangeAt Go.RowKit

def SPost (xs : List Int) (w : World) (e : Ending) (w' : World) : Prop :=
  ∃ b zs c', e = .returned (.slice (some ⟨b, 0, none⟩) zs.length c') ∧ zs.Perm xs ∧ Asc zs ∧ Reads .i64 w' (some ⟨b, 0, none⟩) zs ∧ Below w.heap.size w w'

theorem row_step {w : World} {b n k : Nat} {f : Nat → Int} (h : w.rowIs b 3 n (fun j => if j < k then .int .i64 (f j) else .int .i64 0)) : (w.setCell ⟨b, k, none⟩ (.int .i64 (f k))).rowIs b 3 n (fun j => if j < k + 1 then .int .i64 (f j) else .int .i64 0) := by
  refine (h.set k _).congr fun j _ => ?_
  by_cases e : j = k
  · subst e; simp
  · simp only [e, if_false]
    by_cases l : j < k
    · rw [if_pos l, if_pos (by omega)]
    · rw [if_neg l, if_neg (by omega)]

theorem reads_row64 {w : World} {b : Nat} {t : TypeId} {zs : List Int} {f : Nat → Value} (hr : w.rowIs b t zs.length f) (hf : ∀ j, j < zs.length → f j = .int .i64 (nth zs j)) : Reads .i64 w (some ⟨b, 0, none⟩) zs := by
  intro i hi
  exact ⟨b, 0, rfl, by rw [Nat.zero_add, hr.cell hi, hf i hi]⟩

set_option maxHeartbeats 400000 in
theorem sort_short (xs : List Int) (a : Option Addr) (len cap : Nat) (w : World) (hx : xs.length = len) (h1 : len ≤ 1) (hr : Reads .i64 w a xs) : Calls Try.prog 11 #[.slice a len cap] w (SPost xs w) := by
  have Hx : Hid (xs.length = len) := hx
  clear hx
  have h1' : (len : Int) ≤ 1 := by omega
  have hmk := run_make_row' (P := Try.prog) 24 3 (.int .i64 0) 8 Try.underlying24 info3 rfl .i64 .i64 len (by omega) (by omega)
  go_enter Try.func11, Try.ntmps11
  go_wp2_with fail
  go_loopg [5] len (fun g i wr => ∃ k : Nat, len - k ≤ g ∧ k ≤ len ∧ i = .int .i64 k ∧ wr.rowIs w.heap.size 3 len (fun j => if j < k then .int .i64 (nth xs j) else .int .i64 0) ∧ Below w.heap.size w wr)
  case atStart => exact ⟨0, by omega, by omega, rfl, (World.rowIs_made w _ _ _).congr (by intro j _; simp), (Below.refl _ _).alloc (Nat.le_refl _) _⟩
  case round =>
    obtain ⟨k, hg, hk, rfl, hrow, hbel⟩ := hrel
    by_cases hlt : k < len
    · obtain ⟨b, off, rfl, hb, hc⟩ := hr.at (show k < xs.length by rw [Hx.out]; exact hlt)
      have hck : wr.cell? ⟨b, off + k, none⟩ = some (.int .i64 (nth xs k)) := by rw [hbel.cell (by exact hb)]; exact hc k (by rw [Hx.out]; exact hlt)
      have hcd := hrow.cell hlt
      have hfd := hrow.frozen k
      have R := row_step hrow
      have R2 := hbel.setCell (p := ⟨w.heap.size, k, none⟩) (Nat.le_refl _) (.int .i64 (nth xs k))
      go_wp2_with fail
      go_roundg (gk - 1)
      case rel => exact ⟨k + 1, by omega, by omega, by go_num, R, R2⟩
      case measure => omega
    · go_wp2_with fail
      go_ret
      have e := Hx.out
      subst e
      refine ⟨w.heap.size, xs, xs.length, rfl, List.Perm.refl _, ?_, reads_row64 hrow (by intro j hj; rw [if_pos (by omega)]), hbel⟩
      match xs, h1 with
      | [], _ => exact List.Pairwise.nil
      | [x], _ => exact List.pairwise_singleton _ _

/-- The output under way. -/
structure SMem (B : Nat) (W : World) (cap : Nat) (out : List Int) (wr : World) : Prop where
  bel : Below B W wr
  lt : B < wr.heap.size
  own : wr.ownsRow B 3 1 (.slice (some ⟨B, 0, none⟩) out.length cap) out.length (out.map (Value.int .i64))

theorem SMem.like {B : Nat} {W : World} {cap : Nat} {out : List Int} {wr w' : World} (h : SMem B W cap out wr) (h1 : w'.heap = wr.heap) (h2 : w'.os = wr.os) (h3 : w'.tape = wr.tape) (h4 : w'.output = wr.output) : SMem B W cap out w' := by
  refine ⟨h.bel.trans ⟨h2, h3, h4, by rw [h1]; exact Nat.le_refl _, fun k _ => by rw [h1]⟩, by rw [h1]; exact h.lt, ?_⟩
  have := h.own
  unfold World.ownsRow at this ⊢
  rw [h1]
  exact this

theorem SMem.put {B : Nat} {W : World} {cap : Nat} {out : List Int} {wr w' : World} {o : Obj} {x : Int} (h : SMem B W cap out wr) (ho : w'.ownsRow B 3 1 (.slice (some ⟨B, 0, none⟩) (out.length + 1) cap) (out.length + 1) (out.map (Value.int .i64) ++ [.int .i64 x])) (hg : (wr.alloc o).grownBy w' (some B)) :
    SMem B W cap (out ++ [x]) w' := by
  have hl := h.lt
  refine ⟨(h.bel.alloc (by omega) o).grown hg (by simp; omega) (fun k hk => by simp at hk; omega), by have := hg.size; simp at this; omega, ?_⟩
  have e : (out ++ [x]).map (Value.int .i64) = out.map (Value.int .i64) ++ [.int .i64 x] := by simp
  rw [e, List.length_append]
  exact ho

theorem SMem.reads {B : Nat} {W : World} {cap : Nat} {out : List Int} {wr : World} (h : SMem B W cap out wr) : Reads .i64 wr (some ⟨B, 0, none⟩) out := by
  intro i hi
  refine ⟨B, 0, rfl, ?_⟩
  rw [Nat.zero_add, h.own.cellAt i (by omega)]
  simp [nth, hi]

theorem smem_start (w : World) (n : Nat) (hn : n ≤ maxLen) : SMem w.heap.size w n [] (w.alloc (.cells (madeCells #[.int .i64 0] n) 3)) :=
  ⟨(Below.refl _ _).alloc (Nat.le_refl _) _, by simp, World.ownsRow_made w _ n (Nat.le_refl _) hn (by rw [size_madeCells]; omega)⟩

theorem cell_one_at {w : World} {n : Nat} {v : Value} {t : TypeId} (hn : w.heap.size = n) : ∀ j u, [v][j]? = some u → (w.alloc (.cells #[v] t)).cell? ((⟨n, 0, none⟩ : Addr).add j) = some u := by
  subst hn
  exact cell_one_new _ _ _

theorem Reads.cell0 {k : IntKind} {w : World} {b : Nat} {zs : List Int} (h : Reads k w (some ⟨b, 0, none⟩) zs) {i : Nat} (hi : i < zs.length) : w.cell? ⟨b, i, none⟩ = some (.int k (nth zs i)) ∧ b < w.heap.size := by
  obtain ⟨b', off, e, hc⟩ := h i hi
  cases e
  rw [Nat.zero_add] at hc
  exact ⟨hc, World.block_lt_of_cell? w _ hc⟩

theorem nth_get {zs : List Int} {i : Nat} (h : i < zs.length) : nth zs i = zs[i] := by simp [nth, h]

theorem li_left' {l r out : List Int} {i j : Nat} (h : LI l r out i j) (al : Asc l) (ar : Asc r) (hi : i < l.length) (hc : j < r.length → nth l i ≤ nth r j) : LI l r (out ++ [nth l i]) (i + 1) j := by
  rw [nth_get hi]
  exact li_left h al ar hi (fun hj => by have := hc hj; rw [nth_get hi, nth_get hj] at this; exact this)
theorem li_right' {l r out : List Int} {i j : Nat} (h : LI l r out i j) (al : Asc l) (ar : Asc r) (hj : j < r.length) (hc : i < l.length → nth r j ≤ nth l i) : LI l r (out ++ [nth r j]) i (j + 1) := by
  rw [nth_get hj]
  exact li_right h al ar hj (fun hi => by have := hc hi; rw [nth_get hi, nth_get hj] at this; exact this)

theorem reads_take {w : World} {b off : Nat} {xs : List Int} {n : Nat} (h : ∀ j, j < xs.length → w.cell? ⟨b, off + j, none⟩ = some (.int .i64 (nth xs j))) : Reads .i64 w (some ⟨b, off, none⟩) (xs.take n) := by
  intro i hi
  have hi' : i < n ∧ i < xs.length := by rw [List.length_take] at hi; omega
  refine ⟨b, off, rfl, ?_⟩
  rw [h i hi'.2]
  simp [nth, hi'.1, hi'.2]

theorem reads_drop {w : World} {b off : Nat} {xs : List Int} {n : Nat} (h : ∀ j, j < xs.length → w.cell? ⟨b, off + j, none⟩ = some (.int .i64 (nth xs j))) : Reads .i64 w (some ⟨b, off + n, none⟩) (xs.drop n) := by
  intro i hi
  have hi' : i < xs.length - n := by simpa using hi
  refine ⟨b, off + n, rfl, ?_⟩
  rw [Nat.add_assoc, h (n + i) (by omega)]
  have : n + i < xs.length := by omega
  simp [nth, this]

theorem make_cap {P : Program} (t e : TypeId) (z : Value) (bytes : Nat) (ht : P.underlying t = some (.slice e)) (hinfo : (P.info? e).map (fun i => (i.zero, i.size, i.bytes)) = some (some z, 1, bytes)) (hz1 : z.cells = #[z])
    (l c : Int) (ln cn : Nat) (hl : l = ln) (hc : c = cn) (hlc : ln ≤ cn) (hbytes : bytes * cn ≤ 281474976710656) (h63 : cn ≤ 9223372036854775807) (w : World) :
    (Instr.makeSlice t (.int .i64 l) (.int .i64 c)).run P w = .ok (.slice (some ⟨w.heap.size, 0, none⟩) ln cn) (w.alloc (.cells (madeCells #[z] cn) e)) := by
  obtain ⟨i, hi, hz, hs, hb⟩ := info_parts hinfo
  have hb' : (i.bytes : Int) * c ≤ 281474976710656 := by
    have h : ((bytes * cn : Nat) : Int) ≤ 281474976710656 := by omega
    rw [hc, hb]
    rwa [Int.natCast_mul] at h
  have hr := run_make (P := P) w t e i z ht hi hz .i64 .i64 l c (by omega) (by omega) hb' (by omega)
  have e1 : l.toNat = ln := by omega
  have e2 : c.toNat = cn := by omega
  rw [hs, hz1, e1, e2, Nat.mul_one] at hr
  exact hr

set_option maxHeartbeats 1600000 in
set_option maxRecDepth 20000 in
theorem sort_any (n : Nat) : ∀ (xs : List Int) (a : Option Addr) (len cap : Nat) (w : World), xs.length = len → len ≤ n → len ≤ cap → len ≤ 1048576 → Reads .i64 w a xs → Calls Try.prog 11 #[.slice a len cap] w (SPost xs w) := by
  induction n with
  | zero =>
    intro xs a len cap w hx hn _ _ hr
    exact sort_short xs a len cap w hx (by omega) hr
  | succ n ih =>
    intro xs a len cap w hx hn hcap hb hr
    by_cases h1 : len ≤ 1
    · exact sort_short xs a len cap w hx h1 hr
    · obtain ⟨b, off, rfl, hbl, hc⟩ := hr.at (show 0 < xs.length by omega)
      have t1 : (xs.take (len / 2)).length = len / 2 := by rw [List.length_take]; omega
      have t2 : (xs.drop (len / 2)).length = len - len / 2 := by rw [List.length_drop]; omega
      have k1 := fun w' (r : Reads .i64 w' (some ⟨b, off, none⟩) (xs.take (len / 2))) => ih (xs.take (len / 2)) (some ⟨b, off, none⟩) (len / 2) cap w' t1 (by omega) (by omega) (by omega) r
      have k2 := fun w' (r : Reads .i64 w' (some ⟨b, off + len / 2, none⟩) (xs.drop (len / 2))) => ih (xs.drop (len / 2)) (some ⟨b, off + len / 2, none⟩) (len - len / 2) (cap - len / 2) w' t2 (by omega) (by omega) (by omega) r
      have K1 : Hid (∀ w', Reads .i64 w' (some ⟨b, off, none⟩) (xs.take (len / 2)) → Calls Try.prog 11 #[.slice (some ⟨b, off, none⟩) (len / 2) cap] w' (SPost (xs.take (len / 2)) w')) := k1
      have K2 : Hid (∀ w', Reads .i64 w' (some ⟨b, off + len / 2, none⟩) (xs.drop (len / 2)) → Calls Try.prog 11 #[.slice (some ⟨b, off + len / 2, none⟩) (len - len / 2) (cap - len / 2)] w' (SPost (xs.drop (len / 2)) w')) := k2
      have hmk := make_cap (P := Try.prog) 24 3 (.int .i64 0) 8 Try.underlying24 info3 rfl 0 (len : Int) 0 len rfl rfl (by omega) (by omega) (by omega)
      have R1 := reads_take (n := len / 2) hc
      have R2 := reads_drop (n := len / 2) hc
      have HT : Hid (xs.take (len / 2) ++ xs.drop (len / 2) = xs) := List.take_append_drop _ _
      have hL : ((xs.take (len / 2)).length + (xs.drop (len / 2)).length) = len := by omega
      have HL : Hid ((xs.take (len / 2)).length + (xs.drop (len / 2)).length = len) := hL
      clear k1 k2 ih t1 t2 hr hc hx hL
      have h1' : ¬ (len : Int) ≤ 1 := by omega
      obtain ⟨i3, hi3, _, hs3, _⟩ := info_parts info3
      go_enter Try.func11, Try.ntmps11
      go_wp2_with fail
      refine (K1.out w R1).mono ?_
      rintro e w1 ⟨b1, l, c1, rfl, pl, al, rl, hb1⟩
      go_wp2_with fail
      refine (K2.out w1 (R2.below hb1)).mono ?_
      rintro e w2 ⟨b2, r, c2, rfl, pr, ar, rr, hb2⟩
      have rl2 := rl.below hb2
      have HLR : Hid (l.length + r.length = len) := by rw [pl.length_eq, pr.length_eq]; exact HL.out
      have hle : l.length + r.length ≤ len := by have := HLR.out; omega
      have hbel : Below w.heap.size w w2 := hb1.trans (hb2.mono hb1.size)
      have HE : Hid (∀ out i j w', LI l r out i j → l.length ≤ i → r.length ≤ j → SMem w2.heap.size w2 len out w' → SPost xs w (.returned (.slice (some ⟨w2.heap.size, 0, none⟩) out.length len)) w') := by
        intro out i j w' hLI h1 h2 hS
        obtain ⟨q1, q2⟩ := li_done hLI h1 h2
        refine ⟨w2.heap.size, out, len, rfl, ?_, q2, hS.reads, hbel.trans (hS.bel.mono hbel.size)⟩
        have := q1.trans (pl.append pr)
        rw [HT.out] at this
        exact this
      clear K1 K2 R1 R2 HL rl hb1 hb2 pl pr HT h1 hbel
      go_wp2_with fail
      clear hmk
      go_loopg [9, 10, 11] len (fun g ov iv jv wr => ∃ (out : List Int) (i j : Nat), LI l r out i j ∧ len - (i + j) ≤ g ∧ ov = .slice (some ⟨w2.heap.size, 0, none⟩) out.length len ∧ iv = .int .i64 i ∧ jv = .int .i64 j ∧ SMem w2.heap.size w2 len out wr)
      case atStart => exact ⟨[], 0, 0, li_start l r, by omega, rfl, rfl, rfl, smem_start w2 len (by unfold maxLen; omega)⟩
      case round =>
        obtain ⟨out, i, j, hLI, hg, rfl, rfl, rfl, hS⟩ := hrel
        have q1 := hLI.hi
        have q2 := hLI.hj
        have q3 := hLI.len
        have HQ : Hid (out.length = i + j) := q3
        have q4 : out.length ≤ len := by omega
        clear q3
        by_cases hi : i < l.length
        · by_cases hj : j < r.length
          · have hi' : (i : Int) < l.length := by omega
            have hj' : (j : Int) < r.length := by omega
            obtain ⟨cl, bl⟩ := rl2.cell0 hi
            obtain ⟨cr, br⟩ := rr.cell0 hj
            have cl' : wr.cell? ⟨b1, i, none⟩ = some (.int .i64 (nth l i)) := by rw [hS.bel.cell (by exact bl)]; exact cl
            have cr' : wr.cell? ⟨b2, j, none⟩ = some (.int .i64 (nth r j)) := by rw [hS.bel.cell (by exact br)]; exact cr
            have hroom : out.length + 1 ≤ len := by have := HQ.out; omega
            clear cl cr
            by_cases hlt : nth r j < nth l i
            · go_wp2_with fail
              go_quiet (fail)
              have hS' := hS.like (w' := wr.drewN nq) rfl rfl rfl rfl
              go_wp2_with (at_builtin; refine wpList_append_fits _ rfl (.tmp 62) (.tmp 67) 24 rfl w2.heap.size 3 i3 1 Try.underlying24 hi3 hs3 w2.heap.size out.length len _ rfl (hS'.own.alloc _) ⟨wr.heap.size, 0, none⟩ 1 1 [.int .i64 (nth r j)] rfl rfl ?f1 ?f2 hroom ?_)
              case f1 => exact cell_one_at rfl
              case f2 => simp [Value.oneCell']
              intro w3 ho hgr
              have hS3 := hS'.put ho hgr
              clear ho hgr cl' cr' hS hS'
              go_wp2_with fail
              go_roundg (gk - 1)
              case rel => exact ⟨out ++ [nth r j], i, j + 1, li_right' hLI al ar hj (fun _ => by omega), by omega, by simp, rfl, by go_num, hS3⟩
              case measure => omega
            · go_wp2_with fail
              go_quiet (fail)
              have hS' := hS.like (w' := wr.drewN nq) rfl rfl rfl rfl
              go_wp2_with (at_builtin; refine wpList_append_fits _ rfl (.tmp 71) (.tmp 76) 24 rfl w2.heap.size 3 i3 1 Try.underlying24 hi3 hs3 w2.heap.size out.length len _ rfl (hS'.own.alloc _) ⟨wr.heap.size, 0, none⟩ 1 1 [.int .i64 (nth l i)] rfl rfl ?f1' ?f2' hroom ?_)
              case f1' => exact cell_one_at rfl
              case f2' => simp [Value.oneCell']
              intro w3 ho hgr
              have hS3 := hS'.put ho hgr
              clear ho hgr cl' cr' hS hS'
              go_wp2_with fail
              go_roundg (gk - 1)
              case rel => exact ⟨out ++ [nth l i], i + 1, j, li_left' hLI al ar hi (fun _ => by omega), by omega, by simp, by go_num, rfl, hS3⟩
              case measure => omega
          · have hend : l.length ≤ i ∨ r.length ≤ j := by omega
            go_wp2_with fail
            go_loopg [9, 10] len (fun g ov iv wr => ∃ (out : List Int) (i : Nat), LI l r out i j ∧ (l.length ≤ i ∨ r.length ≤ j) ∧ len - i ≤ g ∧ ov = .slice (some ⟨w2.heap.size, 0, none⟩) out.length len ∧ iv = .int .i64 i ∧ SMem w2.heap.size w2 len out wr)
            case atStart => exact ⟨out, i, hLI, hend, by omega, rfl, rfl, hS⟩
            case round =>
              clear hLI hS hend HQ q4 hi q1
              obtain ⟨out, i, hLI, hend, hg, rfl, rfl, hS⟩ := hrel
              have q1 := hLI.hi
              have HQ : Hid (out.length = i + j) := hLI.len
              by_cases hi : i < l.length
              · have hi' : (i : Int) < l.length := by omega
                obtain ⟨cl, bl⟩ := rl2.cell0 hi
                have cl' : wr.cell? ⟨b1, i, none⟩ = some (.int .i64 (nth l i)) := by rw [hS.bel.cell (by exact bl)]; exact cl
                have hroom : out.length + 1 ≤ len := by have := HQ.out; omega
                clear cl
                go_wp2_with (at_builtin; refine wpList_append_fits _ rfl (.tmp 86) (.tmp 91) 24 rfl w2.heap.size 3 i3 1 Try.underlying24 hi3 hs3 w2.heap.size out.length len _ rfl (hS.own.alloc _) ⟨wr.heap.size, 0, none⟩ 1 1 [.int .i64 (nth l i)] rfl rfl ?m1a ?m2a hroom ?_)
                case m1a => exact cell_one_at rfl
                case m2a => simp [Value.oneCell']
                intro w3 ho hgr
                have hS3 := hS.put ho hgr
                clear ho hgr cl' hS
                go_wp2_with fail
                go_roundg (gk - 1)
                case rel => exact ⟨out ++ [nth l i], i + 1, li_left' hLI al ar hi (fun hj => by omega), by omega, by omega, by simp, by go_num, hS3⟩
                case measure => omega
              · go_wp2_with fail
                go_loopg [9, 11] len (fun g ov jv wr => ∃ (out : List Int) (j : Nat), LI l r out i j ∧ len - j ≤ g ∧ ov = .slice (some ⟨w2.heap.size, 0, none⟩) out.length len ∧ jv = .int .i64 j ∧ SMem w2.heap.size w2 len out wr)
                case atStart => exact ⟨out, j, hLI, by omega, rfl, rfl, hS⟩
                case round =>
                  clear hLI hS hend HQ q2
                  obtain ⟨out, j, hLI, hg, rfl, rfl, hS⟩ := hrel
                  have q2 := hLI.hj
                  have HQ : Hid (out.length = i + j) := hLI.len
                  by_cases hj : j < r.length
                  · have hj' : (j : Int) < r.length := by omega
                    obtain ⟨cr, br⟩ := rr.cell0 hj
                    have cr' : wr.cell? ⟨b2, j, none⟩ = some (.int .i64 (nth r j)) := by rw [hS.bel.cell (by exact br)]; exact cr
                    have hroom : out.length + 1 ≤ len := by have := HQ.out; omega
                    clear cr
                    go_wp2_with (at_builtin; refine wpList_append_fits _ rfl (.tmp 99) (.tmp 104) 24 rfl w2.heap.size 3 i3 1 Try.underlying24 hi3 hs3 w2.heap.size out.length len _ rfl (hS.own.alloc _) ⟨wr.heap.size, 0, none⟩ 1 1 [.int .i64 (nth r j)] rfl rfl ?n1a ?n2a hroom ?_)
                    case n1a => exact cell_one_at rfl
                    case n2a => simp [Value.oneCell']
                    intro w3 ho hgr
                    have hS3 := hS.put ho hgr
                    clear ho hgr cr' hS
                    go_wp2_with fail
                    go_roundg (gk - 1)
                    case rel => exact ⟨out ++ [nth r j], j + 1, li_right' hLI al ar hj (fun hi2 => by omega), by omega, by simp, by go_num, hS3⟩
                    case measure => omega
                  · go_wp2_with fail
                    go_ret
                    exact HE.out out i j _ hLI (by omega) (by omega) hS
        · have hend : l.length ≤ i ∨ r.length ≤ j := by omega
          go_wp2_with fail
          go_loopg [9, 10] len (fun g ov iv wr => ∃ (out : List Int) (i : Nat), LI l r out i j ∧ (l.length ≤ i ∨ r.length ≤ j) ∧ len - i ≤ g ∧ ov = .slice (some ⟨w2.heap.size, 0, none⟩) out.length len ∧ iv = .int .i64 i ∧ SMem w2.heap.size w2 len out wr)
          case atStart => exact ⟨out, i, hLI, hend, by omega, rfl, rfl, hS⟩
          case round =>
            clear hLI hS hend HQ q4 hi q1
            obtain ⟨out, i, hLI, hend, hg, rfl, rfl, hS⟩ := hrel
            have q1 := hLI.hi
            have HQ : Hid (out.length = i + j) := hLI.len
            by_cases hi : i < l.length
            · have hi' : (i : Int) < l.length := by omega
              obtain ⟨cl, bl⟩ := rl2.cell0 hi
              have cl' : wr.cell? ⟨b1, i, none⟩ = some (.int .i64 (nth l i)) := by rw [hS.bel.cell (by exact bl)]; exact cl
              have hroom : out.length + 1 ≤ len := by have := HQ.out; omega
              clear cl
              go_wp2_with (at_builtin; refine wpList_append_fits _ rfl (.tmp 86) (.tmp 91) 24 rfl w2.heap.size 3 i3 1 Try.underlying24 hi3 hs3 w2.heap.size out.length len _ rfl (hS.own.alloc _) ⟨wr.heap.size, 0, none⟩ 1 1 [.int .i64 (nth l i)] rfl rfl ?m1b ?m2b hroom ?_)
              case m1b => exact cell_one_at rfl
              case m2b => simp [Value.oneCell']
              intro w3 ho hgr
              have hS3 := hS.put ho hgr
              clear ho hgr cl' hS
              go_wp2_with fail
              go_roundg (gk - 1)
              case rel => exact ⟨out ++ [nth l i], i + 1, li_left' hLI al ar hi (fun hj => by omega), by omega, by omega, by simp, by go_num, hS3⟩
              case measure => omega
            · go_wp2_with fail
              go_loopg [9, 11] len (fun g ov jv wr => ∃ (out : List Int) (j : Nat), LI l r out i j ∧ len - j ≤ g ∧ ov = .slice (some ⟨w2.heap.size, 0, none⟩) out.length len ∧ jv = .int .i64 j ∧ SMem w2.heap.size w2 len out wr)
              case atStart => exact ⟨out, j, hLI, by omega, rfl, rfl, hS⟩
              case round =>
                clear hLI hS hend HQ q2
                obtain ⟨out, j, hLI, hg, rfl, rfl, hS⟩ := hrel
                have q2 := hLI.hj
                have HQ : Hid (out.length = i + j) := hLI.len
                by_cases hj : j < r.length
                · have hj' : (j : Int) < r.length := by omega
                  obtain ⟨cr, br⟩ := rr.cell0 hj
                  have cr' : wr.cell? ⟨b2, j, none⟩ = some (.int .i64 (nth r j)) := by rw [hS.bel.cell (by exact br)]; exact cr
                  have hroom : out.length + 1 ≤ len := by have := HQ.out; omega
                  clear cr
                  go_wp2_with (at_builtin; refine wpList_append_fits _ rfl (.tmp 99) (.tmp 104) 24 rfl w2.heap.size 3 i3 1 Try.underlying24 hi3 hs3 w2.heap.size out.length len _ rfl (hS.own.alloc _) ⟨wr.heap.size, 0, none⟩ 1 1 [.int .i64 (nth r j)] rfl rfl ?n1b ?n2b hroom ?_)
                  case n1b => exact cell_one_at rfl
                  case n2b => simp [Value.oneCell']
                  intro w3 ho hgr
                  have hS3 := hS.put ho hgr
                  clear ho hgr cr' hS
                  go_wp2_with fail
                  go_roundg (gk - 1)
                  case rel => exact ⟨out ++ [nth r j], j + 1, li_right' hLI al ar hj (fun hi2 => by omega), by omega, by simp, by go_num, hS3⟩
                  case measure => omega
                · go_wp2_with fail
                  go_ret
                  exact HE.out out i j _ hLI (by omega) (by omega) hS
end Go.Proofs.Qxb6603365a
