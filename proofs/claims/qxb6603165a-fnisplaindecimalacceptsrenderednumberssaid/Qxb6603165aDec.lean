/-
  'isPlainDecimal' (12), 'ZZisPlainDecimal' (7): over an ASCII string they compute 'pd'.
-/
import Derived.Test.Qxb6603165aUtoa
import Derived.Laws.RangeString
namespace Go.Proofs.Qxb6603165a
open Go.ChangeShapes Go.WideShapes Go.ChangeAt Go.RowKit

def chars (s : ByteArray) : List Nat := s.data.toList.map UInt8.toNat

/-- What isPlainDecimal answers, in plain words: 'd' digits since the start or the dot, 'dot' seen, at place 'p'. -/
def pd : Nat → Bool → Nat → List Nat → Bool
  | d, _, _, [] => decide (0 < d)
  | d, dot, p, c :: cs =>
    if c = 45 ∧ p = 0 then pd d dot (p + 1) cs
    else if c = 46 ∧ dot = false ∧ 0 < d then pd 0 true (p + 1) cs
    else if c < 48 ∨ 57 < c then false
    else pd (d + 1) dot (p + 1) cs

theorem chars_length (s : ByteArray) : (chars s).length = s.size := by
  simp only [chars, List.length_map, Array.length_toList]
  rfl
theorem chars_at (s : ByteArray) (k : Nat) (h : k < s.size) : (chars s).drop k = (s[k]'h).toNat :: (chars s).drop (k + 1) := by
  have hk : k < (chars s).length := by rw [chars_length]; exact h
  rw [List.drop_eq_getElem_cons hk]
  congr 1
  simp [chars]
  rfl
theorem chars_end (s : ByteArray) (k : Nat) (h : ¬ k < s.size) : (chars s).drop k = [] := List.drop_eq_nil_of_le (by rw [chars_length]; omega)

theorem grown_iter (w : World) (s : ByteArray) (pos : Nat) : Grown w (w.iter s pos) := by
  refine ⟨World.keptBut_alloc _ _ _, fun a => ?_, by show w.heap.size ≤ (w.heap.push _).size; simp⟩
  by_cases h : a.block = w.heap.size
  · have e1 : (w.iter s pos).heap[a.block]? = some (.stringIter s pos) := by rw [h]; exact World.iter_heap w s pos
    have e2 : w.heap[a.block]? = none := by rw [h]; simp
    simp [World.frozen?, e1, e2]
  · exact World.frozen?_alloc_old _ _ _ h

def DPost (w0 : World) (s : ByteArray) (e : Ending) (w' : World) : Prop := e = .returned (.bool (pd 0 false 0 (chars s))) ∧ Grown w0 w'

set_option maxHeartbeats 2000000 in
set_option maxRecDepth 20000 in
theorem isPlain_any (s : ByteArray) (w : World) (hs : s.size ≤ 1000) (ha : ∀ k (h : k < s.size), (s[k]'h).toNat < 128) : Calls Try.prog 12 #[.string s] w (DPost w s) := by
  go_enter Try.func12, Try.ntmps12
  go_wp2_with fail
  go_loopg [3, 4] s.size (fun g a b wr => ∃ (pos d : Nat) (dot : Bool), s.size - pos ≤ g ∧ a = .int .i64 (d : Int) ∧ b = .bool dot ∧ d ≤ pos ∧ pos ≤ s.size ∧ wr = w.iter s pos ∧ Hid (pd 0 false 0 (chars s) = pd d dot pos ((chars s).drop pos)))
  case atStart => exact ⟨0, 0, false, by omega, rfl, rfl, Nat.le_refl _, Nat.zero_le _, rfl, rfl⟩
  case round =>
    obtain ⟨pos, d, dot, hg, rfl, rfl, hd, hp, rfl, HB⟩ := hrel
    by_cases hlt : pos < s.size
    · have hnx0 : ∀ ty, (Instr.next (.pointer (some ⟨w.heap.size, 0, none⟩)) true ty).run Try.prog (w.iter s pos) = _ := fun ty => run_next_ascii w s pos ty hlt (ha pos hlt)
      have HD : Hid ((chars s).drop pos = (s[pos]'hlt).toNat :: (chars s).drop (pos + 1)) := chars_at s pos hlt
      have h128 := ha pos hlt
      obtain ⟨c, hc⟩ : ∃ c : Nat, (s[pos]'hlt).toNat = c := ⟨_, rfl⟩
      rw [hc] at h128
      have hnx : ∀ ty, (Instr.next (.pointer (some ⟨w.heap.size, 0, none⟩)) true ty).run Try.prog (w.iter s pos) = .ok (.tuple #[.bool true, .int .i64 pos, .int .i32 (c : Int)]) (w.iter s (pos + 1)) := by
        intro ty; rw [← hc]; exact hnx0 ty
      have HE : Hid (pd 0 false 0 (chars s) = pd d dot pos (c :: (chars s).drop (pos + 1))) := by
        show _ = _
        rw [HB.out, HD.out, hc]
      clear hnx0 HD hc HB
      by_cases h45 : c = 45
      · subst h45
        by_cases h0 : pos = 0
        · subst h0
          have HF : Hid (pd 0 false 0 (chars s) = pd d dot (0 + 1) ((chars s).drop (0 + 1))) := by
            show _ = _
            rw [HE.out]; rfl
          clear HE
          go_wp2_with fail
          go_roundg (gk - 1)
          case rel => exact ⟨0 + 1, d, dot, by omega, rfl, rfl, by omega, by omega, rfl, HF⟩
          case measure => omega
        · have h0' : ((pos : Int) == 0) = false := by simp; omega
          have HF : Hid (pd 0 false 0 (chars s) = false) := by
            show _ = _
            rw [HE.out]; simp [pd, h0]
          clear HE h0
          go_wp2_with fail
          go_ret
          exact ⟨by rw [HF.out]; rfl, grown_iter _ _ _⟩
      · have h45' : ((c : Int) == 45) = false := by simp; omega
        by_cases h46 : c = 46
        · subst h46
          cases dot with
          | true =>
            have HF : Hid (pd 0 false 0 (chars s) = false) := by
              show _ = _
              rw [HE.out]; simp [pd]
            clear HE
            go_wp2_with fail
            go_ret
            exact ⟨by rw [HF.out]; rfl, grown_iter _ _ _⟩
          | false =>
            by_cases hd0 : d = 0
            · subst hd0
              have HF : Hid (pd 0 false 0 (chars s) = false) := by
                show _ = _
                rw [HE.out]; simp [pd]
              clear HE
              go_wp2_with fail
              go_ret
              exact ⟨by rw [HF.out]; rfl, grown_iter _ _ _⟩
            · have hdp : (d : Int) > 0 := by omega
              have HF : Hid (pd 0 false 0 (chars s) = pd 0 true (pos + 1) ((chars s).drop (pos + 1))) := by
                show _ = _
                rw [HE.out]; simp [pd]; omega
              clear HE
              go_wp2_with fail
              go_roundg (gk - 1)
              case rel => exact ⟨pos + 1, 0, true, by omega, rfl, rfl, by omega, by omega, rfl, HF⟩
              case measure => omega
        · have h46' : ((c : Int) == 46) = false := by simp; omega
          by_cases hlo : c < 48
          · have hlo' : (c : Int) < 48 := by omega
            have HF : Hid (pd 0 false 0 (chars s) = false) := by
              show _ = _
              rw [HE.out]; simp [pd, h45, h46, hlo]
            clear HE h45 h46
            go_wp2_with fail
            go_ret
            exact ⟨by rw [HF.out]; rfl, grown_iter _ _ _⟩
          · have hlo' : 48 ≤ (c : Int) := by omega
            by_cases hhi : 57 < c
            · have hhi' : (c : Int) > 57 := by omega
              have HF : Hid (pd 0 false 0 (chars s) = false) := by
                show _ = _
                rw [HE.out]; simp [pd, h45, h46, hhi]
              clear HE h45 h46
              go_wp2_with fail
              go_ret
              exact ⟨by rw [HF.out]; rfl, grown_iter _ _ _⟩
            · have hhi' : (c : Int) ≤ 57 := by omega
              have HF : Hid (pd 0 false 0 (chars s) = pd (d + 1) dot (pos + 1) ((chars s).drop (pos + 1))) := by
                show _ = _
                rw [HE.out]; simp [pd, h45, h46, hlo, hhi]
              clear HE h45 h46
              go_wp2_with fail
              go_roundg (gk - 1)
              case rel => exact ⟨pos + 1, d + 1, dot, by omega, by simp, rfl, by omega, by omega, rfl, HF⟩
              case measure => omega
    · have hnx : ∀ ty, (Instr.next (.pointer (some ⟨w.heap.size, 0, none⟩)) true ty).run Try.prog (w.iter s pos) = _ := fun ty => run_next_end w s pos ty hlt
      have HF : Hid (pd 0 false 0 (chars s) = decide (0 < d)) := by
        show _ = _
        rw [HB.out, chars_end s pos hlt]; rfl
      clear HB
      go_wp2_with fail
      go_ret
      exact ⟨by rw [HF.out]; simp, grown_iter _ _ _⟩

set_option maxHeartbeats 1000000 in
set_option maxRecDepth 20000 in
theorem zzPlain_any (s : ByteArray) (w : World) (hs : s.size ≤ 1000) (ha : ∀ k (h : k < s.size), (s[k]'h).toNat < 128) : Calls Try.prog 7 #[.string s] w (DPost w s) := by
  go_enter Try.func7, Try.ntmps7
  go_wp2_with fail
  refine (isPlain_any s w hs ha).mono ?_
  rintro e w1 ⟨rfl, hg⟩
  go_wp2_with fail
  go_ret
  exact ⟨rfl, hg⟩

/-! The plain law. -/
theorem pd_digits (rest : List Nat) : ∀ (ds : List Nat) (d : Nat) (dot : Bool) (p : Nat), (∀ x ∈ ds, 48 ≤ x ∧ x ≤ 57) → pd d dot p (ds ++ rest) = pd (d + ds.length) dot (p + ds.length) rest
  | [], d, dot, p, _ => rfl
  | x :: ds, d, dot, p, h => by
    have hx := h x (List.mem_cons_self ..)
    rw [List.cons_append, pd, if_neg (by omega), if_neg (by omega), if_neg (by omega), pd_digits rest ds _ _ _ (fun y hy => h y (List.mem_cons_of_mem _ hy))]
    rw [List.length_cons]
    congr 1 <;> omega

theorem chars_append (a b : ByteArray) : chars (a ++ b) = chars a ++ chars b := by
  simp [chars, ByteArray.data_append]

theorem digs_chars {s : ByteArray} (h : Digs s) : 1 ≤ (chars s).length ∧ (chars s).length ≤ 20 ∧ ∀ x ∈ chars s, 48 ≤ x ∧ x ≤ 57 := by
  refine ⟨by rw [chars_length]; exact h.1, by rw [chars_length]; exact h.2.1, fun x hx => ?_⟩
  simp only [chars, List.mem_map] at hx
  obtain ⟨y, hy, rfl⟩ := hx
  exact h.2.2 y hy

theorem whole_scan {s : ByteArray} (h : Whole s) (rest : List Nat) : ∃ d p, 1 ≤ d ∧ 1 ≤ p ∧ pd 0 false 0 (chars s ++ rest) = pd d false p rest := by
  obtain ⟨t, ht, rfl | rfl⟩ := h
  · obtain ⟨h1, _, hx⟩ := digs_chars ht
    exact ⟨0 + (chars s).length, 0 + (chars s).length, by omega, by omega, pd_digits _ _ _ _ _ hx⟩
  · obtain ⟨h1, _, hx⟩ := digs_chars ht
    refine ⟨0 + (chars t).length, 1 + (chars t).length, by omega, by omega, ?_⟩
    rw [chars_append]
    show pd 0 false 0 (45 :: (chars t ++ rest)) = _
    rw [pd, if_pos ⟨rfl, rfl⟩]
    exact pd_digits _ _ _ _ _ hx

theorem whole_ok {s : ByteArray} (h : Whole s) : pd 0 false 0 (chars s) = true := by
  obtain ⟨d, p, hd, hp, e⟩ := whole_scan h []
  rw [List.append_nil] at e
  rw [e]; simp [pd]; omega

theorem chars_dot : chars { data := #[46] } = [46] := rfl

theorem frac_scan {s f : ByteArray} (h : Whole s) (hf : Digs f) (rest : List Nat) : ∃ d p, 1 ≤ d ∧ 1 ≤ p ∧ pd 0 false 0 (chars s ++ 46 :: (chars f ++ rest)) = pd d true p rest := by
  obtain ⟨d, p, hd, hp, e⟩ := whole_scan h (46 :: (chars f ++ rest))
  obtain ⟨h1, _, hx⟩ := digs_chars hf
  refine ⟨0 + (chars f).length, p + 1 + (chars f).length, by omega, by omega, ?_⟩
  rw [e, pd, if_neg (by omega), if_pos ⟨rfl, rfl, by omega⟩]
  exact pd_digits _ _ _ _ _ hx

theorem frac_ok {s f : ByteArray} (h : Whole s) (hf : Digs f) : pd 0 false 0 (chars (s ++ { data := #[46] } ++ f)) = true := by
  obtain ⟨d, p, hd, hp, e⟩ := frac_scan h hf []
  rw [chars_append, chars_append, chars_dot, List.append_assoc]
  rw [List.append_nil] at e
  refine e.trans ?_
  simp [pd]; omega

theorem trail_no {s : ByteArray} (h : Whole s) : pd 0 false 0 (chars (s ++ { data := #[46] })) = false := by
  obtain ⟨d, p, hd, hp, e⟩ := whole_scan h [46]
  rw [chars_append, chars_dot, e, pd, if_neg (by omega), if_pos ⟨rfl, rfl, by omega⟩]
  rfl

theorem second_no {s f : ByteArray} (h : Whole s) (hf : Digs f) : pd 0 false 0 (chars (s ++ { data := #[46] } ++ f ++ { data := #[46] } ++ f)) = false := by
  obtain ⟨d, p, hd, hp, e⟩ := frac_scan h hf (46 :: chars f)
  rw [chars_append, chars_append, chars_append, chars_append, chars_dot]
  have e2 : chars s ++ [46] ++ chars f ++ [46] ++ chars f = chars s ++ 46 :: (chars f ++ 46 :: chars f) := by simp
  rw [e2, e, pd, if_neg (by omega), if_neg (by simp), if_pos (by omega)]

/-- Short and ASCII: what the walk asks of a string. -/
structure Plain (n : Nat) (s : ByteArray) : Prop where
  size : s.size ≤ n
  ascii : ∀ x ∈ chars s, x < 128

theorem Plain.at {n : Nat} {s : ByteArray} (h : Plain n s) : ∀ k (hk : k < s.size), (s[k]'hk).toNat < 128 := by
  intro k hk
  have e := chars_at s k hk
  refine h.ascii _ (List.mem_of_mem_drop (i := k) ?_)
  rw [e]; exact List.mem_cons_self ..

theorem Plain.append {n m : Nat} {s t : ByteArray} (h : Plain n s) (h' : Plain m t) : Plain (n + m) (s ++ t) := by
  refine ⟨by rw [ByteArray.size_append]; have := h.size; have := h'.size; omega, fun x hx => ?_⟩
  rw [chars_append, List.mem_append] at hx
  exact hx.elim (h.ascii x) (h'.ascii x)

theorem Plain.digs {s : ByteArray} (h : Digs s) : Plain 20 s := ⟨h.2.1, fun x hx => by have := (digs_chars h).2.2 x hx; omega⟩
theorem plain_dot : Plain 1 { data := #[46] } := ⟨by decide, by decide⟩
theorem plain_minus : Plain 1 { data := #[45] } := ⟨by decide, by decide⟩
theorem Plain.whole {s : ByteArray} (h : Whole s) : Plain 21 s := by
  obtain ⟨t, ht, rfl | rfl⟩ := h
  · have := Plain.digs ht
    exact ⟨by have := this.size; omega, this.ascii⟩
  · exact plain_minus.append (Plain.digs ht)
end Go.Proofs.Qxb6603165a
