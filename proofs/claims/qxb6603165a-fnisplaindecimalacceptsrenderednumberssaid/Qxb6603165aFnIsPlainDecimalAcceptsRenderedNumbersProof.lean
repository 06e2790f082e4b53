/-
  FnIsPlainDecimalAcceptsRenderedNumbers: the walk and the statement.
-/
import Derived.Test.Qxb6603165aRows
import Derived.Test.Qxb6603165aDec
import Derived.WalkKit
import Derived.ProofKit
import Derived.OpenShut
import Derived.ShutString
namespace Go.Proofs.Qxb6603165a.fnIsPlainDecimalAcceptsRenderedNumbers
open Go.ChangeShapes Go.WideShapes Go.ChangeAt Go.RowKit
open Go.ChangeMaps (open_string shut_string)
set_option linter.unusedVariables false      -- a walk need not use every 'w<i>' (that an integer argument fits its kind)

theorem own : ownKnob Try.prog.godebug = none := by kernel_rfl

theorem gt {a b c : World} (h : Grown a b) (k : Grown b c) : Grown a c :=
  ⟨World.keptBut_trans h.1 k.1, fun x => (k.2.1 x).trans (h.2.1 x), Nat.le_trans h.2.2 k.2.2⟩
theorem wf_i64 {n : Int} (h : (Lit.int .i64 n).wf = true) : -9223372036854775808 ≤ n ∧ n ≤ 9223372036854775807 := by
  have a1 : IntKind.i64.min = -9223372036854775808 := rfl
  have a2 : IntKind.i64.max = 9223372036854775807 := rfl
  simp only [Lit.wf, Bool.and_eq_true, decide_eq_true_eq] at h
  omega
theorem wf_u64 {n : Int} (h : (Lit.int .u64 n).wf = true) : 0 ≤ n ∧ n < 18446744073709551616 := by
  have a1 : IntKind.u64.min = 0 := rfl
  have a2 : IntKind.u64.max = 18446744073709551615 := rfl
  simp only [Lit.wf, Bool.and_eq_true, decide_eq_true_eq] at h
  omega

/-! ### STEP 1: THE WALK: the Go text returns true. 'Grown w w'': the world has at most new blocks (Derived/RowKit3.lean). Part the cases AHEAD of 'go_enter' where a test parts the walk; take each callee by a contract of your own. -/
set_option maxHeartbeats 1000000 in
set_option maxRecDepth 20000 in
theorem walk (a0 : Int) (a1 : Int) (w0 : (Lit.int .i64 a0).wf = true) (w1 : (Lit.int .u64 a1).wf = true) (w : World) :
    Calls Try.prog 5 #[.int .i64 a0, .int .u64 a1] w fun e w' => e = .returned (.bool true) ∧ Grown w w' := by
  have b0 := wf_i64 w0
  have b1 := wf_u64 w1
  go_enter Try.func5, Try.ntmps5
  go_wp2_with fail
  refine (itoa_any a0 w b0.1 b0.2).mono ?_
  rintro e w2 ⟨s, rfl, hs, hg2⟩
  go_wp2_with fail
  refine (utoa_any a1 w2 b1.1 b1.2).mono ?_
  rintro e w3 ⟨f, rfl, hf, hg3⟩
  have ps := Plain.whole hs
  have pf := Plain.digs hf
  have z1 := ps.size
  have z2 := pf.size
  have p1 := ps.append plain_dot
  have p2 := p1.append pf
  have p3 := p2.append plain_dot
  have p4 := p3.append pf
  have z3 := p1.size
  have z4 := p2.size
  have z5 := p3.size
  have z6 := p4.size
  have HB : Hid (Whole s ∧ Digs f) := ⟨hs, hf⟩
  clear hs hf
  go_wp2_with fail
  refine (zzPlain_any s w3 (by omega) ps.at).mono ?_
  rintro e w4 ⟨rfl, hg4⟩
  rw [whole_ok HB.out.1]
  go_wp2_with fail
  refine (zzPlain_any _ w4 (by omega) p2.at).mono ?_
  rintro e w5 ⟨rfl, hg5⟩
  rw [frac_ok HB.out.1 HB.out.2]
  go_wp2_with fail
  refine (zzPlain_any _ w5 (by omega) p1.at).mono ?_
  rintro e w6 ⟨rfl, hg6⟩
  rw [trail_no HB.out.1]
  go_wp2_with fail
  refine (zzPlain_any _ w6 (by omega) p4.at).mono ?_
  rintro e w7 ⟨rfl, hg7⟩
  rw [second_no HB.out.1 HB.out.2]
  go_wp2_with fail
  go_ret
  exact ⟨rfl, gt (gt (gt (gt (gt hg2 hg3) hg4) hg5) hg6) hg7⟩

/-! ### THE ROW's STEP: WRITTEN OUT: LEAVE IT -/
set_option maxRecDepth 100000 in
theorem lifted (os : Os) (started : os.Started) (H : Type) (enc : TypeId × Value → H) :
    ReturnsInHanded {} Try.checked os 5 .any (Rows.fnIsPlainDecimalAcceptsRenderedNumbersSpec.pre6 enc Try.prog Try.f5 Rows.fnIsPlainDecimalAcceptsRenderedNumbersRow.domain false) (Rows.fnIsPlainDecimalAcceptsRenderedNumbersSpec.post enc Try.prog Try.f5 false true false false) := by
  refine returnsInHanded_of_change (C := Try.checked) own started (by kernel_rfl) Try.func5
    (ChangeSpec.witness6 (enc := enc) (C := Try.checked) false ⟨#[], #[.int .i64 0, .int .u64 0], []⟩ 8 (by kernel_rfl) (by kernel_rfl) (by kernel_rfl) (by kernel_rfl)) ?_
  intro W base args ds gs before hval0 hW hcnd _
  have hval : ∀ (j : Nat) t v, Try.f5.params[j]? = some t → args[j]? = some v → Value.okWide Try.prog W .any base t v := hval0
  have hW' := hW
  obtain ⟨p, q, hA0, hV, rfl, hfz, hnd⟩ := hW
  have hA : DataW.TrodAll enc Try.prog W 0 (fun _ => true) true Try.f5.params.toList args.toList ds p := hA0
  rw [Try.params5] at hA hval
  obtain ⟨v0, vs0, d0, ds0, p0, q0, hargs, rfl, rfl, h0, r0⟩ := trodAll_cons hA
  obtain ⟨v1, vs1, d1, ds1, p1, q1, rfl, rfl, rfl, h1, r1⟩ := trodAll_cons r0
  obtain ⟨rfl, rfl, rfl⟩ := trodAll_nil r1
  obtain rfl : args = #[v0, v1] := by cases args; simp_all
  obtain ⟨rfl, rfl⟩ := trodVars_none hV
  obtain ⟨a0, rfl, rfl, rfl, w0⟩ := open_int Try.underlying2 (hval 0 2 v0 rfl rfl) h0
  obtain ⟨a1, rfl, rfl, rfl, w1⟩ := open_int Try.underlying23 (hval 1 23 v1 rfl rfl) h1
  clear hA0 hval0
  simp only [List.append_nil] at hW'
  refine (walk a0 a1 w0 w1 W).mono fun e W' ⟨he, hg⟩ => ?_
  subst he
  exact ⟨_, rfl, post_of_same (pa := []) (pv := []) hW' (fun _ _ _ => (trodAll_cons_mk (shut_bool Try.underlying4 _) trodAll_mk0)) (fun sp _ => (trodAll_cons_mk (shut_int Try.underlying2 w0) (trodAll_cons_mk (shut_int Try.underlying23 w1) trodAll_mk0))) (fun _ _ => rfl) rfl
    (hg.frame _) hg.2.1 (ok_one (by kernel_rfl) rfl (okWide_bool_mk Try.underlying4 _))⟩

theorem over : Rows.fnIsPlainDecimalAcceptsRenderedNumbersRow.holds Try.pinned (OpenSpec.ofChange Rows.fnIsPlainDecimalAcceptsRenderedNumbersSpec) :=
  OpenClaim.holds_of_wide 5 Try.f5 rfl rfl rfl rfl rfl rfl rfl ⟨rfl, rfl, rfl, rfl, rfl⟩ rfl rfl rfl rfl rfl (by kernel_rfl) Try.func5 (by kernel_rfl)
    (of_decide_eq_true (by kernel_rfl)) (by unfold Func.isWrapper; first | (rw [if_pos (by decide +kernel)]; kernel_rfl) | (rw [if_neg (by decide +kernel)]; exact ⟨rfl, rfl⟩))
    (fun os started H enc _ => lifted os started H enc)

/-- ████ THE STATEMENT ████ -/
theorem proved : Rows.FnIsPlainDecimalAcceptsRenderedNumbersSaid :=
  over
#print axioms proved
end Go.Proofs.Qxb6603165a.fnIsPlainDecimalAcceptsRenderedNumbers
