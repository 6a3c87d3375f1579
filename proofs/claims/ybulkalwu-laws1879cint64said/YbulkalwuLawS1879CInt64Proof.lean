/-
  THE SHELL OF A PROOF OF 'Rows.LawS1879CInt64Said' ('example.com/qiyue/qiyue/pkg/decimal.LawS1879CInt64'), WRITTEN BY PROGRAM (proof-skeleton.mjs) off the guide's own print for that function. Not trusted: Lean checks it.
  The hole (the walk) is filled; all else is the tool's frame.
-/
import Derived.Test.YbulkalwuRows
import Derived.WalkKit
import Derived.ProofKit
import Derived.OpenShut
import Derived.ShutString
import Derived.Test.YbulkalwuBase
namespace Go.Proofs.Ybulkalwu.lawS1879CInt64
open Go.ChangeShapes Go.WideShapes Go.ChangeAt Go.RowKit
open Go.ChangeMaps (open_string shut_string)
set_option linter.unusedVariables false      -- a walk need not use every 'w<i>' (that an integer argument fits its kind)

theorem own : ownKnob Yba.prog.godebug = none := by kernel_rfl

theorem i64Of_pos (v : Int) (h0 : 0 ≤ v) (h1 : v ≤ 9223372036854775807) : i64Of false v = v := by
  unfold i64Of wrap64; rw [if_neg (by simp)]; omega
theorem i64Of_neg (v : Int) (h0 : v < 0) (h1 : -9223372036854775807 ≤ v) : i64Of true (-v) = v := by
  unfold i64Of wrap64; rw [if_pos rfl]; omega

/-! ### STEP 1: THE WALK: the Go text returns true. 'Grown w w'': the world has at most new blocks (Derived/RowKit3.lean). Part the cases AHEAD of 'go_enter' where a test parts the walk; take each callee by a contract of your own. -/
theorem walk (a0 : Int) (a1 : Int) (w0 : (Lit.int .i64 a0).wf = true) (w1 : (Lit.int .i64 a1).wf = true) (w : World) :
    Calls Yba.prog 4 #[.int .i64 a0, .int .i64 a1] w fun e w' => e = .returned (.bool true) ∧ Grown w w' := by
  have hb0 := bounds_i64 w0
  by_cases hz : a0 = 0
  · subst hz
    go_enter Yba.func4, Yba.ntmps4
    go_wp2_with (first | (go_at_call 10; refine (newInt_zero _).mono ?_; rintro e w' ⟨rfl, rfl⟩) | (go_at_call 9; refine (fromBig_nil _ 0 none _ _ (by simp) (by simp) (by simp)).mono ?_; rintro e w' ⟨rfl, rfl⟩; simp only [decSmall]))
    go_ret
    exact ⟨rfl, by go_grown⟩
  by_cases hp : 0 < a0
  · have e0 : (a0 == -9223372036854775808) = false := beq_eq_false_iff_ne.2 (by omega)
    have hi := i64Of_pos a0 (by omega) hb0.2
    go_enter Yba.func4, Yba.ntmps4
    go_wp2_with (first | (go_at_call 10; refine (newInt_pos a0 _ hp hb0.2).mono ?_; rintro e w' ⟨rfl, rfl⟩) | (go_at_call 9; refine (fromBig_small _ w.heap.size 0 1 false a0 _ _ (by simp) (by simp) (by simp) (by simp) (by simp; omega) ⟨by omega, hb0.2⟩).mono ?_; rintro e w' ⟨rfl, rfl⟩; simp only [decSmall, hi]))
    go_ret
    exact ⟨rfl, by go_grown⟩
  by_cases hm : a0 = -9223372036854775808
  · have e0 : (a0 == -9223372036854775808) = true := beq_iff_eq.2 hm
    have hq := fun (w : World) (a : Addr) => eql23 w a
    have HM : Hid (a0 = -9223372036854775808) := hm
    have hn : a0 < 0 := by omega
    clear hm hz hp
    go_enter Yba.func4, Yba.ntmps4
    go_wp2_with (first | (go_at_call 10; refine (newInt_neg a0 _ hn hb0.1).mono ?_; rintro e w' ⟨rfl, rfl⟩) | (go_at_call 9; refine (fromBig_big _ w.heap.size 0 1 true (-a0) _ _ (by simp) (by simp) (by simp) (by simp) (by simp; omega) (by rw [HM.out]; omega)).mono ?_; rintro e w' ⟨rfl, rfl⟩; simp only [decBig]))
    go_ret
    exact ⟨rfl, by go_grown⟩
  · have e0 : (a0 == -9223372036854775808) = false := beq_eq_false_iff_ne.2 (by omega)
    have hn : a0 < 0 := by omega
    have hi := i64Of_neg a0 (by omega) (by omega)
    have hl : 0 ≤ -a0 ∧ -a0 ≤ 9223372036854775807 := by omega
    clear hm hz hp
    go_enter Yba.func4, Yba.ntmps4
    go_wp2_with (first | (go_at_call 10; refine (newInt_neg a0 _ hn hb0.1).mono ?_; rintro e w' ⟨rfl, rfl⟩) | (go_at_call 9; refine (fromBig_small _ w.heap.size 0 1 true (-a0) _ _ (by simp) (by simp) (by simp) (by simp) (by simp; omega) hl).mono ?_; rintro e w' ⟨rfl, rfl⟩; simp only [decSmall, hi]))
    go_ret
    exact ⟨rfl, by go_grown⟩

/-! ### THE ROW's STEP: WRITTEN OUT: LEAVE IT -/
set_option maxRecDepth 100000 in
theorem lifted (os : Os) (started : os.Started) (H : Type) (enc : TypeId × Value → H) :
    ReturnsInHanded {} Yba.checked os 4 .any (Rows.lawS1879CInt64Spec.pre6 enc Yba.prog Yba.f4 Rows.lawS1879CInt64Row.domain false) (Rows.lawS1879CInt64Spec.post enc Yba.prog Yba.f4 false true false false) := by
  refine returnsInHanded_of_change (C := Yba.checked) own started (by kernel_rfl) Yba.func4
    (ChangeSpec.witness6 (enc := enc) (C := Yba.checked) false ⟨#[], #[.int .i64 0, .int .i64 0], []⟩ 8 (by kernel_rfl) (by kernel_rfl) (by kernel_rfl) (by kernel_rfl)) ?_
  intro W base args ds gs before hval0 hW hcnd _
  have hval : ∀ (j : Nat) t v, Yba.f4.params[j]? = some t → args[j]? = some v → Value.okWide Yba.prog W .any base t v := hval0
  have hW' := hW
  obtain ⟨p, q, hA0, hV, rfl, hfz, hnd⟩ := hW
  have hA : DataW.TrodAll enc Yba.prog W 0 (fun _ => true) true Yba.f4.params.toList args.toList ds p := hA0
  rw [Yba.params4] at hA hval
  obtain ⟨v0, vs0, d0, ds0, p0, q0, hargs, rfl, rfl, h0, r0⟩ := trodAll_cons hA
  obtain ⟨v1, vs1, d1, ds1, p1, q1, rfl, rfl, rfl, h1, r1⟩ := trodAll_cons r0
  obtain ⟨rfl, rfl, rfl⟩ := trodAll_nil r1
  obtain rfl : args = #[v0, v1] := by cases args; simp_all
  obtain ⟨rfl, rfl⟩ := trodVars_none hV
  obtain ⟨a0, rfl, rfl, rfl, w0⟩ := open_int Yba.underlying2 (hval 0 2 v0 rfl rfl) h0
  obtain ⟨a1, rfl, rfl, rfl, w1⟩ := open_int Yba.underlying3 (hval 1 3 v1 rfl rfl) h1
  clear hA0 hval0
  simp only [List.append_nil] at hW'
  refine (walk a0 a1 w0 w1 W).mono fun e W' ⟨he, hg⟩ => ?_
  subst he
  exact ⟨_, rfl, post_of_same (pa := []) (pv := []) hW' (fun _ _ _ => (trodAll_cons_mk (shut_bool Yba.underlying4 _) trodAll_mk0)) (fun sp _ => (trodAll_cons_mk (shut_int Yba.underlying2 w0) (trodAll_cons_mk (shut_int Yba.underlying3 w1) trodAll_mk0))) (fun _ _ => rfl) rfl
    (hg.frame _) hg.2.1 (ok_one (by kernel_rfl) rfl (okWide_bool_mk Yba.underlying4 _))⟩

theorem over : Rows.lawS1879CInt64Row.holds Yba.pinned (OpenSpec.ofChange Rows.lawS1879CInt64Spec) :=
  OpenClaim.holds_of_wide 4 Yba.f4 rfl rfl rfl rfl rfl rfl rfl ⟨rfl, rfl, rfl, rfl, rfl⟩ rfl rfl rfl rfl rfl (by kernel_rfl) Yba.func4 (by kernel_rfl)
    (of_decide_eq_true (by kernel_rfl)) (by unfold Func.isWrapper; first | (rw [if_pos (by decide +kernel)]; kernel_rfl) | (rw [if_neg (by decide +kernel)]; exact ⟨rfl, rfl⟩))
    (fun os started H enc _ => lifted os started H enc)

/-- ████ THE STATEMENT ████ -/
theorem proved : Rows.LawS1879CInt64Said :=
  over
#print axioms proved
end Go.Proofs.Ybulkalwu.lawS1879CInt64
