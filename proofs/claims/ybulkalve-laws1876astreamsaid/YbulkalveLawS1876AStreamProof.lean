/-
  THE SHELL OF A PROOF OF 'Rows.LawS1876AStreamSaid' ('example.com/quadrille/quadrille/internal/testkeys.LawS1876AStream'), WRITTEN BY PROGRAM (proof-skeleton.mjs) off the guide's own print for that function. Not trusted: Lean checks it.
  The hole (the walk) is filled; all else is the tool's frame.
-/
import Derived.Test.YbulkalveRows
import Derived.WalkKit
import Derived.ProofKit
import Derived.OpenShut
import Derived.ShutString
import Derived.Test.YbulkalveKeys
namespace Go.Proofs.Ybulkalve.lawS1876AStream
open Go.ChangeShapes Go.WideShapes Go.ChangeAt Go.RowKit
open Go.ChangeMaps (open_string shut_string)
set_option linter.unusedVariables false      -- a walk need not use every 'w<i>' (that an integer argument fits its kind)

theorem own : ownKnob Yba.prog.godebug = none := by kernel_rfl

/-! ### STEP 1: THE WALK: the Go text returns true. 'Grown w w'': the world has at most new blocks (Derived/RowKit3.lean). Part the cases AHEAD of 'go_enter' where a test parts the walk; take each callee by a contract of your own. -/
theorem walk (a0 : Int) (a1 : Int) (w0 : (Lit.int .u64 a0).wf = true) (w1 : (Lit.int .u16 a1).wf = true) (w : World) :
    Calls Yba.prog 4 #[.int .u64 a0, .int .u16 a1] w fun e w' => e = .returned (.bool true) ∧ Grown w w' := by
  have hb0 := bounds_u64 w0
  have hb1 := bounds_u16 w1
  obtain ⟨m, hm⟩ : ∃ m : Nat, a1 % 300 = (m : Int) := ⟨(a1 % 300).toNat, by omega⟩
  have hml : m < 300 := by omega
  go_enter Yba.func4, Yba.ntmps4
  go_wp2_with (first | (go_at_call 9; refine (keys_calls _ m _ hml).mono ?_; rintro e w' ⟨rfl, hr, hg⟩))
  clear hm
  have hlt1 := hr.lt
  obtain ⟨S, HS⟩ : ∃ S : Nat, Hid (S = w'.heap.size) := ⟨_, rfl⟩
  rw [← HS.out] at hlt1 ⊢
  go_loopw [8, 9] (fun st i wr => ∃ k : Nat, k ≤ m ∧ i = .int .i64 k ∧ st = .int .u64 (it a0 k) ∧ wr.rowIs S 27 1 (fun _ => .int .u64 (it a0 k)) ∧ wr.rowIs (w.heap.size + 1) 22 m (keyAt a0 m) ∧ Grown w wr)
    (fun _ i _ => m - (intOf i).toNat)
  case atStart =>
    refine ⟨0, Nat.zero_le _, rfl, rfl, ?_, hr.alloc _, hg.alloc _ _⟩
    rw [HS.out]
    exact World.rowIs_alloc w' #[.int .u64 a0] 27 _ (by intro i hi; simp at hi; subst hi; rfl)
  case round =>
    obtain ⟨k, hk, rfl, rfl, hs, hq, hg2⟩ := hrel
    have hsc := hs.cell (i := 0) (by omega)
    have hsf := hs.frozen 0
    by_cases hlt : k < m
    · have hst : IntKind.u64.wrap (it a0 k + 11400714819323198485) = stp (it a0 k) := rfl
      have hq2 := hq.setOther (a := ⟨S, 0, none⟩) (by simp; omega) (.int .u64 (stp (it a0 k)))
      have hrc : (wr.setCell ⟨S, 0, none⟩ (.int .u64 (stp (it a0 k)))).cell? ⟨w.heap.size + 1, k, none⟩ = some (.int .u64 (mix (stp (it a0 k)))) := by
        have h := hq2.cell hlt
        unfold keyAt at h
        rw [if_pos hlt] at h
        exact h
      have HSS := (hs.set 0 (.int .u64 (stp (it a0 k)))).congr (g := fun _ => .int .u64 (it a0 (k + 1))) (by intro i hi; simp [it]; omega)
      have HG : Grown w (wr.setCell ⟨S, 0, none⟩ (.int .u64 (stp (it a0 k)))) := hg2.setCell (by simp; omega) _
      have H : Hid (_ ∧ _ ∧ _) := ⟨hq2, HSS, HG⟩
      clear hq2 HSS HG hs hq hg2
      have hbd := stp_bd (it a0 k)
      go_wp2_with (first | (go_at_call 7; refine (next_calls _ _ _ hsc hsf).mono ?_; rintro e w' ⟨rfl, rfl⟩) | (go_at_call 8; refine (zmix_calls _ _ hbd.1 hbd.2).mono ?_; rintro e w' ⟨rfl, hgz, hbz⟩))
      go_roundw
      case rel => exact ⟨k + 1, by omega, by go_num, rfl, H.out.2.1.of_block (hbz.block _ H.out.2.1.lt), H.out.1.of_block (hbz.block _ H.out.1.lt), grown_trans H.out.2.2 hgz⟩
      case measure => simp [intOf]; omega
    · obtain rfl : k = m := by omega
      have hfin : (it a0 k == IntKind.u64.wrap (a0 + IntKind.u64.wrap ((k : Int) * 11400714819323198485))) = true := by
        rw [it_eq a0 hb0.1 hb0.2]
        simp only [IntKind.wrap_u64]
        simp only [beq_iff_eq]
        omega
      go_wp2
      go_ret
      exact ⟨rfl, hg2⟩

/-! ### THE ROW's STEP: WRITTEN OUT: LEAVE IT -/
set_option maxRecDepth 100000 in
theorem lifted (os : Os) (started : os.Started) (H : Type) (enc : TypeId × Value → H) :
    ReturnsInHanded {} Yba.checked os 4 .any (Rows.lawS1876AStreamSpec.pre6 enc Yba.prog Yba.f4 Rows.lawS1876AStreamRow.domain false) (Rows.lawS1876AStreamSpec.post enc Yba.prog Yba.f4 false true false false) := by
  refine returnsInHanded_of_change (C := Yba.checked) own started (by kernel_rfl) Yba.func4
    (ChangeSpec.witness6 (enc := enc) (C := Yba.checked) false ⟨#[], #[.int .u64 0, .int .u16 0], []⟩ 8 (by kernel_rfl) (by kernel_rfl) (by kernel_rfl) (by kernel_rfl)) ?_
  intro W base args ds gs before hval0 hW hcnd _
  have hval : ∀ (j : Nat) t v, Yba.f4.params[j]? = some t → args[j]? = some v → Value.okWide Yba.prog W .any base t v := hval0
  have hW' := hW
  obtain ⟨p, q, hA0, hV, rfl, hfz, hnd⟩ := hW
  have hA : DataW.TrodAll enc Yba.prog W 0 (fun _ => true) true Yba.f4.params.toList args.toList ds p := hA0
  rw [Yba.params4] at hA hval
  obtain ⟨v0, vs0, d0, ds0, p0, q0, hargs, rfl, rfl, h0, r0⟩ := trodAll_cons hA
  obtain ⟨v1, vs1, d1, ds1, p1, q1, rfl, rfl, rfl, h1, r1⟩ := trodAll_cons r0
  obtain ⟨rfl, rfl, rfl⟩ := trodAll_nil r1
  obtain rfl : args = #[v0, v1] := by cases args; simp_all
  obtain ⟨rfl, rfl⟩ := trodVars_none hV
  obtain ⟨a0, rfl, rfl, rfl, w0⟩ := open_int Yba.underlying22 (hval 0 22 v0 rfl rfl) h0
  obtain ⟨a1, rfl, rfl, rfl, w1⟩ := open_int Yba.underlying30 (hval 1 30 v1 rfl rfl) h1
  clear hA0 hval0
  simp only [List.append_nil] at hW'
  refine (walk a0 a1 w0 w1 W).mono fun e W' ⟨he, hg⟩ => ?_
  subst he
  exact ⟨_, rfl, post_of_same (pa := []) (pv := []) hW' (fun _ _ _ => (trodAll_cons_mk (shut_bool Yba.underlying4 _) trodAll_mk0)) (fun sp _ => (trodAll_cons_mk (shut_int Yba.underlying22 w0) (trodAll_cons_mk (shut_int Yba.underlying30 w1) trodAll_mk0))) (fun _ _ => rfl) rfl
    (hg.frame _) hg.2.1 (ok_one (by kernel_rfl) rfl (okWide_bool_mk Yba.underlying4 _))⟩

theorem over : Rows.lawS1876AStreamRow.holds Yba.pinned (OpenSpec.ofChange Rows.lawS1876AStreamSpec) :=
  OpenClaim.holds_of_wide 4 Yba.f4 rfl rfl rfl rfl rfl rfl rfl ⟨rfl, rfl, rfl, rfl, rfl⟩ rfl rfl rfl rfl rfl (by kernel_rfl) Yba.func4 (by kernel_rfl)
    (of_decide_eq_true (by kernel_rfl)) (by unfold Func.isWrapper; first | (rw [if_pos (by decide +kernel)]; kernel_rfl) | (rw [if_neg (by decide +kernel)]; exact ⟨rfl, rfl⟩))
    (fun os started H enc _ => lifted os started H enc)

/-- ████ THE STATEMENT ████ -/
theorem proved : Rows.LawS1876AStreamSaid :=
  over
#print axioms proved
end Go.Proofs.Ybulkalve.lawS1876AStream
