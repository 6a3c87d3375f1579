/- math/big's nat: make, set, norm, lsh, add, at the few shapes that the law meets: no word, one word, two words. -/
import Derived.Test.YbulkalwuBase
import Derived.Laws.IdiomCopy
import Derived.Lib.SliceRun
import Derived.Deep.QuietTactic
import Derived.BigQuiet
import Derived.Laws.Externs
import Derived.Deep.RegionWith
import Derived.BigRegion
namespace Go.Proofs.Ybulkalwu
open Go.ChangeShapes Go.WideShapes Go.RowKit

/-- seven words, the first three given -/
def seven (a b c : Int) : Array Value := #[.int .u64 a, .int .u64 b, .int .u64 c, .int .u64 0, .int .u64 0, .int .u64 0, .int .u64 0]

theorem mk37 (w : World) : (Instr.makeSlice 25 (.int .i64 3) (.int .i64 7)).run Yba.prog w = .ok (.slice (some ⟨w.heap.size, 0, none⟩) 3 7) (w.alloc (.cells #[.int .u64 0, .int .u64 0, .int .u64 0, .int .u64 0, .int .u64 0, .int .u64 0, .int .u64 0] 45)) := by kernel_rfl
theorem mk11 (w : World) : (Instr.makeSlice 25 (.int .i64 1) (.int .i64 1)).run Yba.prog w = .ok (.slice (some ⟨w.heap.size, 0, none⟩) 1 1) (w.alloc (.cells #[.int .u64 0] 45)) := by kernel_rfl
theorem size45 : (Yba.prog.info? 45).map (·.size) = some 1 := by kernel_rfl
theorem zero45 (w : World) : (zeroValue 45).run Yba.prog w = .ok (.int .u64 0) w := by kernel_rfl

/-- copy of one word -/
theorem copy_one (W : World) (b o dc : Nat) (a : Addr) (sc : Nat) (x : Int) (u : Value) (hs : W.cell? a = some (.int .u64 x)) (hd : W.cell? ⟨b, o, none⟩ = some u) (hf : W.frozen? ⟨b, o, none⟩ = false) :
    (Builtin.copy_ #[25, 25] 3 #[.slice (some ⟨b, o, none⟩) 1 dc, .slice (some a) 1 sc]).run Yba.prog W = .ok (.int .i64 1) (W.setCell ⟨b, o, none⟩ (.int .u64 x)) := by
  have h := run_copy_cells (P := Yba.prog) W 25 25 3 45 b o 1 dc a 1 sc [.int .u64 x] Yba.underlying25 size45 rfl
    (by intro j v hj; match j, hj with | 0, hj => simp at hj; subst hj; simpa [Addr.add] using hs)
    (by intro j hj; have : j = 0 := by simpa using hj
        subst this; simp [hd])
    (by intro j hj; have : j = 0 := by simpa using hj
        subst this; simpa using hf)
    (by intro v hv; simp at hv; subst hv; rfl)
  exact h

theorem clear_one (W : World) (ty b o c : Nat) (u : Value) (hd : W.cell? ⟨b, o, none⟩ = some u) (hf : W.frozen? ⟨b, o, none⟩ = false) :
    (Builtin.clear_ #[25] ty #[.slice (some ⟨b, o, none⟩) 1 c]).run Yba.prog W = .ok (.tuple #[]) (W.setCell ⟨b, o, none⟩ (.int .u64 0)) := by
  have h := Lib.run_clear_slice (P := Yba.prog) W 25 45 ty (.int .u64 0) Yba.underlying25 zero45 rfl rfl b o 1 c (by omega)
    (by intro j hj; have : j = 0 := by omega
        subst this; simp [hd])
    (by intro j hj; have : j = 0 := by omega
        subst this; simpa using hf)
  exact h

set_option maxHeartbeats 400000 in
theorem nlsh_nil (w : World) :
    Calls Yba.prog 18 #[.slice none 0 0, .slice none 0 0, .int .u64 64] w fun e w' => e = .returned (.slice none 0 0) ∧ w' = w := by
  go_enter Yba.func18, Yba.ntmps18
  go_wp2
  go_ret
  exact ⟨rfl, rfl⟩

/-- norm of three words, the last 0, the second not: two words -/
theorem norm_three (g o cap : Nat) (b : Int) (w : World) (h1 : w.cell? ⟨g, o + 1, none⟩ = some (.int .u64 b)) (h2 : w.cell? ⟨g, o + 2, none⟩ = some (.int .u64 0)) (hb : (b == 0) = false) (hcap : 3 ≤ cap) :
    Calls Yba.prog 31 #[.slice (some ⟨g, o, none⟩) 3 cap] w fun e w' => e = .returned (.slice (some ⟨g, o, none⟩) 2 cap) ∧ w' = w := by
  go_enter Yba.func31, Yba.ntmps31
  go_wp2
  refine wp_loop_rounds 2 ?_
  rw [rounds_succ]
  go_wp2
  rw [rounds_succ]
  go_wp2
  go_ret
  exact ⟨rfl, rfl⟩

set_option maxHeartbeats 400000 in
theorem nlsh_one (g : Nat) (hi : Int) (w : World) (hc : w.cell? ⟨g, 0, none⟩ = some (.int .u64 hi)) (hg : g < w.heap.size) (hn : (hi == 0) = false) :
    Calls Yba.prog 18 #[.slice (some ⟨g, 0, none⟩) 1 1, .slice (some ⟨g, 0, none⟩) 1 1, .int .u64 64] w fun e w' => e = .returned (.slice (some ⟨w.heap.size, 0, none⟩) 2 7) ∧ w' = w.alloc (.cells (seven 0 hi 0) 45) := by
  have hmk := mk37
  have hcp := copy_one (w.alloc (.cells #[.int .u64 0, .int .u64 0, .int .u64 0, .int .u64 0, .int .u64 0, .int .u64 0, .int .u64 0] 45)) w.heap.size 1 6 ⟨g, 0, none⟩ 1 hi (.int .u64 0) ((World.cell?_alloc_past _ _ _ hg).trans hc) (by simp) (by simp)
  have hcl := clear_one (w.alloc (.cells #[.int .u64 0, .int .u64 hi, .int .u64 0, .int .u64 0, .int .u64 0, .int .u64 0, .int .u64 0] 45)) 0 w.heap.size 0 7 (.int .u64 0) (by simp) (by simp)
  go_enter Yba.func18, Yba.ntmps18
  go_wp2_with (first | (go_at_call 31; refine (norm_three _ _ _ hi _ (by simp) (by simp) hn (by omega)).mono ?_; rintro e w' ⟨rfl, rfl⟩) | go_in)
  go_ret
  exact ⟨rfl, rfl⟩

/-! ### add -/
set_option maxHeartbeats 400000 in
theorem nadd_nil_nil (w : World) :
    Calls Yba.prog 19 #[.slice none 0 0, .slice none 0 0, .slice none 0 0] w fun e w' => e = .returned (.slice none 0 0) ∧ w' = w := by
  go_enter Yba.func19, Yba.ntmps19
  go_wp2
  go_ret
  exact ⟨rfl, rfl⟩

/-- set: no words of one's own, one word to copy -/
theorem nset_one (g : Nat) (x : Int) (w : World) (hc : w.cell? ⟨g, 0, none⟩ = some (.int .u64 x)) (hg : g < w.heap.size) :
    Calls Yba.prog 29 #[.slice none 0 0, .slice (some ⟨g, 0, none⟩) 1 1] w fun e w' => e = .returned (.slice (some ⟨w.heap.size, 0, none⟩) 1 1) ∧ w' = w.alloc (.cells #[.int .u64 x] 45) := by
  have hmk := mk11
  have hcp := copy_one (w.alloc (.cells #[.int .u64 0] 45)) w.heap.size 0 1 ⟨g, 0, none⟩ 1 x (.int .u64 0) ((World.cell?_alloc_past _ _ _ hg).trans hc) (by simp) (by simp)
  go_enter Yba.func29, Yba.ntmps29
  go_wp2
  go_ret
  exact ⟨rfl, rfl⟩

/-- 0 + one word: by way of the call with the operands exchanged -/
theorem nadd_one_nil (g : Nat) (x : Int) (w : World) (hc : w.cell? ⟨g, 0, none⟩ = some (.int .u64 x)) (hg : g < w.heap.size) :
    Calls Yba.prog 19 #[.slice none 0 0, .slice (some ⟨g, 0, none⟩) 1 1, .slice none 0 0] w fun e w' => e = .returned (.slice (some ⟨w.heap.size, 0, none⟩) 1 1) ∧ w' = w.alloc (.cells #[.int .u64 x] 45) := by
  go_enter Yba.func19, Yba.ntmps19
  go_wp2_with (first | (go_at_call 29; refine (nset_one _ x _ hc hg).mono ?_; rintro e w' ⟨rfl, rfl⟩))
  go_ret
  exact ⟨rfl, rfl⟩

theorem nadd_nil_one (g : Nat) (x : Int) (w : World) (hc : w.cell? ⟨g, 0, none⟩ = some (.int .u64 x)) (hg : g < w.heap.size) :
    Calls Yba.prog 19 #[.slice none 0 0, .slice none 0 0, .slice (some ⟨g, 0, none⟩) 1 1] w fun e w' => e = .returned (.slice (some ⟨w.heap.size, 0, none⟩) 1 1) ∧ w' = w.alloc (.cells #[.int .u64 x] 45) := by
  go_enter Yba.func19, Yba.ntmps19
  go_wp2_with (first | (go_at_call 19; refine (nadd_one_nil _ x _ hc hg).mono ?_; rintro e w' ⟨rfl, rfl⟩))
  go_ret
  exact ⟨rfl, rfl⟩

/-- set: two words copied onto themselves -/
theorem copy_self (W : World) (g : Nat) (hi : Int) (h0 : W.cell? ⟨g, 0, none⟩ = some (.int .u64 0)) (h1 : W.cell? ⟨g, 1, none⟩ = some (.int .u64 hi)) (f0 : W.frozen? ⟨g, 0, none⟩ = false) (f1 : W.frozen? ⟨g, 1, none⟩ = false) :
    (Builtin.copy_ #[25, 25] 3 #[.slice (some ⟨g, 0, none⟩) 2 7, .slice (some ⟨g, 0, none⟩) 2 7]).run Yba.prog W = .ok (.int .i64 2) ((W.setCell ⟨g, 0, none⟩ (.int .u64 0)).setCell ⟨g, 1, none⟩ (.int .u64 hi)) := by
  have h := run_copy_cells (P := Yba.prog) W 25 25 3 45 g 0 2 7 ⟨g, 0, none⟩ 2 7 [.int .u64 0, .int .u64 hi] Yba.underlying25 size45 rfl
    (by intro j v hj; match j, hj with
        | 0, hj => simp at hj; subst hj; simpa [Addr.add] using h0
        | 1, hj => simp at hj; subst hj; simpa [Addr.add] using h1)
    (by intro j hj; match j, hj with
        | 0, _ => simp [h0]
        | 1, _ => simp [h1])
    (by intro j hj; match j, hj with
        | 0, _ => simpa using f0
        | 1, _ => simpa using f1)
    (by intro v hv; simp at hv; rcases hv with rfl | rfl <;> rfl)
  exact h

/-- two words + nothing -/
theorem nadd_two_nil (g : Nat) (hi : Int) (w : World) (h0 : w.cell? ⟨g, 0, none⟩ = some (.int .u64 0)) (h1 : w.cell? ⟨g, 1, none⟩ = some (.int .u64 hi)) (f0 : w.frozen? ⟨g, 0, none⟩ = false) (f1 : w.frozen? ⟨g, 1, none⟩ = false) :
    Calls Yba.prog 19 #[.slice (some ⟨g, 0, none⟩) 2 7, .slice (some ⟨g, 0, none⟩) 2 7, .slice none 0 0] w fun e w' => e = .returned (.slice (some ⟨g, 0, none⟩) 2 7) ∧ w' = ((w.setCell ⟨g, 0, none⟩ (.int .u64 0)).setCell ⟨g, 1, none⟩ (.int .u64 hi)) := by
  have hcp := copy_self w g hi h0 h1 f0 f1
  go_enter Yba.func19, Yba.ntmps19
  go_wp2
  go_ret
  exact ⟨rfl, rfl⟩

/-! ### the two words and one more: addVV, addVW -/
theorem setCell_drewN (w : World) (n : Nat) (a : Addr) (v : Value) : (w.drewN n).setCell a v = (w.setCell a v).drewN n := rfl
theorem mod_in (x : Int) (h0 : 0 ≤ x) (h1 : x ≤ 18446744073709551615) : x % 18446744073709551616 = x ∧ x / 18446744073709551616 = 0 := by omega

theorem add64_r (x : Int) (h0 : 0 ≤ x) (h1 : x ≤ 18446744073709551615) (w : World) : (callFunc 40 #[.int .u64 x, .int .u64 0, .int .u64 0]).run Yba.prog w = .ok (.value (.tuple #[.int .u64 x, .int .u64 0])) w := by
  rw [run_callFunc_extern Yba.func40 (by kernel_rfl) (by kernel_rfl) (by kernel_rfl) (e := add64Entry) (by kernel_rfl)]
  rw [run_add64 (P := Yba.prog) x 0 0 h0 (by omega) (by omega) (by omega), Int.add_zero, Int.add_zero, (mod_in x h0 h1).1, (mod_in x h0 h1).2]
  rfl
theorem add64_l (x : Int) (h0 : 0 ≤ x) (h1 : x ≤ 18446744073709551615) (w : World) : (callFunc 40 #[.int .u64 0, .int .u64 x, .int .u64 0]).run Yba.prog w = .ok (.value (.tuple #[.int .u64 x, .int .u64 0])) w := by
  rw [run_callFunc_extern Yba.func40 (by kernel_rfl) (by kernel_rfl) (by kernel_rfl) (e := add64Entry) (by kernel_rfl)]
  rw [run_add64 (P := Yba.prog) 0 x 0 (by omega) h0 (by omega) (by omega), Int.add_zero, Int.zero_add, (mod_in x h0 h1).1, (mod_in x h0 h1).2]
  rfl

theorem bitsAdd_r (x : Int) (h0 : 0 ≤ x) (h1 : x ≤ 18446744073709551615) (w : World) :
    Calls Yba.prog 34 #[.int .u64 x, .int .u64 0, .int .u64 0] w fun e w' => e = .returned (.tuple #[.int .u64 x, .int .u64 0]) ∧ w' = w := by
  have ha := add64_r x h0 h1
  go_enter Yba.func34, Yba.ntmps34
  go_wp2
  go_ret2
  exact ⟨rfl, rfl⟩
theorem bitsAdd_l (x : Int) (h0 : 0 ≤ x) (h1 : x ≤ 18446744073709551615) (w : World) :
    Calls Yba.prog 34 #[.int .u64 0, .int .u64 x, .int .u64 0] w fun e w' => e = .returned (.tuple #[.int .u64 x, .int .u64 0]) ∧ w' = w := by
  have ha := add64_l x h0 h1
  go_enter Yba.func34, Yba.ntmps34
  go_wp2
  go_ret2
  exact ⟨rfl, rfl⟩

/-- addVV at one word each, z over x: 0 + lo -/
theorem addVVg_one (g h : Nat) (lo : Int) (h0 : 0 ≤ lo) (h1 : lo ≤ 18446744073709551615) (w : World) (c0 : w.cell? ⟨g, 0, none⟩ = some (.int .u64 0)) (f0 : w.frozen? ⟨g, 0, none⟩ = false) (d0 : w.cell? ⟨h, 0, none⟩ = some (.int .u64 lo)) :
    Calls Yba.prog 11 #[.slice (some ⟨g, 0, none⟩) 1 7, .slice (some ⟨g, 0, none⟩) 1 7, .slice (some ⟨h, 0, none⟩) 1 1] w fun e w' => e = .returned (.int .u64 0) ∧ ∃ n, w' = (w.setCell ⟨g, 0, none⟩ (.int .u64 lo)).drewN n := by
  go_enter Yba.func11, Yba.ntmps11
  go_wp2
  refine wp_loop_rounds 2 ?_
  rw [rounds_succ]
  go_wp2
  go_quiet ((go_at_call 34; exact Calls.quiet_of_same (bitsAdd_l lo h0 h1 _)))
  go_wp2
  rw [rounds_succ]
  go_wp2
  go_ret
  exact ⟨rfl, _, rfl⟩

theorem Yba.info45 : ∃ j, Yba.prog.info? 45 = some j := Option.isSome_iff_exists.1 (by kernel_rfl)
theorem neq57 (w : World) (a : Addr) : (binOp .neq 57 (.pointer (some a)) (.pointer (some a))).run Yba.prog w = .ok (.bool false) w := by
  obtain ⟨j, hj⟩ := Yba.info45
  exact run_neq_pointer_same w a Yba.underlying57 hj

theorem addVW_one (g : Nat) (hi : Int) (h0 : 0 ≤ hi) (h1 : hi ≤ 18446744073709551615) (w : World) (c1 : w.cell? ⟨g, 1, none⟩ = some (.int .u64 hi)) (f1 : w.frozen? ⟨g, 1, none⟩ = false) :
    Calls Yba.prog 33 #[.slice (some ⟨g, 1, none⟩) 1 6, .slice (some ⟨g, 1, none⟩) 1 6, .int .u64 0] w fun e w' => e = .returned (.int .u64 0) ∧ ∃ n, w' = (w.setCell ⟨g, 1, none⟩ (.int .u64 hi)).drewN n := by
  have hq := neq57
  go_enter Yba.func33, Yba.ntmps33
  go_wp2_with (first | (go_at_call 34; refine (bitsAdd_r hi h0 h1 _).mono ?_; rintro e w' ⟨rfl, rfl⟩))
  go_quiet (fail)
  go_wp2
  go_ret
  exact ⟨rfl, _, rfl⟩

theorem nadd_two_one (g h : Nat) (hi lo : Int) (w : World) (h0 : 0 ≤ hi) (h1 : hi ≤ 18446744073709551615) (l0 : 0 ≤ lo) (l1 : lo ≤ 18446744073709551615) (hn : (hi == 0) = false)
    (c0 : w.cell? ⟨g, 0, none⟩ = some (.int .u64 0)) (c1 : w.cell? ⟨g, 1, none⟩ = some (.int .u64 hi)) (c2 : w.cell? ⟨g, 2, none⟩ = some (.int .u64 0)) (f0 : ∀ o, w.frozen? ⟨g, o, none⟩ = false) (d0 : w.cell? ⟨h, 0, none⟩ = some (.int .u64 lo)) :
    Calls Yba.prog 19 #[.slice (some ⟨g, 0, none⟩) 2 7, .slice (some ⟨g, 0, none⟩) 2 7, .slice (some ⟨h, 0, none⟩) 1 1] w fun e w' => e = .returned (.slice (some ⟨g, 0, none⟩) 2 7) ∧ ∃ n, w' = (((w.setCell ⟨g, 0, none⟩ (.int .u64 lo)).setCell ⟨g, 1, none⟩ (.int .u64 hi)).setCell ⟨g, 2, none⟩ (.int .u64 0)).drewN n := by
  have s1 : (w.setCell ⟨g, 0, none⟩ (.int .u64 lo)).cell? ⟨g, 1, none⟩ = some (.int .u64 hi) := by simp [go_sem, c1]
  have s2 : (w.setCell ⟨g, 0, none⟩ (.int .u64 lo)).cell? ⟨g, 2, none⟩ = some (.int .u64 0) := by simp [go_sem, c2]
  have t2 : ((w.setCell ⟨g, 0, none⟩ (.int .u64 lo)).setCell ⟨g, 1, none⟩ (.int .u64 hi)).cell? ⟨g, 2, none⟩ = some (.int .u64 0) := by simp [go_sem, c2]
  have u1 : (((w.setCell ⟨g, 0, none⟩ (.int .u64 lo)).setCell ⟨g, 1, none⟩ (.int .u64 hi)).setCell ⟨g, 2, none⟩ (.int .u64 0)).cell? ⟨g, 1, none⟩ = some (.int .u64 hi) := by simp [go_sem, c1]
  have u2 : (((w.setCell ⟨g, 0, none⟩ (.int .u64 lo)).setCell ⟨g, 1, none⟩ (.int .u64 hi)).setCell ⟨g, 2, none⟩ (.int .u64 0)).cell? ⟨g, 2, none⟩ = some (.int .u64 0) := by simp [go_sem, c2]
  have g1 : (w.setCell ⟨g, 0, none⟩ (.int .u64 lo)).frozen? ⟨g, 1, none⟩ = false := by simp [go_sem, f0]
  have g2 : ((w.setCell ⟨g, 0, none⟩ (.int .u64 lo)).setCell ⟨g, 1, none⟩ (.int .u64 hi)).frozen? ⟨g, 2, none⟩ = false := by simp [go_sem, f0]
  go_enter Yba.func19, Yba.ntmps19
  go_wp2
  go_region_with (go_at_call 11; refine (addVVg_one g h lo l0 l1 _ (by simpa using c0) (by simpa using f0 0) (by simpa using d0)).mono ?_; rintro e w' ⟨rfl, n, rfl⟩)
  all_goals go_wp2
  go_region_with (go_at_call 33; refine (addVW_one g hi h0 h1 _ (by simpa using s1) (by simpa using g1)).mono ?_; rintro e w' ⟨rfl, n2, rfl⟩)
  all_goals go_wp2_with (first | (go_at_call 31; refine (norm_three _ _ _ hi _ ?k1 ?k2 hn (by omega)).mono ?_; rotate_right; rintro e w' ⟨rfl, rfl⟩))
  case k1 => exact u1
  case k2 => exact u2
  go_ret
  exact ⟨rfl, _, by rw [setCell_drewN, setCell_drewN, setCell_drewN, World.drewN_drewN]⟩
end Go.Proofs.Ybulkalwu
