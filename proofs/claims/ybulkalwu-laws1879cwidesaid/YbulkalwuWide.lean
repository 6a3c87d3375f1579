/- LawS1879CWide, walked in four cases: hi and lo, each nought or not. -/
import Derived.Test.YbulkalwuInt
namespace Go.Proofs.Ybulkalwu
open Go.ChangeShapes Go.WideShapes Go.RowKit
attribute [local go_sem] alloc_drewN setCell_drewN

theorem frozen_new (w : World) (b o : Nat) (h : w.heap.size ≤ b) : w.frozen? ⟨b, o, none⟩ = false := by
  simp [World.frozen?, Array.getElem?_eq_none h]

theorem grown_drewN {W w : World} (h : Grown W w) (n : Nat) : Grown W (w.drewN n) := h

set_option maxHeartbeats 1000000 in
theorem wide_two_one (hi lo s : Int) (neg : Bool) (w : World) (h0 : 0 ≤ hi) (h1 : hi ≤ 18446744073709551615) (l0 : 0 ≤ lo) (l1 : lo ≤ 18446744073709551615) (hn : (hi == 0) = false) (ln : (lo == 0) = false) :
    Calls Yba.prog 3 #[.int .u64 hi, .int .u64 lo, .bool neg, .int .i64 s] w fun e w' => e = .returned (.bool true) ∧ Grown w w' := by
  have hmk := mk11
  have hq := neq23
  have hq2 := eql23
  cases neg
  all_goals
    go_enter Yba.func3, Yba.ntmps3
    go_wp2_with (first | (go_at_call 6; refine (lsh_one w.heap.size (w.heap.size + 1) hi _ hn (by simp) (by simp) (by simp) (by simp [frozen?_alloc_cells, frozen_new]) (by simp; omega) (by simp)).mono ?_; rintro e w' ⟨rfl, n, rfl⟩; simp only [seven]) | (go_at_call 5; go_in) | (go_at_call 17; go_in) | (go_at_call 25; go_in) | (go_at_call 26; go_in))
    refine (add_two_one w.heap.size (w.heap.size + 1 + 1 + 1) (w.heap.size + 1 + 1) (w.heap.size + 1 + 1 + 1 + 1) hi lo _ h0 h1 l0 l1 hn ?a1 ?a2 ?a3 ?a4 ?a5 ?a6 ?a7 ?a8 ?a9 ?a10 ?a11).mono ?_
    case a1 => simp [go_sem]
    case a2 => simp [go_sem]
    case a3 => simp [go_sem]
    case a4 => simp [go_sem]
    case a5 => simp [go_sem]
    case a6 => simp [go_sem]
    case a7 => simp [go_sem]
    case a8 => simp [go_sem]
    case a9 => simp [frozen?_alloc_cells, frozen_new]
    case a10 => intro o; simp only [World.frozen?_drewN, frozen?_alloc_cells]; exact frozen_new _ _ _ (by omega)
    case a11 => omega
    rintro e w' ⟨rfl, n2, rfl⟩
    go_wp2_with (first | (go_at_call 8; go_in) | (go_at_call 22; go_in))
    refine (fromBig_two w.heap.size (w.heap.size + 1 + 1) 0 7 s _ ?b1 ?b2).mono ?_
    case b1 => simp [go_sem]
    case b2 => simp; omega
    rintro e w' ⟨rfl, rfl⟩
    simp only [decBig]
    go_wp2
    go_ret
    refine ⟨rfl, ?_⟩
    repeat (first | exact Grown.refl _ | apply grown_drewN | apply Grown.alloc)

set_option maxHeartbeats 1000000 in
theorem wide_two_nil (hi s : Int) (neg : Bool) (w : World) (_h0 : 0 ≤ hi) (_h1 : hi ≤ 18446744073709551615) (hn : (hi == 0) = false) :
    Calls Yba.prog 3 #[.int .u64 hi, .int .u64 0, .bool neg, .int .i64 s] w fun e w' => e = .returned (.bool true) ∧ Grown w w' := by
  have hmk := mk11
  have hq := neq23
  have hq2 := eql23
  cases neg
  all_goals
    go_enter Yba.func3, Yba.ntmps3
    go_wp2_with (first | (go_at_call 6; refine (lsh_one w.heap.size (w.heap.size + 1) hi _ hn (by simp) (by simp) (by simp) (by simp [frozen?_alloc_cells, frozen_new]) (by simp; omega) (by simp)).mono ?_; rintro e w' ⟨rfl, n, rfl⟩; simp only [seven]) | (go_at_call 5; go_in) | (go_at_call 17; go_in) | (go_at_call 25; go_in) | (go_at_call 26; go_in))
    refine (add_two_nil w.heap.size (w.heap.size + 1 + 1 + 1) (w.heap.size + 1 + 1) hi _ ?a1 ?a2 ?a3 ?a4 ?a5 ?a6 ?a9 ?a10 ?a11).mono ?_
    case a1 => simp [go_sem]
    case a2 => simp [go_sem]
    case a3 => simp [go_sem]
    case a4 => simp [go_sem]
    case a5 => simp [go_sem]
    case a6 => simp [go_sem]
    case a9 => simp [frozen?_alloc_cells, frozen_new]
    case a10 => intro o; simp only [World.frozen?_drewN, frozen?_alloc_cells]; exact frozen_new _ _ _ (by omega)
    case a11 => omega
    rintro e w' ⟨rfl, n2, rfl⟩
    go_wp2_with (first | (go_at_call 8; go_in) | (go_at_call 22; go_in))
    refine (fromBig_two w.heap.size (w.heap.size + 1 + 1) 0 7 s _ ?b1 ?b2).mono ?_
    case b1 => simp [go_sem]
    case b2 => simp; omega
    rintro e w' ⟨rfl, rfl⟩
    simp only [decBig]
    go_wp2
    go_ret
    refine ⟨rfl, ?_⟩
    repeat (first | exact Grown.refl _ | apply grown_drewN | apply Grown.alloc)

set_option maxHeartbeats 1000000 in
theorem wide_nil_nil (s : Int) (neg : Bool) (w : World) :
    Calls Yba.prog 3 #[.int .u64 0, .int .u64 0, .bool neg, .int .i64 s] w fun e w' => e = .returned (.bool true) ∧ Grown w w' := by
  have hq := neq23
  cases neg
  all_goals
    go_enter Yba.func3, Yba.ntmps3
    go_wp2_with (first | (go_at_call 6; refine (lsh_nil w.heap.size _ (by simp) (by simp) (by simp [frozen?_alloc_cells, frozen_new])).mono ?_; rintro e w' ⟨rfl, n, rfl⟩) | (go_at_call 5; go_in) | (go_at_call 17; go_in) | (go_at_call 25; go_in) | (go_at_call 26; go_in))
    refine (add_nil_nil w.heap.size (w.heap.size + 1) _ ?a1 ?a2 ?a3 ?a4 ?a9).mono ?_
    case a1 => simp [go_sem]
    case a2 => simp [go_sem]
    case a3 => simp [go_sem]
    case a4 => simp [go_sem]
    case a9 => simp [frozen?_alloc_cells, frozen_new]
    rintro e w' ⟨rfl, n2, rfl⟩
    go_wp2_with (first | (go_at_call 8; go_in) | (go_at_call 22; go_in))
    refine (fromBig_nil w.heap.size 0 none s _ ?b0 ?b1 ?b2).mono ?_
    case b0 => simp [go_sem]
    case b1 => simp [go_sem]
    case b2 => simp; omega
    rintro e w' ⟨rfl, rfl⟩
    simp only [decSmall]
    go_wp2
    go_ret
    refine ⟨rfl, ?_⟩
    repeat (first | exact Grown.refl _ | apply grown_drewN | apply Grown.alloc)

theorem i64Of_at (neg : Bool) (lo : Int) (h0 : 0 ≤ lo) (h1 : lo ≤ 9223372036854775807) : i64Of neg lo = if neg then -lo else lo := by
  unfold i64Of wrap64; cases neg <;> simp <;> omega

set_option maxHeartbeats 1000000 in
theorem wide_nil_small (lo s : Int) (neg : Bool) (w : World) (l0 : 0 ≤ lo) (l1 : lo ≤ 9223372036854775807) (ln : (lo == 0) = false) :
    Calls Yba.prog 3 #[.int .u64 0, .int .u64 lo, .bool neg, .int .i64 s] w fun e w' => e = .returned (.bool true) ∧ Grown w w' := by
  have hmk := mk11
  have hq := neq23
  have hi := i64Of_at neg lo l0 l1
  cases neg
  · simp only [Bool.false_eq_true, if_false] at hi
    go_enter Yba.func3, Yba.ntmps3
    go_wp2_with (first | (go_at_call 6; refine (lsh_nil w.heap.size _ (by simp) (by simp) (by simp [frozen?_alloc_cells, frozen_new])).mono ?_; rintro e w' ⟨rfl, n, rfl⟩) | (go_at_call 5; go_in) | (go_at_call 17; go_in) | (go_at_call 25; go_in) | (go_at_call 26; go_in))
    refine (add_nil_one w.heap.size (w.heap.size + 1) (w.heap.size + 1 + 1) lo _ ?a1 ?a2 ?a3 ?a4 ?a5 ?a9 ?a10 ?a11).mono ?_
    case a1 => simp [go_sem]
    case a2 => simp [go_sem]
    case a3 => simp [go_sem]
    case a4 => simp [go_sem]
    case a5 => simp [go_sem]
    case a9 => simp [frozen?_alloc_cells, frozen_new]
    case a10 => simp; omega
    case a11 => simp
    rintro e w' ⟨rfl, n2, rfl⟩
    go_wp2_with (first | (go_at_call 8; go_in) | (go_at_call 22; go_in))
    refine (fromBig_small w.heap.size (w.heap.size + 1 + 1 + 1) 0 1 false lo s _ ?b0 ?b1 ?b2 ?b3 ?b4 ⟨l0, l1⟩).mono ?_
    case b0 => simp [go_sem]
    case b1 => simp [go_sem]
    case b2 => simp [go_sem]
    case b3 => simp; omega
    case b4 => simp
    rintro e w' ⟨rfl, rfl⟩
    simp only [decSmall, hi]
    go_wp2
    go_ret
    refine ⟨rfl, ?_⟩
    repeat (first | exact Grown.refl _ | apply grown_drewN | apply Grown.alloc)
  · simp only [if_true] at hi
    go_enter Yba.func3, Yba.ntmps3
    go_wp2_with (first | (go_at_call 6; refine (lsh_nil w.heap.size _ (by simp) (by simp) (by simp [frozen?_alloc_cells, frozen_new])).mono ?_; rintro e w' ⟨rfl, n, rfl⟩) | (go_at_call 5; go_in) | (go_at_call 17; go_in) | (go_at_call 25; go_in) | (go_at_call 26; go_in))
    refine (add_nil_one w.heap.size (w.heap.size + 1) (w.heap.size + 1 + 1) lo _ ?a1 ?a2 ?a3 ?a4 ?a5 ?a9 ?a10 ?a11).mono ?_
    case a1 => simp [go_sem]
    case a2 => simp [go_sem]
    case a3 => simp [go_sem]
    case a4 => simp [go_sem]
    case a5 => simp [go_sem]
    case a9 => simp [frozen?_alloc_cells, frozen_new]
    case a10 => simp; omega
    case a11 => simp
    rintro e w' ⟨rfl, n2, rfl⟩
    go_wp2_with (first | (go_at_call 8; go_in) | (go_at_call 22; go_in))
    refine (fromBig_small w.heap.size (w.heap.size + 1 + 1 + 1) 0 1 true lo s _ ?b0 ?b1 ?b2 ?b3 ?b4 ⟨l0, l1⟩).mono ?_
    case b0 => simp [go_sem]
    case b1 => simp [go_sem]
    case b2 => simp [go_sem]
    case b3 => simp; omega
    case b4 => simp
    rintro e w' ⟨rfl, rfl⟩
    simp only [decSmall, hi]
    go_wp2
    go_ret
    refine ⟨rfl, ?_⟩
    repeat (first | exact Grown.refl _ | apply grown_drewN | apply Grown.alloc)

set_option maxHeartbeats 1000000 in
theorem wide_nil_big (lo s : Int) (neg : Bool) (w : World) (l0 : 9223372036854775808 ≤ lo) (l1 : lo ≤ 18446744073709551615) (ln : (lo == 0) = false) :
    Calls Yba.prog 3 #[.int .u64 0, .int .u64 lo, .bool neg, .int .i64 s] w fun e w' => e = .returned (.bool true) ∧ Grown w w' := by
  have hmk := mk11
  have hq := neq23
  have hq2 := eql23
  cases neg
  · go_enter Yba.func3, Yba.ntmps3
    go_wp2_with (first | (go_at_call 6; refine (lsh_nil w.heap.size _ (by simp) (by simp) (by simp [frozen?_alloc_cells, frozen_new])).mono ?_; rintro e w' ⟨rfl, n, rfl⟩) | (go_at_call 5; go_in) | (go_at_call 17; go_in) | (go_at_call 25; go_in) | (go_at_call 26; go_in))
    refine (add_nil_one w.heap.size (w.heap.size + 1) (w.heap.size + 1 + 1) lo _ ?a1 ?a2 ?a3 ?a4 ?a5 ?a9 ?a10 ?a11).mono ?_
    case a1 => simp [go_sem]
    case a2 => simp [go_sem]
    case a3 => simp [go_sem]
    case a4 => simp [go_sem]
    case a5 => simp [go_sem]
    case a9 => simp [frozen?_alloc_cells, frozen_new]
    case a10 => simp; omega
    case a11 => simp
    rintro e w' ⟨rfl, n2, rfl⟩
    go_wp2_with (first | (go_at_call 8; go_in) | (go_at_call 22; go_in))
    refine (fromBig_big w.heap.size (w.heap.size + 1 + 1 + 1) 0 1 false lo s _ ?b0 ?b1 ?b2 ?b3 ?b4 ⟨l0, l1⟩).mono ?_
    case b0 => simp [go_sem]
    case b1 => simp [go_sem]
    case b2 => simp [go_sem]
    case b3 => simp; omega
    case b4 => simp
    rintro e w' ⟨rfl, rfl⟩
    simp only [decBig]
    go_wp2
    go_ret
    refine ⟨rfl, ?_⟩
    repeat (first | exact Grown.refl _ | apply grown_drewN | apply Grown.alloc)
  · go_enter Yba.func3, Yba.ntmps3
    go_wp2_with (first | (go_at_call 6; refine (lsh_nil w.heap.size _ (by simp) (by simp) (by simp [frozen?_alloc_cells, frozen_new])).mono ?_; rintro e w' ⟨rfl, n, rfl⟩) | (go_at_call 5; go_in) | (go_at_call 17; go_in) | (go_at_call 25; go_in) | (go_at_call 26; go_in))
    refine (add_nil_one w.heap.size (w.heap.size + 1) (w.heap.size + 1 + 1) lo _ ?a1 ?a2 ?a3 ?a4 ?a5 ?a9 ?a10 ?a11).mono ?_
    case a1 => simp [go_sem]
    case a2 => simp [go_sem]
    case a3 => simp [go_sem]
    case a4 => simp [go_sem]
    case a5 => simp [go_sem]
    case a9 => simp [frozen?_alloc_cells, frozen_new]
    case a10 => simp; omega
    case a11 => simp
    rintro e w' ⟨rfl, n2, rfl⟩
    go_wp2_with (first | (go_at_call 8; go_in) | (go_at_call 22; go_in))
    refine (fromBig_big w.heap.size (w.heap.size + 1 + 1 + 1) 0 1 true lo s _ ?b0 ?b1 ?b2 ?b3 ?b4 ⟨l0, l1⟩).mono ?_
    case b0 => simp [go_sem]
    case b1 => simp [go_sem]
    case b2 => simp [go_sem]
    case b3 => simp; omega
    case b4 => simp
    rintro e w' ⟨rfl, rfl⟩
    simp only [decBig]
    go_wp2
    go_ret
    refine ⟨rfl, ?_⟩
    repeat (first | exact Grown.refl _ | apply grown_drewN | apply Grown.alloc)

end Go.Proofs.Ybulkalwu
