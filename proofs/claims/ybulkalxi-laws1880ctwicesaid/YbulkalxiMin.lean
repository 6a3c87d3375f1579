/- LawS1880CMin, walked in three cases. -/
import Derived.Test.YbulkalxiKeeps
namespace Go.Proofs.Ybulkalxi
open Go.ChangeShapes Go.WideShapes Go.RowKit
theorem alloc_drewN (w : World) (n : Nat) (o : Obj) : (w.drewN n).alloc o = (w.alloc o).drewN n := rfl
theorem setCell_drewN (w : World) (n : Nat) (a : Addr) (v : Value) : (w.drewN n).setCell a v = (w.setCell a v).drewN n := rfl
attribute [local go_sem] alloc_drewN setCell_drewN frozen?_alloc_cells
theorem frozen_new (w : World) (b o : Nat) (h : w.heap.size ≤ b) : w.frozen? ⟨b, o, none⟩ = false := by
  simp [World.frozen?, Array.getElem?_eq_none h]
theorem grown_drewN {W w : World} (h : Grown W w) (n : Nat) : Grown W (w.drewN n) := h

set_option maxHeartbeats 1000000 in
theorem min_yes (a0 a1 a2 : Int) (w : World) (d0 : -9223372036854775808 ≤ a0) (d1 : a0 ≤ 9223372036854775807) (e0 : -9223372036854775808 ≤ a1) (e1 : a1 ≤ 9223372036854775807) (hz : (a0 == 0) = false) (hz2 : (a0 != 0) = true) (hn : a1 < a0) :
    Calls Yba.prog 4 #[.int .i64 a0, .int .i64 a1, .int .i64 a2] w fun e w' => e = .returned (.bool true) ∧ Grown w w' := by
  go_enter Yba.func4, Yba.ntmps4
  go_wp2_with fail
  refine (at_calls a0 _ d0 d1).mono ?_
  rintro e w' ⟨rfl, rfl⟩
  simp only [tm]
  go_wp2_with fail
  refine (at_calls a1 _ e0 e1).mono ?_
  rintro e w' ⟨rfl, rfl⟩
  simp only [tm]
  go_wp2_with fail
  refine (keeps_yes (w.heap.size + 1 + 1 + 1) a0 a1 _ ?k1 ?k2 ?k3 hz hn).mono ?_
  case k1 => refine ⟨?_, ?_, ?_⟩ <;> simp [go_sem]
  case k2 => simp
  case k3 => intro o; simp only [frozen?_alloc_cells]; exact frozen_new _ _ _ (by omega)
  rintro e w' ⟨rfl, n, rfl⟩
  simp only [tm]
  go_wp2_with fail
  refine (isZero_calls a1 _).mono ?_
  rintro e w' ⟨rfl, rfl⟩
  simp only [tm]
  go_wp2_with fail
  go_region_with (first | (go_at_call 9; refine (at_calls a1 _ e0 e1).mono ?_; rintro e w' ⟨rfl, rfl⟩; simp only [tm]) | (go_at_call 12; refine (equal_calls a1 _).mono ?_; rintro e w' ⟨rfl, rfl⟩; simp only [tm]))
  all_goals go_wp2
  all_goals go_ret
  all_goals refine ⟨rfl, ?_⟩
  all_goals repeat' (first | (with_reducible exact Grown.refl _) | (with_reducible refine grown_drewN ?_ _) | (with_reducible refine Grown.alloc ?_ _ _) | (with_reducible refine Grown.drew ?_))

set_option maxHeartbeats 1000000 in
theorem min_no (a0 a1 a2 : Int) (w : World) (d0 : -9223372036854775808 ≤ a0) (d1 : a0 ≤ 9223372036854775807) (e0 : -9223372036854775808 ≤ a1) (e1 : a1 ≤ 9223372036854775807) (hz : (a0 == 0) = false) (hz2 : (a0 != 0) = true) (hn : a0 ≤ a1) :
    Calls Yba.prog 4 #[.int .i64 a0, .int .i64 a1, .int .i64 a2] w fun e w' => e = .returned (.bool true) ∧ Grown w w' := by
  go_enter Yba.func4, Yba.ntmps4
  go_wp2_with fail
  refine (at_calls a0 _ d0 d1).mono ?_
  rintro e w' ⟨rfl, rfl⟩
  simp only [tm]
  go_wp2_with fail
  refine (at_calls a1 _ e0 e1).mono ?_
  rintro e w' ⟨rfl, rfl⟩
  simp only [tm]
  go_wp2_with fail
  refine (keeps_no (w.heap.size + 1 + 1 + 1) a0 a1 _ ?k1 ?k2 hz hn).mono ?_
  case k1 => refine ⟨?_, ?_, ?_⟩ <;> simp [go_sem]
  case k2 => simp
  rintro e w' ⟨rfl, n, rfl⟩
  simp only [tm]
  go_wp2_with fail
  refine (isZero_calls a0 _).mono ?_
  rintro e w' ⟨rfl, rfl⟩
  simp only [tm]
  go_wp2_with fail
  go_region_with (first | (go_at_call 9; refine (at_calls a0 _ d0 d1).mono ?_; rintro e w' ⟨rfl, rfl⟩; simp only [tm]) | (go_at_call 12; refine (equal_calls a0 _).mono ?_; rintro e w' ⟨rfl, rfl⟩; simp only [tm]))
  all_goals go_wp2
  all_goals go_ret
  all_goals refine ⟨rfl, ?_⟩
  all_goals repeat' (first | (with_reducible exact Grown.refl _) | (with_reducible refine grown_drewN ?_ _) | (with_reducible refine Grown.alloc ?_ _ _) | (with_reducible refine Grown.drew ?_))

set_option maxHeartbeats 1000000 in
theorem min_zero (a1 a2 : Int) (w : World) (e0 : -9223372036854775808 ≤ a1) (e1 : a1 ≤ 9223372036854775807) :
    Calls Yba.prog 4 #[.int .i64 0, .int .i64 a1, .int .i64 a2] w fun e w' => e = .returned (.bool true) ∧ Grown w w' := by
  go_enter Yba.func4, Yba.ntmps4
  go_wp2_with fail
  refine (at_calls 0 _ (by omega) (by omega)).mono ?_
  rintro e w' ⟨rfl, rfl⟩
  simp only [tm]
  go_wp2_with fail
  refine (at_calls a1 _ e0 e1).mono ?_
  rintro e w' ⟨rfl, rfl⟩
  simp only [tm]
  go_wp2_with fail
  refine (keeps_zero (w.heap.size + 1 + 1 + 1) a1 _ ?k1 ?k2).mono ?_
  case k1 => refine ⟨?_, ?_, ?_⟩ <;> simp [go_sem]
  case k2 => simp
  rintro e w' ⟨rfl, n, rfl⟩
  simp only [tm]
  go_wp2_with fail
  refine (isZero_yes _).mono ?_
  rintro e w' ⟨rfl, rfl⟩
  simp only [tm]
  go_wp2_with fail
  go_region_with (first | (go_at_call 9; refine (at_calls 0 _ (by omega) (by omega)).mono ?_; rintro e w' ⟨rfl, rfl⟩; simp only [tm]) | (go_at_call 12; refine (equal_calls 0 _).mono ?_; rintro e w' ⟨rfl, rfl⟩; simp only [tm]))
  all_goals go_wp2
  all_goals go_ret
  all_goals refine ⟨rfl, ?_⟩
  all_goals repeat' (first | (with_reducible exact Grown.refl _) | (with_reducible refine grown_drewN ?_ _) | (with_reducible refine Grown.alloc ?_ _ _) | (with_reducible refine Grown.drew ?_))
end Go.Proofs.Ybulkalxi
