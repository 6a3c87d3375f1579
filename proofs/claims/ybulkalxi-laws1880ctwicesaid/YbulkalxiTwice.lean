/- LawS1880CTwice, walked in its cases. -/
import Derived.Test.YbulkalxiMin
namespace Go.Proofs.Ybulkalxi
open Go.ChangeShapes Go.WideShapes Go.RowKit
attribute [local go_sem] alloc_drewN setCell_drewN frozen?_alloc_cells

set_option maxHeartbeats 1000000 in
theorem tw_zero (a1 a2 : Int) (w : World) (e0 : -9223372036854775808 ≤ a1) (e1 : a1 ≤ 9223372036854775807) (g0 : -9223372036854775808 ≤ a2) (g1 : a2 ≤ 9223372036854775807) :
    Calls Yba.prog 5 #[.int .i64 0, .int .i64 a1, .int .i64 a2] w fun e w' => e = .returned (.bool true) ∧ Grown w w' := by
  go_enter Yba.func5, Yba.ntmps5
  go_wp2_with fail
  refine (at_calls 0 _ (by omega) (by omega)).mono ?_
  rintro e w' ⟨rfl, rfl⟩
  simp only [tm]
  go_wp2_with fail
  refine (at_calls a1 _ e0 e1).mono ?_
  rintro e w' ⟨rfl, rfl⟩
  simp only [tm]
  go_wp2_with fail
  refine (keeps_zero (w.heap.size + 1 + 1 + 1) a1 _ ?k1 ?k2).mono ?_
  case k1 => refine ⟨?_, ?_, ?_⟩ <;> simp [go_sem]
  case k2 => simp
  rintro e w' ⟨rfl, n, rfl⟩
  simp only [tm]
  go_wp2_with fail
  refine (at_calls a2 _ g0 g1).mono ?_
  rintro e w' ⟨rfl, rfl⟩
  simp only [tm]
  go_wp2_with fail
  refine (keeps_zero (w.heap.size + 1 + 1 + 1) a2 _ ?k1 ?k2).mono ?_
  case k1 => refine ⟨?_, ?_, ?_⟩ <;> simp [go_sem]
  case k2 => simp
  rintro e w' ⟨rfl, m, rfl⟩
  simp only [tm]
  go_wp2_with fail
  go_region_with (first | (go_at_call 9; refine (at_calls 0 _ (by omega) (by omega)).mono ?_; rintro e w' ⟨rfl, rfl⟩; simp only [tm]) | (go_at_call 12; refine (equal_calls 0 _).mono ?_; rintro e w' ⟨rfl, rfl⟩; simp only [tm]))
  all_goals go_wp2
  all_goals go_ret
  all_goals refine ⟨rfl, ?_⟩
  all_goals repeat' (first | (with_reducible exact Grown.refl _) | (with_reducible refine grown_drewN ?_ _) | (with_reducible refine Grown.alloc ?_ _ _) | (with_reducible refine Grown.drew ?_))

set_option maxHeartbeats 1000000 in
theorem tw_no_no (a0 a1 a2 : Int) (w : World) (d0 : -9223372036854775808 ≤ a0) (d1 : a0 ≤ 9223372036854775807) (e0 : -9223372036854775808 ≤ a1) (e1 : a1 ≤ 9223372036854775807) (g0 : -9223372036854775808 ≤ a2) (g1 : a2 ≤ 9223372036854775807) (hz : (a0 == 0) = false) (hz2 : (a0 != 0) = true) (hn : a0 ≤ a1) (hm : a0 ≤ a2) :
    Calls Yba.prog 5 #[.int .i64 a0, .int .i64 a1, .int .i64 a2] w fun e w' => e = .returned (.bool true) ∧ Grown w w' := by
  go_enter Yba.func5, Yba.ntmps5
  go_wp2_with fail
  refine (at_calls a0 _ d0 d1).mono ?_
  rintro e w' ⟨rfl, rfl⟩
  simp only [tm]
  go_wp2_with fail
  refine (at_calls a1 _ e0 e1).mono ?_
  rintro e w' ⟨rfl, rfl⟩
  simp only [tm]
  go_wp2_with fail
  refine (keeps_no (w.heap.size + 1 + 1 + 1) a0 a1 _ ?k1 ?k2 hz hn).mono ?_
  case k1 => refine ⟨?_, ?_, ?_⟩ <;> simp [go_sem]
  case k2 => simp
  rintro e w' ⟨rfl, n, rfl⟩
  simp only [tm]
  go_wp2_with fail
  refine (at_calls a2 _ g0 g1).mono ?_
  rintro e w' ⟨rfl, rfl⟩
  simp only [tm]
  go_wp2_with fail
  refine (keeps_no (w.heap.size + 1 + 1 + 1) a0 a2 _ ?k1 ?k2 hz hm).mono ?_
  case k1 => refine ⟨?_, ?_, ?_⟩ <;> simp [go_sem]
  case k2 => simp
  rintro e w' ⟨rfl, m, rfl⟩
  simp only [tm]
  go_wp2_with fail
  go_region_with (first | (go_at_call 9; refine (at_calls a0 _ d0 d1).mono ?_; rintro e w' ⟨rfl, rfl⟩; simp only [tm]) | (go_at_call 12; refine (equal_calls a0 _).mono ?_; rintro e w' ⟨rfl, rfl⟩; simp only [tm]))
  all_goals go_wp2
  all_goals go_ret
  all_goals refine ⟨rfl, ?_⟩
  all_goals repeat' (first | (with_reducible exact Grown.refl _) | (with_reducible refine grown_drewN ?_ _) | (with_reducible refine Grown.alloc ?_ _ _) | (with_reducible refine Grown.drew ?_))

set_option maxHeartbeats 1000000 in
theorem tw_no_yes (a0 a1 a2 : Int) (w : World) (d0 : -9223372036854775808 ≤ a0) (d1 : a0 ≤ 9223372036854775807) (e0 : -9223372036854775808 ≤ a1) (e1 : a1 ≤ 9223372036854775807) (g0 : -9223372036854775808 ≤ a2) (g1 : a2 ≤ 9223372036854775807) (hz : (a0 == 0) = false) (hz2 : (a0 != 0) = true) (hn : a0 ≤ a1) (hm : a2 < a0) :
    Calls Yba.prog 5 #[.int .i64 a0, .int .i64 a1, .int .i64 a2] w fun e w' => e = .returned (.bool true) ∧ Grown w w' := by
  go_enter Yba.func5, Yba.ntmps5
  go_wp2_with fail
  refine (at_calls a0 _ d0 d1).mono ?_
  rintro e w' ⟨rfl, rfl⟩
  simp only [tm]
  go_wp2_with fail
  refine (at_calls a1 _ e0 e1).mono ?_
  rintro e w' ⟨rfl, rfl⟩
  simp only [tm]
  go_wp2_with fail
  refine (keeps_no (w.heap.size + 1 + 1 + 1) a0 a1 _ ?k1 ?k2 hz hn).mono ?_
  case k1 => refine ⟨?_, ?_, ?_⟩ <;> simp [go_sem]
  case k2 => simp
  rintro e w' ⟨rfl, n, rfl⟩
  simp only [tm]
  go_wp2_with fail
  refine (at_calls a2 _ g0 g1).mono ?_
  rintro e w' ⟨rfl, rfl⟩
  simp only [tm]
  go_wp2_with fail
  refine (keeps_yes (w.heap.size + 1 + 1 + 1) a0 a2 _ ?k1 ?k2 ?k3 hz hm).mono ?_
  case k1 => refine ⟨?_, ?_, ?_⟩ <;> simp [go_sem]
  case k2 => simp
  case k3 => intro o; simp only [frozen?_alloc_cells, World.frozen?_drewN]; exact frozen_new _ _ _ (by omega)
  rintro e w' ⟨rfl, m, rfl⟩
  simp only [tm]
  go_wp2_with fail
  go_region_with (first | (go_at_call 9; refine (at_calls a2 _ g0 g1).mono ?_; rintro e w' ⟨rfl, rfl⟩; simp only [tm]) | (go_at_call 12; refine (equal_calls a2 _).mono ?_; rintro e w' ⟨rfl, rfl⟩; simp only [tm]))
  all_goals go_wp2
  all_goals go_ret
  all_goals refine ⟨rfl, ?_⟩
  all_goals repeat' (first | (with_reducible exact Grown.refl _) | (with_reducible refine grown_drewN ?_ _) | (with_reducible refine Grown.alloc ?_ _ _) | (with_reducible refine Grown.drew ?_))

set_option maxHeartbeats 1000000 in
theorem tw_yes_zero (a0 a2 : Int) (w : World) (d0 : -9223372036854775808 ≤ a0) (d1 : a0 ≤ 9223372036854775807) (g0 : -9223372036854775808 ≤ a2) (g1 : a2 ≤ 9223372036854775807) (hz : (a0 == 0) = false) (hz2 : (a0 != 0) = true) (hn : 0 < a0) :
    Calls Yba.prog 5 #[.int .i64 a0, .int .i64 0, .int .i64 a2] w fun e w' => e = .returned (.bool true) ∧ Grown w w' := by
  go_enter Yba.func5, Yba.ntmps5
  go_wp2_with fail
  refine (at_calls a0 _ d0 d1).mono ?_
  rintro e w' ⟨rfl, rfl⟩
  simp only [tm]
  go_wp2_with fail
  refine (at_calls 0 _ (by omega) (by omega)).mono ?_
  rintro e w' ⟨rfl, rfl⟩
  simp only [tm]
  go_wp2_with fail
  refine (keeps_yes (w.heap.size + 1 + 1 + 1) a0 0 _ ?k1 ?k2 ?k3 hz hn).mono ?_
  case k1 => refine ⟨?_, ?_, ?_⟩ <;> simp [go_sem]
  case k2 => simp
  case k3 => intro o; simp only [frozen?_alloc_cells]; exact frozen_new _ _ _ (by omega)
  rintro e w' ⟨rfl, n, rfl⟩
  simp only [tm]
  go_wp2_with fail
  refine (at_calls a2 _ g0 g1).mono ?_
  rintro e w' ⟨rfl, rfl⟩
  simp only [tm]
  go_wp2_with fail
  refine (keeps_zero (w.heap.size + 1 + 1 + 1) a2 _ ?k1 ?k2).mono ?_
  case k1 => refine ⟨?_, ?_, ?_⟩ <;> simp [go_sem]
  case k2 => simp
  rintro e w' ⟨rfl, m, rfl⟩
  simp only [tm]
  go_wp2_with fail
  go_region_with (first | (go_at_call 9; refine (at_calls 0 _ (by omega) (by omega)).mono ?_; rintro e w' ⟨rfl, rfl⟩; simp only [tm]) | (go_at_call 12; refine (equal_calls 0 _).mono ?_; rintro e w' ⟨rfl, rfl⟩; simp only [tm]))
  all_goals go_wp2
  all_goals go_ret
  all_goals refine ⟨rfl, ?_⟩
  all_goals repeat' (first | (with_reducible exact Grown.refl _) | (with_reducible refine grown_drewN ?_ _) | (with_reducible refine Grown.alloc ?_ _ _) | (with_reducible refine Grown.drew ?_))

set_option maxHeartbeats 1000000 in
theorem tw_yes_no (a0 a1 a2 : Int) (w : World) (d0 : -9223372036854775808 ≤ a0) (d1 : a0 ≤ 9223372036854775807) (e0 : -9223372036854775808 ≤ a1) (e1 : a1 ≤ 9223372036854775807) (g0 : -9223372036854775808 ≤ a2) (g1 : a2 ≤ 9223372036854775807) (hz : (a0 == 0) = false) (hz2 : (a0 != 0) = true) (ez : (a1 == 0) = false) (ez2 : (a1 != 0) = true) (hn : a1 < a0) (hm : a1 ≤ a2) :
    Calls Yba.prog 5 #[.int .i64 a0, .int .i64 a1, .int .i64 a2] w fun e w' => e = .returned (.bool true) ∧ Grown w w' := by
  go_enter Yba.func5, Yba.ntmps5
  go_wp2_with fail
  refine (at_calls a0 _ d0 d1).mono ?_
  rintro e w' ⟨rfl, rfl⟩
  simp only [tm]
  go_wp2_with fail
  refine (at_calls a1 _ e0 e1).mono ?_
  rintro e w' ⟨rfl, rfl⟩
  simp only [tm]
  go_wp2_with fail
  refine (keeps_yes (w.heap.size + 1 + 1 + 1) a0 a1 _ ?k1 ?k2 ?k3 hz hn).mono ?_
  case k1 => refine ⟨?_, ?_, ?_⟩ <;> simp [go_sem]
  case k2 => simp
  case k3 => intro o; simp only [frozen?_alloc_cells]; exact frozen_new _ _ _ (by omega)
  rintro e w' ⟨rfl, n, rfl⟩
  simp only [tm]
  go_wp2_with fail
  refine (at_calls a2 _ g0 g1).mono ?_
  rintro e w' ⟨rfl, rfl⟩
  simp only [tm]
  go_wp2_with fail
  refine (keeps_no (w.heap.size + 1 + 1 + 1) a1 a2 _ ?k1 ?k2 ez hm).mono ?_
  case k1 => refine ⟨?_, ?_, ?_⟩ <;> simp [go_sem]
  case k2 => simp
  rintro e w' ⟨rfl, m, rfl⟩
  simp only [tm]
  go_wp2_with fail
  go_region_with (first | (go_at_call 9; refine (at_calls a1 _ e0 e1).mono ?_; rintro e w' ⟨rfl, rfl⟩; simp only [tm]) | (go_at_call 12; refine (equal_calls a1 _).mono ?_; rintro e w' ⟨rfl, rfl⟩; simp only [tm]))
  all_goals go_wp2
  all_goals go_ret
  all_goals refine ⟨rfl, ?_⟩
  all_goals repeat' (first | (with_reducible exact Grown.refl _) | (with_reducible refine grown_drewN ?_ _) | (with_reducible refine Grown.alloc ?_ _ _) | (with_reducible refine Grown.drew ?_))

set_option maxHeartbeats 1000000 in
theorem tw_yes_yes (a0 a1 a2 : Int) (w : World) (d0 : -9223372036854775808 ≤ a0) (d1 : a0 ≤ 9223372036854775807) (e0 : -9223372036854775808 ≤ a1) (e1 : a1 ≤ 9223372036854775807) (g0 : -9223372036854775808 ≤ a2) (g1 : a2 ≤ 9223372036854775807) (hz : (a0 == 0) = false) (hz2 : (a0 != 0) = true) (ez : (a1 == 0) = false) (ez2 : (a1 != 0) = true) (hn : a1 < a0) (hm : a2 < a1) :
    Calls Yba.prog 5 #[.int .i64 a0, .int .i64 a1, .int .i64 a2] w fun e w' => e = .returned (.bool true) ∧ Grown w w' := by
  go_enter Yba.func5, Yba.ntmps5
  go_wp2_with fail
  refine (at_calls a0 _ d0 d1).mono ?_
  rintro e w' ⟨rfl, rfl⟩
  simp only [tm]
  go_wp2_with fail
  refine (at_calls a1 _ e0 e1).mono ?_
  rintro e w' ⟨rfl, rfl⟩
  simp only [tm]
  go_wp2_with fail
  refine (keeps_yes (w.heap.size + 1 + 1 + 1) a0 a1 _ ?k1 ?k2 ?k3 hz hn).mono ?_
  case k1 => refine ⟨?_, ?_, ?_⟩ <;> simp [go_sem]
  case k2 => simp
  case k3 => intro o; simp only [frozen?_alloc_cells]; exact frozen_new _ _ _ (by omega)
  rintro e w' ⟨rfl, n, rfl⟩
  simp only [tm]
  go_wp2_with fail
  refine (at_calls a2 _ g0 g1).mono ?_
  rintro e w' ⟨rfl, rfl⟩
  simp only [tm]
  go_wp2_with fail
  refine (keeps_yes (w.heap.size + 1 + 1 + 1) a1 a2 _ ?k1 ?k2 ?k3 ez hm).mono ?_
  case k1 => refine ⟨?_, ?_, ?_⟩ <;> simp [go_sem]
  case k2 => simp
  case k3 => intro o; simp only [frozen?_alloc_cells, World.frozen?_drewN]; exact frozen_new _ _ _ (by omega)
  rintro e w' ⟨rfl, m, rfl⟩
  simp only [tm]
  go_wp2_with fail
  go_region_with (first | (go_at_call 9; refine (at_calls a2 _ g0 g1).mono ?_; rintro e w' ⟨rfl, rfl⟩; simp only [tm]) | (go_at_call 12; refine (equal_calls a2 _).mono ?_; rintro e w' ⟨rfl, rfl⟩; simp only [tm]))
  all_goals go_wp2
  all_goals go_ret
  all_goals refine ⟨rfl, ?_⟩
  all_goals repeat' (first | (with_reducible exact Grown.refl _) | (with_reducible refine grown_drewN ?_ _) | (with_reducible refine Grown.alloc ?_ _ _) | (with_reducible refine Grown.drew ?_))

end Go.Proofs.Ybulkalxi
