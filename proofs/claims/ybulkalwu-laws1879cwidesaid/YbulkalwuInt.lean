/- math/big's Int: Lsh, Add at the shapes that the law meets. -/
import Derived.Test.YbulkalwuNat
namespace Go.Proofs.Ybulkalwu
open Go.ChangeShapes Go.WideShapes Go.RowKit

theorem alloc_drewN (w : World) (n : Nat) (o : Obj) : (w.drewN n).alloc o = (w.alloc o).drewN n := rfl
attribute [local go_sem] alloc_drewN setCell_drewN

set_option maxHeartbeats 400000 in
theorem lsh_one (b g : Nat) (hi : Int) (w : World) (hn : (hi == 0) = false) (c0 : w.cell? ⟨b, 0, none⟩ = some (.bool false)) (c1 : w.cell? ⟨b, 1, none⟩ = some (.slice (some ⟨g, 0, none⟩) 1 1)) (cg : w.cell? ⟨g, 0, none⟩ = some (.int .u64 hi))
    (f0 : ∀ o, w.frozen? ⟨b, o, none⟩ = false) (hb : b < w.heap.size) (hg : g < w.heap.size) :
    Calls Yba.prog 6 #[.pointer (some ⟨b, 0, none⟩), .pointer (some ⟨b, 0, none⟩), .int .u64 64] w fun e w' => e = .returned (.pointer (some ⟨b, 0, none⟩)) ∧
      ∃ n, w' = (((w.setCell ⟨b, 1, none⟩ (.slice (some ⟨w.heap.size, 0, none⟩) 2 7)).setCell ⟨b, 0, none⟩ (.bool false)).alloc (.cells (seven 0 hi 0) 45)).drewN n := by
  have k1 : ∀ o, (w.alloc o).cell? ⟨b, 1, none⟩ = some (.slice (some ⟨g, 0, none⟩) 1 1) := fun o => (World.cell?_alloc_past _ _ _ hb).trans c1
  have k0 : ∀ o, (w.alloc o).cell? ⟨b, 0, none⟩ = some (.bool false) := fun o => (World.cell?_alloc_past _ _ _ hb).trans c0
  have f1 : ∀ c t o, (w.alloc (.cells c t)).frozen? ⟨b, o, none⟩ = false := fun c t o => (frozen?_alloc_cells _ _ _ _).trans (f0 o)
  go_enter Yba.func6, Yba.ntmps6
  go_wp2
  go_region_with (go_at_call 18; refine (nlsh_one g hi _ (by simpa using cg) (by simpa using hg) hn).mono ?_; rintro e w' ⟨rfl, rfl⟩)
  all_goals go_wp2
  all_goals (go_ret; exact ⟨rfl, 1, rfl⟩)

set_option maxHeartbeats 400000 in
theorem lsh_nil (b : Nat) (w : World) (c0 : w.cell? ⟨b, 0, none⟩ = some (.bool false)) (c1 : w.cell? ⟨b, 1, none⟩ = some (.slice none 0 0))
    (f0 : ∀ o, w.frozen? ⟨b, o, none⟩ = false) :
    Calls Yba.prog 6 #[.pointer (some ⟨b, 0, none⟩), .pointer (some ⟨b, 0, none⟩), .int .u64 64] w fun e w' => e = .returned (.pointer (some ⟨b, 0, none⟩)) ∧
      ∃ n, w' = ((w.setCell ⟨b, 1, none⟩ (.slice none 0 0)).setCell ⟨b, 0, none⟩ (.bool false)).drewN n := by
  go_enter Yba.func6, Yba.ntmps6
  go_wp2
  go_region_with (go_at_call 18; refine (nlsh_nil _).mono ?_; rintro e w' ⟨rfl, rfl⟩)
  all_goals go_wp2
  all_goals (go_ret; exact ⟨rfl, 1, rfl⟩)

set_option maxHeartbeats 400000 in
theorem add_nil_nil (b y : Nat) (w : World) (c0 : w.cell? ⟨b, 0, none⟩ = some (.bool false)) (c1 : w.cell? ⟨b, 1, none⟩ = some (.slice none 0 0)) (y0 : w.cell? ⟨y, 0, none⟩ = some (.bool false)) (y1 : w.cell? ⟨y, 1, none⟩ = some (.slice none 0 0))
    (f0 : ∀ o, w.frozen? ⟨b, o, none⟩ = false) :
    Calls Yba.prog 7 #[.pointer (some ⟨b, 0, none⟩), .pointer (some ⟨b, 0, none⟩), .pointer (some ⟨y, 0, none⟩)] w fun e w' => e = .returned (.pointer (some ⟨b, 0, none⟩)) ∧
      ∃ n, w' = ((w.setCell ⟨b, 1, none⟩ (.slice none 0 0)).setCell ⟨b, 0, none⟩ (.bool false)).drewN n := by
  go_enter Yba.func7, Yba.ntmps7
  go_wp2
  go_quiet (fail)
  go_wp2
  go_region_with (go_at_call 19; refine (nadd_nil_nil _).mono ?_; rintro e w' ⟨rfl, rfl⟩)
  all_goals go_wp2
  all_goals (go_ret; exact ⟨rfl, _, rfl⟩)

set_option maxHeartbeats 400000 in
theorem add_nil_one (b y h : Nat) (lo : Int) (w : World) (c0 : w.cell? ⟨b, 0, none⟩ = some (.bool false)) (c1 : w.cell? ⟨b, 1, none⟩ = some (.slice none 0 0)) (y0 : w.cell? ⟨y, 0, none⟩ = some (.bool false)) (y1 : w.cell? ⟨y, 1, none⟩ = some (.slice (some ⟨h, 0, none⟩) 1 1))
    (ch : w.cell? ⟨h, 0, none⟩ = some (.int .u64 lo)) (f0 : ∀ o, w.frozen? ⟨b, o, none⟩ = false) (hb : b < w.heap.size) (hh : h < w.heap.size) :
    Calls Yba.prog 7 #[.pointer (some ⟨b, 0, none⟩), .pointer (some ⟨b, 0, none⟩), .pointer (some ⟨y, 0, none⟩)] w fun e w' => e = .returned (.pointer (some ⟨b, 0, none⟩)) ∧
      ∃ n, w' = (((w.setCell ⟨b, 1, none⟩ (.slice (some ⟨w.heap.size, 0, none⟩) 1 1)).setCell ⟨b, 0, none⟩ (.bool false)).alloc (.cells #[.int .u64 lo] 45)).drewN n := by
  have k1 : ∀ o, (w.alloc o).cell? ⟨b, 1, none⟩ = some (.slice none 0 0) := fun o => (World.cell?_alloc_past _ _ _ hb).trans c1
  have k0 : ∀ o, (w.alloc o).cell? ⟨b, 0, none⟩ = some (.bool false) := fun o => (World.cell?_alloc_past _ _ _ hb).trans c0
  have f1 : ∀ c t o, (w.alloc (.cells c t)).frozen? ⟨b, o, none⟩ = false := fun c t o => (frozen?_alloc_cells _ _ _ _).trans (f0 o)
  go_enter Yba.func7, Yba.ntmps7
  go_wp2
  go_quiet (fail)
  go_wp2
  go_region_with (go_at_call 19; refine (nadd_nil_one h lo _ (by simpa using ch) (by simpa using hh)).mono ?_; rintro e w' ⟨rfl, rfl⟩)
  all_goals go_wp2
  all_goals (go_ret; exact ⟨rfl, _, rfl⟩)

set_option maxHeartbeats 400000 in
theorem add_two_nil (b y g : Nat) (hi : Int) (w : World) (c0 : w.cell? ⟨b, 0, none⟩ = some (.bool false)) (c1 : w.cell? ⟨b, 1, none⟩ = some (.slice (some ⟨g, 0, none⟩) 2 7)) (y0 : w.cell? ⟨y, 0, none⟩ = some (.bool false)) (y1 : w.cell? ⟨y, 1, none⟩ = some (.slice none 0 0))
    (g0 : w.cell? ⟨g, 0, none⟩ = some (.int .u64 0)) (g1 : w.cell? ⟨g, 1, none⟩ = some (.int .u64 hi)) (f0 : ∀ o, w.frozen? ⟨b, o, none⟩ = false) (fg : ∀ o, w.frozen? ⟨g, o, none⟩ = false) (hbg : b ≠ g) :
    Calls Yba.prog 7 #[.pointer (some ⟨b, 0, none⟩), .pointer (some ⟨b, 0, none⟩), .pointer (some ⟨y, 0, none⟩)] w fun e w' => e = .returned (.pointer (some ⟨b, 0, none⟩)) ∧
      ∃ n, w' = ((((w.setCell ⟨g, 0, none⟩ (.int .u64 0)).setCell ⟨g, 1, none⟩ (.int .u64 hi)).setCell ⟨b, 1, none⟩ (.slice (some ⟨g, 0, none⟩) 2 7)).setCell ⟨b, 0, none⟩ (.bool false)).drewN n := by
  have k1 : ((w.setCell ⟨g, 0, none⟩ (.int .u64 0)).setCell ⟨g, 1, none⟩ (.int .u64 hi)).cell? ⟨b, 1, none⟩ = some (.slice (some ⟨g, 0, none⟩) 2 7) := by simp [go_sem, c1]
  have k0 : ((w.setCell ⟨g, 0, none⟩ (.int .u64 0)).setCell ⟨g, 1, none⟩ (.int .u64 hi)).cell? ⟨b, 0, none⟩ = some (.bool false) := by simp [go_sem, c0]
  have f1 : ∀ o, ((w.setCell ⟨g, 0, none⟩ (.int .u64 0)).setCell ⟨g, 1, none⟩ (.int .u64 hi)).frozen? ⟨b, o, none⟩ = false := fun o => by simp [go_sem, f0]
  go_enter Yba.func7, Yba.ntmps7
  go_wp2
  go_quiet (fail)
  go_wp2
  go_region_with (go_at_call 19; refine (nadd_two_nil g hi _ (by simpa using g0) (by simpa using g1) (by simpa using fg 0) (by simpa using fg 1)).mono ?_; rintro e w' ⟨rfl, rfl⟩)
  all_goals go_wp2
  all_goals (go_ret; exact ⟨rfl, _, rfl⟩)

set_option maxHeartbeats 400000 in
theorem add_two_one (b y g h : Nat) (hi lo : Int) (w : World) (h0 : 0 ≤ hi) (h1 : hi ≤ 18446744073709551615) (l0 : 0 ≤ lo) (l1 : lo ≤ 18446744073709551615) (hn : (hi == 0) = false)
    (c0 : w.cell? ⟨b, 0, none⟩ = some (.bool false)) (c1 : w.cell? ⟨b, 1, none⟩ = some (.slice (some ⟨g, 0, none⟩) 2 7)) (y0 : w.cell? ⟨y, 0, none⟩ = some (.bool false)) (y1 : w.cell? ⟨y, 1, none⟩ = some (.slice (some ⟨h, 0, none⟩) 1 1))
    (g0 : w.cell? ⟨g, 0, none⟩ = some (.int .u64 0)) (g1 : w.cell? ⟨g, 1, none⟩ = some (.int .u64 hi)) (g2 : w.cell? ⟨g, 2, none⟩ = some (.int .u64 0)) (ch : w.cell? ⟨h, 0, none⟩ = some (.int .u64 lo)) (f0 : ∀ o, w.frozen? ⟨b, o, none⟩ = false) (fg : ∀ o, w.frozen? ⟨g, o, none⟩ = false) (hbg : b ≠ g) :
    Calls Yba.prog 7 #[.pointer (some ⟨b, 0, none⟩), .pointer (some ⟨b, 0, none⟩), .pointer (some ⟨y, 0, none⟩)] w fun e w' => e = .returned (.pointer (some ⟨b, 0, none⟩)) ∧
      ∃ n, w' = (((((w.setCell ⟨g, 0, none⟩ (.int .u64 lo)).setCell ⟨g, 1, none⟩ (.int .u64 hi)).setCell ⟨g, 2, none⟩ (.int .u64 0)).setCell ⟨b, 1, none⟩ (.slice (some ⟨g, 0, none⟩) 2 7)).setCell ⟨b, 0, none⟩ (.bool false)).drewN n := by
  have k1 : (((w.setCell ⟨g, 0, none⟩ (.int .u64 lo)).setCell ⟨g, 1, none⟩ (.int .u64 hi)).setCell ⟨g, 2, none⟩ (.int .u64 0)).cell? ⟨b, 1, none⟩ = some (.slice (some ⟨g, 0, none⟩) 2 7) := by simp [go_sem, c1]
  have k0 : (((w.setCell ⟨g, 0, none⟩ (.int .u64 lo)).setCell ⟨g, 1, none⟩ (.int .u64 hi)).setCell ⟨g, 2, none⟩ (.int .u64 0)).cell? ⟨b, 0, none⟩ = some (.bool false) := by simp [go_sem, c0]
  have f1 : ∀ o, (((w.setCell ⟨g, 0, none⟩ (.int .u64 lo)).setCell ⟨g, 1, none⟩ (.int .u64 hi)).setCell ⟨g, 2, none⟩ (.int .u64 0)).frozen? ⟨b, o, none⟩ = false := fun o => by simp [go_sem, f0]
  go_enter Yba.func7, Yba.ntmps7
  go_wp2
  go_quiet (fail)
  go_wp2
  go_region_with (go_at_call 19; refine (nadd_two_one g h hi lo _ h0 h1 l0 l1 hn (by simpa using g0) (by simpa using g1) (by simpa using g2) (by simpa using fg) (by simpa using ch)).mono ?_; rintro e w' ⟨rfl, n, rfl⟩)
  all_goals go_wp2
  all_goals (go_ret; exact ⟨rfl, _, rfl⟩)
end Go.Proofs.Ybulkalwu
