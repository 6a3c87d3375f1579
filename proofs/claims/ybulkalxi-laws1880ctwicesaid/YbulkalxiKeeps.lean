/- bucket.keeps: 'due' is lowered to 'end' where due is set and end is earlier. -/
import Derived.Test.YbulkalxiTime
import Derived.Deep.RegionWith
import Derived.BigRegion
namespace Go.Proofs.Ybulkalxi
open Go.ChangeShapes Go.WideShapes Go.RowKit
attribute [local go_sem] frozen?_alloc_cells

theorem isZero_yes (w : World) : Calls Yba.prog 11 #[.agg (tm 0)] w fun e w' => e = .returned (.bool true) ∧ w' = w.alloc (.cells (tm 0) 37) := isZero_calls 0 w
theorem isZero_no (n : Int) (h : (n == 0) = false) (w : World) : Calls Yba.prog 11 #[.agg (tm n)] w fun e w' => e = .returned (.bool false) ∧ w' = w.alloc (.cells (tm n) 37) := by
  have h1 := isZero_calls n w
  rw [h] at h1
  exact h1
theorem before_yes (a b : Int) (h : a < b) (w : World) : Calls Yba.prog 22 #[.agg (tm a), .agg (tm b)] w fun e w' => e = .returned (.bool true) ∧ w' = (w.alloc (.cells (tm a) 37)).alloc (.cells (tm b) 37) := by
  have h1 := before_calls a b w
  rw [decide_eq_true h] at h1
  exact h1
theorem before_no (a b : Int) (h : b ≤ a) (w : World) : Calls Yba.prog 22 #[.agg (tm a), .agg (tm b)] w fun e w' => e = .returned (.bool false) ∧ w' = (w.alloc (.cells (tm a) 37)).alloc (.cells (tm b) 37) := by
  have h1 := before_calls a b w
  rw [decide_eq_false (by omega)] at h1
  exact h1

/-- the bucket's cells that hold 'due' -/
def Due (w : World) (b : Nat) (d : Int) : Prop :=
  w.cell? ⟨b, 12, none⟩ = some (.int .u64 (d % 1000000000)) ∧ w.cell? ⟨b, 13, none⟩ = some (.int .i64 (d / 1000000000)) ∧ w.cell? ⟨b, 14, none⟩ = some (.pointer none)

set_option maxHeartbeats 400000 in
theorem keeps_zero (b : Nat) (e : Int) (w : World) (hd : Due w b 0) (hb : b < w.heap.size) :
    Calls Yba.prog 10 #[.pointer (some ⟨b, 0, none⟩), .agg (tm e)] w fun r w' => r = .returned (.tuple #[]) ∧ ∃ n, w' = ((w.alloc (.cells (tm e) 37)).alloc (.cells (tm 0) 37)).drewN n := by
  obtain ⟨c0, c1, c2⟩ := hd
  have k0 : ∀ o, (w.alloc o).cell? ⟨b, 12, none⟩ = some (.int .u64 (0 % 1000000000)) := fun o => (World.cell?_alloc_past _ _ _ hb).trans c0
  have k1 : ∀ o, (w.alloc o).cell? ⟨b, 13, none⟩ = some (.int .i64 (0 / 1000000000)) := fun o => (World.cell?_alloc_past _ _ _ hb).trans c1
  have k2 : ∀ o, (w.alloc o).cell? ⟨b, 14, none⟩ = some (.pointer none) := fun o => (World.cell?_alloc_past _ _ _ hb).trans c2
  simp only [tm]
  go_enter Yba.func10, Yba.ntmps10
  go_wp2
  refine wp_region_any (by kernel_rfl) ?_
  change wpAny _ _ _ _ _ _ _ (World.drew _)
  refine wpAny_ready (rs := [0]) (by kernel_rfl) (by simp) ?_
  refine AllReady.cons rfl (fun K hK => ?_) AllReady.nil
  go_simp
  refine hK _ _ ?_
  clear hK K
  refine wpAny_ready (rs := [1]) (by kernel_rfl) (by simp) ?_
  refine AllReady.cons rfl (fun K hK => ?_) AllReady.nil
  go_simp
  refine hK _ _ ?_
  clear hK K
  refine wpAny_ready (rs := [2]) (by kernel_rfl) (by simp) ?_
  refine AllReady.cons rfl (fun K hK => ?_) AllReady.nil
  go_simp
  refine hK _ _ ?_
  clear hK K
  refine wpAny_ready (rs := [3]) (by kernel_rfl) (by simp) ?_
  refine AllReady.cons rfl (fun K hK => ?_) AllReady.nil
  go_simp
  refine hK _ _ ?_
  clear hK K
  refine wpAny_ready (rs := [4]) (by kernel_rfl) (by simp) ?_
  refine AllReady.cons rfl (fun K hK => ?_) AllReady.nil
  go_simp
  refine (isZero_yes _).mono ?_
  rintro e w' ⟨rfl, rfl⟩
  simp only [tm]
  go_simp
  refine hK _ _ ?_
  clear hK K
  refine wpAny_ready (rs := [5]) (by kernel_rfl) (by simp) ?_
  refine AllReady.cons rfl (fun K hK => ?_) AllReady.nil
  go_simp
  refine hK _ _ ?_
  clear hK K
  refine wpAny_ready (rs := [6]) (by kernel_rfl) (by simp) ?_
  refine AllReady.cons rfl (fun K hK => ?_) AllReady.nil
  go_simp
  refine hK _ _ ?_
  clear hK K
  refine wpAny_take (i := 7) (v := undef) rfl (by kernel_rfl) (by kernel_rfl) (by kernel_rfl) (fun _ _ _ h => h) (Or.inr ⟨rfl, rfl⟩) ?_
  refine wpAny_take (i := 8) (v := undef) rfl (by kernel_rfl) (by kernel_rfl) (by kernel_rfl) (fun _ _ _ h => h) (Or.inr ⟨rfl, rfl⟩) ?_
  refine wpAny_take (i := 9) (v := undef) rfl (by kernel_rfl) (by kernel_rfl) (by kernel_rfl) (fun _ _ _ h => h) (Or.inr ⟨rfl, rfl⟩) ?_
  refine wpAny_take (i := 10) (v := undef) rfl (by kernel_rfl) (by kernel_rfl) (by kernel_rfl) (fun _ _ _ h => h) (Or.inr ⟨rfl, rfl⟩) ?_
  refine wpAny_take (i := 11) (v := undef) rfl (by kernel_rfl) (by kernel_rfl) (by kernel_rfl) (fun _ _ _ h => h) (Or.inr ⟨rfl, rfl⟩) ?_
  refine wpAny_take (i := 12) (v := undef) rfl (by kernel_rfl) (by kernel_rfl) (by kernel_rfl) (fun _ _ _ h => h) (Or.inr ⟨rfl, rfl⟩) ?_
  refine wpAny_ready (rs := [13]) (by kernel_rfl) (by simp) ?_
  refine AllReady.cons rfl (fun K hK => ?_) AllReady.nil
  go_simp
  refine hK _ _ ?_
  clear hK K
  refine wpAny_done (by kernel_rfl) ?_ _
  go_wp2
  go_end0
  exact ⟨rfl, 1, rfl⟩

set_option maxHeartbeats 400000 in
theorem keeps_no (b : Nat) (d e : Int) (w : World) (hd : Due w b d) (hb : b < w.heap.size) (hz : (d == 0) = false) (hn : d ≤ e) :
    Calls Yba.prog 10 #[.pointer (some ⟨b, 0, none⟩), .agg (tm e)] w fun r w' => r = .returned (.tuple #[]) ∧ ∃ n, w' = ((((w.alloc (.cells (tm e) 37)).alloc (.cells (tm d) 37)).alloc (.cells (tm e) 37)).alloc (.cells (tm d) 37)).drewN n := by
  obtain ⟨c0, c1, c2⟩ := hd
  have k0 : ∀ o, (w.alloc o).cell? ⟨b, 12, none⟩ = some (.int .u64 (d % 1000000000)) := fun o => (World.cell?_alloc_past _ _ _ hb).trans c0
  have k1 : ∀ o, (w.alloc o).cell? ⟨b, 13, none⟩ = some (.int .i64 (d / 1000000000)) := fun o => (World.cell?_alloc_past _ _ _ hb).trans c1
  have k2 : ∀ o, (w.alloc o).cell? ⟨b, 14, none⟩ = some (.pointer none) := fun o => (World.cell?_alloc_past _ _ _ hb).trans c2
  simp only [tm]
  go_enter Yba.func10, Yba.ntmps10
  go_wp2
  go_region_with (first | (go_at_call 11; refine (isZero_no d hz _).mono ?_; rintro e w' ⟨rfl, rfl⟩; simp only [tm]) | (go_at_call 22; refine (before_no e d hn _).mono ?_; rintro e w' ⟨rfl, rfl⟩; simp only [tm]))
  all_goals go_wp2
  all_goals (go_end0; exact ⟨rfl, 1, rfl⟩)

set_option maxHeartbeats 400000 in
theorem keeps_yes (b : Nat) (d e : Int) (w : World) (hd : Due w b d) (hb : b < w.heap.size) (hf : ∀ o, w.frozen? ⟨b, o, none⟩ = false) (hz : (d == 0) = false) (hn : e < d) :
    Calls Yba.prog 10 #[.pointer (some ⟨b, 0, none⟩), .agg (tm e)] w fun r w' => r = .returned (.tuple #[]) ∧
      ∃ n, w' = (((((((w.alloc (.cells (tm e) 37)).alloc (.cells (tm d) 37)).alloc (.cells (tm e) 37)).alloc (.cells (tm d) 37)).setCell ⟨b, 12, none⟩ (.int .u64 (e % 1000000000))).setCell ⟨b, 13, none⟩ (.int .i64 (e / 1000000000))).setCell ⟨b, 14, none⟩ (.pointer none)).drewN n := by
  obtain ⟨c0, c1, c2⟩ := hd
  have k0 : ∀ o, (w.alloc o).cell? ⟨b, 12, none⟩ = some (.int .u64 (d % 1000000000)) := fun o => (World.cell?_alloc_past _ _ _ hb).trans c0
  have k1 : ∀ o, (w.alloc o).cell? ⟨b, 13, none⟩ = some (.int .i64 (d / 1000000000)) := fun o => (World.cell?_alloc_past _ _ _ hb).trans c1
  have k2 : ∀ o, (w.alloc o).cell? ⟨b, 14, none⟩ = some (.pointer none) := fun o => (World.cell?_alloc_past _ _ _ hb).trans c2
  have lt4 : ∀ o1 o2 o3 : Obj, b < (w.alloc o1).heap.size ∧ b < ((w.alloc o1).alloc o2).heap.size ∧ b < (((w.alloc o1).alloc o2).alloc o3).heap.size := fun o1 o2 o3 => by simp; omega
  have m0 : ∀ o1 o2 o3 o4, ((((w.alloc o1).alloc o2).alloc o3).alloc o4).cell? ⟨b, 12, none⟩ = some (.int .u64 (d % 1000000000)) := fun o1 o2 o3 o4 => (World.cell?_alloc_past _ _ _ (lt4 o1 o2 o3).2.2).trans ((World.cell?_alloc_past _ _ _ (lt4 o1 o2 o3).2.1).trans ((World.cell?_alloc_past _ _ _ (lt4 o1 o2 o3).1).trans (k0 o1)))
  have m1 : ∀ o1 o2 o3 o4, ((((w.alloc o1).alloc o2).alloc o3).alloc o4).cell? ⟨b, 13, none⟩ = some (.int .i64 (d / 1000000000)) := fun o1 o2 o3 o4 => (World.cell?_alloc_past _ _ _ (lt4 o1 o2 o3).2.2).trans ((World.cell?_alloc_past _ _ _ (lt4 o1 o2 o3).2.1).trans ((World.cell?_alloc_past _ _ _ (lt4 o1 o2 o3).1).trans (k1 o1)))
  have m2 : ∀ o1 o2 o3 o4, ((((w.alloc o1).alloc o2).alloc o3).alloc o4).cell? ⟨b, 14, none⟩ = some (.pointer none) := fun o1 o2 o3 o4 => (World.cell?_alloc_past _ _ _ (lt4 o1 o2 o3).2.2).trans ((World.cell?_alloc_past _ _ _ (lt4 o1 o2 o3).2.1).trans ((World.cell?_alloc_past _ _ _ (lt4 o1 o2 o3).1).trans (k2 o1)))
  clear lt4
  simp only [tm]
  go_enter Yba.func10, Yba.ntmps10
  go_wp2
  go_region_with (first | (go_at_call 11; refine (isZero_no d hz _).mono ?_; rintro e w' ⟨rfl, rfl⟩; simp only [tm]) | (go_at_call 22; refine (before_yes e d hn _).mono ?_; rintro e w' ⟨rfl, rfl⟩; simp only [tm]))
  all_goals go_wp2
  all_goals (go_end0; exact ⟨rfl, 1, rfl⟩)
end Go.Proofs.Ybulkalxi
