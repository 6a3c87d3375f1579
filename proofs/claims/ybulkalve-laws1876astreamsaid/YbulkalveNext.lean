/- The generator: 'Next', 'NewSplitMix64', and the law's own reference mix, each as a plain function on integers. -/
import Derived.Test.YbulkalveRows
import Derived.WalkKit
import Derived.Handy
import Derived.Laws.Closers25b
import Derived.Deep.QuietTactic
import Derived.BigQuiet
namespace Go.Proofs.Ybulkalve
open Go.ChangeShapes Go.WideShapes Go.RowKit

/-- the golden step -/
def stp (x : Int) : Int := IntKind.u64.wrap (x + 11400714819323198485)
def mixA (z : Int) : Int := IntKind.u64.wrap (bits BinOp.xor IntKind.u64 z (z / 1073741824) * 13787848793156543929)
def mixB (z : Int) : Int := IntKind.u64.wrap (bits BinOp.xor IntKind.u64 z (z / 134217728) * 10723151780598845931)
def mixC (z : Int) : Int := bits BinOp.xor IntKind.u64 z (z / 2147483648)
def mix (z : Int) : Int := mixC (mixB (mixA z))

set_option maxHeartbeats 400000 in
theorem next_calls (a : Addr) (x : Int) (w : World) (hc : w.cell? a = some (.int .u64 x)) (hf : w.frozen? a = false) :
    Calls Yba.prog 7 #[.pointer (some a)] w fun e w' => e = .returned (.int .u64 (mix (stp x))) ∧ w' = w.setCell a (.int .u64 (stp x)) := by
  go_enter Yba.func7, Yba.ntmps7
  go_wp2
  go_ret
  exact ⟨rfl, rfl⟩

set_option maxHeartbeats 400000 in
theorem new_calls (x : Int) (w : World) :
    Calls Yba.prog 6 #[.int .u64 x] w fun e w' => e = .returned (.pointer (some ⟨w.heap.size, 0, none⟩)) ∧ w' = w.alloc (.cells #[.int .u64 x] 27) := by
  go_enter Yba.func6, Yba.ntmps6
  go_wp2
  go_ret
  exact ⟨rfl, rfl⟩

theorem wrap_mix (x : Int) : IntKind.u64.wrap (mix x) = mix x := by
  have h := bits_within BinOp.xor IntKind.u64 (mixB (mixA x)) (mixB (mixA x) / 2147483648)
  exact IntWalk.u64_in _ ⟨h.1, h.2⟩
theorem ret_mix (x : Int) : Ending.returned (.int .u64 (IntKind.u64.wrap (mix x))) = Ending.returned (.int .u64 (mix x)) := by rw [wrap_mix]
theorem stp_bd (x : Int) : 0 ≤ stp x ∧ stp x ≤ 18446744073709551615 := by
  have h := wrap_within IntKind.u64 (x + 11400714819323198485)
  exact ⟨h.1, h.2⟩

set_option maxHeartbeats 400000 in
theorem zmix_calls (x : Int) (w : World) (_h0 : 0 ≤ x) (_h1 : x ≤ 18446744073709551615) :
    Calls Yba.prog 8 #[.int .u64 x] w fun e w' => e = .returned (.int .u64 (mix x)) ∧ Grown w w' ∧ Below w.heap.size w w' := by
  go_enter Yba.func8, Yba.ntmps8
  go_wp2
  refine wp_loop_rounds 4 ?_
  rw [rounds_succ]
  go_wp2
  go_quiet (fail)
  go_wp2
  rw [rounds_succ]
  go_wp2
  go_quiet (fail)
  go_wp2
  rw [rounds_succ]
  go_wp2
  go_quiet (fail)
  go_wp2
  rw [rounds_succ]
  go_wp2
  go_ret
  refine ⟨ret_mix x, ?_, ?_⟩
  · exact ((Grown.refl w).alloc _ _).alloc _ _
  · have h : Below w.heap.size w ((w.alloc (Obj.cells #[Value.int IntKind.u64 30, Value.int IntKind.u64 27, Value.int IntKind.u64 31] 36)).alloc (Obj.cells #[Value.int IntKind.u64 13787848793156543929, Value.int IntKind.u64 10723151780598845931, Value.int IntKind.u64 1] 37)) := ((Below.refl _ w).alloc (Nat.le_refl _) _).alloc (by simp) _
    exact ⟨h.os, h.tape, h.output, h.size, h.block⟩

theorem grown_trans {a b c : World} (h : Grown a b) (k : Grown b c) : Grown a c :=
  ⟨World.keptBut_trans h.1 k.1, fun x => (k.2.1 x).trans (h.2.1 x), Nat.le_trans h.2.2 k.2.2⟩
end Go.Proofs.Ybulkalve
