/- big.Int's readers: low64, IsInt64, Int64; NewInt; fromBig. -/
import Derived.Test.YbulkalwuRows
import Derived.WalkKit
import Derived.Handy
import Derived.LaidEql
namespace Go.Proofs.Ybulkalwu
open Go.ChangeShapes Go.WideShapes Go.RowKit

set_option maxHeartbeats 400000 in
theorem newInt_zero (w : World) :
    Calls Yba.prog 10 #[.int .i64 0] w fun e w' => e = .returned (.pointer (some ⟨w.heap.size, 0, none⟩)) ∧ w' = w.alloc (.cells #[.bool false, .slice none 0 0] 27) := by
  go_enter Yba.func10, Yba.ntmps10
  go_wp2
  go_ret
  exact ⟨rfl, rfl⟩

set_option maxHeartbeats 400000 in
theorem newInt_pos (v : Int) (w : World) (h0 : 0 < v) (h1 : v ≤ 9223372036854775807) :
    Calls Yba.prog 10 #[.int .i64 v] w fun e w' => e = .returned (.pointer (some ⟨w.heap.size + 1, 0, none⟩)) ∧ w' = (w.alloc (.cells #[.int .u64 v] 45)).alloc (.cells #[.bool false, .slice (some ⟨w.heap.size, 0, none⟩) 1 1] 27) := by
  have e0 : (v == 0) = false := beq_eq_false_iff_ne.2 (by omega)
  have e1 : ¬ v < 0 := by omega
  go_enter Yba.func10, Yba.ntmps10
  go_wp2
  go_ret
  exact ⟨rfl, rfl⟩

theorem wrap_neg_neg (v : Int) (h0 : v < 0) (h1 : -9223372036854775808 ≤ v) : IntKind.u64.wrap (-IntKind.u64.wrap v) = -v := by
  simp only [IntKind.wrap_u64]; omega

set_option maxHeartbeats 400000 in
theorem newInt_neg (v : Int) (w : World) (h0 : v < 0) (h1 : -9223372036854775808 ≤ v) :
    Calls Yba.prog 10 #[.int .i64 v] w fun e w' => e = .returned (.pointer (some ⟨w.heap.size + 1, 0, none⟩)) ∧ w' = (w.alloc (.cells #[.int .u64 (-v)] 45)).alloc (.cells #[.bool true, .slice (some ⟨w.heap.size, 0, none⟩) 1 1] 27) := by
  have e0 : (v == 0) = false := beq_eq_false_iff_ne.2 (by omega)
  go_enter Yba.func10, Yba.ntmps10
  go_wp2
  go_ret
  exact ⟨rfl, by rw [wrap_neg_neg v h0 h1]⟩

/-! ### '==' of a pointer with itself -/

theorem run_equalIn_pointer_same {P : Program} (w : World) (d : Nat) {t te : TypeId} {j : TypeInfo} (a : Addr) (hp : P.underlying t = some (.pointer te)) (hte : P.info? te = some j) :
    (Op.equalIn (d + 1) t (.pointer (some a)) (.pointer (some a))).run P w = .ok true w := by
  simp [Op.equalIn, run_underlying hp, sizeOf, typeInfo, hte, run_sameAddr_same]

theorem run_eql_pointer_same {P : Program} (w : World) {t te : TypeId} {j : TypeInfo} (a : Addr) (hp : P.underlying t = some (.pointer te)) (hte : P.info? te = some j) :
    (binOp .eql t (.pointer (some a)) (.pointer (some a))).run P w = .ok (.bool true) w := by
  simp only [binOp]
  simp [Op.equal, Op.maxDepth, run_equalIn_pointer_same w 9999 a hp hte]

theorem run_neq_pointer_same {P : Program} (w : World) {t te : TypeId} {j : TypeInfo} (a : Addr) (hp : P.underlying t = some (.pointer te)) (hte : P.info? te = some j) :
    (binOp .neq t (.pointer (some a)) (.pointer (some a))).run P w = .ok (.bool false) w := by
  simp only [binOp]
  simp [Op.equal, Op.maxDepth, run_equalIn_pointer_same w 9999 a hp hte]

theorem Yba.info27 : ∃ j, Yba.prog.info? 27 = some j := Option.isSome_iff_exists.1 (by kernel_rfl)

theorem eql23 (w : World) (a : Addr) : (binOp .eql 23 (.pointer (some a)) (.pointer (some a))).run Yba.prog w = .ok (.bool true) w := by
  obtain ⟨j, hj⟩ := Yba.info27
  exact run_eql_pointer_same w a Yba.underlying23 hj

theorem neq23 (w : World) (a : Addr) : (binOp .neq 23 (.pointer (some a)) (.pointer (some a))).run Yba.prog w = .ok (.bool false) w := by
  obtain ⟨j, hj⟩ := Yba.info27
  exact run_neq_pointer_same w a Yba.underlying23 hj

/-! ### The readers -/

/-- low64 of a slice of length 0 -/
theorem low64_nil (ad : Option Addr) (cap : Nat) (w : World) :
    Calls Yba.prog 38 #[.slice ad 0 cap] w fun e w' => e = .returned (.int .u64 0) ∧ w' = w := by
  go_enter Yba.func38, Yba.ntmps38
  go_wp2
  go_ret
  exact ⟨rfl, rfl⟩

/-- low64 of a slice of at least one word -/
theorem low64_some (g o n cap : Nat) (x : Int) (w : World) (hn : 1 ≤ n) (hn2 : n ≤ 9) (hc : w.cell? ⟨g, o, none⟩ = some (.int .u64 x)) :
    Calls Yba.prog 38 #[.slice (some ⟨g, o, none⟩) n cap] w fun e w' => e = .returned (.int .u64 x) ∧ w' = w := by
  have e0 : ((n : Int) == 0) = false := beq_eq_false_iff_ne.2 (by omega)
  go_enter Yba.func38, Yba.ntmps38
  go_wp2
  go_ret
  exact ⟨rfl, rfl⟩

theorem isInt64_nil (b cap : Nat) (ad : Option Addr) (w : World) (h1 : w.cell? ⟨b, 1, none⟩ = some (.slice ad 0 cap)) :
    Calls Yba.prog 23 #[.pointer (some ⟨b, 0, none⟩)] w fun e w' => e = .returned (.bool true) ∧ w' = w := by
  go_enter Yba.func23, Yba.ntmps23
  go_wp2_with (first | (go_at_call 38; refine (low64_nil _ _ _).mono ?_; rintro e w' ⟨rfl, rfl⟩))
  go_ret
  exact ⟨rfl, rfl⟩

theorem isInt64_small (b g o cap : Nat) (x : Int) (w : World) (h1 : w.cell? ⟨b, 1, none⟩ = some (.slice (some ⟨g, o, none⟩) 1 cap)) (hc : w.cell? ⟨g, o, none⟩ = some (.int .u64 x)) (hx : 0 ≤ x ∧ x ≤ 9223372036854775807) :
    Calls Yba.prog 23 #[.pointer (some ⟨b, 0, none⟩)] w fun e w' => e = .returned (.bool true) ∧ w' = w := by
  go_enter Yba.func23, Yba.ntmps23
  go_wp2_with (first | (go_at_call 38; refine (low64_some _ _ _ _ _ _ (by omega) (by omega) hc).mono ?_; rintro e w' ⟨rfl, rfl⟩))
  go_ret
  exact ⟨rfl, rfl⟩

theorem isInt64_two (b g o cap : Nat) (w : World) (h1 : w.cell? ⟨b, 1, none⟩ = some (.slice (some ⟨g, o, none⟩) 2 cap)) :
    Calls Yba.prog 23 #[.pointer (some ⟨b, 0, none⟩)] w fun e w' => e = .returned (.bool false) ∧ w' = w := by
  go_enter Yba.func23, Yba.ntmps23
  go_wp2
  go_ret
  exact ⟨rfl, rfl⟩

theorem isInt64_one (b g o cap : Nat) (neg t : Bool) (x : Int) (w : World) (h0 : w.cell? ⟨b, 0, none⟩ = some (.bool neg)) (h1 : w.cell? ⟨b, 1, none⟩ = some (.slice (some ⟨g, o, none⟩) 1 cap)) (hc : w.cell? ⟨g, o, none⟩ = some (.int .u64 x))
    (hd : decide (0 ≤ wrap64 x) = false) (he : (wrap64 x == wrap64 (-wrap64 x)) = t) :
    Calls Yba.prog 23 #[.pointer (some ⟨b, 0, none⟩)] w fun e w' => e = .returned (.bool (neg && t)) ∧ w' = w := by
  cases neg
  · go_enter Yba.func23, Yba.ntmps23
    go_wp2_with (first | (go_at_call 38; refine (low64_some _ _ _ _ _ _ (by omega) (by omega) hc).mono ?_; rintro e w' ⟨rfl, rfl⟩))
    go_ret
    exact ⟨rfl, rfl⟩
  · go_enter Yba.func23, Yba.ntmps23
    go_wp2_with (first | (go_at_call 38; refine (low64_some _ _ _ _ _ _ (by omega) (by omega) hc).mono ?_; rintro e w' ⟨rfl, rfl⟩))
    go_ret
    exact ⟨rfl, rfl⟩

theorem int64_nil (b cap : Nat) (ad : Option Addr) (w : World) (h0 : w.cell? ⟨b, 0, none⟩ = some (.bool false)) (h1 : w.cell? ⟨b, 1, none⟩ = some (.slice ad 0 cap)) :
    Calls Yba.prog 24 #[.pointer (some ⟨b, 0, none⟩)] w fun e w' => e = .returned (.int .i64 0) ∧ w' = w := by
  go_enter Yba.func24, Yba.ntmps24
  go_wp2_with (first | (go_at_call 38; refine (low64_nil _ _ _).mono ?_; rintro e w' ⟨rfl, rfl⟩))
  go_ret
  exact ⟨rfl, rfl⟩

/-- what Int64 gives: the word, or its negation, wrapped -/
def i64Of (neg : Bool) (x : Int) : Int := if neg then wrap64 (-wrap64 x) else wrap64 x

theorem int64_one (b g o cap : Nat) (neg : Bool) (x : Int) (w : World) (h0 : w.cell? ⟨b, 0, none⟩ = some (.bool neg)) (h1 : w.cell? ⟨b, 1, none⟩ = some (.slice (some ⟨g, o, none⟩) 1 cap)) (hc : w.cell? ⟨g, o, none⟩ = some (.int .u64 x)) :
    Calls Yba.prog 24 #[.pointer (some ⟨b, 0, none⟩)] w fun e w' => e = .returned (.int .i64 (i64Of neg x)) ∧ w' = w := by
  cases neg
  · go_enter Yba.func24, Yba.ntmps24
    go_wp2_with (first | (go_at_call 38; refine (low64_some _ _ _ _ _ _ (by omega) (by omega) hc).mono ?_; rintro e w' ⟨rfl, rfl⟩))
    go_ret
    exact ⟨rfl, rfl⟩
  · go_enter Yba.func24, Yba.ntmps24
    go_wp2_with (first | (go_at_call 38; refine (low64_some _ _ _ _ _ _ (by omega) (by omega) hc).mono ?_; rintro e w' ⟨rfl, rfl⟩))
    go_ret
    exact ⟨rfl, rfl⟩

/-! ### fromBig -/

def decSmall (s v : Int) : Array Value := #[.int .i64 v, .pointer none, .int .i64 s]
def decBig (s : Int) (b : Nat) : Array Value := #[.int .i64 0, .pointer (some ⟨b, 0, none⟩), .int .i64 s]

theorem fromBig_nil (b cap : Nat) (ad : Option Addr) (s : Int) (w : World) (h0 : w.cell? ⟨b, 0, none⟩ = some (.bool false)) (h1 : w.cell? ⟨b, 1, none⟩ = some (.slice ad 0 cap)) (hb : b < w.heap.size) :
    Calls Yba.prog 9 #[.pointer (some ⟨b, 0, none⟩), .int .i64 s] w fun e w' => e = .returned (.agg (decSmall s 0)) ∧ w' = w.alloc (.cells (decSmall s 0) 34) := by
  have k0 : ∀ o, (w.alloc o).cell? ⟨b, 0, none⟩ = some (.bool false) := fun o => (World.cell?_alloc_past o b 0 hb).trans h0
  have k1 : ∀ o, (w.alloc o).cell? ⟨b, 1, none⟩ = some (.slice ad 0 cap) := fun o => (World.cell?_alloc_past o b 1 hb).trans h1
  go_enter Yba.func9, Yba.ntmps9
  go_wp2_with (first | (go_at_call 23; refine (isInt64_nil _ _ _ _ (k1 _)).mono ?_; rintro e w' ⟨rfl, rfl⟩) | (go_at_call 24; refine (int64_nil _ _ _ _ (k0 _) (k1 _)).mono ?_; rintro e w' ⟨rfl, rfl⟩))
  exact bodyPost_ret (v := .agg (decSmall s 0)) (by simp [results, Yba.results9, go_sem, decSmall]) rfl ⟨rfl, rfl⟩

theorem fromBig_small (b g o cap : Nat) (neg : Bool) (x s : Int) (w : World) (h0 : w.cell? ⟨b, 0, none⟩ = some (.bool neg)) (h1 : w.cell? ⟨b, 1, none⟩ = some (.slice (some ⟨g, o, none⟩) 1 cap)) (hc : w.cell? ⟨g, o, none⟩ = some (.int .u64 x)) (hb : b < w.heap.size) (hg : g < w.heap.size) (hx : 0 ≤ x ∧ x ≤ 9223372036854775807) :
    Calls Yba.prog 9 #[.pointer (some ⟨b, 0, none⟩), .int .i64 s] w fun e w' => e = .returned (.agg (decSmall s (i64Of neg x))) ∧ w' = w.alloc (.cells (decSmall s (i64Of neg x)) 34) := by
  have k0 : ∀ o, (w.alloc o).cell? ⟨b, 0, none⟩ = some (.bool neg) := fun o => (World.cell?_alloc_past o b 0 hb).trans h0
  have k1 : ∀ ob, (w.alloc ob).cell? ⟨b, 1, none⟩ = some (.slice (some ⟨g, o, none⟩) 1 cap) := fun ob => (World.cell?_alloc_past ob b 1 hb).trans h1
  have kc : ∀ ob, (w.alloc ob).cell? ⟨g, o, none⟩ = some (.int .u64 x) := fun ob => (World.cell?_alloc_past ob g o hg).trans hc
  have hn : (i64Of neg x != -9223372036854775808) = true := by
    rw [bne_iff_ne]; unfold i64Of wrap64; cases neg <;> simp <;> omega
  go_enter Yba.func9, Yba.ntmps9
  go_wp2_with (first | (go_at_call 23; refine (isInt64_small _ _ _ _ _ _ (k1 _) (kc _) hx).mono ?_; rintro e w' ⟨rfl, rfl⟩) | (go_at_call 24; refine (int64_one _ _ _ _ neg x _ (k0 _) (k1 _) (kc _)).mono ?_; rintro e w' ⟨rfl, rfl⟩))
  exact bodyPost_ret (v := .agg (decSmall s (i64Of neg x))) (by simp [results, Yba.results9, go_sem, decSmall]) rfl ⟨rfl, rfl⟩

theorem fromBig_two (b g o cap : Nat) (s : Int) (w : World) (h1 : w.cell? ⟨b, 1, none⟩ = some (.slice (some ⟨g, o, none⟩) 2 cap)) (hb : b < w.heap.size) :
    Calls Yba.prog 9 #[.pointer (some ⟨b, 0, none⟩), .int .i64 s] w fun e w' => e = .returned (.agg (decBig s b)) ∧ w' = w.alloc (.cells (decBig s b) 34) := by
  have k1 : ∀ ob, (w.alloc ob).cell? ⟨b, 1, none⟩ = some (.slice (some ⟨g, o, none⟩) 2 cap) := fun ob => (World.cell?_alloc_past ob b 1 hb).trans h1
  go_enter Yba.func9, Yba.ntmps9
  go_wp2_with (first | (go_at_call 23; refine (isInt64_two _ _ _ _ _ (k1 _)).mono ?_; rintro e w' ⟨rfl, rfl⟩))
  exact bodyPost_ret (v := .agg (decBig s b)) (by simp [results, Yba.results9, go_sem, decBig]) rfl ⟨rfl, rfl⟩

theorem fromBig_big (b g o cap : Nat) (neg : Bool) (x s : Int) (w : World) (h0 : w.cell? ⟨b, 0, none⟩ = some (.bool neg)) (h1 : w.cell? ⟨b, 1, none⟩ = some (.slice (some ⟨g, o, none⟩) 1 cap)) (hc : w.cell? ⟨g, o, none⟩ = some (.int .u64 x)) (hb : b < w.heap.size) (hg : g < w.heap.size) (hx : 9223372036854775808 ≤ x ∧ x ≤ 18446744073709551615) :
    Calls Yba.prog 9 #[.pointer (some ⟨b, 0, none⟩), .int .i64 s] w fun e w' => e = .returned (.agg (decBig s b)) ∧ w' = w.alloc (.cells (decBig s b) 34) := by
  have k0 : ∀ o, (w.alloc o).cell? ⟨b, 0, none⟩ = some (.bool neg) := fun o => (World.cell?_alloc_past o b 0 hb).trans h0
  have k1 : ∀ ob, (w.alloc ob).cell? ⟨b, 1, none⟩ = some (.slice (some ⟨g, o, none⟩) 1 cap) := fun ob => (World.cell?_alloc_past ob b 1 hb).trans h1
  have kc : ∀ ob, (w.alloc ob).cell? ⟨g, o, none⟩ = some (.int .u64 x) := fun ob => (World.cell?_alloc_past ob g o hg).trans hc
  have hd : decide (0 ≤ wrap64 x) = false := by
    rw [decide_eq_false_iff_not]; unfold wrap64; omega
  by_cases ht : (neg && (wrap64 x == wrap64 (-wrap64 x))) = true
  · have hn : (i64Of neg x != -9223372036854775808) = false := by
      simp only [Bool.and_eq_true, beq_iff_eq] at ht
      obtain ⟨rfl, ht⟩ := ht
      have : ¬ i64Of true x ≠ -9223372036854775808 := by
        unfold i64Of; rw [if_pos rfl]; unfold wrap64 at ht ⊢; omega
      simpa using this
    go_enter Yba.func9, Yba.ntmps9
    go_wp2_with (first | (go_at_call 23; refine (isInt64_one _ _ _ _ neg _ x _ (k0 _) (k1 _) (kc _) hd rfl).mono ?_; rintro e w' ⟨rfl, rfl⟩; rw [ht]) | (go_at_call 24; refine (int64_one _ _ _ _ neg x _ (k0 _) (k1 _) (kc _)).mono ?_; rintro e w' ⟨rfl, rfl⟩))
    exact bodyPost_ret (v := .agg (decBig s b)) (by simp [results, Yba.results9, go_sem, decBig]) rfl ⟨rfl, rfl⟩
  · have hf : (neg && (wrap64 x == wrap64 (-wrap64 x))) = false := by simpa using ht
    clear ht
    go_enter Yba.func9, Yba.ntmps9
    go_wp2_with (first | (go_at_call 23; refine (isInt64_one _ _ _ _ neg _ x _ (k0 _) (k1 _) (kc _) hd rfl).mono ?_; rintro e w' ⟨rfl, rfl⟩; rw [hf]))
    exact bodyPost_ret (v := .agg (decBig s b)) (by simp [results, Yba.results9, go_sem, decBig]) rfl ⟨rfl, rfl⟩
end Go.Proofs.Ybulkalwu
