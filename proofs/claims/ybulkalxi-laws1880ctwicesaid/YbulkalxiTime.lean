/- time.Time as the law meets it: wall = nanoseconds below 10^9, no monotonic reading, no location. -/
import Derived.Test.YbulkalxiRows
import Derived.WalkKit
import Derived.Handy
import Derived.Laws.BitsAllLaws
import Derived.Deep.QuietTactic
import Derived.BigQuiet
namespace Go.Proofs.Ybulkalxi
open Go.ChangeShapes Go.WideShapes Go.RowKit

/-! ### plain bits -/
theorem and_mask (x : Int) (h0 : 0 ≤ x) (h1 : x < 1073741824) : bits .and .u64 x 1073741823 = x := by
  rw [u64_and x 1073741823 h0 (by omega) (by omega) (by omega)]
  obtain ⟨n, rfl⟩ := Int.eq_ofNat_of_zero_le h0
  have e : (1073741823 : Int).toNat = 2 ^ 30 - 1 := by decide
  rw [e, Int.toNat_natCast, Nat.and_two_pow_sub_one_eq_mod, Nat.mod_eq_of_lt (by omega)]

theorem and_pow (n : Nat) (h : n < 2 ^ 63) : n &&& 2 ^ 63 = 0 := by
  refine Nat.eq_of_testBit_eq fun i => ?_
  rw [Nat.testBit_and, Nat.testBit_two_pow, Nat.zero_testBit]
  by_cases e : 63 = i
  · subst e; rw [Nat.testBit_lt_two_pow h]; rfl
  · simp [e]

theorem and_top (x : Int) (h0 : 0 ≤ x) (h1 : x < 9223372036854775808) : bits .and .u64 x 9223372036854775808 = 0 := by
  rw [u64_and x 9223372036854775808 h0 (by omega) (by omega) (by omega)]
  obtain ⟨n, rfl⟩ := Int.eq_ofNat_of_zero_le h0
  have e : (9223372036854775808 : Int).toNat = 2 ^ 63 := by decide
  rw [e, Int.toNat_natCast, and_pow n (by omega)]
  rfl

theorem and_le (x y : Int) (h0 : 0 ≤ x) (h1 : x < 1073741824) (g0 : 0 ≤ y) (g1 : y < 1073741824) : 0 ≤ bits .and .u64 x y ∧ bits .and .u64 x y < 9223372036854775808 := by
  rw [u64_and x y h0 (by omega) g0 (by omega)]
  have := @Nat.and_le_left x.toNat y.toNat
  omega

theorem or_zero_l (x : Int) (h0 : 0 ≤ x) (h1 : x < 1073741824) : bits .or .u64 0 x = x := by
  rw [u64_or 0 x (by omega) (by omega) h0 (by omega)]
  simp; omega

theorem andNot_zero : bits .andNot .u64 0 1073741823 = 0 := by kernel_rfl

/-! ### the readers -/
theorem nsec_calls (b o : Nat) (x : Int) (w : World) (h0 : 0 ≤ x) (h1 : x < 1073741824) (hc : w.cell? ⟨b, o, none⟩ = some (.int .u64 x)) :
    Calls Yba.prog 25 #[.pointer (some ⟨b, o, none⟩)] w fun e w' => e = .returned (.int .i32 x) ∧ w' = w := by
  have hm := and_mask x h0 h1
  go_enter Yba.func25, Yba.ntmps25
  go_wp2
  go_ret
  exact ⟨rfl, rfl⟩

theorem sec_calls (b o : Nat) (x y : Int) (w : World) (h0 : 0 ≤ x) (h1 : x < 1073741824) (hc : w.cell? ⟨b, o, none⟩ = some (.int .u64 x)) (hd : w.cell? ⟨b, o + 1, none⟩ = some (.int .i64 y)) :
    Calls Yba.prog 24 #[.pointer (some ⟨b, o, none⟩)] w fun e w' => e = .returned (.int .i64 y) ∧ w' = w := by
  have hm := and_top x h0 (by omega)
  go_enter Yba.func24, Yba.ntmps24
  go_wp2
  go_ret
  exact ⟨rfl, rfl⟩

/-- addSec from second 0 -/
theorem addSec_calls (b o : Nat) (x d : Int) (w : World) (h0 : 0 ≤ x) (h1 : x < 1073741824) (d0 : -9223372036854775808 ≤ d) (d1 : d ≤ 9223372036854775807) (hc : w.cell? ⟨b, o, none⟩ = some (.int .u64 x)) (hd : w.cell? ⟨b, o + 1, none⟩ = some (.int .i64 0)) (hf : w.frozen? ⟨b, o + 1, none⟩ = false) :
    Calls Yba.prog 29 #[.pointer (some ⟨b, o, none⟩), .int .i64 d] w fun e w' => e = .returned (.tuple #[]) ∧ w' = w.setCell ⟨b, o + 1, none⟩ (.int .i64 d) := by
  have hm := and_top x h0 (by omega)
  have hq : (decide (0 < d) == decide (0 < d)) = true := by simp
  go_enter Yba.func29, Yba.ntmps29
  go_wp2
  go_end0
  exact ⟨rfl, rfl⟩

/-- (zero time).Add(n): wall n mod 10^9, seconds n div 10^9 (both rounded down) -/
theorem add_pos (n : Int) (w : World) (n0 : 0 ≤ n) (n1 : n ≤ 9223372036854775807) :
    Calls Yba.prog 21 #[.agg #[.int .u64 0, .int .i64 0, .pointer none], .int .i64 n] w fun e w' => e = .returned (.agg #[.int .u64 (n % 1000000000), .int .i64 (n / 1000000000), .pointer none]) ∧
      w' = (w.alloc (.cells #[.int .u64 (n % 1000000000), .int .i64 (n / 1000000000), .pointer none] 37)).alloc (.cells #[.int .u64 (n % 1000000000), .int .i64 (n / 1000000000), .pointer none] 37) := by
  have ha := andNot_zero
  have ho := or_zero_l (n % 1000000000) (by omega) (by omega)
  have ht := and_top (n % 1000000000) (by omega) (by omega)
  go_enter Yba.func21, Yba.ntmps21
  go_wp2_with (first | (go_at_call 25; refine (nsec_calls _ _ 0 _ (by omega) (by omega) (by simp)).mono ?_; rintro e w' ⟨rfl, rfl⟩) | (go_at_call 29; refine (addSec_calls _ _ (n % 1000000000) _ _ (by omega) (by omega) (by omega) (by omega) (by simp [go_sem]) (by simp [go_sem]) (by simp [go_sem])).mono ?_; rintro e w' ⟨rfl, rfl⟩))
  exact bodyPost_ret (v := .agg #[.int .u64 (n % 1000000000), .int .i64 (n / 1000000000), .pointer none]) (by simp [results, Yba.results21, go_sem]) rfl ⟨rfl, rfl⟩

theorem tparts (n : Int) (n0 : n < 0) : n.tmod 1000000000 = -((-n) % 1000000000) ∧ n.tdiv 1000000000 = -((-n) / 1000000000) := by
  have h : n = -(-n) := by omega
  have e1 : (-n).tmod 1000000000 = (-n) % 1000000000 := Int.tmod_eq_emod_of_nonneg (by omega)
  have e2 : (-n).tdiv 1000000000 = (-n) / 1000000000 := Int.tdiv_eq_ediv_of_nonneg (by omega)
  refine ⟨?_, ?_⟩
  · rw [← e1, ← Int.neg_tmod, ← h]
  · rw [← e2, ← Int.neg_tdiv, ← h]

theorem neg_parts (n : Int) (n0 : n < 0) (n1 : -9223372036854775808 ≤ n) : (n.tmod 1000000000 < 0 → n % 1000000000 = n.tmod 1000000000 + 1000000000 ∧ n / 1000000000 = n.tdiv 1000000000 - 1) ∧ (¬ n.tmod 1000000000 < 0 → n.tmod 1000000000 = 0 ∧ n % 1000000000 = 0 ∧ n / 1000000000 = n.tdiv 1000000000) ∧ -1000000000 < n.tmod 1000000000 ∧ n.tmod 1000000000 ≤ 0 ∧ -9223372037 ≤ n.tdiv 1000000000 ∧ n.tdiv 1000000000 ≤ 0 := by
  obtain ⟨e1, e2⟩ := tparts n n0
  rw [e1, e2]
  omega

theorem add_neg (n : Int) (w : World) (n0 : n < 0) (n1 : -9223372036854775808 ≤ n) :
    Calls Yba.prog 21 #[.agg #[.int .u64 0, .int .i64 0, .pointer none], .int .i64 n] w fun e w' => e = .returned (.agg #[.int .u64 (n % 1000000000), .int .i64 (n / 1000000000), .pointer none]) ∧
      w' = (w.alloc (.cells #[.int .u64 (n % 1000000000), .int .i64 (n / 1000000000), .pointer none] 37)).alloc (.cells #[.int .u64 (n % 1000000000), .int .i64 (n / 1000000000), .pointer none] 37) := by
  obtain ⟨pn, pz, b0, b1, q0, q1⟩ := neg_parts n n0 n1
  have ha := andNot_zero
  by_cases hz : n.tmod 1000000000 < 0
  · obtain ⟨e1, e2⟩ := pn hz
    clear pn pz
    have ho := or_zero_l (n.tmod 1000000000 + 1000000000) (by omega) (by omega)
    have ht := and_top (n.tmod 1000000000 + 1000000000) (by omega) (by omega)
    rw [e1, e2]
    clear e1 e2
    go_enter Yba.func21, Yba.ntmps21
    go_wp2_with (first | (go_at_call 25; refine (nsec_calls _ _ 0 _ (by omega) (by omega) (by simp)).mono ?_; rintro e w' ⟨rfl, rfl⟩) | (go_at_call 29; refine (addSec_calls _ _ (n.tmod 1000000000 + 1000000000) _ _ (by omega) (by omega) (by omega) (by omega) (by simp [go_sem]) (by simp [go_sem]) (by simp [go_sem])).mono ?_; rintro e w' ⟨rfl, rfl⟩))
    exact bodyPost_ret (v := .agg #[.int .u64 (n.tmod 1000000000 + 1000000000), .int .i64 (n.tdiv 1000000000 - 1), .pointer none]) (by simp [results, Yba.results21, go_sem]) rfl ⟨rfl, rfl⟩
  · obtain ⟨e0, e1, e2⟩ := pz hz
    clear pn pz
    have ho := or_zero_l 0 (by omega) (by omega)
    have ht := and_top 0 (by omega) (by omega)
    rw [e1, e2]
    clear e1 e2
    go_enter Yba.func21, Yba.ntmps21
    go_wp2_with (first | (go_at_call 25; refine (nsec_calls _ _ 0 _ (by omega) (by omega) (by simp)).mono ?_; rintro e w' ⟨rfl, rfl⟩) | (go_at_call 29; refine (addSec_calls _ _ 0 _ _ (by omega) (by omega) (by omega) (by omega) (by simp [go_sem]) (by simp [go_sem]) (by simp [go_sem])).mono ?_; rintro e w' ⟨rfl, rfl⟩))
    exact bodyPost_ret (v := .agg #[.int .u64 0, .int .i64 (n.tdiv 1000000000), .pointer none]) (by simp [results, Yba.results21, go_sem]) rfl ⟨rfl, rfl⟩

/-- the time n nanoseconds after the zero time, as cells -/
def tm (n : Int) : Array Value := #[.int .u64 (n % 1000000000), .int .i64 (n / 1000000000), .pointer none]

theorem at_calls (n : Int) (w : World) (n0 : -9223372036854775808 ≤ n) (n1 : n ≤ 9223372036854775807) :
    Calls Yba.prog 9 #[.int .i64 n] w fun e w' => e = .returned (.agg (tm n)) ∧ w' = ((w.alloc (.cells (tm n) 37)).alloc (.cells (tm n) 37)).alloc (.cells (tm n) 37) := by
  unfold tm
  by_cases hn : 0 ≤ n
  · go_enter Yba.func9, Yba.ntmps9
    go_wp2_with (first | (go_at_call 21; refine (add_pos n _ hn n1).mono ?_; rintro e w' ⟨rfl, rfl⟩))
    exact bodyPost_ret (v := .agg #[.int .u64 (n % 1000000000), .int .i64 (n / 1000000000), .pointer none]) (by simp [results, Yba.results9, go_sem]) rfl ⟨rfl, rfl⟩
  · go_enter Yba.func9, Yba.ntmps9
    go_wp2_with (first | (go_at_call 21; refine (add_neg n _ (by omega) n0).mono ?_; rintro e w' ⟨rfl, rfl⟩))
    exact bodyPost_ret (v := .agg #[.int .u64 (n % 1000000000), .int .i64 (n / 1000000000), .pointer none]) (by simp [results, Yba.results9, go_sem]) rfl ⟨rfl, rfl⟩

theorem isZero_calls (n : Int) (w : World) :
    Calls Yba.prog 11 #[.agg (tm n)] w fun e w' => e = .returned (.bool (n == 0)) ∧ w' = w.alloc (.cells (tm n) 37) := by
  unfold tm
  by_cases h1 : n % 1000000000 = 0
  · by_cases h2 : n / 1000000000 = 0
    · obtain rfl : n = 0 := by omega
      go_enter Yba.func11, Yba.ntmps11
      go_wp2
      go_ret
      exact ⟨rfl, rfl⟩
    · have h3 : (n == 0) = false := beq_eq_false_iff_ne.2 (by omega)
      have k1 : (n % 1000000000 == 0) = true := beq_iff_eq.2 h1
      have k2 : (n / 1000000000 == 0) = false := beq_eq_false_iff_ne.2 h2
      clear h1 h2
      rw [h3]
      go_enter Yba.func11, Yba.ntmps11
      go_wp2
      go_ret
      exact ⟨rfl, rfl⟩
  · have h3 : (n == 0) = false := beq_eq_false_iff_ne.2 (by omega)
    have k1 : (n % 1000000000 == 0) = false := beq_eq_false_iff_ne.2 h1
    clear h1
    rw [h3]
    go_enter Yba.func11, Yba.ntmps11
    go_wp2
    go_ret
    exact ⟨rfl, rfl⟩

theorem before_calls (a b : Int) (w : World) :
    Calls Yba.prog 22 #[.agg (tm a), .agg (tm b)] w fun e w' => e = .returned (.bool (decide (a < b))) ∧ w' = (w.alloc (.cells (tm a) 37)).alloc (.cells (tm b) 37) := by
  unfold tm
  have ht := and_le (a % 1000000000) (b % 1000000000) (by omega) (by omega) (by omega) (by omega)
  have hm := and_top _ ht.1 ht.2
  clear ht
  by_cases h1 : a / 1000000000 < b / 1000000000
  · have hr : decide (a < b) = true := decide_eq_true (by omega)
    rw [hr]
    go_enter Yba.func22, Yba.ntmps22
    go_wp2_with fail
    refine (sec_calls (w.heap.size) 0 (a % 1000000000) (a / 1000000000) _ (by omega) (by omega) (by simp [go_sem]) (by simp [go_sem])).mono ?_
    rintro e w' ⟨rfl, rfl⟩
    go_wp2_with fail
    refine (sec_calls (w.heap.size + 1) 0 (b % 1000000000) (b / 1000000000) _ (by omega) (by omega) (by simp [go_sem]) (by simp [go_sem])).mono ?_
    rintro e w' ⟨rfl, rfl⟩
    go_wp2
    go_ret
    exact ⟨rfl, rfl⟩
  by_cases h2 : a / 1000000000 = b / 1000000000
  · have k1 : decide (a / 1000000000 < b / 1000000000) = false := by simp; omega
    have k2 : (a / 1000000000 == b / 1000000000) = true := beq_iff_eq.2 h2
    have hr : decide (a < b) = decide (a % 1000000000 < b % 1000000000) := decide_eq_decide.2 (by omega)
    rw [hr]
    clear h1 h2 hr
    go_enter Yba.func22, Yba.ntmps22
    go_wp2_with fail
    refine (sec_calls (w.heap.size) 0 (a % 1000000000) (a / 1000000000) _ (by omega) (by omega) (by simp [go_sem]) (by simp [go_sem])).mono ?_
    rintro e w' ⟨rfl, rfl⟩
    go_wp2_with fail
    refine (sec_calls (w.heap.size + 1) 0 (b % 1000000000) (b / 1000000000) _ (by omega) (by omega) (by simp [go_sem]) (by simp [go_sem])).mono ?_
    rintro e w' ⟨rfl, rfl⟩
    go_wp2_with fail
    refine (nsec_calls (w.heap.size) 0 (a % 1000000000) _ (by omega) (by omega) (by simp [go_sem])).mono ?_
    rintro e w' ⟨rfl, rfl⟩
    go_wp2_with fail
    refine (nsec_calls (w.heap.size + 1) 0 (b % 1000000000) _ (by omega) (by omega) (by simp [go_sem])).mono ?_
    rintro e w' ⟨rfl, rfl⟩
    go_wp2
    go_ret
    exact ⟨rfl, rfl⟩
  · have k1 : decide (a / 1000000000 < b / 1000000000) = false := by simp; omega
    have k2 : (a / 1000000000 == b / 1000000000) = false := beq_eq_false_iff_ne.2 h2
    have hr : decide (a < b) = false := decide_eq_false (by omega)
    rw [hr]
    clear h1 h2 hr
    go_enter Yba.func22, Yba.ntmps22
    go_wp2_with fail
    refine (sec_calls (w.heap.size) 0 (a % 1000000000) (a / 1000000000) _ (by omega) (by omega) (by simp [go_sem]) (by simp [go_sem])).mono ?_
    rintro e w' ⟨rfl, rfl⟩
    go_wp2_with fail
    refine (sec_calls (w.heap.size + 1) 0 (b % 1000000000) (b / 1000000000) _ (by omega) (by omega) (by simp [go_sem]) (by simp [go_sem])).mono ?_
    rintro e w' ⟨rfl, rfl⟩
    go_wp2
    go_ret
    exact ⟨rfl, rfl⟩

theorem equal_calls (a : Int) (w : World) :
    Calls Yba.prog 12 #[.agg (tm a), .agg (tm a)] w fun e w' => e = .returned (.bool true) ∧ w' = (w.alloc (.cells (tm a) 37)).alloc (.cells (tm a) 37) := by
  unfold tm
  have ht := and_le (a % 1000000000) (a % 1000000000) (by omega) (by omega) (by omega) (by omega)
  have hm := and_top _ ht.1 ht.2
  clear ht
  go_enter Yba.func12, Yba.ntmps12
  go_wp2_with fail
  refine (sec_calls (w.heap.size) 0 (a % 1000000000) (a / 1000000000) _ (by omega) (by omega) (by simp [go_sem]) (by simp [go_sem])).mono ?_
  rintro e w' ⟨rfl, rfl⟩
  go_wp2_with fail
  refine (sec_calls (w.heap.size + 1) 0 (a % 1000000000) (a / 1000000000) _ (by omega) (by omega) (by simp [go_sem]) (by simp [go_sem])).mono ?_
  rintro e w' ⟨rfl, rfl⟩
  go_wp2_with fail
  refine (nsec_calls (w.heap.size) 0 (a % 1000000000) _ (by omega) (by omega) (by simp [go_sem])).mono ?_
  rintro e w' ⟨rfl, rfl⟩
  go_wp2_with fail
  refine (nsec_calls (w.heap.size + 1) 0 (a % 1000000000) _ (by omega) (by omega) (by simp [go_sem])).mono ?_
  rintro e w' ⟨rfl, rfl⟩
  go_wp2
  go_ret
  exact ⟨rfl, rfl⟩
end Go.Proofs.Ybulkalxi
