/- 'Keys(seed, n)': a new row of n keys, key j the mix of the state after j + 1 steps. -/
import Derived.Test.YbulkalveNext
import Derived.Deep.OwnRows
namespace Go.Proofs.Ybulkalve
open Go.ChangeShapes Go.WideShapes Go.RowKit

/-- the state after k steps -/
def it (x : Int) : Nat → Int
  | 0 => x
  | k + 1 => stp (it x k)

theorem it_eq (x : Int) (h0 : 0 ≤ x) (h1 : x ≤ 18446744073709551615) (k : Nat) : it x k = (x + k * 11400714819323198485) % 18446744073709551616 := by
  induction k with
  | zero => simp only [it]; omega
  | succ k ih =>
    simp only [it, stp, IntKind.wrap_u64, ih]
    omega

theorem Yba.info22 : (Yba.prog.info? 22).map (fun i => (i.zero, i.size, i.bytes)) = some (some (.int .u64 0), 1, 8) := by kernel_rfl

/-- what the row holds after k rounds -/
def keyAt (x : Int) (k j : Nat) : Value := .int .u64 (if j < k then mix (it x (j + 1)) else 0)

theorem row_step {w : World} {b n k : Nat} {x : Int} (h : w.rowIs b 22 n (keyAt x k)) : (w.setCell ⟨b, k, none⟩ (.int .u64 (mix (stp (it x k))))).rowIs b 22 n (keyAt x (k + 1)) := by
  refine (h.set k _).congr fun j _ => ?_
  unfold keyAt
  by_cases e : j = k
  · subst e; simp [it]
  · rw [if_neg e]
    by_cases l : j < k
    · rw [if_pos l, if_pos (by omega)]
    · rw [if_neg l, if_neg (by omega)]

theorem row_made (w : World) (x : Int) (n : Nat) : ((w.alloc (.cells #[.int .u64 x] 27)).alloc (.cells (madeCells #[.int .u64 0] n) 22)).rowIs (w.heap.size + 1) 22 n (keyAt x 0) := by
  have h := World.rowIs_made (w.alloc (.cells #[.int .u64 x] 27)) (.int .u64 0) n 22
  rw [World.size_alloc] at h
  exact h.congr fun j _ => by unfold keyAt; rw [if_neg (by omega)]

set_option maxHeartbeats 400000 in
theorem keys_calls (x : Int) (n : Nat) (w : World) (hn : n < 300) :
    Calls Yba.prog 9 #[.int .u64 x, .int .i64 n] w fun e w' => e = .returned (.slice (some ⟨w.heap.size + 1, 0, none⟩) n n) ∧ w'.rowIs (w.heap.size + 1) 22 n (keyAt x n) ∧ Grown w w' := by
  have hmk := run_make_row' (P := Yba.prog) 31 22 (.int .u64 0) 8 Yba.underlying31 Yba.info22 rfl .i64 .i64 n (by omega) (by omega)
  go_enter Yba.func9, Yba.ntmps9
  go_wp2_with (first | (go_at_call 6; refine (new_calls _ _).mono ?_; rintro e w' ⟨rfl, rfl⟩))
  clear hmk
  go_loopw [14] (fun i wr => ∃ k : Nat, k ≤ n ∧ i = .int .i64 k ∧ wr.rowIs w.heap.size 27 1 (fun _ => .int .u64 (it x k)) ∧ wr.rowIs (w.heap.size + 1) 22 n (keyAt x k) ∧ Grown w wr)
    (fun i _ => n - (intOf i).toNat)
  case atStart =>
    refine ⟨0, Nat.zero_le _, rfl, ?_, ?_, ?_⟩
    · exact (World.rowIs_alloc w #[.int .u64 x] 27 _ (by intro i hi; simp at hi; subst hi; rfl)).alloc _
    · exact row_made w x n
    · exact ((Grown.refl w).alloc _ _).alloc _ _
  case round =>
    obtain ⟨k, hk, rfl, hs, hr, hg⟩ := hrel
    have hsc := hs.cell (i := 0) (by omega)
    have hsf := hs.frozen 0
    by_cases hlt : k < n
    · have hrc := (hr.setOther (a := ⟨w.heap.size, 0, none⟩) (by simp) (.int .u64 (stp (it x k)))).cell hlt
      have hrf := (hr.setOther (a := ⟨w.heap.size, 0, none⟩) (by simp) (.int .u64 (stp (it x k)))).frozen k
      have HR := row_step (hr.setOther (a := ⟨w.heap.size, 0, none⟩) (by simp) (.int .u64 (stp (it x k))))
      have HS := ((hs.set 0 (.int .u64 (stp (it x k)))).setOther (a := ⟨w.heap.size + 1, k, none⟩) (by simp) (.int .u64 (mix (stp (it x k))))).congr (g := fun _ => .int .u64 (it x (k + 1))) (by intro i hi; simp [it]; omega)
      have HG : Grown w ((wr.setCell ⟨w.heap.size, 0, none⟩ (.int .u64 (stp (it x k)))).setCell ⟨w.heap.size + 1, k, none⟩ (.int .u64 (mix (stp (it x k))))) := (hg.setCell (Nat.le_refl _) _).setCell (by simp) _
      have H : Hid (_ ∧ _ ∧ _) := ⟨HR, HS, HG⟩
      clear HR HS HG hs hr hg
      go_wp2_with (first | (go_at_call 7; refine (next_calls _ _ _ hsc hsf).mono ?_; rintro e w' ⟨rfl, rfl⟩))
      go_roundw
      case rel => exact ⟨k + 1, by omega, by go_num, H.out.2.1, H.out.1, H.out.2.2⟩
      case measure => simp [intOf]; omega
    · obtain rfl : k = n := by omega
      go_wp2
      go_ret
      exact ⟨rfl, hr, hg⟩
end Go.Proofs.Ybulkalve
