/-
  FnInt64ComplementPair: the walk.
-/
import Derived.Test.Qxb6628745aLeaf
namespace Go.Proofs.Qxb6628745a
open Go.RowKit

set_option maxHeartbeats 800000 in
theorem pair_no (n : Int) (w : World) (h : 9223372036854775807 < n) :
    Calls Try.prog 3 #[.int .u64 n] w fun e w' => e = .returned (.bool true) ∧ Grown w w' := by
  have hd : decide (n ≤ 9223372036854775807) = false := by simp; omega
  go_enter Try.func3, Try.ntmps3
  go_wp2_with (first | (go_at_call 5; refine (new_any _ _ _).mono ?_; rintro e w' ⟨rfl, rfl⟩) | (go_at_call 6; refine (int64_no _ _ _ h).mono ?_; rintro e w' ⟨rfl, rfl⟩))
  go_ret
  exact ⟨rfl, by repeat (first | exact Grown.refl _ | apply Grown.drew | apply Grown.alloc)⟩

set_option maxHeartbeats 800000 in
theorem pair_yes (n : Int) (w : World) (h0 : 0 ≤ n) (h : n ≤ 9223372036854775807) :
    Calls Try.prog 3 #[.int .u64 n] w fun e w' => e = .returned (.bool true) ∧ Grown w w' := by
  have hd : decide (n ≤ 9223372036854775807) = true := by simp; omega
  have hq : (n + (-1 - n) == -1) = true := by simp; omega
  go_enter Try.func3, Try.ntmps3
  go_wp2_with fail
  refine (new_any _ _ _).mono ?_
  rintro e w1 ⟨rfl, rfl⟩
  go_wp2_with fail
  refine (int64_pos _ _ h0 h).mono ?_
  rintro e w1 ⟨rfl, rfl⟩
  go_wp2_with fail
  refine (new_any _ _ _).mono ?_
  rintro e w1 ⟨rfl, rfl⟩
  go_wp2_with fail
  refine (int64_neg _ _ h0 h).mono ?_
  rintro e w1 ⟨rfl, rfl⟩
  go_wp2
  go_ret
  exact ⟨rfl, by repeat (first | exact Grown.refl _ | apply Grown.drew | apply Grown.alloc)⟩
end Go.Proofs.Qxb6628745a
