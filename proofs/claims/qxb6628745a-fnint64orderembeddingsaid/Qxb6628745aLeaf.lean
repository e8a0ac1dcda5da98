/-
  drisl.ZZnewInt and drisl.Int.Int64 by contract.
-/
import Derived.Test.Qxb6628745aRows
import Derived.WalkKit
import Derived.WalkSpells
import Derived.RowKit3
import Derived.Laws.DeepNot64
namespace Go.Proofs.Qxb6628745a
open Go.RowKit

set_option maxHeartbeats 400000 in
theorem new_any (b : Bool) (n : Int) (w : World) :
    Calls Try.prog 5 #[.bool b, .int .u64 n] w fun e w' => e = .returned (.agg #[.bool b, .int .u64 n]) ∧ w' = w.alloc (.cells #[.bool b, .int .u64 n] 25) := by
  go_enter Try.func5, Try.ntmps5
  go_wp2
  simp [bodyPost, results, Try.results5, go_sem]

set_option maxHeartbeats 400000 in
theorem int64_no (b : Bool) (n : Int) (w : World) (h : 9223372036854775807 < n) :
    Calls Try.prog 6 #[.agg #[.bool b, .int .u64 n]] w fun e w' => e = .returned (.tuple #[.int .i64 0, .bool false]) ∧ w' = w.alloc (.cells #[.bool b, .int .u64 n] 25) := by
  go_enter Try.func6, Try.ntmps6
  go_wp2
  go_ret2
  exact ⟨rfl, rfl⟩

set_option maxHeartbeats 400000 in
theorem int64_pos (n : Int) (w : World) (h0 : 0 ≤ n) (h : n ≤ 9223372036854775807) :
    Calls Try.prog 6 #[.agg #[.bool false, .int .u64 n]] w fun e w' => e = .returned (.tuple #[.int .i64 n, .bool true]) ∧ w' = w.alloc (.cells #[.bool false, .int .u64 n] 25) := by
  go_enter Try.func6, Try.ntmps6
  go_wp2
  go_ret2
  exact ⟨rfl, rfl⟩

theorem not_any (n : Int) (h0 : 0 ≤ n) (h : n ≤ 9223372036854775807) : bits .xor .i64 (-1) n = -1 - n := by
  obtain ⟨k, rfl⟩ := Int.eq_ofNat_of_zero_le h0
  exact i64_not k (by omega)

set_option maxHeartbeats 400000 in
theorem int64_neg (n : Int) (w : World) (h0 : 0 ≤ n) (hn : n ≤ 9223372036854775807) :
    Calls Try.prog 6 #[.agg #[.bool true, .int .u64 n]] w fun e w' => e = .returned (.tuple #[.int .i64 (-1 - n), .bool true]) ∧ w' = w.alloc (.cells #[.bool true, .int .u64 n] 25) := by
  have hsg : IntKind.i64.signed = true := rfl
  go_enter Try.func6, Try.ntmps6
  go_wp2
  go_ret2
  rw [← not_any n h0 hn]
  exact ⟨rfl, rfl⟩
end Go.Proofs.Qxb6628745a
