/-
  FnCalendarBeforeGreatestEarlierDay: the walk.
-/
import Derived.Test.Qxb6628706aDates
import Derived.Test.Qxb6628706aPlain
namespace Go.Proofs.Qxb6628706a
open Go.RowKit

set_option maxHeartbeats 400000 in
theorem zb5_any (s : ByteArray) (a : Option Addr) (len cap : Nat) (d : Int) (w : World) (hs : s.size ≤ maxLen) (hl : len ≤ maxLen) :
    Calls Try.prog 5 #[.string s, .slice a len cap, .int .i32 d] w fun e w' => (∃ v, e = .returned (.bool v)) ∧ w = w' := by
  unfold maxLen at hs hl
  go_enter Try.func5, Try.ntmps5
  go_wp2
  all_goals (go_ret; exact ⟨⟨_, rfl⟩, rfl⟩)

set_option maxHeartbeats 400000 in
theorem new_any (s : ByteArray) (g n : Nat) (w : World) :
    Calls Try.prog 7 #[.string s, .slice (some ⟨g, 0, none⟩) n n] w fun e w' => e = .returned (.pointer (some ⟨w.heap.size, 0, none⟩)) ∧ w' = w.alloc (.cells #[.string s, .slice (some ⟨g, 0, none⟩) n n] 34) := by
  go_enter Try.func7, Try.ntmps7
  go_wp2
  go_ret
  exact ⟨rfl, rfl⟩

set_option maxHeartbeats 400000 in
/-- A file's name or a row too long, or no day at all. -/
theorem great_short (s : ByteArray) (a : Option Addr) (len cap : Nat) (d : Int) (w : World) (hs : s.size ≤ maxLen) (hl : len ≤ maxLen) (h : 65536 < s.size ∨ 65536 < len ∨ len = 0) :
    Calls Try.prog 3 #[.string s, .slice a len cap, .int .i32 d] w fun e w' => e = .returned (.bool true) ∧ Below w.heap.size w w' := by
  have HS : Hid (s.size ≤ maxLen) := hs
  have HL : Hid (len ≤ maxLen) := hl
  unfold maxLen at hs hl
  rcases h with h | h | h
  · go_enter Try.func3, Try.ntmps3
    go_wp2_with (go_at_call 5; refine (zb5_any _ _ _ _ _ _ HS.out HL.out).mono ?_; rintro e w' ⟨⟨v, rfl⟩, rfl⟩)
    all_goals (go_ret; exact ⟨rfl, Below.refl _ _⟩)
  · go_enter Try.func3, Try.ntmps3
    go_wp2_with (go_at_call 5; refine (zb5_any _ _ _ _ _ _ HS.out HL.out).mono ?_; rintro e w' ⟨⟨v, rfl⟩, rfl⟩)
    all_goals (go_ret; exact ⟨rfl, Below.refl _ _⟩)
  · subst h
    go_enter Try.func3, Try.ntmps3
    go_wp2_with (go_at_call 5; refine (zb5_any _ _ _ _ _ _ HS.out HL.out).mono ?_; rintro e w' ⟨⟨v, rfl⟩, rfl⟩)
    all_goals (go_ret; exact ⟨rfl, Below.refl _ _⟩)
end Go.Proofs.Qxb6628706a
