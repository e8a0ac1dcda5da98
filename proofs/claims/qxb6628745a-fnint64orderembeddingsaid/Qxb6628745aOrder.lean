/-
  FnInt64OrderEmbedding: the walk.
-/
import Derived.Test.Qxb6628745aLeaf
namespace Go.Proofs.Qxb6628745a
open Go.RowKit

/-- The number that the two fields stand for. -/
def sval (b : Bool) (n : Int) : Int := match b with | true => -1 - n | false => n

/-- What Int64 answers. -/
def Out (b : Bool) (n v : Int) (o : Bool) : Prop := (o = true ∧ n ≤ 9223372036854775807 ∧ v = sval b n) ∨ (o = false ∧ 9223372036854775807 < n ∧ v = 0)

theorem int64_any (b : Bool) (n : Int) (w : World) (h0 : 0 ≤ n) :
    Calls Try.prog 6 #[.agg #[.bool b, .int .u64 n]] w fun e w' => ∃ v o, e = .returned (.tuple #[.int .i64 v, .bool o]) ∧ Out b n v o ∧ w' = w.alloc (.cells #[.bool b, .int .u64 n] 25) := by
  by_cases h : n ≤ 9223372036854775807
  · cases b
    · refine (int64_pos n w h0 h).mono ?_
      rintro e w' ⟨rfl, rfl⟩
      exact ⟨n, true, rfl, .inl ⟨rfl, h, rfl⟩, rfl⟩
    · refine (int64_neg n w h0 h).mono ?_
      rintro e w' ⟨rfl, rfl⟩
      exact ⟨-1 - n, true, rfl, .inl ⟨rfl, h, rfl⟩, rfl⟩
  · refine (int64_no b n w (by omega)).mono ?_
    rintro e w' ⟨rfl, rfl⟩
    exact ⟨0, false, rfl, .inr ⟨rfl, by omega, rfl⟩, rfl⟩

/-- Less, equal or greater. -/
def cmp3 (a b : Int) : Int := if a < b then -1 else if b < a then 1 else 0
theorem cmp3_lt {a b : Int} (h : a < b) : cmp3 a b = -1 := if_pos h
theorem cmp3_gt {a b : Int} (h : b < a) : cmp3 a b = 1 := by unfold cmp3; rw [if_neg (by omega), if_pos h]
theorem cmp3_eq (a : Int) : cmp3 a a = 0 := by unfold cmp3; rw [if_neg (by omega), if_neg (by omega)]

set_option maxHeartbeats 400000 in
theorem cmp64_any (a b : Int) (w : World) : Calls Try.prog 7 #[.int .i64 a, .int .i64 b] w fun e w' => e = .returned (.int .i64 (cmp3 a b)) ∧ w' = w := by
  rcases Int.lt_trichotomy a b with h | h | h
  · rw [cmp3_lt h]
    go_enter Try.func7, Try.ntmps7
    go_wp2
    go_ret
    exact ⟨rfl, rfl⟩
  · subst h
    rw [cmp3_eq]
    go_enter Try.func7, Try.ntmps7
    go_wp2
    go_ret
    exact ⟨rfl, rfl⟩
  · rw [cmp3_gt h]
    have h' : ¬ a < b := by omega
    go_enter Try.func7, Try.ntmps7
    go_wp2
    go_ret
    exact ⟨rfl, rfl⟩

set_option maxHeartbeats 800000 in
theorem cmpInt_any (b1 : Bool) (n1 : Int) (b2 : Bool) (n2 : Int) (w : World) (h1 : 0 ≤ n1) (h2 : 0 ≤ n2) :
    Calls Try.prog 8 #[.bool b1, .int .u64 n1, .bool b2, .int .u64 n2] w fun e w' => e = .returned (.int .i64 (cmp3 (sval b1 n1) (sval b2 n2))) ∧ w' = w := by
  cases b1 <;> cases b2
  · rcases Int.lt_trichotomy n1 n2 with h | h | h
    · rw [cmp3_lt (show sval false n1 < sval false n2 from h)]
      go_enter Try.func8, Try.ntmps8
      go_wp2
      go_ret
      exact ⟨rfl, rfl⟩
    · subst h
      rw [cmp3_eq]
      go_enter Try.func8, Try.ntmps8
      go_wp2
      go_ret
      exact ⟨rfl, rfl⟩
    · rw [cmp3_gt (show sval false n2 < sval false n1 from h)]
      have h' : ¬ n1 < n2 := by omega
      go_enter Try.func8, Try.ntmps8
      go_wp2
      go_ret
      exact ⟨rfl, rfl⟩
  · rw [cmp3_gt (show sval true n2 < sval false n1 from by unfold sval; dsimp only; omega)]
    go_enter Try.func8, Try.ntmps8
    go_wp2
    go_ret
    exact ⟨rfl, rfl⟩
  · rw [cmp3_lt (show sval true n1 < sval false n2 from by unfold sval; dsimp only; omega)]
    go_enter Try.func8, Try.ntmps8
    go_wp2
    go_ret
    exact ⟨rfl, rfl⟩
  · rcases Int.lt_trichotomy n1 n2 with h | h | h
    · rw [cmp3_gt (show sval true n2 < sval true n1 from by unfold sval; dsimp only; omega)]
      have h' : ¬ n2 < n1 := by omega
      go_enter Try.func8, Try.ntmps8
      go_wp2
      go_ret
      exact ⟨rfl, rfl⟩
    · subst h
      rw [cmp3_eq]
      go_enter Try.func8, Try.ntmps8
      go_wp2
      go_ret
      exact ⟨rfl, rfl⟩
    · rw [cmp3_lt (show sval true n1 < sval true n2 from by unfold sval; dsimp only; omega)]
      go_enter Try.func8, Try.ntmps8
      go_wp2
      go_ret
      exact ⟨rfl, rfl⟩

theorem sval_sign (b : Bool) (n : Int) (h : 0 ≤ n) : decide (sval b n < 0) = b := by
  cases b
  · exact decide_eq_false (show ¬ n < 0 by omega)
  · exact decide_eq_true (show -1 - n < 0 by omega)

theorem cmp64_at (a b c : Int) (w : World) (h : cmp3 a b = c) : Calls Try.prog 7 #[.int .i64 a, .int .i64 b] w fun e w' => e = .returned (.int .i64 c) ∧ w' = w := by
  subst h
  exact cmp64_any a b w
theorem cmpInt_at (b1 : Bool) (n1 : Int) (b2 : Bool) (n2 c : Int) (w : World) (h1 : 0 ≤ n1) (h2 : 0 ≤ n2) (h : cmp3 (sval b1 n1) (sval b2 n2) = c) :
    Calls Try.prog 8 #[.bool b1, .int .u64 n1, .bool b2, .int .u64 n2] w fun e w' => e = .returned (.int .i64 c) ∧ w' = w := by
  subst h
  exact cmpInt_any b1 n1 b2 n2 w h1 h2

set_option maxHeartbeats 1600000 in
theorem order_any (b1 : Bool) (n1 : Int) (b2 : Bool) (n2 : Int) (w : World) (h1 : 0 ≤ n1) (h2 : 0 ≤ n2) :
    Calls Try.prog 4 #[.bool b1, .int .u64 n1, .bool b2, .int .u64 n2] w fun e w' => e = .returned (.bool true) ∧ Grown w w' := by
  go_enter Try.func4, Try.ntmps4
  go_wp2_with fail
  refine (new_any _ _ _).mono ?_
  rintro e w1 ⟨rfl, rfl⟩
  go_wp2_with fail
  refine (int64_any _ _ _ h1).mono ?_
  rintro e w1 ⟨v1, o1, rfl, A1, rfl⟩
  have HA1 : Hid (Out b1 n1 v1 o1) := A1
  clear A1
  go_wp2_with fail
  refine (new_any _ _ _).mono ?_
  rintro e w1 ⟨rfl, rfl⟩
  go_wp2_with fail
  refine (int64_any _ _ _ h2).mono ?_
  rintro e w1 ⟨v2, o2, rfl, A2, rfl⟩
  have hz : ((0 : Int) != 0) = false := rfl
  rcases HA1.out with ⟨rfl, f1, e1⟩ | ⟨rfl, f1, rfl⟩
  · have d1 : decide (n1 ≤ 9223372036854775807) = true := by simp; omega
    have g1 : decide (v1 < 0) = b1 := by rw [e1]; exact sval_sign b1 n1 h1
    have E1 : Hid (v1 = sval b1 n1) := e1
    clear e1
    rcases A2 with ⟨rfl, f2, e2⟩ | ⟨rfl, f2, rfl⟩
    · have d2 : decide (n2 ≤ 9223372036854775807) = true := by simp; omega
      have g2 : decide (v2 < 0) = b2 := by rw [e2]; exact sval_sign b2 n2 h2
      have E2 : Hid (v2 = sval b2 n2) := e2
      clear e2
      obtain ⟨c, hc⟩ : ∃ c, cmp3 (sval b1 n1) (sval b2 n2) = c := ⟨_, rfl⟩
      have C1 : Hid (cmp3 v1 v2 = c) := by unfold Hid; rw [E1.out, E2.out]; exact hc
      have C2 : Hid (cmp3 (sval b1 n1) (sval b2 n2) = c) := hc
      clear hc
      cases b1 <;> cases b2
      all_goals
        go_wp2_with fail
        refine (cmp64_at _ _ c _ C1.out).mono ?_
        rintro e w1 ⟨rfl, rfl⟩
        go_wp2_with fail
        refine (cmpInt_at _ _ _ _ c _ h1 h2 C2.out).mono ?_
        rintro e w1 ⟨rfl, rfl⟩
        go_wp2
        go_ret
        exact ⟨by simp, by repeat (first | exact Grown.refl _ | apply Grown.drew | apply Grown.alloc)⟩
    · have d2 : decide (n2 ≤ 9223372036854775807) = false := by simp; omega
      cases b1
      all_goals
        go_wp2
        go_ret
        exact ⟨rfl, by repeat (first | exact Grown.refl _ | apply Grown.drew | apply Grown.alloc)⟩
  · have d1 : decide (n1 ≤ 9223372036854775807) = false := by simp; omega
    rcases A2 with ⟨rfl, f2, e2⟩ | ⟨rfl, f2, rfl⟩
    · have d2 : decide (n2 ≤ 9223372036854775807) = true := by simp; omega
      have g2 : decide (v2 < 0) = b2 := by rw [e2]; exact sval_sign b2 n2 h2
      clear e2
      cases b2
      all_goals
        go_wp2
        go_ret
        exact ⟨rfl, by repeat (first | exact Grown.refl _ | apply Grown.drew | apply Grown.alloc)⟩
    · have d2 : decide (n2 ≤ 9223372036854775807) = false := by simp; omega
      go_wp2
      go_ret
      exact ⟨rfl, by repeat (first | exact Grown.refl _ | apply Grown.drew | apply Grown.alloc)⟩
end Go.Proofs.Qxb6628745a
