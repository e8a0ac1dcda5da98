/-
  limitPtr, pick, nearer and Own.Over by contract.
-/
import Derived.Test.Qxb6628774aRows
import Derived.WalkKit
import Derived.WalkSpells
import Derived.RowKit3
import Derived.Below
namespace Go.Proofs.Qxb6628774a
open Go.RowKit

/-- The pointer is nil and stands for no setting; or it leads to a cell with the setting's number. -/
def Ptr (w : World) (a : Option Addr) (o : Option Int) : Prop :=
  (a = none ∧ o = none) ∨ ∃ b off n, a = some ⟨b, off, none⟩ ∧ o = some n ∧ w.cell? ⟨b, off, none⟩ = some (.int .i64 n)

theorem Ptr.below {w w' : World} {a : Option Addr} {o : Option Int} (h : Ptr w a o) (hb : Below w.heap.size w w') : Ptr w' a o := by
  rcases h with h | ⟨b, off, n, h1, h2, hc⟩
  · exact .inl h
  · exact .inr ⟨b, off, n, h1, h2, (hb.cell (World.block_lt_of_cell? w _ hc)).trans hc⟩

set_option maxHeartbeats 400000 in
theorem limit_any (a : Option Addr) (o : Option Int) (w : World) (h : Ptr w a o) :
    Calls Try.prog 5 #[.pointer a] w fun e w' => ∃ a', e = .returned (.pointer a') ∧ Ptr w' a' o ∧ Below w.heap.size w w' := by
  rcases h with ⟨rfl, rfl⟩ | ⟨b, off, n, rfl, rfl, hc⟩
  · go_enter Try.func5, Try.ntmps5
    go_wp2
    go_ret
    exact ⟨none, rfl, .inl ⟨rfl, rfl⟩, Below.refl _ _⟩
  · go_enter Try.func5, Try.ntmps5
    go_wp2
    go_ret
    exact ⟨some ⟨w.heap.size, 0, none⟩, rfl, .inr ⟨_, _, n, rfl, rfl, by simp [go_sem]⟩, (Below.refl _ _).alloc (Nat.le_refl _) _⟩

/-- The nearer setting first, then the farther one, then the base. -/
def pickv (o o' : Option Int) (base : Int) : Int := match o with
  | some n => n
  | none => match o' with
    | some n => n
    | none => base

set_option maxHeartbeats 400000 in
theorem pick_any (a a' : Option Addr) (o o' : Option Int) (base : Int) (w : World) (h : Ptr w a o) (h' : Ptr w a' o') :
    Calls Try.prog 6 #[.pointer a, .pointer a', .int .i64 base] w fun e w' => e = .returned (.int .i64 (pickv o o' base)) ∧ w = w' := by
  rcases h with ⟨rfl, rfl⟩ | ⟨b, off, n, rfl, rfl, hc⟩
  · rcases h' with ⟨rfl, rfl⟩ | ⟨b', off', n', rfl, rfl, hc'⟩
    · go_enter Try.func6, Try.ntmps6
      go_wp2
      go_ret
      exact ⟨rfl, rfl⟩
    · go_enter Try.func6, Try.ntmps6
      go_wp2
      go_ret
      exact ⟨rfl, rfl⟩
  · go_enter Try.func6, Try.ntmps6
    go_wp2
    go_ret
    exact ⟨rfl, rfl⟩

/-- The nearer of two settings. -/
def near (o o' : Option Int) : Option Int := match o with
  | some n => some n
  | none => o'

set_option maxHeartbeats 400000 in
theorem nearer_any (a a' : Option Addr) (o o' : Option Int) (w : World) (h : Ptr w a o) (h' : Ptr w a' o') :
    Calls Try.prog 8 #[.pointer a, .pointer a'] w fun e w' => ∃ r, e = .returned (.pointer r) ∧ Ptr w' r (near o o') ∧ Below w.heap.size w w' := by
  rcases h with ⟨rfl, rfl⟩ | ⟨b, off, n, rfl, rfl, hc⟩
  · go_enter Try.func8, Try.ntmps8
    go_wp2_with (go_at_call 5; refine (limit_any _ _ _ h').mono ?_; rintro e w' ⟨r, rfl, hr, hb⟩)
    go_ret
    exact ⟨r, rfl, hr, hb⟩
  · have hp : Ptr w (some ⟨b, off, none⟩) (some n) := .inr ⟨b, off, n, rfl, rfl, hc⟩
    go_enter Try.func8, Try.ntmps8
    go_wp2_with (go_at_call 5; refine (limit_any _ _ _ hp).mono ?_; rintro e w' ⟨r, rfl, hr, hb⟩)
    go_ret
    exact ⟨r, rfl, hr, hb⟩

/-- The owner's setting where there is one, else the base. -/
def over (o : Option Int) (base : Int) : Int := match o with
  | some n => n
  | none => base

theorem below3 (w : World) (o1 o2 o3 : Obj) : Below w.heap.size w (((w.alloc o1).alloc o2).alloc o3) :=
  (((Below.refl w.heap.size w).alloc (Nat.le_refl _) o1).alloc (by simp) o2).alloc (by simp; omega) o3

theorem cell3 {w : World} {a : Addr} {v : Value} (h : w.cell? a = some v) (o1 o2 o3 : Obj) : (((w.alloc o1).alloc o2).alloc o3).cell? a = some v :=
  ((below3 w o1 o2 o3).cell (World.block_lt_of_cell? w _ h)).trans h

set_option maxHeartbeats 1600000 in
theorem over_any (a a' : Option Addr) (o o' : Option Int) (s c : Int) (w : World) (h : Ptr w a o) (h' : Ptr w a' o') :
    Calls Try.prog 7 #[.agg #[.pointer a, .pointer a'], .agg #[.int .i64 s, .int .i64 c]] w fun e w' => e = .returned (.agg #[.int .i64 (over o s), .int .i64 (over o' c)]) ∧ Below w.heap.size w w' := by
  rcases h with ⟨rfl, rfl⟩ | ⟨b, off, n, rfl, rfl, hc⟩
  · rcases h' with ⟨rfl, rfl⟩ | ⟨b', off', n', rfl, rfl, hc'⟩
    · go_enter Try.func7, Try.ntmps7
      go_wp2
      exact bodyPost_ret (v := .agg #[.int .i64 s, .int .i64 c]) (by simp [results, Try.results7, go_sem]) rfl ⟨rfl, below3 _ _ _ _⟩
    · have hq' := cell3 hc'
      go_enter Try.func7, Try.ntmps7
      go_wp2
      exact bodyPost_ret (v := .agg #[.int .i64 s, .int .i64 n']) (by simp [results, Try.results7, go_sem]) rfl ⟨rfl, below3 _ _ _ _⟩
  · have hq := cell3 hc
    rcases h' with ⟨rfl, rfl⟩ | ⟨b', off', n', rfl, rfl, hc'⟩
    · go_enter Try.func7, Try.ntmps7
      go_wp2
      exact bodyPost_ret (v := .agg #[.int .i64 n, .int .i64 c]) (by simp [results, Try.results7, go_sem]) rfl ⟨rfl, below3 _ _ _ _⟩
    · have hq' := cell3 hc'
      go_enter Try.func7, Try.ntmps7
      go_wp2
      exact bodyPost_ret (v := .agg #[.int .i64 n, .int .i64 n']) (by simp [results, Try.results7, go_sem]) rfl ⟨rfl, below3 _ _ _ _⟩
end Go.Proofs.Qxb6628774a
