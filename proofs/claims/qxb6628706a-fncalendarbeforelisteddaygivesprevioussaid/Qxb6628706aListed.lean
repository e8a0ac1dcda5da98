/-
  FnCalendarBeforeListedDayGivesPrevious: the walk.
-/
import Derived.Test.Qxb6628706aDates
import Derived.Test.Qxb6628706aPlain
namespace Go.Proofs.Qxb6628706a
open Go.RowKit

set_option maxHeartbeats 400000 in
theorem zb9_any (s : ByteArray) (a : Option Addr) (len cap : Nat) (w : World) (hs : s.size ≤ maxLen) (hl : len ≤ maxLen) :
    Calls Try.prog 9 #[.string s, .slice a len cap] w fun e w' => (∃ v, e = .returned (.bool v)) ∧ w = w' := by
  unfold maxLen at hs hl
  go_enter Try.func9, Try.ntmps9
  go_wp2
  all_goals (go_ret; exact ⟨⟨_, rfl⟩, rfl⟩)

set_option maxHeartbeats 400000 in
theorem new_any' (s : ByteArray) (g n : Nat) (w : World) :
    Calls Try.prog 7 #[.string s, .slice (some ⟨g, 0, none⟩) n n] w fun e w' => e = .returned (.pointer (some ⟨w.heap.size, 0, none⟩)) ∧ w' = w.alloc (.cells #[.string s, .slice (some ⟨g, 0, none⟩) n n] 34) := by
  go_enter Try.func7, Try.ntmps7
  go_wp2
  go_ret
  exact ⟨rfl, rfl⟩

set_option maxHeartbeats 400000 in
/-- A file's name or a row too long, or no day at all. -/
theorem listed_short (s : ByteArray) (a : Option Addr) (len cap : Nat) (w : World) (hs : s.size ≤ maxLen) (hl : len ≤ maxLen) (h : 65536 < s.size ∨ 65536 < len ∨ len = 0) :
    Calls Try.prog 4 #[.string s, .slice a len cap] w fun e w' => e = .returned (.bool true) ∧ Below w.heap.size w w' := by
  have HS : Hid (s.size ≤ maxLen) := hs
  have HL : Hid (len ≤ maxLen) := hl
  unfold maxLen at hs hl
  rcases h with h | h | h
  · go_enter Try.func4, Try.ntmps4
    go_wp2_with (go_at_call 9; refine (zb9_any _ _ _ _ _ HS.out HL.out).mono ?_; rintro e w' ⟨⟨v, rfl⟩, rfl⟩)
    all_goals (go_ret; exact ⟨rfl, Below.refl _ _⟩)
  · go_enter Try.func4, Try.ntmps4
    go_wp2_with (go_at_call 9; refine (zb9_any _ _ _ _ _ HS.out HL.out).mono ?_; rintro e w' ⟨⟨v, rfl⟩, rfl⟩)
    all_goals (go_ret; exact ⟨rfl, Below.refl _ _⟩)
  · subst h
    go_enter Try.func4, Try.ntmps4
    go_wp2_with (go_at_call 9; refine (zb9_any _ _ _ _ _ HS.out HL.out).mono ?_; rintro e w' ⟨⟨v, rfl⟩, rfl⟩)
    all_goals (go_ret; exact ⟨rfl, Below.refl _ _⟩)

/-- The first k days rise strictly, neighbour by neighbour. -/
def Rises (zs : List Int) (k : Nat) : Prop := ∀ t, 1 ≤ t → t < k → zs.getD (t - 1) 0 < zs.getD t 0

theorem Rises.one (zs : List Int) : Rises zs 1 := fun t h1 h2 => by omega
theorem Rises.succ {zs : List Int} {k : Nat} (h : Rises zs k) (y x : Int) (hy : zs.getD k 0 = y) (hx : zs.getD (k - 1) 0 = x) (hle : ¬ y ≤ x) : Rises zs (k + 1) := fun t h1 h2 => by
  rcases Nat.lt_or_ge t k with a | a
  · exact h t h1 a
  · obtain rfl : t = k := by omega
    omega
theorem Rises.sorted {zs : List Int} {n : Nat} (h : Rises zs n) : SortedAt zs n := sorted_of_steps fun t h1 h2 => Int.le_of_lt (h t h1 h2)
theorem Rises.lt {zs : List Int} {n : Nat} (h : Rises zs n) (a b : Nat) (hab : a < b) (hb : b < n) : zs.getD a 0 < zs.getD b 0 := by
  have h1 := h.sorted a (b - 1) (by omega) (by omega)
  have h2 := h b (by omega) hb
  omega

/-- Before a listed day: the day ahead of it. -/
theorem bef_at {zs : List Int} {n k : Nat} {y p : Int} (h : Rises zs n) (hk : k < n) (hy : zs.getD k 0 = y) (hb : Bef zs n y p) : p = if k = 0 then 0 else zs.getD (k - 1) 0 := by
  obtain ⟨i, hi, h1, h2, rfl⟩ := hb
  have : i = k := by
    rcases Nat.lt_trichotomy i k with a | a | a
    · have a1 := h2 i (Nat.le_refl _) (by omega)
      have a2 := h.lt i k a hk
      omega
    · exact a
    · have a1 := h1 k a
      omega
  rw [this]

/-- Before the day behind the last: the last. -/
theorem bef_end {zs : List Int} {n : Nat} {l p : Int} (hs : SortedAt zs n) (hn : 1 ≤ n) (hl : zs.getD (n - 1) 0 = l) (hb : Bef zs n (l + 1) p) : p = l := by
  obtain ⟨i, hi, h1, h2, rfl⟩ := hb
  have : i = n := by
    rcases Nat.lt_or_ge i n with a | a
    · have a1 := h2 i (Nat.le_refl _) a
      have a2 := hs i (n - 1) (by omega) (by omega)
      omega
    · omega
  rw [if_neg (by omega), this, hl]

theorem below_new' {w w1 : World} {q : Nat} (h : Below w.heap.size (w.drewN q) w1) (hs : w.heap.size < w1.heap.size) (o : Obj) : Below w.heap.size w (w1.alloc o) :=
  (Below.trans (a := w) (b := w.drewN q) ⟨rfl, rfl, rfl, Nat.le_refl _, fun _ _ => rfl⟩ h).alloc (Nat.le_of_lt hs) o

theorem last_at (cb b n : Nat) (zs : List Int) (l : Int) (w : World) (hl : zs.getD (n - 1) 0 = l) (hC : Cal w cb b n zs) (hn : 1 ≤ n) (hbig : n < 4611686018427387904) :
    Calls Try.prog 10 #[.pointer (some ⟨cb, 0, none⟩)] w fun e w' => e = .returned (.int .i32 l) ∧ ∃ q, w' = w.drewN q := by
  subst hl
  exact last_any cb b n zs w hC hn hbig
end Go.Proofs.Qxb6628706a
