/-
  hexVal and pairIs by contract.
-/
import Derived.Test.Qxb6628810aStr
namespace Go.Proofs.Qxb6628810a
open Go.RowKit Go.Lib

set_option maxHeartbeats 400000 in
theorem hexval_lo (c : Int) (w : World) (h0 : 48 ≤ c) (h1 : c ≤ 57) : Calls Try.prog 12 #[.int .u8 c] w fun e w' => e = .returned (.tuple #[.int .u8 (c - 48), .bool true]) ∧ w = w' := by
  go_enter Try.func12, Try.ntmps12
  go_wp2
  go_ret2
  exact ⟨rfl, rfl⟩

set_option maxHeartbeats 400000 in
theorem hexval_hi (c : Int) (w : World) (h0 : 97 ≤ c) (h1 : c ≤ 102) : Calls Try.prog 12 #[.int .u8 c] w fun e w' => e = .returned (.tuple #[.int .u8 (c - 97 + 10), .bool true]) ∧ w = w' := by
  go_enter Try.func12, Try.ntmps12
  go_wp2
  go_ret2
  exact ⟨rfl, rfl⟩

theorem hexval_dig (c d : Int) (w : World) (hc : c = dig d) (h0 : 0 ≤ d) (h1 : d < 16) : Calls Try.prog 12 #[.int .u8 c] w fun e w' => e = .returned (.tuple #[.int .u8 d, .bool true]) ∧ w = w' := by
  by_cases h : d < 10
  · have e : c = 48 + d := by rw [hc]; unfold dig; rw [if_pos h]
    refine (hexval_lo c w (by omega) (by omega)).mono ?_
    rintro e w' ⟨rfl, rfl⟩
    exact ⟨by rw [show c - 48 = d by omega], rfl⟩
  · have e : c = 87 + d := by rw [hc]; unfold dig; rw [if_neg h]
    refine (hexval_hi c w (by omega) (by omega)).mono ?_
    rintro e w' ⟨rfl, rfl⟩
    exact ⟨by rw [show c - 97 + 10 = d by omega], rfl⟩

theorem or_any (a b : Int) (a0 : 0 ≤ a) (a1 : a < 16) (b0 : 0 ≤ b) (b1 : b < 16) : bits .or .u8 (a * 16) b = a * 16 + b := by
  obtain ⟨x, rfl⟩ := Int.eq_ofNat_of_zero_le a0
  obtain ⟨y, rfl⟩ := Int.eq_ofNat_of_zero_le b0
  rw [Hx.or_digits x y (by omega) (by omega), UInt8.toNat_ofNat']
  omega

set_option maxHeartbeats 800000 in
theorem pair_any (s : ByteArray) (p : Nat) (want h l : Int) (w : World) (hs : s.size = 36) (hp : p + 1 < 36) (e1 : ∀ q : p < s.size, ((s[p]'q).toNat : Int) = dig h) (e2 : ∀ q : p + 1 < s.size, ((s[p + 1]'q).toNat : Int) = dig l)
    (h0 : 0 ≤ h) (h1 : h < 16) (l0 : 0 ≤ l) (l1 : l < 16) :
    Calls Try.prog 9 #[.string s, .int .i64 p, .int .u8 want] w fun e w' => e = .returned (.bool (h * 16 + l == want)) ∧ w = w' := by
  have q1 : p < s.size := by omega
  have q2 : p + 1 < s.size := by omega
  have E1 : Hid (((s[p]'q1).toNat : Int) = dig h) := e1 q1
  have E2 : Hid (((s[p + 1]'q2).toNat : Int) = dig l) := e2 q2
  clear e1 e2
  go_enter Try.func9, Try.ntmps9
  go_wp2_with fail
  refine (hexval_dig _ h _ E1.out h0 h1).mono ?_
  rintro e w' ⟨rfl, rfl⟩
  go_wp2_with fail
  refine (hexval_dig _ l _ E2.out l0 l1).mono ?_
  rintro e w' ⟨rfl, rfl⟩
  have ho := or_any h l h0 h1 l0 l1
  go_wp2
  go_ret
  exact ⟨rfl, rfl⟩

/-- The first of the two places that byte i owns. -/
def pos (i : Nat) : Nat := 2 * i + (if 4 ≤ i then 1 else 0) + (if 6 ≤ i then 1 else 0) + (if 8 ≤ i then 1 else 0) + (if 10 ≤ i then 1 else 0)

theorem pos_a (i : Nat) (h : i < 4) : 2 * (i : Int) = (pos i : Nat) := by unfold pos; rw [if_neg (by omega), if_neg (by omega), if_neg (by omega), if_neg (by omega)]; omega
theorem pos_b (i : Nat) (h : 4 ≤ i) (h' : i < 6) : 2 * (i : Int) + 1 = (pos i : Nat) := by unfold pos; rw [if_pos (by omega), if_neg (by omega), if_neg (by omega), if_neg (by omega)]; omega
theorem pos_c (i : Nat) (h : 6 ≤ i) (h' : i < 8) : 2 * (i : Int) + 1 + 1 = (pos i : Nat) := by unfold pos; rw [if_pos (by omega), if_pos (by omega), if_neg (by omega), if_neg (by omega)]; omega
theorem pos_d (i : Nat) (h : 8 ≤ i) (h' : i < 10) : 2 * (i : Int) + 1 + 1 + 1 = (pos i : Nat) := by unfold pos; rw [if_pos (by omega), if_pos (by omega), if_pos (by omega), if_neg (by omega)]; omega
theorem pos_e (i : Nat) (h : 10 ≤ i) : 2 * (i : Int) + 1 + 1 + 1 + 1 = (pos i : Nat) := by unfold pos; rw [if_pos (by omega), if_pos (by omega), if_pos (by omega), if_pos (by omega)]; omega

theorem pos_fin : ∀ i : Fin 16, pos i.val + 1 < 36 ∧ hyp (pos i.val) = false ∧ ownB (pos i.val) = i.val ∧ ownP (pos i.val) = 0 ∧ hyp (pos i.val + 1) = false ∧ ownB (pos i.val + 1) = i.val ∧ ownP (pos i.val + 1) = 1 := by decide +kernel

theorem pos_far : ∀ (i : Fin 16) (k : Fin 36), k.val ≠ pos i.val → k.val ≠ pos i.val + 1 → hyp k.val = true ∨ ownB k.val ≠ i.val := by decide +kernel

/-- Where byte i alone may differ, the texts agree outside its two places. -/
theorem txt_same (g g' : Nat → Int) (i k : Nat) (hi : i < 16) (hk : k < 36) (h : ∀ j, j ≠ i → g' j = g j) (h1 : k ≠ pos i) (h2 : k ≠ pos i + 1) : txt g k = txt g' k := by
  unfold txt
  rcases pos_far ⟨i, hi⟩ ⟨k, hk⟩ h1 h2 with a | a
  · rw [if_pos a, if_pos a]
  · rw [h _ a]

theorem pair_true (s : ByteArray) (g : Nat → Int) (i : Nat) (want : Int) (w : World) (ht : Text s g) (hi : i < 16) (hr : 0 ≤ g i ∧ g i < 256) (hw : want = g i) :
    Calls Try.prog 9 #[.string s, .int .i64 (pos i : Nat), .int .u8 want] w fun e w' => e = .returned (.bool true) ∧ w = w' := by
  obtain ⟨p1, p2, p3, p4, p5, p6, p7⟩ := pos_fin ⟨i, hi⟩
  dsimp only at p1 p2 p3 p4 p5 p6 p7
  have e : (g i / 16 * 16 + g i % 16 == want) = true := by rw [hw, beq_iff_eq]; omega
  have h := pair_any s (pos i) want (g i / 16) (g i % 16) w ht.size p1 (fun q => ?_) (fun q => ?_) (by omega) (by omega) (by omega) (by omega)
  · rw [e] at h
    exact h
  · rw [ht.byte _ q]
    unfold txt hx
    rw [if_neg (by rw [p2]; simp), p3, p4, if_pos rfl]
  · rw [ht.byte _ q]
    unfold txt hx
    rw [if_neg (by rw [p5]; simp), p6, p7, if_neg (by omega)]

theorem pair_at (s : ByteArray) (g : Nat → Int) (i p : Nat) (want : Int) (w : World) (hp : p = pos i) (ht : Text s g) (hi : i < 16) (hr : 0 ≤ g i ∧ g i < 256) (hw : want = g i) :
    Calls Try.prog 9 #[.string s, .int .i64 p, .int .u8 want] w fun e w' => e = .returned (.bool true) ∧ w = w' := by
  subst hp
  exact pair_true s g i want w ht hi hr hw
end Go.Proofs.Qxb6628810a
