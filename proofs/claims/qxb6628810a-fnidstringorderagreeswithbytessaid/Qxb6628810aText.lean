/-
  The text of an id in plain words: digits, places; and encoding/hex.Encode's row said so.
-/
import Derived.Test.Qxb6628810aHex
namespace Go.Proofs.Qxb6628810a
open Go.RowKit Go.Lib

/-- The byte of a hexadecimal digit. -/
def dig (d : Int) : Int := if d < 10 then 48 + d else 87 + d
/-- The first (p = 0) or second digit of a byte. -/
def hx (x : Int) (p : Nat) : Int := if p = 0 then dig (x / 16) else dig (x % 16)

theorem dig_range (d : Int) (h0 : 0 ≤ d) (h1 : d < 16) : 48 ≤ dig d ∧ dig d ≤ 102 := by unfold dig; split <;> omega
theorem hx_range (x : Int) (p : Nat) (h0 : 0 ≤ x) (h1 : x < 256) : 48 ≤ hx x p ∧ hx x p ≤ 102 := by
  unfold hx
  split
  · exact dig_range _ (by omega) (by omega)
  · exact dig_range _ (by omega) (by omega)

theorem digit_dig (d : Nat) (h : d < 16) : ((Hx.digit d).toNat : Int) = dig d := by
  have key : ∀ n : Fin 16, ((Hx.digit n.val).toNat : Int) = dig n.val := by decide
  exact key ⟨d, h⟩

/-- The row behind an Encode of n bytes g 0, g 1 .. to place od. -/
def Rw (f : Nat → Value) (od : Nat) (g : Nat → Int) (n : Nat) : Nat → Value := fun j => if od ≤ j ∧ j < od + 2 * n then .int .u8 (hx (g ((j - od) / 2)) ((j - od) % 2)) else f j

theorem row_rw (f : Nat → Value) (od : Nat) (g : Nat → Int) (n : Nat) (xs : List Int) (hl : xs.length = n) (hg : ∀ i, i < n → xs.getD i 0 = g i) (hr : ∀ i, i < n → 0 ≤ g i ∧ g i < 256) (j : Nat) :
    Hx.row f od (Lib.bytesOf xs) n j = Rw f od g n j := by
  unfold Hx.row Rw
  by_cases h : od ≤ j ∧ j < od + 2 * n
  · rw [if_pos h, if_pos h]
    have hm : (j - od) / 2 < n := by omega
    obtain ⟨r0, r1⟩ := hr _ hm
    have hb := Hx.bytes_at xs ((j - od) / 2) (by omega)
    rw [hg _ hm] at hb
    generalize g ((j - od) / 2) = x at hb r0 r1
    obtain ⟨e1, e2⟩ := Hx.encode_at _ _ _ hb
    rw [Hx.byte_toNat x r0 r1] at e1 e2
    by_cases hp : (j - od) % 2 = 0
    · rw [show j - od = 2 * ((j - od) / 2) by omega, e1]
      have := digit_dig (x.toNat / 16) (by omega)
      simp only [Option.getD_some, this]
      unfold hx
      rw [if_pos (by omega)]
      congr 2
      omega
    · rw [show j - od = 2 * ((j - od) / 2) + 1 by omega, e2]
      have := digit_dig (x.toNat % 16) (by omega)
      simp only [Option.getD_some, this]
      unfold hx
      rw [if_neg (by omega)]
      congr 2
      omega
  · rw [if_neg h, if_neg h]

theorem getD_map_range (g : Nat → Int) (n i : Nat) (h : i < n) : ((List.range n).map g).getD i 0 = g i := by
  simp [List.getD, h]

/-- Encode, from place o of the id's row (block bs) to place od of the text's row (block bd). -/
theorem enc_at (T : TypeId) (bd od nd cd : Nat) (f : Nat → Value) (bs o n cs : Nat) (g : Nat → Int) (w : World)
    (hr : ∀ i, i < 16 → 0 ≤ g i ∧ g i < 256) (hsrc : ∀ i, i < 16 → w.cell? ⟨bs, i, none⟩ = some (.int .u8 (g i))) (ho : o + n ≤ 16)
    (hrow : w.rowIs bd T 36 f) (hfit : od + nd ≤ 36) (hlen : 2 * n ≤ nd) (hne : bd ≠ bs) :
    Calls Try.prog 10 #[.slice (some ⟨bd, od, none⟩) nd cd, .slice (some ⟨bs, o, none⟩) n cs] w fun e w' => e = .returned (.int .i64 ((n : Int) * 2)) ∧ w'.rowIs bd T 36 (Rw f od (fun i => g (o + i)) n) ∧ w.grownBy w' (some bd) := by
  refine (enc_any T bd od nd cd 36 f bs o n cs ((List.range n).map fun i => g (o + i)) w (by simp) (fun i hi => ?_) (fun i hi => ?_) hrow hfit hlen hne (by omega)).mono ?_
  · rw [getD_map_range (fun i => g (o + i)) n i hi]
    exact hr _ (by omega)
  · rw [getD_map_range (fun i => g (o + i)) n i hi]
    exact hsrc _ (by omega)
  · rintro e w' ⟨rfl, h1, h2⟩
    exact ⟨rfl, h1.congr (fun j _ => row_rw f od (fun i => g (o + i)) n _ (by simp) (fun i hi => getD_map_range (fun i => g (o + i)) n i hi) (fun i hi => hr _ (by omega)) j), h2⟩

/-- The byte that owns place j of the text, and which of its two digits stands there. -/
def ownB (j : Nat) : Nat := if j < 8 then j / 2 else if j < 13 then 4 + (j - 9) / 2 else if j < 18 then 6 + (j - 14) / 2 else if j < 23 then 8 + (j - 19) / 2 else 10 + (j - 24) / 2
def ownP (j : Nat) : Nat := if j < 8 then j % 2 else if j < 13 then (j - 9) % 2 else if j < 18 then (j - 14) % 2 else if j < 23 then (j - 19) % 2 else (j - 24) % 2
/-- A hyphen's place. -/
def hyp (j : Nat) : Bool := j == 8 || j == 13 || j == 18 || j == 23
/-- The text's byte at place j. -/
def txt (g : Nat → Int) (j : Nat) : Int := if hyp j = true then 45 else hx (g (ownB j)) (ownP j)

/-- A string of 36 bytes that holds the text. -/
structure Text (s : ByteArray) (g : Nat → Int) : Prop where
  size : s.size = 36
  byte : ∀ k (h : k < s.size), ((s[k]'h).toNat : Int) = txt g k
end Go.Proofs.Qxb6628810a
