/-
  The plain law of the calendar: no Go in sight.
-/
import Derived.Test.Qxb6628706aCal
namespace Go.Proofs.Qxb6628706a
open Go.RowKit

/-- What the law's own scan has found among the first k days. -/
structure Scan (zs : List Int) (d : Int) (k : Nat) (fb : Bool) (bv : Int) (lb : Bool) : Prop where
  no : fb = false → ∀ t, t < k → d ≤ zs.getD t 0
  yes : fb = true → (∃ t, t < k ∧ zs.getD t 0 = bv ∧ bv < d) ∧ ∀ t, t < k → zs.getD t 0 < d → zs.getD t 0 ≤ bv
  listed : lb = true → ∃ t, t < k ∧ zs.getD t 0 = d
  unlisted : lb = false → ∀ t, t < k → zs.getD t 0 ≠ d

theorem Scan.zero (zs : List Int) (d : Int) : Scan zs d 0 false 0 false :=
  ⟨fun _ t ht => by omega, (fun h => by cases h), (fun h => by cases h), fun _ t ht => by omega⟩

/-- A day not below d. -/
theorem Scan.skip {zs : List Int} {d : Int} {k : Nat} {fb : Bool} {bv : Int} {lb : Bool} (h : Scan zs d k fb bv lb) (y : Int) (hy : zs.getD k 0 = y) (hd : ¬ y < d) (hne : y ≠ d) : Scan zs d (k + 1) fb bv lb := by
  refine ⟨fun e t ht => ?_, fun e => ⟨?_, fun t ht hl => ?_⟩, fun e => ?_, fun e t ht => ?_⟩
  · rcases Nat.lt_or_ge t k with a | a
    · exact h.no e t a
    · obtain rfl : t = k := by omega
      omega
  · obtain ⟨t, a, b, c⟩ := (h.yes e).1
    exact ⟨t, by omega, b, c⟩
  · rcases Nat.lt_or_ge t k with a | a
    · exact (h.yes e).2 t a hl
    · obtain rfl : t = k := by omega
      omega
  · obtain ⟨t, a, b⟩ := h.listed e
    exact ⟨t, by omega, b⟩
  · rcases Nat.lt_or_ge t k with a | a
    · exact h.unlisted e t a
    · obtain rfl : t = k := by omega
      rw [hy]; exact hne

/-- The day d itself. -/
theorem Scan.hit {zs : List Int} {d : Int} {k : Nat} {fb : Bool} {bv : Int} {lb : Bool} (h : Scan zs d k fb bv lb) (y : Int) (hy : zs.getD k 0 = y) (hd : y = d) : Scan zs d (k + 1) fb bv true := by
  refine ⟨fun e t ht => ?_, fun e => ⟨?_, fun t ht hl => ?_⟩, fun _ => ⟨k, by omega, by rw [hy, hd]⟩, (fun e => by cases e)⟩
  · rcases Nat.lt_or_ge t k with a | a
    · exact h.no e t a
    · obtain rfl : t = k := by omega
      omega
  · obtain ⟨t, a, b, c⟩ := (h.yes e).1
    exact ⟨t, by omega, b, c⟩
  · rcases Nat.lt_or_ge t k with a | a
    · exact (h.yes e).2 t a hl
    · obtain rfl : t = k := by omega
      omega

/-- An earlier day that is taken. -/
theorem Scan.take {zs : List Int} {d : Int} {k : Nat} {fb : Bool} {bv : Int} {lb : Bool} (h : Scan zs d k fb bv lb) (y : Int) (hy : zs.getD k 0 = y) (hd : y < d) (hb : fb = true → bv < y) : Scan zs d (k + 1) true y lb := by
  refine ⟨(fun e => by cases e), fun _ => ⟨⟨k, by omega, hy, hd⟩, fun t ht hl => ?_⟩, fun e => ?_, fun e t ht => ?_⟩
  · rcases Nat.lt_or_ge t k with a | a
    · cases hf : fb with
      | false => have := h.no hf t a; omega
      | true => have := (h.yes hf).2 t a hl; have := hb hf; omega
    · obtain rfl : t = k := by omega
      omega
  · obtain ⟨t, a, b⟩ := h.listed e
    exact ⟨t, by omega, b⟩
  · rcases Nat.lt_or_ge t k with a | a
    · exact h.unlisted e t a
    · obtain rfl : t = k := by omega
      omega

/-- An earlier day that is not taken. -/
theorem Scan.leave {zs : List Int} {d : Int} {k : Nat} {bv : Int} {lb : Bool} (h : Scan zs d k true bv lb) (y : Int) (hy : zs.getD k 0 = y) (hd : y < d) (hb : ¬ bv < y) : Scan zs d (k + 1) true bv lb := by
  refine ⟨(fun e => by cases e), fun _ => ⟨?_, fun t ht hl => ?_⟩, fun e => ?_, fun e t ht => ?_⟩
  · obtain ⟨t, a, b, c⟩ := (h.yes rfl).1
    exact ⟨t, by omega, b, c⟩
  · rcases Nat.lt_or_ge t k with a | a
    · exact (h.yes rfl).2 t a hl
    · obtain rfl : t = k := by omega
      omega
  · obtain ⟨t, a, b⟩ := h.listed e
    exact ⟨t, by omega, b⟩
  · rcases Nat.lt_or_ge t k with a | a
    · exact h.unlisted e t a
    · obtain rfl : t = k := by omega
      omega

theorem bef_none {zs : List Int} {n : Nat} {d p bv : Int} {lb : Bool} (h : Bef zs n d p) (s : Scan zs d n false bv lb) : p = 0 := by
  obtain ⟨i, hi, h1, h2, rfl⟩ := h
  by_cases e : i = 0
  · rw [if_pos e]
  · have := h1 (i - 1) (by omega)
    have := s.no rfl (i - 1) (by omega)
    omega

theorem bef_some {zs : List Int} {n : Nat} {d p bv : Int} {lb : Bool} (hs : SortedAt zs n) (h : Bef zs n d p) (s : Scan zs d n true bv lb) : p = bv := by
  obtain ⟨i, hi, h1, h2, rfl⟩ := h
  obtain ⟨⟨t, ht, e, hlt⟩, hmax⟩ := s.yes rfl
  have hti : t < i := by
    rcases Nat.lt_or_ge t i with a | a
    · exact a
    · have := h2 t a ht; omega
  rw [if_neg (by omega)]
  have a1 := hs t (i - 1) (by omega) (by omega)
  have a2 := hmax (i - 1) (by omega) (h1 (i - 1) (by omega))
  omega

theorem bef_next_listed {zs : List Int} {n : Nat} {d p bv : Int} {fb : Bool} (hs : SortedAt zs n) (h : Bef zs n (d + 1) p) (s : Scan zs d n fb bv true) : p = d := by
  obtain ⟨i, hi, h1, h2, rfl⟩ := h
  obtain ⟨t, ht, e⟩ := s.listed rfl
  have hti : t < i := by
    rcases Nat.lt_or_ge t i with a | a
    · exact a
    · have := h2 t a ht; omega
  rw [if_neg (by omega)]
  have a1 := hs t (i - 1) (by omega) (by omega)
  have a2 := h1 (i - 1) (by omega)
  omega

theorem bef_next_same {zs : List Int} {n : Nat} {d p p' bv : Int} {fb : Bool} (h : Bef zs n d p) (h' : Bef zs n (d + 1) p') (s : Scan zs d n fb bv false) : p' = p := by
  obtain ⟨i, hi, h1, h2, rfl⟩ := h
  obtain ⟨i', hi', h1', h2', rfl⟩ := h'
  have : i' = i := by
    rcases Nat.lt_trichotomy i i' with a | a | a
    · have a1 := h2 i (Nat.le_refl _) (by omega)
      have a2 := h1' i a
      have := s.unlisted rfl i (by omega)
      omega
    · omega
    · have a1 := h1 i' a
      have a2 := h2' i' (Nat.le_refl _) (by omega)
      omega
  rw [this]

/-- Neighbours in order: the whole is in order. -/
theorem sorted_of_steps {zs : List Int} {n : Nat} (h : ∀ t, 1 ≤ t → t < n → zs.getD (t - 1) 0 ≤ zs.getD t 0) : SortedAt zs n := by
  intro a b hab hb
  induction b with
  | zero =>
    obtain rfl : a = 0 := by omega
    exact Int.le_refl _
  | succ b ih =>
    rcases Nat.lt_or_ge a (b + 1) with x | x
    · have a1 := ih (by omega) (by omega)
      have a2 := h (b + 1) (by omega) hb
      simp only [Nat.add_sub_cancel] at a2
      omega
    · obtain rfl : a = b + 1 := by omega
      exact Int.le_refl _

end Go.Proofs.Qxb6628706a
