/-
  The calendar's methods: Date.AddDays, Calendar.Last, Calendar.Before, by contract.
-/
import Derived.Test.Qxb6628706aLeaf
namespace Go.Proofs.Qxb6628706a
open Go.RowKit

set_option maxHeartbeats 400000 in
theorem addDays_any (x : Int) (w : World) (h0 : -2147483648 < x) (h1 : x ≤ 2147483647) : Calls Try.prog 11 #[.int .i32 x, .int .i64 (-1)] w fun e w' => e = .returned (.int .i32 (x + -1)) ∧ w' = w := by
  go_enter Try.func11, Try.ntmps11
  go_wp2
  go_ret
  exact ⟨rfl, rfl⟩

/-- The calendar at block cb: a row of n days at block b. -/
structure Cal (w : World) (cb b n : Nat) (zs : List Int) : Prop where
  days : w.cell? ⟨cb, 1, none⟩ = some (.slice (some ⟨b, 0, none⟩) n n)
  cells : ∀ j, j < n → w.cell? ⟨b, j, none⟩ = some (.int .i32 (zs.getD j 0))

theorem Cal.drewN {w : World} {cb b n : Nat} {zs : List Int} (h : Cal w cb b n zs) (q : Nat) : Cal (w.drewN q) cb b n zs :=
  ⟨by simpa using h.days, fun j hj => by simpa using h.cells j hj⟩

set_option maxHeartbeats 400000 in
theorem last_any (cb b n : Nat) (zs : List Int) (w : World) (hC : Cal w cb b n zs) (hn : 1 ≤ n) (hbig : n < 4611686018427387904) :
    Calls Try.prog 10 #[.pointer (some ⟨cb, 0, none⟩)] w fun e w' => e = .returned (.int .i32 (zs.getD (n - 1) 0)) ∧ ∃ q, w' = w.drewN q := by
  have h1 := hC.days
  have h2 := hC.cells (n - 1) (by omega)
  have h3 : (0 : Int) ≤ (n : Int) - 1 := by omega
  have h4 : (n : Int) - 1 < n := by omega
  have h5 : ((n : Int) - 1).toNat = n - 1 := by omega
  clear hC
  generalize zs.getD (n - 1) 0 = y at *
  go_enter Try.func10, Try.ntmps10
  go_wp2
  go_quiet (fail)
  go_wp2
  go_ret
  exact ⟨rfl, _, rfl⟩

/-- p is the number at the greatest place below d, or 0 where there is none. -/
def Bef (zs : List Int) (n : Nat) (d p : Int) : Prop :=
  ∃ i : Nat, i ≤ n ∧ (∀ t, t < i → zs.getD t 0 < d) ∧ (∀ t, i ≤ t → t < n → d ≤ zs.getD t 0) ∧ p = if i = 0 then 0 else zs.getD (i - 1) 0

set_option maxHeartbeats 400000 in
theorem before_no (cb b n : Nat) (zs : List Int) (d l : Int) (w : World) (hC : Cal w cb b n zs) (hn : 1 ≤ n) (hbig : n < 4611686018427387904) (hl : zs.getD (n - 1) 0 = l)
    (h0 : -2147483648 < d) (h1 : d ≤ 2147483647) (hlt : l < d + -1) :
    Calls Try.prog 8 #[.pointer (some ⟨cb, 0, none⟩), .int .i32 d] w fun e w' => e = .returned (.tuple #[.int .i32 0, .bool false]) ∧ ∃ q, w' = w.drewN q := by
  have HL : Hid (zs.getD (n - 1) 0 = l) := hl
  have HC : Hid (Cal w cb b n zs) := hC
  clear hC hl
  go_enter Try.func8, Try.ntmps8
  go_wp2_with (first | (go_at_call 11; refine (addDays_any _ _ h0 h1).mono ?_; rintro e w' ⟨rfl, rfl⟩) | (go_at_call 10; refine (last_any cb b n zs _ HC.out hn hbig).mono ?_; rw [HL.out]; rintro e w' ⟨rfl, q, rfl⟩))
  go_ret2
  exact ⟨rfl, _, rfl⟩

set_option maxHeartbeats 800000 in
theorem before_yes (cb b n : Nat) (zs : List Int) (d l : Int) (w : World) (hC : Cal w cb b n zs) (hn : 1 ≤ n) (hbig : n < 4611686018427387904) (hl : zs.getD (n - 1) 0 = l) (hs : SortedAt zs n)
    (h0 : -2147483648 < d) (h1 : d ≤ 2147483647) (hlt : d + -1 ≤ l) :
    Calls Try.prog 8 #[.pointer (some ⟨cb, 0, none⟩), .int .i32 d] w fun e w' => ∃ p, e = .returned (.tuple #[.int .i32 p, .bool true]) ∧ Bef zs n d p ∧ ∃ q, w' = w.drewN q := by
  have HL : Hid (zs.getD (n - 1) 0 = l) := hl
  have HC : Hid (Cal w cb b n zs) := hC
  have HS : Hid (SortedAt zs n) := hs
  have hd := hC.days
  clear hC hl hs
  go_enter Try.func8, Try.ntmps8
  go_wp2_with (first | (go_at_call 11; refine (addDays_any _ _ h0 h1).mono ?_; rintro e w' ⟨rfl, rfl⟩) | (go_at_call 10; refine (last_any cb b n zs _ HC.out hn hbig).mono ?_; rw [HL.out]; rintro e w' ⟨rfl, q, rfl⟩))
  refine (bs_any b 0 n n zs d _ hbig (fun j hj => by simpa using HC.out.cells j hj) HS.out).mono ?_
  rintro e w2 ⟨i, f, rfl, hin, ha, hb, q2, rfl⟩
  have HB : Hid ((∀ t, t < i → zs.getD t 0 < d) ∧ (∀ t, i ≤ t → t < n → d ≤ zs.getD t 0)) := ⟨ha, hb⟩
  clear ha hb
  by_cases hi : i = 0
  · subst hi
    go_wp2
    go_ret2
    exact ⟨0, rfl, ⟨0, hin, HB.out.1, HB.out.2, rfl⟩, q + q2, by simp⟩
  · have hc := HC.out.cells (i - 1) (by omega)
    have h3 : (0 : Int) ≤ (i : Int) - 1 := by omega
    have h4 : (i : Int) - 1 < n := by omega
    have h5 : ((i : Int) - 1).toNat = i - 1 := by omega
    have hi0 : ((i : Int) == 0) = false := by simpa using hi
    obtain ⟨y, hy⟩ : ∃ y, zs.getD (i - 1) 0 = y := ⟨_, rfl⟩
    rw [hy] at hc
    have HY : Hid (zs.getD (i - 1) 0 = y) := hy
    clear hy
    go_wp2
    go_ret2
    refine ⟨y, rfl, ⟨i, hin, HB.out.1, HB.out.2, ?_⟩, q + q2, by simp⟩
    rw [if_neg hi, HY.out]

/-- What Before answers at d, the last day being l: false and 0 where l lies before the day before d; else true and the greatest day below d. -/
def Ans (zs : List Int) (n : Nat) (d l p : Int) (o : Bool) : Prop := (o = true ∧ d + -1 ≤ l ∧ Bef zs n d p) ∨ (o = false ∧ l < d + -1 ∧ p = 0)

theorem before_any (cb b n : Nat) (zs : List Int) (d l : Int) (w : World) (hC : Cal w cb b n zs) (hn : 1 ≤ n) (hbig : n < 4611686018427387904) (hl : zs.getD (n - 1) 0 = l) (hs : SortedAt zs n)
    (h0 : -2147483648 < d) (h1 : d ≤ 2147483647) :
    Calls Try.prog 8 #[.pointer (some ⟨cb, 0, none⟩), .int .i32 d] w fun e w' => ∃ p o, e = .returned (.tuple #[.int .i32 p, .bool o]) ∧ Ans zs n d l p o ∧ ∃ q, w' = w.drewN q := by
  by_cases h : l < d + -1
  · refine (before_no cb b n zs d l w hC hn hbig hl h0 h1 h).mono ?_
    rintro e w' ⟨rfl, hq⟩
    exact ⟨0, false, rfl, .inr ⟨rfl, h, rfl⟩, hq⟩
  · refine (before_yes cb b n zs d l w hC hn hbig hl hs h0 h1 (by omega)).mono ?_
    rintro e w' ⟨p, rfl, hb, hq⟩
    exact ⟨p, true, rfl, .inl ⟨rfl, by omega, hb⟩, hq⟩

/-- A new calendar over a row that lies below it. -/
theorem cal_new (w : World) (s : ByteArray) (g n : Nat) (zs : List Int) (hg : g < w.heap.size) (hc : ∀ j, j < n → w.cell? ⟨g, j, none⟩ = some (.int .i32 (zs.getD j 0))) :
    Cal (w.alloc (.cells #[.string s, .slice (some ⟨g, 0, none⟩) n n] 34)) w.heap.size g n zs := by
  refine ⟨by simp [go_sem], fun j hj => ?_⟩
  rw [World.cell?_alloc_past]
  · exact hc j hj
  · exact hg
end Go.Proofs.Qxb6628706a
