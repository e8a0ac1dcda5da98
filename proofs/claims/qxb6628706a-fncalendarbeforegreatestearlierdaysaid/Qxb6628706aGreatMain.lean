/-
  FnCalendarBeforeGreatestEarlierDay: the main way.
-/
import Derived.Test.Qxb6628706aGreat
namespace Go.Proofs.Qxb6628706a
open Go.RowKit

/-- The first k days are in order, neighbour by neighbour. -/
def Steps (zs : List Int) (k : Nat) : Prop := ∀ t, 1 ≤ t → t < k → zs.getD (t - 1) 0 ≤ zs.getD t 0

theorem Steps.one (zs : List Int) : Steps zs 1 := fun t h1 h2 => by omega
theorem Steps.succ {zs : List Int} {k : Nat} (h : Steps zs k) (y x : Int) (hy : zs.getD k 0 = y) (hx : zs.getD (k - 1) 0 = x) (hle : ¬ y < x) : Steps zs (k + 1) := fun t h1 h2 => by
  rcases Nat.lt_or_ge t k with a | a
  · exact h t h1 a
  · obtain rfl : t = k := by omega
    omega

theorem below_new {w w1 : World} {q : Nat} (h : Below w.heap.size (w.drewN q) w1) (hs : w.heap.size < w1.heap.size) (o : Obj) : Below w.heap.size w (w1.alloc o) :=
  (Below.trans (a := w) (b := w.drewN q) ⟨rfl, rfl, rfl, Nat.le_refl _, fun _ _ => rfl⟩ h).alloc (Nat.le_of_lt hs) o

set_option maxHeartbeats 1600000 in
theorem great_main (s : ByteArray) (b off n cap : Nat) (zs : List Int) (d : Int) (w : World) (hs : s.size ≤ 65536) (hn : 1 ≤ n) (hl : n ≤ 65536) (hb : b < w.heap.size)
    (hc : ∀ j, j < n → w.cell? ⟨b, off + j, none⟩ = some (.int .i32 (zs.getD j 0))) (hw : ∀ j, j < n → -2147483648 ≤ zs.getD j 0 ∧ zs.getD j 0 ≤ 2147483647) (d0 : -2147483648 ≤ d) (d1 : d ≤ 2147483647) :
    Calls Try.prog 3 #[.string s, .slice (some ⟨b, off, none⟩) n cap, .int .i32 d] w fun e w' => e = .returned (.bool true) ∧ Below w.heap.size w w' := by
  have HS : Hid (s.size ≤ maxLen) := by unfold Hid maxLen; omega
  have HL : Hid (n ≤ maxLen) := by unfold Hid maxLen; omega
  have HC : Hid (∀ j, j < n → w.cell? ⟨b, off + j, none⟩ = some (.int .i32 (zs.getD j 0))) := hc
  have HW : Hid (∀ j, j < n → -2147483648 ≤ zs.getD j 0 ∧ zs.getD j 0 ≤ 2147483647) := hw
  have hn0 : ((n : Int) == 0) = false := by simp; omega
  clear hc hw
  go_enter Try.func3, Try.ntmps3
  go_wp2_with fail
  refine (zb5_any _ _ _ _ _ _ HS.out HL.out).mono ?_
  rintro e w' ⟨⟨v, rfl⟩, rfl⟩
  cases v
  · go_wp2
    go_ret
    exact ⟨rfl, Below.refl _ _⟩
  go_wp2
  go_loopw [7] (fun i wr => ∃ k q : Nat, 1 ≤ k ∧ k ≤ n ∧ i = .int .i64 k ∧ wr = w.drewN q ∧ Hid (Steps zs k)) (fun i _ => n - (intOf i).toNat)
  case atStart => exact ⟨1, 0, Nat.le_refl _, hn, rfl, rfl, Steps.one zs⟩
  case round =>
    obtain ⟨k, q, hk1, hk, rfl, rfl, hst⟩ := hrel
    by_cases hlt : k < n
    · obtain ⟨y, hy⟩ : ∃ y, zs.getD k 0 = y := ⟨_, rfl⟩
      obtain ⟨x, hx⟩ : ∃ x, zs.getD (k - 1) 0 = x := ⟨_, rfl⟩
      have cy : w.cell? ⟨b, off + k, none⟩ = some (.int .i32 y) := by rw [← hy]; exact HC.out k hlt
      have cx : w.cell? ⟨b, off + (k - 1), none⟩ = some (.int .i32 x) := by rw [← hx]; exact HC.out (k - 1) (by omega)
      have HY : Hid (zs.getD k 0 = y) := hy
      have HX : Hid (zs.getD (k - 1) 0 = x) := hx
      clear hx hy
      have h3 : (0 : Int) ≤ (k : Int) - 1 := by omega
      have h4 : (k : Int) - 1 < n := by omega
      have h5 : ((k : Int) - 1).toNat = k - 1 := by omega
      by_cases hyx : y < x
      · go_wp2
        go_quiet (fail)
        go_wp2
        go_ret
        exact ⟨rfl, ⟨rfl, rfl, rfl, Nat.le_refl _, fun _ _ => rfl⟩⟩
      · go_wp2
        go_quiet (fail)
        go_wp2
        go_roundw
        case rel => exact ⟨k + 1, _, by omega, by omega, by go_num, rfl, hst.out.succ y x HY.out HX.out (by omega)⟩
        case measure => simp [intOf]; omega
    · obtain rfl : n = k := by omega
      have HO : Hid (SortedAt zs n) := sorted_of_steps hst.out
      clear hst hlt hk hk1
      by_cases e0 : d = -2147483648
      · subst e0
        go_wp2
        go_ret
        exact ⟨rfl, ⟨rfl, rfl, rfl, Nat.le_refl _, fun _ _ => rfl⟩⟩
      by_cases e1 : d = 2147483647
      · subst e1
        go_wp2
        go_ret
        exact ⟨rfl, ⟨rfl, rfl, rfl, Nat.le_refl _, fun _ _ => rfl⟩⟩
      have f0 : (d == -2147483648) = false := by simpa using e0
      have f1 : (d == 2147483647) = false := by simpa using e1
      have g0 : -2147483648 < d := by omega
      have g1 : d < 2147483647 := by omega
      clear e0 e1 d0 d1
      obtain ⟨l, hl0⟩ : ∃ l, zs.getD (n - 1) 0 = l := ⟨_, rfl⟩
      have cl : w.cell? ⟨b, off + (n - 1), none⟩ = some (.int .i32 l) := by rw [← hl0]; exact HC.out (n - 1) (by omega)
      have l0 : -2147483648 ≤ l := by rw [← hl0]; exact (HW.out (n - 1) (by omega)).1
      have l1 : l ≤ 2147483647 := by rw [← hl0]; exact (HW.out (n - 1) (by omega)).2
      have H0 : Hid (zs.getD (n - 1) 0 = l) := hl0
      clear hl0
      go_wp2_with (first | (go_at_call 6; refine (dates_any b off n cap zs _ hl (by simpa using hb) (by simpa using HC.out)).mono ?_; rintro e w1 ⟨rfl, hcs, hbel, hsz⟩) | (go_at_call 7; refine (new_any s _ n _).mono ?_; rintro e w2 ⟨rfl, rfl⟩))
      have hcal := cal_new w1 s w.heap.size n zs (by simpa using hsz) (by simpa using hcs)
      have hbel2 : Below w.heap.size w (w1.alloc (.cells #[.string s, .slice (some ⟨w.heap.size, 0, none⟩) n n] 34)) :=
        below_new (by simpa using hbel) (by simpa using hsz) _
      clear hbel hcs hsz
      obtain ⟨W2, hW2⟩ : ∃ W2, W2 = w1.alloc (.cells #[.string s, .slice (some ⟨w.heap.size, 0, none⟩) n n] 34) := ⟨_, rfl⟩
      rw [← hW2] at hcal hbel2 ⊢
      have HK : Hid (Cal W2 w1.heap.size w.heap.size n zs) := hcal
      have HB : Hid (Below w.heap.size w W2) := hbel2
      have HC2 : Hid (∀ j, j < n → W2.cell? ⟨b, off + j, none⟩ = some (.int .i32 (zs.getD j 0))) := fun j hj => (hbel2.cell (by exact hb)).trans (HC.out j hj)
      have cl2 : W2.cell? ⟨b, off + (n - 1), none⟩ = some (.int .i32 l) := (hbel2.cell (by exact hb)).trans cl
      clear hW2 hcal hbel2 cl HC
      refine (before_any w1.heap.size w.heap.size n zs d l _ HK.out hn (by omega) H0.out HO.out g0 (by omega)).mono ?_
      rintro e w3 ⟨p1, o1, rfl, A1, q1, rfl⟩
      have HA1 : Hid (Ans zs n d l p1 o1) := A1
      clear A1
      go_wp2_with fail
      refine (before_any w1.heap.size w.heap.size n zs (d + 1) l _ (HK.out.drewN _) hn (by omega) H0.out HO.out (by omega) (by omega)).mono ?_
      rintro e w4 ⟨p2, o2, rfl, A2, q2, rfl⟩
      have HA2 : Hid (Ans zs n (d + 1) l p2 o2) := A2
      clear A2
      have h3 : (0 : Int) ≤ (n : Int) - 1 := by omega
      have h4 : (n : Int) - 1 < n := by omega
      have h5 : ((n : Int) - 1).toNat = n - 1 := by omega
      go_wp2
      go_loop [15, 16, 17, 18] (fun f t u i => ∃ (k : Nat) (fb : Bool) (bv : Int) (lb : Bool), k ≤ n ∧ i = .int .i64 k ∧ f = .bool fb ∧ t = .int .i32 bv ∧ u = .bool lb ∧ Hid (Scan zs d k fb bv lb)) (fun _ _ _ i => n - (intOf i).toNat)
      case atStart => exact ⟨0, false, 0, false, Nat.zero_le _, rfl, rfl, rfl, rfl, Scan.zero zs d⟩
      case round =>
        obtain ⟨k, fb, bv, lb, hk, rfl, rfl, rfl, rfl, hsc⟩ := hrel
        by_cases hlt : k < n
        · obtain ⟨y, hy⟩ : ∃ y, zs.getD k 0 = y := ⟨_, rfl⟩
          have cy : W2.cell? ⟨b, off + k, none⟩ = some (.int .i32 y) := by rw [← hy]; exact HC2.out k hlt
          have HY : Hid (zs.getD k 0 = y) := hy
          clear hy
          by_cases hyd : y < d
          · have fe : (y == d) = false := by simp; omega
            cases fb with
            | false =>
              go_wp2
              go_round
              case rel => exact ⟨k + 1, _, _, _, by omega, by go_num, rfl, rfl, rfl, hsc.out.take y HY.out hyd (fun e => by cases e)⟩
              case measure => simp [intOf]; omega
            | true =>
              by_cases hbv : bv < y
              · go_wp2
                go_round
                case rel => exact ⟨k + 1, _, _, _, by omega, by go_num, rfl, rfl, rfl, hsc.out.take y HY.out hyd (fun _ => hbv)⟩
                case measure => simp [intOf]; omega
              · go_wp2
                go_round
                case rel => exact ⟨k + 1, _, _, _, by omega, by go_num, rfl, rfl, rfl, hsc.out.leave y HY.out hyd (by omega)⟩
                case measure => simp [intOf]; omega
          · by_cases hye : y = d
            · have fe : (y == d) = true := by simpa using hye
              have HE : Hid (y = d) := hye
              clear hye
              go_wp2
              go_round
              case rel => exact ⟨k + 1, _, _, _, by omega, by go_num, rfl, rfl, rfl, hsc.out.hit y HY.out HE.out⟩
              case measure => simp [intOf]; omega
            · have fe : (y == d) = false := by simpa using hye
              go_wp2
              go_round
              case rel => exact ⟨k + 1, _, _, _, by omega, by go_num, rfl, rfl, rfl, hsc.out.skip y HY.out (by omega) hye⟩
              case measure => simp [intOf]; omega
        · obtain rfl : n = k := by omega
          have hfin : Below w.heap.size w (W2.drewN (q1 + q2)) := HB.out.trans ⟨rfl, rfl, rfl, Nat.le_refl _, fun _ _ => rfl⟩
          have HF : Hid (Below w.heap.size w (W2.drewN (q1 + q2))) := hfin
          clear hfin hlt hk HC2 HB HK HS HL HW cl2
          rcases HA1.out with ⟨rfl, ha, hb1⟩ | ⟨rfl, ha, rfl⟩
          · have e1 : decide (d - 1 ≤ l) = true := by simp; omega
            have HB1 : Hid (Bef zs n d p1) := hb1
            clear hb1 HA1
            rcases HA2.out with ⟨rfl, hc, hb2⟩ | ⟨rfl, hc, rfl⟩
            · have e2 : decide (d ≤ l) = true := by simp; omega
              have HB2 : Hid (Bef zs n (d + 1) p2) := hb2
              clear hb2 HA2
              cases fb with
              | false =>
                obtain rfl : p1 = 0 := bef_none HB1.out hsc.out
                cases lb with
                | false =>
                  obtain rfl : p2 = 0 := bef_next_same HB1.out HB2.out hsc.out
                  go_wp2
                  go_ret
                  exact ⟨rfl, HF.out⟩
                | true =>
                  obtain rfl : p2 = d := bef_next_listed HO.out HB2.out hsc.out
                  go_wp2
                  go_ret
                  exact ⟨by simp, HF.out⟩
              | true =>
                obtain rfl : p1 = bv := bef_some HO.out HB1.out hsc.out
                cases lb with
                | false =>
                  obtain rfl : p2 = p1 := bef_next_same HB1.out HB2.out hsc.out
                  go_wp2
                  go_ret
                  exact ⟨by simp, HF.out⟩
                | true =>
                  obtain rfl : p2 = d := bef_next_listed HO.out HB2.out hsc.out
                  go_wp2
                  go_ret
                  exact ⟨by simp, HF.out⟩
            · have e2 : decide (d ≤ l) = false := by simp; omega
              clear HA2
              cases fb with
              | false =>
                obtain rfl : p1 = 0 := bef_none HB1.out hsc.out
                go_wp2
                go_ret
                exact ⟨rfl, HF.out⟩
              | true =>
                obtain rfl : p1 = bv := bef_some HO.out HB1.out hsc.out
                go_wp2
                go_ret
                exact ⟨rfl, HF.out⟩
          · have e1 : decide (d - 1 ≤ l) = false := by simp; omega
            clear HA1
            rcases HA2.out with ⟨rfl, hc, hb2⟩ | ⟨rfl, hc, rfl⟩
            · omega
            · have e2 : decide (d ≤ l) = false := by simp; omega
              clear HA2
              cases fb
              all_goals
                go_wp2
                go_ret
                exact ⟨rfl, HF.out⟩
end Go.Proofs.Qxb6628706a
