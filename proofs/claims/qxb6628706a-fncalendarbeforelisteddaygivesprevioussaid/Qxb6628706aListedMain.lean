/-
  FnCalendarBeforeListedDayGivesPrevious: the main way.
-/
import Derived.Test.Qxb6628706aListed
namespace Go.Proofs.Qxb6628706a
open Go.RowKit

set_option maxHeartbeats 1600000 in
theorem listed_main (s : ByteArray) (b off n cap : Nat) (zs : List Int) (w : World) (hs : s.size ≤ 65536) (hn : 1 ≤ n) (hl : n ≤ 65536) (hb : b < w.heap.size)
    (hc : ∀ j, j < n → w.cell? ⟨b, off + j, none⟩ = some (.int .i32 (zs.getD j 0))) (hw : ∀ j, j < n → -2147483648 ≤ zs.getD j 0 ∧ zs.getD j 0 ≤ 2147483647) :
    Calls Try.prog 4 #[.string s, .slice (some ⟨b, off, none⟩) n cap] w fun e w' => e = .returned (.bool true) ∧ Below w.heap.size w w' := by
  have HS : Hid (s.size ≤ maxLen) := by unfold Hid maxLen; omega
  have HL : Hid (n ≤ maxLen) := by unfold Hid maxLen; omega
  have HC : Hid (∀ j, j < n → w.cell? ⟨b, off + j, none⟩ = some (.int .i32 (zs.getD j 0))) := hc
  have HW : Hid (∀ j, j < n → -2147483648 ≤ zs.getD j 0 ∧ zs.getD j 0 ≤ 2147483647) := hw
  have hn0 : ((n : Int) == 0) = false := by simp; omega
  clear hc hw
  go_enter Try.func4, Try.ntmps4
  go_wp2_with fail
  refine (zb9_any _ _ _ _ _ HS.out HL.out).mono ?_
  rintro e w' ⟨⟨v, rfl⟩, rfl⟩
  cases v
  · go_wp2
    go_ret
    exact ⟨rfl, Below.refl _ _⟩
  go_wp2
  go_loopw [5] (fun i wr => ∃ k q : Nat, 1 ≤ k ∧ k ≤ n ∧ i = .int .i64 k ∧ wr = w.drewN q ∧ Hid (Rises zs k)) (fun i _ => n - (intOf i).toNat)
  case atStart => exact ⟨1, 0, Nat.le_refl _, hn, rfl, rfl, Rises.one zs⟩
  case round =>
    obtain ⟨k, q, hk1, hk, rfl, rfl, hst⟩ := hrel
    by_cases hlt : k < n
    · obtain ⟨y, hy⟩ : ∃ y, zs.getD k 0 = y := ⟨_, rfl⟩
      obtain ⟨x, hx⟩ : ∃ x, zs.getD (k - 1) 0 = x := ⟨_, rfl⟩
      have cy : w.cell? ⟨b, off + k, none⟩ = some (.int .i32 y) := by rw [← hy]; exact HC.out k hlt
      have cx : w.cell? ⟨b, off + (k - 1), none⟩ = some (.int .i32 x) := by rw [← hx]; exact HC.out (k - 1) (by omega)
      have HY : Hid (zs.getD k 0 = y) := hy
      have HX : Hid (zs.getD (k - 1) 0 = x) := hx
      clear hx hy
      have h3 : (0 : Int) ≤ (k : Int) - 1 := by omega
      have h4 : (k : Int) - 1 < n := by omega
      have h5 : ((k : Int) - 1).toNat = k - 1 := by omega
      by_cases hyx : y ≤ x
      · go_wp2
        go_quiet (fail)
        go_wp2
        go_ret
        exact ⟨rfl, ⟨rfl, rfl, rfl, Nat.le_refl _, fun _ _ => rfl⟩⟩
      · go_wp2
        go_quiet (fail)
        go_wp2
        go_roundw
        case rel => exact ⟨k + 1, _, by omega, by omega, by go_num, rfl, hst.out.succ y x HY.out HX.out (by omega)⟩
        case measure => simp [intOf]; omega
    · obtain rfl : n = k := by omega
      have HR : Hid (Rises zs n) := hst.out
      clear hst hlt hk hk1
      obtain ⟨z0, hz0⟩ : ∃ z, zs.getD 0 0 = z := ⟨_, rfl⟩
      have c0 : w.cell? ⟨b, off, none⟩ = some (.int .i32 z0) := by rw [← hz0]; simpa using HC.out 0 (by omega)
      have z1 : -2147483648 ≤ z0 := by rw [← hz0]; exact (HW.out 0 (by omega)).1
      have HZ : Hid (zs.getD 0 0 = z0) := hz0
      clear hz0
      have hpos : (0 : Int) < (n : Int) := by omega
      by_cases e0 : z0 = -2147483648
      · subst e0
        go_wp2
        go_ret
        exact ⟨rfl, ⟨rfl, rfl, rfl, Nat.le_refl _, fun _ _ => rfl⟩⟩
      have f0 : (z0 == -2147483648) = false := by simpa using e0
      have HLO : Hid (∀ j, j < n → -2147483648 < zs.getD j 0) := fun j hj => by
        have := HR.out.sorted 0 j (Nat.zero_le _) hj
        have := HZ.out
        omega
      obtain ⟨l, hl0⟩ : ∃ l, zs.getD (n - 1) 0 = l := ⟨_, rfl⟩
      have cl : w.cell? ⟨b, off + (n - 1), none⟩ = some (.int .i32 l) := by rw [← hl0]; exact HC.out (n - 1) (by omega)
      have l0 : -2147483648 ≤ l := by rw [← hl0]; exact (HW.out (n - 1) (by omega)).1
      have l1 : l ≤ 2147483647 := by rw [← hl0]; exact (HW.out (n - 1) (by omega)).2
      have H0 : Hid (zs.getD (n - 1) 0 = l) := hl0
      clear hl0 e0
      go_wp2_with (first | (go_at_call 6; refine (dates_any b off n cap zs _ hl (by simpa using hb) (by simpa using HC.out)).mono ?_; rintro e w1 ⟨rfl, hcs, hbel, hsz⟩) | (go_at_call 7; refine (new_any' s _ n _).mono ?_; rintro e w2 ⟨rfl, rfl⟩))
      have hcal := cal_new w1 s w.heap.size n zs (by simpa using hsz) (by simpa using hcs)
      have hbel2 : Below w.heap.size w (w1.alloc (.cells #[.string s, .slice (some ⟨w.heap.size, 0, none⟩) n n] 34)) :=
        below_new' (by simpa using hbel) (by simpa using hsz) _
      clear hbel hcs hsz
      obtain ⟨W2, hW2⟩ : ∃ W2, W2 = w1.alloc (.cells #[.string s, .slice (some ⟨w.heap.size, 0, none⟩) n n] 34) := ⟨_, rfl⟩
      rw [← hW2] at hcal hbel2 ⊢
      have HK : Hid (Cal W2 w1.heap.size w.heap.size n zs) := hcal
      have HB : Hid (Below w.heap.size w W2) := hbel2
      have HC2 : Hid (∀ j, j < n → W2.cell? ⟨b, off + j, none⟩ = some (.int .i32 (zs.getD j 0))) := fun j hj => (hbel2.cell (by exact hb)).trans (HC.out j hj)
      have cl2 : W2.cell? ⟨b, off + (n - 1), none⟩ = some (.int .i32 l) := (hbel2.cell (by exact hb)).trans cl
      clear hW2 hcal hbel2 cl HC c0
      have h3 : (0 : Int) ≤ (n : Int) - 1 := by omega
      have h4 : (n : Int) - 1 < n := by omega
      have h5 : ((n : Int) - 1).toNat = n - 1 := by omega
      have hne : (l != l) = false := by simp
      have hbig : n < 4611686018427387904 := by omega
      go_quiet ((go_at_call 10; exact Calls.quiet_of (last_at w1.heap.size w.heap.size n zs l _ H0.out (HK.out.drewN _) hn hbig)))
      go_wp2
      go_loopw [9] (fun i wr => ∃ k q : Nat, k ≤ n ∧ i = .int .i64 k ∧ wr = W2.drewN q) (fun i _ => n - (intOf i).toNat)
      case atStart => exact ⟨0, nq, Nat.zero_le _, rfl, rfl⟩
      case round =>
        obtain ⟨k, q, hk, rfl, rfl⟩ := hrel
        by_cases hlt : k < n
        · obtain ⟨y, hy⟩ : ∃ y, zs.getD k 0 = y := ⟨_, rfl⟩
          have cy : W2.cell? ⟨b, off + k, none⟩ = some (.int .i32 y) := by rw [← hy]; exact HC2.out k hlt
          have y0 : -2147483648 < y := by rw [← hy]; exact HLO.out k hlt
          have y1 : y ≤ 2147483647 := by rw [← hy]; exact (HW.out k hlt).2
          have yl : y + -1 ≤ l := by
            have := HR.out.sorted k (n - 1) (by omega) (by omega)
            rw [hy, H0.out] at this
            omega
          have HY : Hid (zs.getD k 0 = y) := hy
          clear hy
          go_wp2_with fail
          refine (before_yes w1.heap.size w.heap.size n zs y l _ (HK.out.drewN _) hn hbig H0.out HR.out.sorted y0 y1 yl).mono ?_
          rintro e w5 ⟨p, rfl, hp, q5, rfl⟩
          have HP := bef_at HR.out hlt HY.out hp
          clear hp cy
          by_cases hk0 : k = 0
          · rw [if_pos hk0] at HP
            subst HP
            have hk1 : ¬ (0 : Int) < (k : Int) := by omega
            clear hk0
            go_wp2
            go_roundw
            case rel => exact ⟨k + 1, _, by omega, by go_num, rfl⟩
            case measure => simp [intOf]; omega
          · rw [if_neg hk0] at HP
            have cx : W2.cell? ⟨b, off + (k - 1), none⟩ = some (.int .i32 p) := by rw [HP]; exact HC2.out (k - 1) (by omega)
            clear HP
            have k3 : (0 : Int) ≤ (k : Int) - 1 := by omega
            have k4 : (k : Int) - 1 < n := by omega
            have k5 : ((k : Int) - 1).toNat = k - 1 := by omega
            have k6 : (0 : Int) < (k : Int) := by omega
            have hpp : (p != p) = false := by simp
            clear hk0
            go_wp2
            go_roundw
            case rel => exact ⟨k + 1, _, by omega, by go_num, rfl⟩
            case measure => simp [intOf]; omega
        · have HF : Hid (∀ m, Below w.heap.size w (W2.drewN m)) := fun m => HB.out.trans ⟨rfl, rfl, rfl, Nat.le_refl _, fun _ _ => rfl⟩
          by_cases g1 : l < 2147483647
          · go_wp2_with fail
            refine (before_yes w1.heap.size w.heap.size n zs (l + 1) l _ (HK.out.drewN _) hn hbig H0.out HR.out.sorted (by omega) (by omega) (by omega)).mono ?_
            rintro e w5 ⟨p, rfl, hp, q5, rfl⟩
            obtain rfl : p = l := bef_end HR.out.sorted hn H0.out hp
            clear hp
            by_cases g2 : p < 2147483646
            · go_wp2_with fail
              refine (before_no w1.heap.size w.heap.size n zs (p + 2) p _ (HK.out.drewN _) hn hbig H0.out (by omega) (by omega) (by omega)).mono ?_
              rintro e w6 ⟨rfl, q6, rfl⟩
              go_wp2
              go_ret
              exact ⟨rfl, HF.out _⟩
            · go_wp2
              go_ret
              exact ⟨rfl, HF.out _⟩
          · go_wp2
            go_ret
            exact ⟨rfl, HF.out _⟩
end Go.Proofs.Qxb6628706a
