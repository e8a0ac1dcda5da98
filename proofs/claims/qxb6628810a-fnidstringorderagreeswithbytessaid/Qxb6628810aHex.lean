/-
  encoding/hex.Encode at this program: the shelf's proof of the like contract (the form that asks nothing of the row's type number), turned to this program; then its row in plain words.
-/
import Derived.Test.Qxb6628810aRows
import Derived.WalkKit
import Derived.WalkSpells
import Derived.Below
import Derived.Deep.OwnRows
import Derived.Deep.Draws
import Derived.Lib.Bytes
import Derived.Lib.HexFns
import Derived.Lib.HexFns2
import Derived.Laws.Strings3
import Derived.Laws.IdiomStrings
namespace Go.Proofs.Qxb6628810a
open Go.RowKit Go.Lib

set_option maxHeartbeats 2000000 in
set_option maxRecDepth 100000 in
theorem enc_any (T : TypeId) (bd od nd cd N : Nat) (f : Nat → Value) (bs os n cs : Nat) (xs : List Int) (w : World)
    (hx : xs.length = n) (hr : ∀ i, i < n → 0 ≤ xs.getD i 0 ∧ xs.getD i 0 < 256) (hsrc : ∀ i, i < n → w.cell? ⟨bs, os + i, none⟩ = some (.int .u8 (xs.getD i 0)))
    (hrow : w.rowIs bd T N f) (hfit : od + nd ≤ N) (hlen : 2 * n ≤ nd) (hne : bd ≠ bs) (hbig : n ≤ 4611686018427387903) :
    Calls Try.prog 10 #[.slice (some ⟨bd, od, none⟩) nd cd, .slice (some ⟨bs, os, none⟩) n cs] w fun e w' => e = .returned (.int .i64 ((n : Int) * 2)) ∧ w'.rowIs bd T N (Hx.row f od (Lib.bytesOf xs) n) ∧ w.grownBy w' (some bd) := by
  have HS : Hid (∀ i, i < n → w.cell? ⟨bs, os + i, none⟩ = some (.int .u8 (xs.getD i 0))) := hsrc
  have HR : Hid (∀ i, i < n → 0 ≤ xs.getD i 0 ∧ xs.getD i 0 < 256) := hr
  have HX0 : Hid (xs.length = n) := hx
  clear hsrc hr hx
  go_enter Try.func10, Try.ntmps10
  go_wp2
  go_loopw [5, 10] (fun vj vi wr => ∃ k : Nat, k ≤ n ∧ vi = .int .i64 k ∧ vj = .int .i64 ((2 * k : Nat) : Int) ∧ Hid (wr.rowIs bd T N (Hx.row f od (Lib.bytesOf xs) k)) ∧ Hid (w.grownBy wr (some bd))) (fun _ vi _ => n - (RowKit.intOf vi).toNat)
  case atStart => exact ⟨0, Nat.zero_le _, rfl, rfl, hrow.congr (fun j _ => Hx.row_zero f od _ j), Hx.grownBy_refl _ _⟩
  case round =>
    obtain ⟨k, hk, rfl, rfl, hrw, hgr⟩ := hrel
    obtain ⟨x, hxk⟩ : ∃ x, x = xs.getD k 0 := ⟨_, rfl⟩
    have hcx : k < n → wr.cell? ⟨bs, os + k, none⟩ = some (.int .u8 x) := fun h => by rw [hxk]; exact hgr.out.cell (HS.out k h) (by simp; omega)
    have hx0 : k < n → 0 ≤ x := fun h => by rw [hxk]; exact (HR.out k h).1
    have hx1 : k < n → x < 256 := fun h => by rw [hxk]; exact (HR.out k h).2
    have HX : Hid (x = xs.getD k 0) := hxk
    clear hxk
    have hf1 : wr.frozen? ⟨bd, od + 2 * k, none⟩ = false := hrw.out.frozen _
    have hc1 : k < n → wr.cell? ⟨bd, od + 2 * k, none⟩ = some (Hx.row f od (Lib.bytesOf xs) k (od + 2 * k)) := fun h => hrw.out.cell (by omega)
    have hf2 : ∀ v, (wr.setCell ⟨bd, od + 2 * k, none⟩ v).frozen? ⟨bd, od + (2 * k + 1), none⟩ = false := fun v => (hrw.out.set _ v).frozen _
    have hc2 : k < n → ∀ v, (wr.setCell ⟨bd, od + 2 * k, none⟩ v).cell? ⟨bd, od + (2 * k + 1), none⟩ = some (Hx.row f od (Lib.bytesOf xs) k (od + (2 * k + 1))) := fun h v => by
      have := (hrw.out.set (od + 2 * k) v).cell (i := od + (2 * k + 1)) (by omega)
      rwa [if_neg (by omega)] at this
    go_wp2
    · have hlt : k < n := by assumption
      go_roundw
      case rel =>
        refine ⟨k + 1, by omega, by go_num, by first | go_num | (congr 1; omega), ((hrw.out.set _ _).set _ _).congr (fun j _ => ?_), Hx.grownBy_set (Hx.grownBy_set hgr.out _ rfl _) _ rfl _⟩
        have e1 := Hx.dig_hi x (hx0 hlt) (hx1 hlt) (by have := hx0 hlt; have := hx1 hlt; show _ < 16; omega)
        have e2 := Hx.dig_lo x (hx0 hlt) (hx1 hlt) (by have := hx0 hlt; show _ < 16; omega)
        have e3 := Hx.row_step f od (Lib.bytesOf xs) k _ (Hx.bytes_at xs k (by rw [HX0.out]; exact hlt)) j
        rw [← HX.out, ← e1, ← e2] at e3
        exact e3
      case measure => simp [RowKit.intOf]; omega
    · have hk2 : k = n := by omega
      subst hk2
      go_ret
      exact ⟨rfl, hrw.out, hgr.out⟩
end Go.Proofs.Qxb6628810a
