/-
  isHyphenPlace and decodeUUIDText by contract.
-/
import Derived.Test.Qxb6628810aOne
namespace Go.Proofs.Qxb6628810a
open Go.RowKit Go.Lib

set_option maxHeartbeats 400000 in
theorem hyphF (x : Int) (w : World) (h8 : x ≠ 8) (h13 : x ≠ 13) (h18 : x ≠ 18) (h23 : x ≠ 23) : Calls Try.prog 11 #[.int .i64 x] w fun e w' => e = .returned (.bool false) ∧ w = w' := by
  have b8 : (x == 8) = false := by simpa using h8
  have b13 : (x == 13) = false := by simpa using h13
  have b18 : (x == 18) = false := by simpa using h18
  have b23 : (x == 23) = false := by simpa using h23
  clear h8 h13 h18 h23
  go_enter Try.func11, Try.ntmps11
  go_wp2
  go_ret
  exact ⟨rfl, rfl⟩

set_option maxHeartbeats 800000 in
theorem hyphT (x : Int) (w : World) (h : x = 8 ∨ x = 13 ∨ x = 18 ∨ x = 23) : Calls Try.prog 11 #[.int .i64 x] w fun e w' => e = .returned (.bool true) ∧ w = w' := by
  rcases h with rfl | rfl | rfl | rfl
  all_goals
    go_enter Try.func11, Try.ntmps11
    go_wp2
    go_ret
    exact ⟨rfl, rfl⟩

theorem hyp_cases {k : Nat} (h : hyp k = true) : k = 8 ∨ k = 13 ∨ k = 18 ∨ k = 23 := by
  unfold hyp at h
  simp at h
  omega
theorem not_hyp {k : Nat} (h : hyp k = false) : k ≠ 8 ∧ k ≠ 13 ∧ k ≠ 18 ∧ k ≠ 23 := by
  unfold hyp at h
  simp at h
  omega

/-- The out row (block o) holds the bytes ys; the result's variable (block r) may be written; what was there in w0 is as it was. -/
structure Dc (w0 W : World) (r o : Nat) (ys : List Int) : Prop where
  rb : W.rangeAt o 0 (bv ys)
  tb : W.there o 0 16
  tr : W.there r 0 16
  bel : Below w0.heap.size w0 W
  ne : r < o
  lo : w0.heap.size ≤ r

theorem dc_new (w : World) : Dc w ((w.alloc (.cells zero16 22)).alloc (.cells zero16 22)) w.heap.size (w.heap.size + 1) (List.replicate 16 0) := by
  refine ⟨?_, ?_, World.there_alloc (there_new w 22 16 (Nat.le_refl _)) _, ((Below.refl _ _).alloc (Nat.le_refl _) _).alloc (by simp) _, by omega, Nat.le_refl _⟩
  · have h := range_new (w.alloc (.cells zero16 22)) (bv (List.replicate 16 0)) 22
    have e : (bv (List.replicate 16 0)).toArray = zero16 := rfl
    rw [e] at h
    simpa using h
  · have h := there_new (w.alloc (.cells zero16 22)) 22 16 (Nat.le_refl _)
    simpa using h

theorem there_set {W : World} {b b' i n : Nat} {v : Value} (h : W.there b 0 n) : (W.setCell ⟨b', i, none⟩ v).there b 0 n := fun j hj => by
  obtain ⟨h1, h2⟩ := h j hj
  refine ⟨?_, by rw [World.frozen?_setCell]; exact h2⟩
  by_cases e : (⟨b', i, none⟩ : Addr) = ⟨b, 0 + j, none⟩
  · rw [e, World.cell?_setCell_same' _ _ _ h1]
    rfl
  · rw [World.cell?_setCell_other _ _ _ _ e]
    exact h1

theorem Dc.set {w0 W : World} {r o : Nat} {ys : List Int} (h : Dc w0 W r o ys) (i : Nat) (hi : i < 16) (v : Int) : Dc w0 (W.setCell ⟨o, i, none⟩ (.int .u8 v)) r o (ys.set i v) := by
  have hne := h.ne
  have hlo := h.lo
  refine ⟨fun j u hj => ?_, there_set h.tb, there_set h.tr, h.bel.setCell (by show _ ≤ o; omega) _, h.ne, h.lo⟩
  rw [← bv_set, List.getElem?_set] at hj
  by_cases e : i = j
  · subst e
    rw [if_pos rfl] at hj
    have ht := (h.tb i hi).1
    rw [Nat.zero_add] at ht ⊢
    split at hj
    · cases hj
      exact World.cell?_setCell_same' _ _ _ ht
    · cases hj
  · rw [if_neg e] at hj
    rw [World.cell?_setCell_other _ _ _ _ (by intro e'; injection e'; omega)]
    exact h.rb j u hj

/-- Where the reader stands: at byte n's first place (or behind the last byte); or at the hyphen ahead of byte n. -/
def At (n k : Nat) : Prop := (k = pos n ∧ n ≤ 16) ∨ (hyp k = true ∧ k + 1 = pos n ∧ n < 16)

theorem at_next : ∀ n : Fin 16, (hyp (pos n.val + 2) = true ∧ pos n.val + 2 + 1 = pos (n.val + 1) ∧ n.val + 1 < 16) ∨ pos n.val + 2 = pos (n.val + 1) := by decide +kernel

theorem At.byte {n : Nat} (h : n < 16) : At (n + 1) (pos n + 2) := by
  rcases at_next ⟨n, h⟩ with a | a
  · exact .inr a
  · exact .inl ⟨a, h⟩

theorem list_ext {xs ys : List Int} (hx : xs.length = 16) (hy : ys.length = 16) (h : ∀ j, j < 16 → xs.getD j 0 = ys.getD j 0) : xs = ys := by
  apply List.ext_getElem (by omega)
  intro i h1 h2
  have := h i (by omega)
  simpa [List.getD, h1, h2] using this

set_option maxHeartbeats 800000 in
theorem dec_any (s : ByteArray) (zs : List Int) (w : World) (hl : zs.length = 16) (hr : ∀ j, j < 16 → 0 ≤ zs.getD j 0 ∧ zs.getD j 0 < 256) (ht : Text s (fun j => zs.getD j 0)) :
    Calls Try.prog 6 #[.string s] w fun e w' => e = .returned (.tuple #[.agg (bv zs).toArray, .bool true]) ∧ Below w.heap.size w w' := by
  have HL : Hid (zs.length = 16) := hl
  have HR : Hid (∀ j, j < 16 → 0 ≤ zs.getD j 0 ∧ zs.getD j 0 < 256) := hr
  have HT : Hid (Text s (fun j => zs.getD j 0)) := ht
  have z := ht.size
  have hd := dc_new w
  clear hl hr ht
  go_enter Try.func6, Try.ntmps6
  go_wp2
  show Code.wp _ _ _ _ ((w.alloc (.cells zero16 22)).alloc (.cells zero16 22))
  obtain ⟨W, hW⟩ : ∃ W, W = (w.alloc (.cells zero16 22)).alloc (.cells zero16 22) := ⟨_, rfl⟩
  obtain ⟨o, ho⟩ : ∃ o, o = w.heap.size + 1 := ⟨_, rfl⟩
  obtain ⟨r, hr⟩ : ∃ r, r = w.heap.size := ⟨_, rfl⟩
  rw [← hW, ← ho, ← hr] at hd ⊢
  have HD : Hid (Dc w W r o (List.replicate 16 0)) := hd
  clear hW ho hr hd
  go_loopw [5, 6] (fun vn vk wr => ∃ (n k : Nat) (ys : List Int), vn = .int .i64 n ∧ vk = .int .i64 k ∧ Hid (At n k) ∧ Hid (Dc w wr r o ys) ∧ Hid (ys.length = 16 ∧ ∀ j, j < n → ys.getD j 0 = zs.getD j 0)) (fun _ vk _ => 36 - (intOf vk).toNat)
  case atStart => exact ⟨0, 0, List.replicate 16 0, rfl, rfl, .inl ⟨rfl, Nat.zero_le _⟩, HD.out, by simp, fun j hj => absurd hj (Nat.not_lt_zero _)⟩
  case round =>
    obtain ⟨n, k, ys, rfl, rfl, hAt, hDc, hYs⟩ := hrel
    clear HD
    rcases hAt.out with ⟨hkp, hn16⟩ | ⟨hh, hkp, hn⟩
    · by_cases hn : n < 16
      · obtain ⟨p1, p2, p3, p4, p5, p6, p7⟩ := pos_fin ⟨n, hn⟩
        dsimp only at p1 p2 p3 p4 p5 p6 p7
        rw [← hkp] at p1 p2 p5
        have n1 := not_hyp p2
        have n2 := not_hyp p5
        have q1 : k < s.size := by omega
        have q2 : k + 1 < s.size := by omega
        have x1 : Hid (((s[k]'q1).toNat : Int) = dig (zs.getD n 0 / 16)) := by
          unfold Hid
          rw [HT.out.byte k q1]
          unfold txt hx
          rw [if_neg (by rw [p2]; simp), hkp, p3, p4, if_pos rfl]
        have x2 : Hid (((s[k + 1]'q2).toNat : Int) = dig (zs.getD n 0 % 16)) := by
          unfold Hid
          rw [HT.out.byte (k + 1) q2]
          unfold txt hx
          rw [if_neg (by rw [p5]; simp), hkp, p6, p7, if_neg (by omega)]
        obtain ⟨r0, r1⟩ := HR.out n hn
        obtain ⟨y, hy⟩ : ∃ y, zs.getD n 0 = y := ⟨_, rfl⟩
        rw [hy] at x1 x2 r0 r1
        have HY : Hid (zs.getD n 0 = y) := hy
        have HK : Hid (k = pos n) := hkp
        obtain ⟨u, hu⟩ := Option.isSome_iff_exists.1 (hDc.out.tb n hn).1
        have hf := (hDc.out.tb n hn).2
        rw [Nat.zero_add] at hu hf
        have hor := or_any (y / 16) (y % 16) (by omega) (by omega) (by omega) (by omega)
        have hdm : y / 16 * 16 + y % 16 = y := by omega
        rw [hdm] at hor
        have g1 : decide ((36 : Int) ≤ (k : Int) + 1) = false := by simp; omega
        have g2 : decide ((16 : Int) ≤ (n : Int)) = false := by simp; omega
        clear hdm hy hkp p2 p3 p4 p5 p6 p7 hAt hn16
        go_wp2_with fail
        refine (hyphF _ _ (by omega) (by omega) (by omega) (by omega)).mono ?_
        rintro e w' ⟨rfl, rfl⟩
        go_wp2_with fail
        refine (hyphF _ _ (by omega) (by omega) (by omega) (by omega)).mono ?_
        rintro e w' ⟨rfl, rfl⟩
        go_wp2_with fail
        refine (hexval_dig _ (y / 16) _ x1.out (by omega) (by omega)).mono ?_
        rintro e w' ⟨rfl, rfl⟩
        go_wp2_with fail
        refine (hexval_dig _ (y % 16) _ x2.out (by omega) (by omega)).mono ?_
        rintro e w' ⟨rfl, rfl⟩
        go_wp2
        go_roundw
        case rel =>
          refine ⟨n + 1, k + 2, ys.set n y, by go_num, by go_num, ?_, hDc.out.set n hn y, ?_⟩
          · have h := At.byte hn
            rw [← HK.out] at h
            exact h
          · refine ⟨by simpa using hYs.out.1, fun j hj => ?_⟩
            rcases Nat.lt_or_ge j n with a | a
            · rw [← hYs.out.2 j a]
              simp [List.getD, List.getElem?_set_ne (show n ≠ j by omega)]
            · obtain rfl : j = n := by omega
              have := hYs.out.1
              rw [HY.out]
              simp [List.getD, show j < ys.length by omega]
        case measure => simp [intOf]; omega
      · obtain rfl : n = 16 := by omega
        obtain rfl : k = 36 := by rw [hkp]; rfl
        obtain rfl : ys = zs := list_ext hYs.out.1 HL.out hYs.out.2
        clear hkp hn16 hAt hn
        have HZ : Hid ((Try.prog.info? 22).map (·.size) = some (bv ys).length) := by unfold Hid; rw [bv_length, HL.out]; exact Try.size22
        have HZ' : Hid ((Try.prog.info? 22).map (·.size) = some (bv ys).toArray.size) := (by simpa using HZ.out : (Try.prog.info? 22).map (·.size) = some (bv ys).toArray.size)
        have HO : Hid ((bv ys).toArray.all (·.oneCell') = true) := all_oneCell_toArray (bv_one ys)
        have T : Hid (wr.there r 0 (bv ys).toArray.size) := by unfold Hid; rw [show (bv ys).toArray.size = 16 by simp [bv_length, HL.out]]; exact hDc.out.tr
        go_wp2_with (first | (refine wpList_load_mid rfl 22 (.tmp 4) rfl o 0 rfl (bv ys) _ hDc.out.rb Try.underlying22 rfl HZ.out ?_) | (refine wpList_store_mid rfl 22 (.tmp 2) (.tmp 71) rfl r 0 (bv ys).toArray rfl rfl T.out HZ'.out HO.out ?_))
        have hc : (wr.setCells r 0 (bv ys)).rangeAt r 0 (bv ys) := World.rangeAt_setCells_same wr r 0 (bv ys) (by rw [bv_length, HL.out]; exact hDc.out.tr)
        have hbel : Below w.heap.size w (wr.setCells r 0 (bv ys)) := below_cells hDc.out.lo _ _ _ hDc.out.bel
        generalize wr.setCells r 0 (bv ys) = W9 at hc hbel ⊢
        have hrun := run_loadVar_mid (P := Try.prog) W9 r 0 22 (bv ys) _ hc Try.underlying22 rfl HZ.out
        refine bodyPost_ret (v := .tuple #[.agg (bv ys).toArray, .bool true]) ?_ rfl ⟨rfl, hbel⟩
        simp [results, Try.results6, asAddr, hrun]
    · have hh' := hyp_cases hh
      have k36 : k < 36 := by omega
      have q1 : k < s.size := by omega
      have x1 : (((s[k]'q1).toNat : Int) != 45) = false := by
        rw [HT.out.byte k q1]
        unfold txt
        rw [if_pos hh]
        rfl
      have HH : Hid (k = 8 ∨ k = 13 ∨ k = 18 ∨ k = 23) := hh'
      have HK : Hid (k + 1 = pos n) := hkp
      clear hh hh' hkp hAt
      go_wp2_with fail
      refine (hyphT _ _ (by have := HH.out; omega)).mono ?_
      rintro e w' ⟨rfl, rfl⟩
      go_wp2
      go_roundw
      case rel => exact ⟨n, k + 1, ys, rfl, by go_num, .inl ⟨HK.out, Nat.le_of_lt hn⟩, hDc.out, hYs.out⟩
      case measure => simp [intOf]; omega
end Go.Proofs.Qxb6628810a
