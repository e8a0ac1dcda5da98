/-
  compareStrings and compareIDBytes by contract; the plain law: texts compare as the bytes do.
-/
import Derived.Test.Qxb6628810aOne
namespace Go.Proofs.Qxb6628810a
open Go.RowKit Go.Lib

/-- r is the outcome of comparing f and f' place by place, the first n places. -/
def LexR (f f' : Nat → Int) (n : Nat) (r : Int) : Prop :=
  (r = 0 ∧ ∀ j, j < n → f j = f' j) ∨ ∃ m, m < n ∧ (∀ j, j < m → f j = f' j) ∧ ((f m < f' m ∧ r = -1) ∨ (f' m < f m ∧ r = 1))

set_option maxHeartbeats 1600000 in
theorem cmpS_any (x y : ByteArray) (f f' : Nat → Int) (w : World) (hx : x.size = 36) (hy : y.size = 36) (fx : ∀ k (h : k < x.size), ((x[k]'h).toNat : Int) = f k) (fy : ∀ k (h : k < y.size), ((y[k]'h).toNat : Int) = f' k) :
    Calls Try.prog 7 #[.string x, .string y] w fun e w' => ∃ r, e = .returned (.int .i64 r) ∧ LexR f f' 36 r ∧ ∃ q, w' = w.drewN q := by
  have FX : Hid (∀ k (h : k < x.size), ((x[k]'h).toNat : Int) = f k) := fx
  have FY : Hid (∀ k (h : k < y.size), ((y[k]'h).toNat : Int) = f' k) := fy
  clear fx fy
  go_enter Try.func7, Try.ntmps7
  go_wp2
  go_loopw [6] (fun vk wr => ∃ k q : Nat, k ≤ 36 ∧ vk = .int .i64 k ∧ wr = w.drewN q ∧ Hid (∀ j, j < k → f j = f' j)) (fun vk _ => 36 - (intOf vk).toNat)
  case atStart => exact ⟨0, 0, Nat.zero_le _, rfl, rfl, fun j hj => absurd hj (Nat.not_lt_zero _)⟩
  case round =>
    obtain ⟨k, q, hk, rfl, rfl, hE⟩ := hrel
    by_cases hlt : k < 36
    · have q1 : k < x.size := by omega
      have q2 : k < y.size := by omega
      have e1 : Hid (((x[k]'q1).toNat : Int) = f k) := FX.out k q1
      have e2 : Hid (((y[k]'q2).toNat : Int) = f' k) := FY.out k q2
      by_cases h1 : ((x[k]'q1).toNat : Int) < ((y[k]'q2).toNat : Int)
      · go_wp2
        go_quiet (fail)
        go_wp2
        go_ret
        simp only [World.drewN_drewN]
        refine ⟨-1, rfl, .inr ⟨k, hlt, hE.out, .inl ⟨?_, rfl⟩⟩, _, rfl⟩
        rw [← e1.out, ← e2.out]
        exact h1
      · by_cases h2 : ((y[k]'q2).toNat : Int) < ((x[k]'q1).toNat : Int)
        · go_wp2
          go_quiet (fail)
          go_wp2
          go_quiet (fail)
          go_wp2
          go_ret
          simp only [World.drewN_drewN]
          refine ⟨1, rfl, .inr ⟨k, hlt, hE.out, .inr ⟨?_, rfl⟩⟩, _, rfl⟩
          rw [← e1.out, ← e2.out]
          exact h2
        · have h3 : f k = f' k := by rw [← e1.out, ← e2.out]; omega
          have H3 : Hid (f k = f' k) := h3
          clear h3
          go_wp2
          go_quiet (fail)
          go_wp2
          go_quiet (fail)
          go_wp2
          go_roundw
          case rel =>
            refine ⟨k + 1, _, by omega, by go_num, rfl, fun j hj => ?_⟩
            rcases Nat.lt_or_ge j k with a | a
            · exact hE.out j a
            · obtain rfl : j = k := by omega
              exact H3.out
          case measure => simp [intOf]; omega
    · obtain rfl : k = 36 := by omega
      go_wp2
      go_ret
      exact ⟨0, rfl, .inl ⟨rfl, hE.out⟩, _, rfl⟩

theorem row_cell {W : World} {b : Nat} {zs : List Int} (h : W.rangeAt b 0 (bv zs)) (k : Nat) (hk : k < zs.length) : W.cell? ⟨b, k, none⟩ = some (.int .u8 (zs.getD k 0)) := by
  have := h k _ (bv_at zs k hk)
  simpa using this

set_option maxHeartbeats 1600000 in
theorem cmpB_any (xs ys : List Int) (w : World) (hx : xs.length = 16) (hy : ys.length = 16) :
    Calls Try.prog 8 #[.agg (bv xs).toArray, .agg (bv ys).toArray] w fun e w' => ∃ r, e = .returned (.int .i64 r) ∧ LexR (fun j => xs.getD j 0) (fun j => ys.getD j 0) 16 r ∧ Below w.heap.size w w' := by
  obtain ⟨W, hW⟩ : ∃ W, W = (w.alloc (.cells (bv xs).toArray 22)).alloc (.cells (bv ys).toArray 22) := ⟨_, rfl⟩
  have c1 : Hid (∀ k, k < 16 → W.cell? ⟨w.heap.size, k, none⟩ = some (.int .u8 (xs.getD k 0))) := fun k hk => by
    rw [hW]
    exact row_cell (World.rangeAt_alloc (range_new w (bv xs) 22) _) k (by omega)
  have c2 : Hid (∀ k, k < 16 → W.cell? ⟨w.heap.size + 1, k, none⟩ = some (.int .u8 (ys.getD k 0))) := fun k hk => by
    rw [hW]
    have := range_new (w.alloc (.cells (bv xs).toArray 22)) (bv ys) 22
    exact row_cell (by simpa using this) k (by omega)
  have G : Hid (∀ q, Below w.heap.size w (W.drewN q)) := fun q => by
    rw [hW]
    exact (((Below.refl _ _).alloc (Nat.le_refl _) _).alloc (by simp) _).trans ⟨rfl, rfl, rfl, Nat.le_refl _, fun _ _ => rfl⟩
  have HW : Hid (W = (w.alloc (.cells (bv xs).toArray 22)).alloc (.cells (bv ys).toArray 22)) := hW
  clear hW hx hy
  go_enter Try.func8, Try.ntmps8
  go_wp2
  rw [← HW.out]
  go_loopw [5] (fun vk wr => ∃ k q : Nat, k ≤ 16 ∧ vk = .int .i64 k ∧ wr = W.drewN q ∧ Hid (∀ j, j < k → xs.getD j 0 = ys.getD j 0)) (fun vk _ => 16 - (intOf vk).toNat)
  case atStart => exact ⟨0, 0, Nat.zero_le _, rfl, rfl, fun j hj => absurd hj (Nat.not_lt_zero _)⟩
  case round =>
    obtain ⟨k, q, hk, rfl, rfl, hE⟩ := hrel
    by_cases hlt : k < 16
    · have d1 := c1.out k hlt
      have d2 := c2.out k hlt
      obtain ⟨u, hu⟩ : ∃ u, xs.getD k 0 = u := ⟨_, rfl⟩
      obtain ⟨v, hv⟩ : ∃ v, ys.getD k 0 = v := ⟨_, rfl⟩
      rw [hu] at d1
      rw [hv] at d2
      have HU : Hid (xs.getD k 0 = u) := hu
      have HV : Hid (ys.getD k 0 = v) := hv
      clear hu hv
      by_cases h1 : u < v
      · go_wp2
        go_quiet (fail)
        go_wp2
        go_ret
        simp only [World.drewN_drewN]
        refine ⟨-1, rfl, .inr ⟨k, hlt, hE.out, .inl ⟨?_, rfl⟩⟩, G.out _⟩
        dsimp only
        rw [HU.out, HV.out]
        exact h1
      · by_cases h2 : v < u
        · go_wp2
          go_quiet (fail)
          go_wp2
          go_quiet (fail)
          go_wp2
          go_ret
          simp only [World.drewN_drewN]
          refine ⟨1, rfl, .inr ⟨k, hlt, hE.out, .inr ⟨?_, rfl⟩⟩, G.out _⟩
          dsimp only
          rw [HU.out, HV.out]
          exact h2
        · go_wp2
          go_quiet (fail)
          go_wp2
          go_quiet (fail)
          go_wp2
          go_roundw
          case rel =>
            refine ⟨k + 1, _, by omega, by go_num, rfl, fun j hj => ?_⟩
            rcases Nat.lt_or_ge j k with a | a
            · exact hE.out j a
            · obtain rfl : j = k := by omega
              rw [HU.out, HV.out]
              omega
          case measure => simp [intOf]; omega
    · obtain rfl : k = 16 := by omega
      go_wp2
      go_ret
      exact ⟨0, rfl, .inl ⟨rfl, hE.out⟩, G.out _⟩

/-! ### The plain law -/
theorem lexR_lt {f f' : Nat → Int} {n m : Nat} {r : Int} (h : LexR f f' n r) (hm : m < n) (he : ∀ j, j < m → f j = f' j) (hl : f m < f' m) : r = -1 := by
  rcases h with ⟨_, h⟩ | ⟨k, _, h, h'⟩
  · have := h m hm
    omega
  · rcases Nat.lt_trichotomy k m with a | rfl | a
    · have := he k a
      omega
    · omega
    · have := h m a
      omega
theorem lexR_gt {f f' : Nat → Int} {n m : Nat} {r : Int} (h : LexR f f' n r) (hm : m < n) (he : ∀ j, j < m → f j = f' j) (hl : f' m < f m) : r = 1 := by
  rcases h with ⟨_, h⟩ | ⟨k, _, h, h'⟩
  · have := h m hm
    omega
  · rcases Nat.lt_trichotomy k m with a | rfl | a
    · have := he k a
      omega
    · omega
    · have := h m a
      omega
theorem lexR_eq {f f' : Nat → Int} {n : Nat} {r : Int} (h : LexR f f' n r) (he : ∀ j, j < n → f j = f' j) : r = 0 := by
  rcases h with ⟨h, _⟩ | ⟨k, hk, _, h'⟩
  · exact h
  · have := he k hk
    omega

theorem dig_lt {a b : Int} (h : a < b) : dig a < dig b := by
  unfold dig
  split <;> split <;> omega

theorem pos_before : ∀ (m : Fin 16) (j : Fin 36), j.val < pos m.val → hyp j.val = true ∨ ownB j.val < m.val := by decide +kernel

theorem txt_before {g g' : Nat → Int} {m : Nat} (hm : m < 16) (he : ∀ j, j < m → g j = g' j) (j : Nat) (hj : j < pos m) : txt g j = txt g' j := by
  have hp := (pos_fin ⟨m, hm⟩).1
  dsimp only at hp
  unfold txt
  rcases pos_before ⟨m, hm⟩ ⟨j, by omega⟩ hj with a | a
  · rw [if_pos a, if_pos a]
  · rw [he _ a]

theorem txt_hi (g : Nat → Int) (m : Nat) (hm : m < 16) : txt g (pos m) = dig (g m / 16) := by
  obtain ⟨_, p2, p3, p4, _⟩ := pos_fin ⟨m, hm⟩
  dsimp only at p2 p3 p4
  unfold txt hx
  rw [if_neg (by rw [p2]; simp), p3, p4, if_pos rfl]
theorem txt_lo (g : Nat → Int) (m : Nat) (hm : m < 16) : txt g (pos m + 1) = dig (g m % 16) := by
  obtain ⟨_, _, _, _, p5, p6, p7⟩ := pos_fin ⟨m, hm⟩
  dsimp only at p5 p6 p7
  unfold txt hx
  rw [if_neg (by rw [p5]; simp), p6, p7, if_neg (by omega)]

/-- Where byte m is the first that differs and is less, the texts differ first at one of its two places, and there the text is less. -/
theorem txt_first {g g' : Nat → Int} {m : Nat} (hm : m < 16) (he : ∀ j, j < m → g j = g' j) (hl : g m < g' m) : ∃ k, k < 36 ∧ (∀ j, j < k → txt g j = txt g' j) ∧ txt g k < txt g' k := by
  have hp := (pos_fin ⟨m, hm⟩).1
  dsimp only at hp
  by_cases h : g m / 16 < g' m / 16
  · refine ⟨pos m, by omega, txt_before hm he, ?_⟩
    rw [txt_hi g m hm, txt_hi g' m hm]
    exact dig_lt h
  · have e : g m / 16 = g' m / 16 := by omega
    refine ⟨pos m + 1, by omega, fun j hj => ?_, ?_⟩
    · rcases Nat.lt_or_ge j (pos m) with a | a
      · exact txt_before hm he j a
      · obtain rfl : j = pos m := by omega
        rw [txt_hi g m hm, txt_hi g' m hm, e]
    · rw [txt_lo g m hm, txt_lo g' m hm]
      exact dig_lt (by omega)

theorem lex_agree {g g' : Nat → Int} {r r' : Int} (h : LexR (txt g) (txt g') 36 r) (h' : LexR g g' 16 r') : r = r' := by
  rcases h' with ⟨rfl, he⟩ | ⟨m, hm, he, ⟨hl, rfl⟩ | ⟨hl, rfl⟩⟩
  · refine lexR_eq h fun j hj => ?_
    unfold txt
    rw [he _ (ownB_lt j hj)]
  · obtain ⟨k, hk, a, b⟩ := txt_first hm he hl
    exact lexR_lt h hk a b
  · obtain ⟨k, hk, a, b⟩ := txt_first hm (fun j hj => (he j hj).symm) hl
    exact lexR_gt h hk (fun j hj => (a j hj).symm) b
end Go.Proofs.Qxb6628810a
