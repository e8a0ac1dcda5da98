/-
  zzCalB1Dates by contract: a new row of the same numbers.
-/
import Derived.Test.Qxb6628706aCal
namespace Go.Proofs.Qxb6628706a
open Go.RowKit

theorem Try.info28 : (Try.prog.info? 28).map (fun i => (i.zero, i.size, i.bytes)) = some (some (.int .i32 0), 1, 4) := by kernel_rfl

/-- The row so far: n cells at the head of block g; the first k hold the numbers. -/
structure Part (wr : World) (g n k : Nat) (zs : List Int) : Prop where
  row : ∃ xs : List Value, wr.ownsRow g 28 1 (.slice (some ⟨g, 0, none⟩) n n) n xs ∧ xs.length = n ∧ ∀ j, j < k → xs[j]? = some (.int .i32 (zs.getD j 0))

theorem Part.step {wr : World} {g n k : Nat} {zs : List Int} (h : Part wr g n k zs) (hk : k < n) (y : Int) (hy : zs.getD k 0 = y) : Part (wr.setCell ⟨g, k, none⟩ (.int .i32 y)) g n (k + 1) zs := by
  obtain ⟨xs, ho, hl, hx⟩ := h.row
  refine ⟨xs.set k (.int .i32 y), (ho.stored k _).1, by simpa using hl, fun j hj => ?_⟩
  rw [List.getElem?_set]
  by_cases e : k = j
  · subst e
    rw [if_pos rfl, if_pos (by omega), hy]
  · rw [if_neg e]
    exact hx j (by omega)

theorem Part.cell {wr : World} {g n k : Nat} {zs : List Int} (h : Part wr g n k zs) (j : Nat) (hj : j < k) (hk : k ≤ n) : wr.cell? ⟨g, j, none⟩ = some (.int .i32 (zs.getD j 0)) := by
  obtain ⟨xs, ho, hl, hx⟩ := h.row
  rw [ho.cellAt j (by omega)]
  exact hx j hj

theorem Part.some {wr : World} {g n k : Nat} {zs : List Int} (h : Part wr g n k zs) (j : Nat) (hj : j < n) : ∃ v, wr.cell? ⟨g, j, none⟩ = some v := by
  obtain ⟨xs, ho, hl, _⟩ := h.row
  refine ⟨xs[j], ?_⟩
  rw [ho.cellAt j (by omega)]
  exact List.getElem?_eq_getElem (by omega)

theorem Part.free {wr : World} {g n k : Nat} {zs : List Int} (h : Part wr g n k zs) (j : Nat) : wr.frozen? ⟨g, j, none⟩ = false := by
  obtain ⟨xs, ho, _, _⟩ := h.row
  exact ho.frozenAt j

theorem owns_lt {w : World} {base e g n cap : Nat} {xs : List Value} (h : w.ownsRow base e 1 (.slice (some ⟨g, 0, none⟩) n cap) n xs) : g < w.heap.size := by
  rcases h.2 with ⟨h', _⟩ | ⟨g', cap', cur, h', _, hg, _⟩
  · simp at h'
  · simp only [Value.slice.injEq, Option.some.injEq, Addr.mk.injEq, and_true, true_and] at h'
    obtain ⟨rfl, rfl⟩ := h'
    exact (Array.getElem?_eq_some_iff.1 hg).1

set_option maxHeartbeats 800000 in
theorem dates_any (b off n c : Nat) (zs : List Int) (w : World) (hbig : n ≤ 65536) (hb : b < w.heap.size)
    (hc : ∀ j, j < n → w.cell? ⟨b, off + j, none⟩ = some (.int .i32 (zs.getD j 0))) :
    Calls Try.prog 6 #[.slice (some ⟨b, off, none⟩) n c] w fun e w' => e = .returned (.slice (some ⟨w.heap.size, 0, none⟩) n n) ∧ (∀ j, j < n → w'.cell? ⟨w.heap.size, j, none⟩ = some (.int .i32 (zs.getD j 0))) ∧ Below w.heap.size w w' ∧ w.heap.size < w'.heap.size := by
  obtain ⟨i0, hi, hz0, hz1, hz2⟩ := info_parts Try.info28
  have HC : Hid (∀ j, j < n → w.cell? ⟨b, off + j, none⟩ = some (.int .i32 (zs.getD j 0))) := hc
  clear hc
  go_enter Try.func6, Try.ntmps6
  go_wp2_with (at_make; refine wpList_make_full _ rfl _ _ 24 rfl w.heap.size 28 i0 (.int .i32 0) 1 Try.underlying24 hi hz0 hz1 .i64 .i64 _ _ n rfl rfl rfl rfl (by rw [hz2]; omega) (by unfold maxLen; omega) (Nat.le_refl _) ?_)
  intro w1 ho hg
  have hP : Part w1 w.heap.size n 0 zs := ⟨_, ho, by simp [toList_madeCells_one], fun j hj => absurd hj (Nat.not_lt_zero _)⟩
  have hB : Below w.heap.size w w1 := (Below.refl _ _).grown hg (Nat.le_refl _) (fun k hk => by cases hk)
  have hS : w.heap.size < w1.heap.size := owns_lt ho
  clear ho hg
  go_wp2
  go_loopw [4] (fun i wr => ∃ k : Nat, k ≤ n ∧ i = .int .i64 k ∧ Hid (Part wr w.heap.size n k zs) ∧ Hid (Below w.heap.size w wr) ∧ w.heap.size < wr.heap.size) (fun i _ => n - (intOf i).toNat)
  case atStart => exact ⟨0, Nat.zero_le _, rfl, hP, hB, hS⟩
  case round =>
    obtain ⟨k, hk, rfl, hP', hB', hS'⟩ := hrel
    by_cases hlt : k < n
    · obtain ⟨y, hy⟩ : ∃ y, zs.getD k 0 = y := ⟨_, rfl⟩
      have cy : wr.cell? ⟨b, off + k, none⟩ = some (.int .i32 y) := by rw [← hy]; exact (hB'.out.cell (by exact hb)).trans (HC.out k hlt)
      obtain ⟨v, cv⟩ := hP'.out.some k hlt
      have fv := hP'.out.free k
      have HY : Hid (zs.getD k 0 = y) := hy
      clear hy hP hB
      go_wp2
      go_roundw
      case rel => exact ⟨k + 1, by omega, by go_num, hP'.out.step hlt y HY.out, hB'.out.setCell (Nat.le_refl _) _, by simpa [World.setCell] using hS'⟩
      case measure => simp [intOf]; omega
    · clear hP hB
      go_wp2
      go_ret
      exact ⟨rfl, fun j hj => hP'.out.cell j (by omega) hk, hB'.out, hS'⟩
end Go.Proofs.Qxb6628706a
