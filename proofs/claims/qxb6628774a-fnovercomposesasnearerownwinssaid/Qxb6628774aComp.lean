/-
  FnOverComposesAsNearerOwnWins: the walk.
-/
import Derived.Test.Qxb6628774aIdem
import Derived.Deep.RegionHeld3
import Derived.Deep.CutRange
namespace Go.Proofs.Qxb6628774a
open Go.RowKit

/-- The nearer owner's two pointers, the farther owner's, the settings, in three blocks. -/
structure Lab (W : World) (A B C : Nat) (p1 p2 p3 p4 : Option Addr) (s c : Int) : Prop where
  a0 : W.cell? ⟨A, 0, none⟩ = some (.pointer p1)
  a1 : W.cell? ⟨A, 1, none⟩ = some (.pointer p2)
  b0 : W.cell? ⟨B, 0, none⟩ = some (.pointer p3)
  b1 : W.cell? ⟨B, 1, none⟩ = some (.pointer p4)
  c0 : W.cell? ⟨C, 0, none⟩ = some (.int .i64 s)
  c1 : W.cell? ⟨C, 1, none⟩ = some (.int .i64 c)

theorem Lab.below {W W' : World} {A B C : Nat} {p1 p2 p3 p4 : Option Addr} {s c : Int} (h : Lab W A B C p1 p2 p3 p4 s c) (hb : Below W.heap.size W W') : Lab W' A B C p1 p2 p3 p4 s c :=
  ⟨stays hb h.a0, stays hb h.a1, stays hb h.b0, stays hb h.b1, stays hb h.c0, stays hb h.c1⟩

theorem one_new (w : World) (p1 p2 : Option Addr) (t : TypeId) : (w.alloc (.cells #[.pointer p1, .pointer p2] t)).cell? ⟨w.heap.size, 0, none⟩ = some (.pointer p1) ∧ (w.alloc (.cells #[.pointer p1, .pointer p2] t)).cell? ⟨w.heap.size, 1, none⟩ = some (.pointer p2) := by
  constructor <;> simp [go_sem]

theorem below2 (w : World) (o1 o2 : Obj) : Below w.heap.size w ((w.alloc o1).alloc o2) :=
  ((Below.refl w.heap.size w).alloc (Nat.le_refl _) o1).alloc (by simp) o2

theorem lab_new (w : World) (A : Nat) (p1 p2 p3 p4 : Option Addr) (s c : Int) (h0 : w.cell? ⟨A, 0, none⟩ = some (.pointer p1)) (h1 : w.cell? ⟨A, 1, none⟩ = some (.pointer p2)) :
    Lab ((w.alloc (.cells #[.pointer p3, .pointer p4] 26)).alloc (.cells #[.int .i64 s, .int .i64 c] 29)) A w.heap.size (w.heap.size + 1) p1 p2 p3 p4 s c := by
  refine ⟨stays (below2 _ _ _) h0, stays (below2 _ _ _) h1, ?_, ?_, ?_, ?_⟩ <;> simp [go_sem, World.cell?_alloc_past]

theorem bcell {W w1 : World} (hb : Below W.heap.size W w1) : (∀ b o, b < W.heap.size → w1.cell? ⟨b, o, none⟩ = W.cell? ⟨b, o, none⟩) ∧ (∀ b o, b < W.heap.size → w1.frozen? ⟨b, o, none⟩ = W.frozen? ⟨b, o, none⟩) :=
  ⟨fun b o h => hb.cell (p := ⟨b, o, none⟩) h, fun b o h => hb.frozen (p := ⟨b, o, none⟩) h⟩

theorem ptr_held {W w1 : World} {R : Prop} {a : Option Addr} {o : Option Int} (h : Ptr W a o) (hS : Below W.heap.size W w1 ∧ R) : Ptr w1 a o := h.below hS.1

theorem keepS {W w1 w2 : World} {A B C : Nat} {p1 p2 p3 p4 : Option Addr} {s c : Int}
    (h : Below W.heap.size W w1 ∧ w1.cell? ⟨A, 0, none⟩ = some (.pointer p1) ∧ w1.cell? ⟨A, 1, none⟩ = some (.pointer p2) ∧ w1.cell? ⟨B, 0, none⟩ = some (.pointer p3) ∧ w1.cell? ⟨B, 1, none⟩ = some (.pointer p4) ∧ w1.cell? ⟨C, 0, none⟩ = some (.int .i64 s) ∧ w1.cell? ⟨C, 1, none⟩ = some (.int .i64 c))
    (hb : Below w1.heap.size w1 w2) :
    Below W.heap.size W w2 ∧ w2.cell? ⟨A, 0, none⟩ = some (.pointer p1) ∧ w2.cell? ⟨A, 1, none⟩ = some (.pointer p2) ∧ w2.cell? ⟨B, 0, none⟩ = some (.pointer p3) ∧ w2.cell? ⟨B, 1, none⟩ = some (.pointer p4) ∧ w2.cell? ⟨C, 0, none⟩ = some (.int .i64 s) ∧ w2.cell? ⟨C, 1, none⟩ = some (.int .i64 c) :=
  ⟨below_on h.1 hb (Nat.le_refl _), stays hb h.2.1, stays hb h.2.2.1, stays hb h.2.2.2.1, stays hb h.2.2.2.2.1, stays hb h.2.2.2.2.2.1, stays hb h.2.2.2.2.2.2⟩

theorem sz_held {W w1 w2 : World} {R : Prop} (hS : Below W.heap.size W w1 ∧ R) (hb : Below w1.heap.size w1 w2) : W.heap.size ≤ w2.heap.size := Nat.le_trans hS.1.size hb.size

theorem alt_cell {w : World} {o o' : Obj} {a : Addr} {v : Value} (ha : a.block < w.heap.size) (h : (w.alloc o).cell? a = some v) : (w.alloc o').cell? a = some v := by
  rw [(below1 w o').cell ha, ← (below1 w o).cell ha]
  exact h

theorem keepAlt {W w1 : World} {o o' : Obj} {A B C : Nat} {p1 p2 p3 p4 : Option Addr} {s c : Int}
    (h : Below W.heap.size W (w1.alloc o) ∧ (w1.alloc o).cell? ⟨A, 0, none⟩ = some (.pointer p1) ∧ (w1.alloc o).cell? ⟨A, 1, none⟩ = some (.pointer p2) ∧ (w1.alloc o).cell? ⟨B, 0, none⟩ = some (.pointer p3) ∧ (w1.alloc o).cell? ⟨B, 1, none⟩ = some (.pointer p4) ∧ (w1.alloc o).cell? ⟨C, 0, none⟩ = some (.int .i64 s) ∧ (w1.alloc o).cell? ⟨C, 1, none⟩ = some (.int .i64 c))
    (hW : W.heap.size ≤ w1.heap.size) (hA : A < W.heap.size) (hB : B < W.heap.size) (hC : C < W.heap.size) :
    Below W.heap.size W (w1.alloc o') ∧ (w1.alloc o').cell? ⟨A, 0, none⟩ = some (.pointer p1) ∧ (w1.alloc o').cell? ⟨A, 1, none⟩ = some (.pointer p2) ∧ (w1.alloc o').cell? ⟨B, 0, none⟩ = some (.pointer p3) ∧ (w1.alloc o').cell? ⟨B, 1, none⟩ = some (.pointer p4) ∧ (w1.alloc o').cell? ⟨C, 0, none⟩ = some (.int .i64 s) ∧ (w1.alloc o').cell? ⟨C, 1, none⟩ = some (.int .i64 c) := by
  have a : A < w1.heap.size := by omega
  have b : B < w1.heap.size := by omega
  have d : C < w1.heap.size := by omega
  refine ⟨⟨h.1.os, h.1.tape, h.1.output, by simp; omega, fun k hk => ?_⟩, alt_cell a h.2.1, alt_cell a h.2.2.1, alt_cell b h.2.2.2.1, alt_cell b h.2.2.2.2.1, alt_cell d h.2.2.2.2.2.1, alt_cell d h.2.2.2.2.2.2⟩
  have := h.1.block k hk
  rw [Below.heap_alloc _ _ _ (by omega)] at this ⊢
  exact this

theorem below_da (w : World) (o : Obj) : Below w.drew.heap.size w.drew (w.alloc o).drew := below1 w.drew o

theorem lt_of {W w1 : World} (hb : Below W.heap.size W w1) : ∀ k, k < W.heap.size → k < w1.heap.size := fun _ h => Nat.lt_of_lt_of_le h hb.size

theorem set_cell {w : World} {D : Nat} {x y : Value} {a : Addr} {v : Value} (ha : a.block < D) (h : w.cell? a = some v) : ((w.setCell ⟨D, 0, none⟩ x).setCell ⟨D, 1, none⟩ y).cell? a = some v := by
  rw [World.cell?_setCell_far _ _ _ _ (by simp; omega), World.cell?_setCell_far _ _ _ _ (by simp; omega)]
  exact h

theorem keepSet {W w1 : World} {D : Nat} {x y : Value} {A B C : Nat} {p1 p2 p3 p4 : Option Addr} {s c : Int}
    (h : Below W.heap.size W w1 ∧ w1.cell? ⟨A, 0, none⟩ = some (.pointer p1) ∧ w1.cell? ⟨A, 1, none⟩ = some (.pointer p2) ∧ w1.cell? ⟨B, 0, none⟩ = some (.pointer p3) ∧ w1.cell? ⟨B, 1, none⟩ = some (.pointer p4) ∧ w1.cell? ⟨C, 0, none⟩ = some (.int .i64 s) ∧ w1.cell? ⟨C, 1, none⟩ = some (.int .i64 c))
    (hD : W.heap.size ≤ D) (hA : A < W.heap.size) (hB : B < W.heap.size) (hC : C < W.heap.size) :
    Below W.heap.size W ((w1.setCell ⟨D, 0, none⟩ x).setCell ⟨D, 1, none⟩ y) ∧ ((w1.setCell ⟨D, 0, none⟩ x).setCell ⟨D, 1, none⟩ y).cell? ⟨A, 0, none⟩ = some (.pointer p1) ∧ ((w1.setCell ⟨D, 0, none⟩ x).setCell ⟨D, 1, none⟩ y).cell? ⟨A, 1, none⟩ = some (.pointer p2) ∧ ((w1.setCell ⟨D, 0, none⟩ x).setCell ⟨D, 1, none⟩ y).cell? ⟨B, 0, none⟩ = some (.pointer p3) ∧ ((w1.setCell ⟨D, 0, none⟩ x).setCell ⟨D, 1, none⟩ y).cell? ⟨B, 1, none⟩ = some (.pointer p4) ∧ ((w1.setCell ⟨D, 0, none⟩ x).setCell ⟨D, 1, none⟩ y).cell? ⟨C, 0, none⟩ = some (.int .i64 s) ∧ ((w1.setCell ⟨D, 0, none⟩ x).setCell ⟨D, 1, none⟩ y).cell? ⟨C, 1, none⟩ = some (.int .i64 c) := by
  have a : A < D := by omega
  have b : B < D := by omega
  have d : C < D := by omega
  exact ⟨(h.1.setCell hD _).setCell hD _, set_cell a h.2.1, set_cell a h.2.2.1, set_cell b h.2.2.2.1, set_cell b h.2.2.2.2.1, set_cell d h.2.2.2.2.2.1, set_cell d h.2.2.2.2.2.2⟩

theorem pick_over (o o' : Option Int) (x : Int) : pickv o o' x = over o (over o' x) := by cases o <;> cases o' <;> rfl
theorem near_over (o o' : Option Int) (x : Int) : over (near o o') x = over o (over o' x) := by cases o <;> cases o' <;> rfl

theorem fin_held {w W wx : World} {R : Prop} (hG : Below w.heap.size w W) (h : Below W.heap.size W wx ∧ R) : Below w.heap.size w wx := below_on hG h.1 (Nat.le_refl _)

theorem lab_held {W w1 : World} {A B C : Nat} {p1 p2 p3 p4 : Option Addr} {s c : Int}
    (h : Below W.heap.size W w1 ∧ w1.cell? ⟨A, 0, none⟩ = some (.pointer p1) ∧ w1.cell? ⟨A, 1, none⟩ = some (.pointer p2) ∧ w1.cell? ⟨B, 0, none⟩ = some (.pointer p3) ∧ w1.cell? ⟨B, 1, none⟩ = some (.pointer p4) ∧ w1.cell? ⟨C, 0, none⟩ = some (.int .i64 s) ∧ w1.cell? ⟨C, 1, none⟩ = some (.int .i64 c)) :
    Lab w1 A B C p1 p2 p3 p4 s c := ⟨h.2.1, h.2.2.1, h.2.2.2.1, h.2.2.2.2.1, h.2.2.2.2.2.1, h.2.2.2.2.2.2⟩

theorem two_set {w : World} {D : Nat} {x y : Int} (h0 : (w.cell? ⟨D, 0, none⟩).isSome = true) (h1 : (w.cell? ⟨D, 1, none⟩).isSome = true) :
    Two ((w.setCell ⟨D, 0, none⟩ (.int .i64 x)).setCell ⟨D, 1, none⟩ (.int .i64 y)) D x y := by
  have e : (w.setCell ⟨D, 0, none⟩ (.int .i64 x)).cell? ⟨D, 1, none⟩ = w.cell? ⟨D, 1, none⟩ := World.cell?_setCell_other _ _ _ _ (by simp)
  constructor
  · rw [World.cell?_setCell_other _ _ _ _ (by simp)]
    exact World.cell?_setCell_same' _ _ _ h0
  · exact World.cell?_setCell_same' _ _ _ (by rw [e]; exact h1)

set_option maxHeartbeats 1600000 in
theorem comp_any (a1 a2 a3 a4 : Option Addr) (o1 o2 o3 o4 : Option Int) (s c : Int) (w : World) (h1 : Ptr w a1 o1) (h2 : Ptr w a2 o2) (h3 : Ptr w a3 o3) (h4 : Ptr w a4 o4) :
    Calls Try.prog 3 #[.pointer a1, .pointer a2, .pointer a3, .pointer a4, .int .i64 s, .int .i64 c] w fun e w' => e = .returned (.bool true) ∧ Below w.heap.size w w' := by
  have H1 : Hid (Ptr w a1 o1) := h1
  have H2 : Hid (Ptr w a2 o2) := h2
  have H3 : Hid (Ptr w a3 o3) := h3
  have H4 : Hid (Ptr w a4 o4) := h4
  clear h1 h2 h3 h4
  go_enter Try.func3, Try.ntmps3
  go_wp2_with fail
  refine (limit_any _ _ _ H1.out).mono ?_
  rintro e w1 ⟨p1, rfl, hp1, hb1⟩
  have HP1 : Hid (Ptr w1 p1 o1) := hp1
  have HB1 : Hid (Below w.heap.size w w1) := hb1
  clear hp1 hb1
  go_wp2_with fail
  refine (limit_any _ _ _ (H2.out.below HB1.out)).mono ?_
  rintro e w2 ⟨p2, rfl, hp2, hb2⟩
  have HP2 : Hid (Ptr w2 p2 o2) := hp2
  have HB2 : Hid (Below w1.heap.size w1 w2) := hb2
  clear hp2 hb2
  go_wp2_with fail
  obtain ⟨W2, hW2⟩ : ∃ W2, W2 = w2.alloc (.cells #[.pointer p1, .pointer p2] 26) := ⟨_, rfl⟩
  have hn2 := one_new w2 p1 p2 26
  have hb2 := below1 w2 (.cells #[.pointer p1, .pointer p2] 26)
  rw [← hW2] at hn2 hb2 ⊢
  clear hW2
  obtain ⟨A, hA⟩ : ∃ A, A = w2.heap.size := ⟨_, rfl⟩
  rw [← hA] at hn2 ⊢
  have N2 : Hid (W2.cell? ⟨A, 0, none⟩ = some (.pointer p1) ∧ W2.cell? ⟨A, 1, none⟩ = some (.pointer p2)) := hn2
  have G2 : Hid (Below w.heap.size w W2) := below_on (below_on HB1.out HB2.out (Nat.le_refl _)) hb2 (Nat.le_refl _)
  have Q1 : Hid (Ptr W2 p1 o1) := (HP1.out.below HB2.out).below hb2
  have Q2 : Hid (Ptr W2 p2 o2) := HP2.out.below hb2
  clear hA hn2 hb2 HB1 HB2 HP1 HP2
  refine (limit_any _ _ _ (H3.out.below G2.out)).mono ?_
  rintro e w3 ⟨p3, rfl, hp3, hb3⟩
  have HP3 : Hid (Ptr w3 p3 o3) := hp3
  have HB3 : Hid (Below W2.heap.size W2 w3) := hb3
  clear hp3 hb3
  go_wp2_with fail
  refine (limit_any _ _ _ ((H4.out.below G2.out).below HB3.out)).mono ?_
  rintro e w4 ⟨p4, rfl, hp4, hb4⟩
  have HP4 : Hid (Ptr w4 p4 o4) := hp4
  have HB4 : Hid (Below w3.heap.size w3 w4) := hb4
  clear hp4 hb4
  go_wp2_with fail
  obtain ⟨W5, hW5⟩ : ∃ W5, W5 = (w4.alloc (.cells #[.pointer p3, .pointer p4] 26)).alloc (.cells #[.int .i64 s, .int .i64 c] 29) := ⟨_, rfl⟩
  have hb24 : Below W2.heap.size W2 w4 := below_on HB3.out HB4.out (Nat.le_refl _)
  have hl5 := lab_new w4 A p1 p2 p3 p4 s c (stays hb24 N2.out.1) (stays hb24 N2.out.2)
  have hb5 := below2 w4 (.cells #[.pointer p3, .pointer p4] 26) (.cells #[.int .i64 s, .int .i64 c] 29)
  rw [← hW5] at hl5 hb5 ⊢
  clear hW5
  have hb25 : Below W2.heap.size W2 W5 := below_on hb24 hb5 (Nat.le_refl _)
  have G5 : Hid (Below w.heap.size w W5) := below_on G2.out hb25 (Nat.le_refl _)
  have R1 : Hid (Ptr W5 p1 o1) := Q1.out.below hb25
  have R2 : Hid (Ptr W5 p2 o2) := Q2.out.below hb25
  have R3 : Hid (Ptr W5 p3 o3) := (HP3.out.below HB4.out).below hb5
  have R4 : Hid (Ptr W5 p4 o4) := HP4.out.below hb5
  obtain ⟨B, hB⟩ : ∃ B, B = w4.heap.size := ⟨_, rfl⟩
  rw [← hB] at hl5 ⊢
  obtain ⟨C, hC⟩ : ∃ C, C = B + 1 := ⟨_, rfl⟩
  rw [← hC] at hl5 ⊢
  have L5 : Hid (Lab W5 A B C p1 p2 p3 p4 s c) := hl5
  clear hl5 hb5 hb25 hb24 hB hC HP3 HP4 HB3 HB4 G2 Q1 Q2 N2
  refine (pick_any _ _ _ _ _ _ (H1.out.below G5.out) (H3.out.below G5.out)).mono ?_
  rw [pick_over]
  rintro e w' ⟨rfl, rfl⟩
  go_wp2_with fail
  refine (pick_any _ _ _ _ _ _ (H2.out.below G5.out) (H4.out.below G5.out)).mono ?_
  rw [pick_over]
  rintro e w' ⟨rfl, rfl⟩
  go_wp2_with fail
  have S0 : Below W5.heap.size W5 W5.drew ∧ W5.drew.cell? ⟨A, 0, none⟩ = some (.pointer p1) ∧ W5.drew.cell? ⟨A, 1, none⟩ = some (.pointer p2) ∧ W5.drew.cell? ⟨B, 0, none⟩ = some (.pointer p3) ∧ W5.drew.cell? ⟨B, 1, none⟩ = some (.pointer p4) ∧ W5.drew.cell? ⟨C, 0, none⟩ = some (.int .i64 s) ∧ W5.drew.cell? ⟨C, 1, none⟩ = some (.int .i64 c) :=
    ⟨(Below.refl _ _).drew, L5.out.a0, L5.out.a1, L5.out.b0, L5.out.b1, L5.out.c0, L5.out.c1⟩
  have lA : A < W5.heap.size := World.block_lt_of_cell? W5 _ L5.out.a0
  have lB : B < W5.heap.size := World.block_lt_of_cell? W5 _ L5.out.b0
  have lC : C < W5.heap.size := World.block_lt_of_cell? W5 _ L5.out.c0
  go_cut [18] from 42 to 46 (fun v wx => ∃ D, v = .pointer (some ⟨D, 0, none⟩) ∧ Hid (Below w.heap.size w wx) ∧ Hid (Lab wx A B C p1 p2 p3 p4 s c) ∧ Hid (Two wx D (over o1 (over o3 s)) (over o2 (over o4 c))))
  case first =>
    go_region_held3 (fun w' => Below W5.heap.size W5 w' ∧ w'.cell? ⟨A, 0, none⟩ = some (.pointer p1) ∧ w'.cell? ⟨A, 1, none⟩ = some (.pointer p2) ∧ w'.cell? ⟨B, 0, none⟩ = some (.pointer p3) ∧ w'.cell? ⟨B, 1, none⟩ = some (.pointer p4) ∧ w'.cell? ⟨C, 0, none⟩ = some (.int .i64 s) ∧ w'.cell? ⟨C, 1, none⟩ = some (.int .i64 c))
      (first | exact S0 | exact keepS S0 (below_da _ _) | (apply keepS; rotate_left; assumption; assumption) | (refine keepS ?_ (below1 _ _); assumption) | (apply keepAlt; assumption; assumption; exact lA; exact lB; exact lC) | (apply keepSet; assumption; (first | assumption | exact Nat.le_refl _); exact lA; exact lB; exact lC))
      (first
        | (go_at_call_of 7 p3; refine (over_any p3 p4 o3 o4 s c _ ?_ ?_).mono ?_; exact ptr_held R3.out (by assumption); exact ptr_held R4.out (by assumption); rintro e wy ⟨rfl, hb1⟩; have hs1 := sz_held (by assumption) hb1; have hl1 := lt_of hb1; obtain ⟨hc1, hf1⟩ := bcell hb1)
        | (go_at_call_of 7 p1; refine (over_any p1 p2 o1 o2 _ _ _ ?_ ?_).mono ?_; exact ptr_held R1.out (by assumption); exact ptr_held R2.out (by assumption); rintro e wz ⟨rfl, hb2⟩; have hs2 := sz_held (by assumption) hb2; have hl2 := lt_of hb2; obtain ⟨hc2, hf2⟩ := bcell hb2))
    · go_wp2_with fail
      go_meet
      refine ⟨_, rfl, ?_, ?_, two_new _ _ _ _⟩
      · exact fin_held G5.out (by assumption)
      · exact lab_held (by assumption)
    · go_wp2_with fail
      go_meet
      refine ⟨_, rfl, ?_, ?_, two_set ?_ ?_⟩
      · exact fin_held G5.out (by assumption)
      · exact lab_held (by assumption)
      · rw [hc2 _ _ (by simp)]
        simp [go_sem]
      · rw [hc2 _ _ (by simp)]
        simp [go_sem]
    · go_wp2_with fail
      go_meet
      refine ⟨_, rfl, ?_, ?_, two_set ?_ ?_⟩
      · exact fin_held G5.out (by assumption)
      · exact lab_held (by assumption)
      · rw [hc2 _ _ (hl1 _ (by simp)), hc1 _ _ (by simp)]
        simp [go_sem]
      · rw [hc2 _ _ (hl1 _ (by simp)), hc1 _ _ (by simp)]
        simp [go_sem]
  case rest =>
    obtain ⟨D, rfl, G6, L6, T6⟩ := hcut
    clear S0 lA lB lC R1 R2 R3 R4 G5 L5
    go_wp2_with fail
    refine (nearer_any _ _ _ _ _ (H1.out.below G6.out) (H3.out.below G6.out)).mono ?_
    rintro e w7 ⟨r1, rfl, hr1, hb7⟩
    have HR1 : Hid (Ptr w7 r1 (near o1 o3)) := hr1
    have HB7 : Hid (Below wc.heap.size wc w7) := hb7
    clear hr1 hb7
    have G7 : Hid (Below w.heap.size w w7) := below_on G6.out HB7.out (Nat.le_refl _)
    go_wp2_with fail
    refine (nearer_any _ _ _ _ _ (H2.out.below G7.out) (H4.out.below G7.out)).mono ?_
    rintro e w8 ⟨r2, rfl, hr2, hb8⟩
    have HR2 : Hid (Ptr w8 r2 (near o2 o4)) := hr2
    have HB8 : Hid (Below w7.heap.size w7 w8) := hb8
    clear hr2 hb8
    have hb68 : Below wc.heap.size wc w8 := below_on HB7.out HB8.out (Nat.le_refl _)
    have L8 : Hid (Lab w8 A B C p1 p2 p3 p4 s c) := L6.out.below hb68
    have T8 : Hid (Two w8 D (over o1 (over o3 s)) (over o2 (over o4 c))) := T6.out.below hb68
    have G8 : Hid (Below w.heap.size w w8) := below_on G6.out hb68 (Nat.le_refl _)
    have K1 : Hid (Ptr w8 r1 (near o1 o3)) := HR1.out.below HB8.out
    clear hb68 HB7 HB8 HR1 G6 L6 T6 G7
    have c0 := L8.out.c0
    have c1 := L8.out.c1
    have z8 : C < w8.heap.size := World.block_lt_of_cell? w8 _ c0
    go_wp2_with fail
    refine (over_any _ _ _ _ _ _ _ (K1.out.below (below1 _ _)) (HR2.out.below (below1 _ _))).mono ?_
    rw [near_over, near_over]
    rintro e w9 ⟨rfl, hb9⟩
    have hb89 : Below w8.heap.size w8 w9 := below_on (below1 _ _) hb9 (Nat.le_refl _)
    have T9 : Two w9 D (over o1 (over o3 s)) (over o2 (over o4 c)) := T8.out.below hb89
    have G9 : Hid (Below w.heap.size w w9) := below_on G8.out hb89 (Nat.le_refl _)
    clear hb89 hb9 c0 c1 z8 L8 T8 G8 K1 HR2
    have z9 := T9.lt
    obtain ⟨x0, y0⟩ := T9
    generalize over o1 (over o3 s) = u at *
    generalize over o2 (over o4 c) = v at *
    go_wp2
    go_ret
    exact ⟨rfl, below_on G9.out (below1 _ _) (Nat.le_refl _)⟩
end Go.Proofs.Qxb6628774a
