/-
  FnOverIdempotentAndResultPins: the walk.
-/
import Derived.Test.Qxb6628774aLeaf
namespace Go.Proofs.Qxb6628774a
open Go.RowKit

/-- The owner's two pointers, the settings and the other settings, in three blocks from B on. -/
structure Loc (W : World) (B : Nat) (p1 p2 : Option Addr) (s c os oc : Int) : Prop where
  a0 : W.cell? ⟨B, 0, none⟩ = some (.pointer p1)
  a1 : W.cell? ⟨B, 1, none⟩ = some (.pointer p2)
  b0 : W.cell? ⟨B + 1, 0, none⟩ = some (.int .i64 s)
  b1 : W.cell? ⟨B + 1, 1, none⟩ = some (.int .i64 c)
  c0 : W.cell? ⟨B + 1 + 1, 0, none⟩ = some (.int .i64 os)
  c1 : W.cell? ⟨B + 1 + 1, 1, none⟩ = some (.int .i64 oc)

theorem loc_new (w : World) (p1 p2 : Option Addr) (s c os oc : Int) :
    Loc (((w.alloc (.cells #[.pointer p1, .pointer p2] 26)).alloc (.cells #[.int .i64 s, .int .i64 c] 29)).alloc (.cells #[.int .i64 os, .int .i64 oc] 29)) w.heap.size p1 p2 s c os oc := by
  refine ⟨?_, ?_, ?_, ?_, ?_, ?_⟩ <;> simp [go_sem, World.cell?_alloc_past]

theorem stays {W W' : World} {a : Addr} {v : Value} (hb : Below W.heap.size W W') (h : W.cell? a = some v) : W'.cell? a = some v :=
  (hb.cell (World.block_lt_of_cell? W _ h)).trans h

theorem Loc.below {W W' : World} {B : Nat} {p1 p2 : Option Addr} {s c os oc : Int} (h : Loc W B p1 p2 s c os oc) (hb : Below W.heap.size W W') : Loc W' B p1 p2 s c os oc :=
  ⟨stays hb h.a0, stays hb h.a1, stays hb h.b0, stays hb h.b1, stays hb h.c0, stays hb h.c1⟩

/-- Two numbers in a block. -/
structure Two (W : World) (B : Nat) (x y : Int) : Prop where
  x0 : W.cell? ⟨B, 0, none⟩ = some (.int .i64 x)
  y0 : W.cell? ⟨B, 1, none⟩ = some (.int .i64 y)
theorem two_new (w : World) (x y : Int) (t : TypeId) : Two (w.alloc (.cells #[.int .i64 x, .int .i64 y] t)) w.heap.size x y := by
  refine ⟨?_, ?_⟩ <;> simp [go_sem]
theorem Two.below {W W' : World} {B : Nat} {x y : Int} (h : Two W B x y) (hb : Below W.heap.size W W') : Two W' B x y := ⟨stays hb h.x0, stays hb h.y0⟩

theorem below1 (w : World) (o : Obj) : Below w.heap.size w (w.alloc o) := (Below.refl _ _).alloc (Nat.le_refl _) o
theorem below_on {w w1 w2 : World} {B : Nat} (h : Below B w w1) (h2 : Below w1.heap.size w1 w2) (hB : B ≤ w.heap.size) : Below B w w2 :=
  h.trans (h2.mono (Nat.le_trans hB h.size))

theorem Loc.lt {W : World} {B : Nat} {p1 p2 : Option Addr} {s c os oc : Int} (h : Loc W B p1 p2 s c os oc) : B + 1 + 1 < W.heap.size := World.block_lt_of_cell? W _ h.c0
theorem Two.lt {W : World} {B : Nat} {x y : Int} (h : Two W B x y) : B < W.heap.size := World.block_lt_of_cell? W _ h.x0

theorem below4 (w : World) (o1 o2 o3 o4 : Obj) : Below w.heap.size w ((((w.alloc o1).alloc o2).alloc o3).alloc o4) :=
  (below3 w o1 o2 o3).alloc (by simp; omega) o4
theorem cell4 {w : World} {a : Addr} {v : Value} (h : w.cell? a = some v) (o1 o2 o3 o4 : Obj) : ((((w.alloc o1).alloc o2).alloc o3).alloc o4).cell? a = some v :=
  stays (below4 w o1 o2 o3 o4) h

theorem pick_none (o : Option Int) (x : Int) : pickv o none x = over o x := by cases o <;> rfl
theorem over_again (o : Option Int) (x : Int) : over o (over o x) = over o x := by cases o <;> rfl

set_option maxHeartbeats 1600000 in
theorem idem_any (a a' : Option Addr) (o o' : Option Int) (s c os oc : Int) (w : World) (h : Ptr w a o) (h' : Ptr w a' o') :
    Calls Try.prog 4 #[.pointer a, .pointer a', .int .i64 s, .int .i64 c, .int .i64 os, .int .i64 oc] w fun e w' => e = .returned (.bool true) ∧ Below w.heap.size w w' := by
  have H : Hid (Ptr w a o) := h
  have H' : Hid (Ptr w a' o') := h'
  clear h h'
  go_enter Try.func4, Try.ntmps4
  go_wp2_with fail
  refine (limit_any _ _ _ H.out).mono ?_
  rintro e w1 ⟨p1, rfl, hp1, hb1⟩
  have HP1 : Hid (Ptr w1 p1 o) := hp1
  have HB1 : Hid (Below w.heap.size w w1) := hb1
  clear hp1 hb1
  go_wp2_with fail
  refine (limit_any _ _ _ (H'.out.below HB1.out)).mono ?_
  rintro e w2 ⟨p2, rfl, hp2, hb2⟩
  have HP2 : Hid (Ptr w2 p2 o') := hp2
  have HB2 : Hid (Below w1.heap.size w1 w2) := hb2
  clear hp2 hb2
  go_wp2_with fail
  -- the three local structs: one name for the world
  obtain ⟨W3, hW3⟩ : ∃ W3, W3 = ((w2.alloc (.cells #[.pointer p1, .pointer p2] 26)).alloc (.cells #[.int .i64 s, .int .i64 c] 29)).alloc (.cells #[.int .i64 os, .int .i64 oc] 29) := ⟨_, rfl⟩
  have hl3 : Loc W3 w2.heap.size p1 p2 s c os oc := by rw [hW3]; exact loc_new _ _ _ _ _ _ _
  have hb3 : Below w2.heap.size w2 W3 := by rw [hW3]; exact below3 _ _ _ _
  rw [← hW3]
  clear hW3
  have L3 : Hid (Loc W3 w2.heap.size p1 p2 s c os oc) := hl3
  have G3 : Hid (Below w.heap.size w W3) := below_on (below_on HB1.out HB2.out (Nat.le_refl _)) hb3 (Nat.le_refl _)
  have q1 : Hid (Ptr W3 p1 o) := (HP1.out.below HB2.out).below hb3
  have q2 : Hid (Ptr W3 p2 o') := HP2.out.below hb3
  have r1 : Hid (Ptr W3 a o) := H.out.below G3.out
  have r2 : Hid (Ptr W3 a' o') := H'.out.below G3.out
  clear hl3 hb3 HP1 HP2 HB1 HB2 H H'
  refine (pick_any _ _ _ _ _ _ r1.out (.inl ⟨rfl, rfl⟩)).mono ?_
  rw [pick_none]
  rintro e w' ⟨rfl, rfl⟩
  go_wp2_with fail
  refine (pick_any _ _ _ _ _ _ r2.out (.inl ⟨rfl, rfl⟩)).mono ?_
  rw [pick_none]
  rintro e w' ⟨rfl, rfl⟩
  obtain ⟨a0, a1, b0, b1, c0, c1⟩ := L3.out
  go_wp2_with fail
  refine (over_any _ _ _ _ _ _ _ q1.out q2.out).mono ?_
  rintro e w4 ⟨rfl, hb4⟩
  have L4 : Hid (Loc w4 w2.heap.size p1 p2 s c os oc) := L3.out.below hb4
  have G4 : Hid (Below w.heap.size w w4) := below_on G3.out hb4 (Nat.le_refl _)
  have t1 : Hid (Ptr w4 p1 o) := q1.out.below hb4
  have t2 : Hid (Ptr w4 p2 o') := q2.out.below hb4
  clear hb4 a0 a1 b0 b1 c0 c1 L3 G3 q1 q2 r1 r2
  obtain ⟨a0, a1, b0, b1, c0, c1⟩ := L4.out
  have z4 := L4.out.lt
  have z5 : w2.heap.size < w4.heap.size := by omega
  go_wp2_with fail
  refine (over_any _ _ _ _ _ _ _ (t1.out.below (below1 _ _)) (t2.out.below (below1 _ _))).mono ?_
  rw [over_again, over_again]
  rintro e w6 ⟨rfl, hb6⟩
  have hb46 : Below w4.heap.size w4 w6 := below_on (below1 _ _) hb6 (Nat.le_refl _)
  have L6 : Hid (Loc w6 w2.heap.size p1 p2 s c os oc) := L4.out.below hb46
  have R6 : Hid (Two w6 w4.heap.size (over o s) (over o' c)) := (two_new _ _ _ _).below hb6
  have G6 : Hid (Below w.heap.size w w6) := below_on G4.out hb46 (Nat.le_refl _)
  clear hb46 hb6 a0 a1 b0 b1 c0 c1 L4 G4 t1 t2 z4 z5
  obtain ⟨a0, a1, b0, b1, c0, c1⟩ := L6.out
  obtain ⟨x0, y0⟩ := R6.out
  have z6 := L6.out.lt
  have z7 := R6.out.lt
  have k0 := cell4 c0
  have k1 := cell4 c1
  go_wp2_with fail
  generalize over o s = u at *
  generalize over o' c = v at *
  obtain ⟨W8, hW8⟩ : ∃ W8, W8 = (((w6.alloc (.cells #[.int .i64 u, .int .i64 v] 29)).alloc (.cells #[.int .i64 u] 27)).alloc (.cells #[.int .i64 v] 27)).alloc (.cells #[.pointer (some ⟨w6.heap.size + 1, 0, none⟩), .pointer (some ⟨w6.heap.size + 1 + 1, 0, none⟩)] 26) := ⟨_, rfl⟩
  have hb8 : Below w6.heap.size w6 W8 := by rw [hW8]; exact below4 _ _ _ _ _
  have g1 : Ptr W8 (some ⟨w6.heap.size + 1, 0, none⟩) (some u) := .inr ⟨_, _, u, rfl, rfl, by rw [hW8]; simp [go_sem, World.cell?_alloc_past]⟩
  have g2 : Ptr W8 (some ⟨w6.heap.size + 1 + 1, 0, none⟩) (some v) := .inr ⟨_, _, v, rfl, rfl, by rw [hW8]; simp [go_sem, World.cell?_alloc_past]⟩
  have A8 : Two W8 w6.heap.size u v := by
    rw [hW8]
    constructor <;> simp [go_sem, World.cell?_alloc_past]
  rw [← hW8]
  clear hW8
  refine (over_any _ _ _ _ _ _ _ g1 g2).mono ?_
  rintro e w9 ⟨rfl, hb9⟩
  have hb69 : Below w6.heap.size w6 w9 := below_on hb8 hb9 (Nat.le_refl _)
  have R9 : Two w9 w4.heap.size u v := R6.out.below hb69
  have A9 : Two w9 w6.heap.size u v := A8.below hb9
  have G9 : Hid (Below w.heap.size w w9) := below_on G6.out hb69 (Nat.le_refl _)
  clear hb69 hb9 hb8 g1 g2 A8 a0 a1 b0 b1 c0 c1 k0 k1 x0 y0 z6 z7 R6 L6 G6
  have z8 := R9.lt
  have z9 := A9.lt
  obtain ⟨x0, y0⟩ := R9
  obtain ⟨x1, y1⟩ := A9
  have ou : over (some u) os = u := rfl
  have ov : over (some v) oc = v := rfl
  rw [ou, ov]
  clear ou ov
  go_wp2
  go_ret
  exact ⟨rfl, below_on G9.out (below1 _ _) (Nat.le_refl _)⟩
end Go.Proofs.Qxb6628774a
