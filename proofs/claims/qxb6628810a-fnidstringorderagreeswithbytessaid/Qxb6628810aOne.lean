/-
  FnIDStringOneByteChangesOnlyItsTwoDigits: the walk.
-/
import Derived.Test.Qxb6628810aPair
import Derived.Deep.MidRow
import Derived.Deep.QuietTactic
import Derived.BigQuiet
import Derived.Deep.CutRange
namespace Go.Proofs.Qxb6628810a
open Go.RowKit Go.Lib

/-- The bytes as values. -/
def bv (zs : List Int) : List Value := zs.map (Value.int .u8)
theorem bv_length (zs : List Int) : (bv zs).length = zs.length := by simp [bv]
theorem bv_at (zs : List Int) (i : Nat) (h : i < zs.length) : (bv zs)[i]? = some (.int .u8 (zs.getD i 0)) := by
  simp [bv, List.getD, h]
theorem bv_set (zs : List Int) (i : Nat) (v : Int) : (bv zs).set i (.int .u8 v) = bv (zs.set i v) := by simp [bv, List.map_set]
theorem bv_one (zs : List Int) : ∀ v ∈ bv zs, v.oneCell' = true := by
  intro v hv
  simp only [bv, List.mem_map] at hv
  obtain ⟨n, _, rfl⟩ := hv
  rfl

theorem Try.size22 : (Try.prog.info? 22).map (·.size) = some 16 := by kernel_rfl

/-- Sixteen zero bytes. -/
def zero16 : Array Value := #[.int .u8 0, .int .u8 0, .int .u8 0, .int .u8 0, .int .u8 0, .int .u8 0, .int .u8 0, .int .u8 0, .int .u8 0, .int .u8 0, .int .u8 0, .int .u8 0, .int .u8 0, .int .u8 0, .int .u8 0, .int .u8 0]

theorem range_new (w : World) (cs : List Value) (t : TypeId) : (w.alloc (.cells cs.toArray t)).rangeAt w.heap.size 0 cs := fun j u hj => by
  rw [cell_of_row (w.alloc (.cells cs.toArray t)) w.heap.size (0 + j) cs.toArray t (0, 0) (heap_alloc_new _ _), Nat.zero_add]
  simpa using hj

theorem there_new (w : World) (t : TypeId) (n : Nat) (hn : n ≤ 16) : (w.alloc (.cells zero16 t)).there w.heap.size 0 n := fun j hj => by
  have hb := heap_alloc_new w (.cells zero16 t)
  refine ⟨?_, frozen_of_row _ _ _ _ t hb⟩
  rw [cell_of_row _ _ _ _ t (0, 0) hb, Nat.zero_add]
  have : zero16.size = 16 := rfl
  simp [Array.getElem?_eq_getElem (show j < zero16.size by omega)]

theorem range_below {W W' : World} {b : Nat} {cs : List Value} (h : W.rangeAt b 0 cs) (hb : Below W.heap.size W W') : W'.rangeAt b 0 cs := fun j v hj => by
  have hc := h j v hj
  exact (hb.cell (World.block_lt_of_cell? W _ hc)).trans hc

theorem below_cells {w0 : World} {B b : Nat} (hB : B ≤ b) : ∀ (vs : List Value) (o : Nat) (w : World), Below B w0 w → Below B w0 (w.setCells b o vs)
  | [], _, _, h => h
  | v :: r, o, _, h => below_cells hB r (o + 1) _ (h.setCell hB v)

/-- Two rows of bytes: xs in block a, ys in block b (the call's own); what was there in w0 is as it was. -/
structure Ab (w0 W : World) (a b : Nat) (xs ys : List Int) : Prop where
  ra : W.rangeAt a 0 (bv xs)
  rb : W.rangeAt b 0 (bv ys)
  tb : W.there b 0 16
  bel : Below w0.heap.size w0 W
  ne : a < b
  lo : w0.heap.size ≤ b

theorem ab_new (w : World) (zs : List Int) (hl : zs.length = 16) :
    Ab w (((w.alloc (.cells (bv zs).toArray 22)).alloc (.cells zero16 22)).setCells (w.heap.size + 1) 0 (bv zs)) w.heap.size (w.heap.size + 1) zs zs := by
  have ht : ((w.alloc (.cells (bv zs).toArray 22)).alloc (.cells zero16 22)).there (w.heap.size + 1) 0 16 := by
    have := there_new (w.alloc (.cells (bv zs).toArray 22)) 22 16 (Nat.le_refl _)
    simpa using this
  refine ⟨World.rangeAt_setCells_apart (World.rangeAt_alloc (range_new w (bv zs) 22) _) _ _ _ (.inl (by omega)), World.rangeAt_setCells_same _ _ _ _ (by rw [bv_length, hl]; exact ht), World.there_setCells ht _ _ _, below_cells (by omega) _ _ _ (((Below.refl _ _).alloc (Nat.le_refl _) _).alloc (by simp) _), by omega, by omega⟩

theorem Ab.set {w0 W : World} {a b : Nat} {xs ys : List Int} (h : Ab w0 W a b xs ys) (i : Nat) (hi : i < 16) (v : Int) : Ab w0 (W.setCell ⟨b, i, none⟩ (.int .u8 v)) a b xs (ys.set i v) := by
  have hne := h.ne
  refine ⟨fun j u hj => ?_, fun j u hj => ?_, fun j hj => ⟨?_, ?_⟩, h.bel.setCell h.lo _, h.ne, h.lo⟩
  · rw [World.cell?_setCell_other _ _ _ _ (by intro e; injection e; omega)]
    exact h.ra j u hj
  · rw [← bv_set, List.getElem?_set] at hj
    by_cases e : i = j
    · subst e
      rw [if_pos rfl] at hj
      have ht := (h.tb i hi).1
      rw [Nat.zero_add] at ht ⊢
      split at hj
      · cases hj
        exact World.cell?_setCell_same' _ _ _ ht
      · cases hj
    · rw [if_neg e] at hj
      rw [World.cell?_setCell_other _ _ _ _ (by intro e'; injection e'; omega)]
      exact h.rb j u hj
  · by_cases e : j = i
    · subst e
      have ht := (h.tb j hj).1
      rw [Nat.zero_add] at ht ⊢
      rw [World.cell?_setCell_same' _ _ _ ht]
      rfl
    · rw [World.cell?_setCell_other _ _ _ _ (by intro e'; injection e'; omega)]
      exact (h.tb j hj).1
  · rw [World.frozen?_setCell]
    exact (h.tb j hj).2

/-- The string of an id whose bytes are zs. -/
theorem string_zs (zs : List Int) (w : World) (hl : zs.length = 16) (hr : ∀ i, i < 16 → 0 ≤ zs.getD i 0 ∧ zs.getD i 0 < 256) :
    Calls Try.prog 5 #[.agg (bv zs).toArray] w fun e w' => ∃ s, e = .returned (.string s) ∧ Text s (fun i => zs.getD i 0) ∧ Below w.heap.size w w' :=
  string_any (bv zs).toArray (fun i => zs.getD i 0) w (fun i hi => by simpa using bv_at zs i (by omega)) hr

set_option maxHeartbeats 400000 in
theorem one_out (A : Array Value) (i v : Int) (w : World) (h : i < 0 ∨ 15 < i) :
    Calls Try.prog 4 #[.agg A, .int .i64 i, .int .u8 v] w fun e w' => e = .returned (.bool true) ∧ Below w.heap.size w w' := by
  rcases h with h | h
  · go_enter Try.func4, Try.ntmps4
    go_wp2
    go_ret
    exact ⟨rfl, (Below.refl _ _).alloc (Nat.le_refl _) _⟩
  · have h' : ¬ i < 0 := by omega
    go_enter Try.func4, Try.ntmps4
    go_wp2
    go_ret
    exact ⟨rfl, (Below.refl _ _).alloc (Nat.le_refl _) _⟩

set_option maxHeartbeats 1600000 in
theorem one_in (zs : List Int) (i : Nat) (v : Int) (w : World) (hl : zs.length = 16) (hr : ∀ j, j < 16 → 0 ≤ zs.getD j 0 ∧ zs.getD j 0 < 256) (hi : i < 16) (v0 : 0 ≤ v) (v1 : v < 256) :
    Calls Try.prog 4 #[.agg (bv zs).toArray, .int .i64 i, .int .u8 v] w fun e w' => e = .returned (.bool true) ∧ Below w.heap.size w w' := by
  have HL : Hid (zs.length = 16) := hl
  have HR : Hid (∀ j, j < 16 → 0 ≤ zs.getD j 0 ∧ zs.getD j 0 < 256) := hr
  have hz : (Try.prog.info? 22).map (·.size) = some (bv zs).length := by rw [bv_length, hl]; exact Try.size22
  have HZ : Hid ((Try.prog.info? 22).map (·.size) = some (bv zs).length) := hz
  have i0 : ¬ (i : Int) < 0 := by omega
  have i1 : ¬ (15 : Int) < (i : Int) := by omega
  have R1 : Hid ((w.alloc (.cells (bv zs).toArray 22)).rangeAt w.heap.size 0 (bv zs)) := range_new w (bv zs) 22
  have T2 : Hid (((w.alloc (.cells (bv zs).toArray 22)).alloc (.cells zero16 22)).there (w.heap.size + 1) 0 (bv zs).toArray.size) := by
    have := there_new (w.alloc (.cells (bv zs).toArray 22)) 22 (bv zs).toArray.size (by simp [bv_length, hl])
    exact (by simpa using this : ((w.alloc (.cells (bv zs).toArray 22)).alloc (.cells zero16 22)).there (w.heap.size + 1) 0 (bv zs).toArray.size)
  have HZ' : Hid ((Try.prog.info? 22).map (·.size) = some (bv zs).toArray.size) := (by simpa using hz : (Try.prog.info? 22).map (·.size) = some (bv zs).toArray.size)
  have HO : Hid ((bv zs).toArray.all (·.oneCell') = true) := all_oneCell_toArray (bv_one zs)
  clear hl hr hz
  go_enter Try.func4, Try.ntmps4
  go_upto_region 4 with (first | (refine wpList_load_mid rfl 22 (.tmp 3) rfl w.heap.size 0 rfl (bv zs) _ R1.out Try.underlying22 rfl HZ.out ?_) | (refine wpList_store_mid rfl 22 (.tmp 7) (.tmp 18) rfl (w.heap.size + 1) 0 (bv zs).toArray rfl rfl T2.out HZ'.out HO.out ?_))
  show Code.wp _ _ _ _ (((w.alloc (.cells (bv zs).toArray 22)).alloc (.cells zero16 22)).setCells (w.heap.size + 1) 0 (bv zs))
  have hab := ab_new w zs HL.out
  obtain ⟨W2, hW2⟩ : ∃ W2, W2 = ((w.alloc (.cells (bv zs).toArray 22)).alloc (.cells zero16 22)).setCells (w.heap.size + 1) 0 (bv zs) := ⟨_, rfl⟩
  rw [← hW2] at hab ⊢
  clear hW2 R1 T2
  obtain ⟨bb, hbb⟩ : ∃ bb, bb = w.heap.size + 1 := ⟨_, rfl⟩
  obtain ⟨ba, hba⟩ : ∃ ba, ba = w.heap.size := ⟨_, rfl⟩
  rw [← hbb, ← hba] at hab ⊢
  clear hbb hba
  have H2 : Hid (Ab w W2 ba bb zs zs) := hab
  obtain ⟨u, hu⟩ := Option.isSome_iff_exists.1 (hab.tb i hi).1
  have hf := (hab.tb i hi).2
  rw [Nat.zero_add] at hu hf
  clear hab
  go_upto_region 5 with fail
  have h3 := H2.out.set i hi v
  obtain ⟨W3, hW3⟩ : ∃ W3, W3 = W2.setCell ⟨bb, i, none⟩ (.int .u8 v) := ⟨_, rfl⟩
  rw [← hW3] at h3 ⊢
  clear hW3 hu hf H2
  obtain ⟨ys, hys⟩ : ∃ ys, ys = zs.set i v := ⟨_, rfl⟩
  rw [← hys] at h3
  have yl : Hid (ys.length = 16) := by rw [hys]; simpa [Hid] using HL.out
  have YI : Hid (ys.getD i 0 = v) := by
    have := HL.out
    rw [hys]
    simp [Hid, List.getD, show i < zs.length by omega]
  have YJ : Hid (∀ j, j ≠ i → ys.getD j 0 = zs.getD j 0) := fun j hj => by
    rw [hys]
    simp [List.getD, List.getElem?_set_ne (fun e => hj e.symm)]
  clear hys
  have YR : Hid (∀ j, j < 16 → 0 ≤ ys.getD j 0 ∧ ys.getD j 0 < 256) := fun j hj => by
    by_cases e : j = i
    · rw [e, YI.out]; omega
    · rw [YJ.out j e]; exact HR.out j hj
  have HY : Hid ((Try.prog.info? 22).map (·.size) = some (bv ys).length) := by unfold Hid; rw [bv_length, yl.out]; exact Try.size22
  have H3 : Hid (Ab w W3 ba bb zs ys) := h3
  clear h3
  go_wp2_with (refine wpList_load_mid rfl 22 (.tmp 3) rfl ba 0 rfl (bv zs) _ H3.out.ra Try.underlying22 rfl HZ.out ?_)
  refine (string_zs zs _ HL.out HR.out).mono ?_
  rintro e w4 ⟨s1, rfl, ht1, hb4⟩
  have HT1 : Hid (Text s1 (fun j => zs.getD j 0)) := ht1
  have ra4 : Hid (w4.rangeAt ba 0 (bv zs)) := range_below H3.out.ra hb4
  have rb4 : Hid (w4.rangeAt bb 0 (bv ys)) := range_below H3.out.rb hb4
  have G4 : Hid (Below w.heap.size w w4) := H3.out.bel.trans (hb4.mono H3.out.bel.size)
  clear ht1 hb4 H3
  go_wp2_with (refine wpList_load_mid rfl 22 (.tmp 7) rfl bb 0 rfl (bv ys) _ rb4.out Try.underlying22 rfl HY.out ?_)
  refine (string_zs ys _ yl.out YR.out).mono ?_
  rintro e w5 ⟨s2, rfl, ht2, hb5⟩
  have HT2 : Hid (Text s2 (fun j => ys.getD j 0)) := ht2
  have ra5 : Hid (w5.rangeAt ba 0 (bv zs)) := range_below ra4.out hb5
  have G5 : Hid (Below w.heap.size w w5) := G4.out.trans (hb5.mono G4.out.size)
  have z1 := HT1.out.size
  have z2 := HT2.out.size
  clear ht2 hb5 ra4 rb4 G4 HY HZ HZ' HO
  rcases (show i < 4 ∨ (4 ≤ i ∧ i < 6) ∨ (6 ≤ i ∧ i < 8) ∨ (8 ≤ i ∧ i < 10) ∨ 10 ≤ i by omega) with c | ⟨c, c'⟩ | ⟨c, c'⟩ | ⟨c, c'⟩ | c
  all_goals
    go_wp2
    first | rw [pos_a i c] | rw [pos_b i c c'] | rw [pos_c i c c'] | rw [pos_d i c c'] | rw [pos_e i c]
    obtain ⟨P, hP⟩ : ∃ P, P = pos i := ⟨_, rfl⟩
    have HP : Hid (P = pos i) := hP
    have p36 : P + 1 < 36 := by rw [hP]; exact (pos_fin ⟨i, hi⟩).1
    rw [← hP]
    clear hP
    go_loopw [11] (fun vk wr => ∃ k q : Nat, k ≤ 36 ∧ vk = .int .i64 k ∧ wr = w5.drewN q) (fun vk _ => 36 - (intOf vk).toNat)
    case atStart => exact ⟨0, 0, Nat.zero_le _, rfl, rfl⟩
    case round =>
      obtain ⟨k, q, hk, rfl, rfl⟩ := hrel
      by_cases hlt : k < 36
      · by_cases e1 : k = P
        · have b1 : ((k : Int) == (P : Int)) = true := by simp; omega
          clear e1
          go_wp2
          go_roundw
          case rel => exact ⟨k + 1, _, by omega, by go_num, rfl⟩
          case measure => simp [intOf]; omega
        · have b1 : ((k : Int) == (P : Int)) = false := by simp; omega
          by_cases e2 : k = P + 1
          · have b2 : ((k : Int) == (P : Int) + 1) = true := by simp; omega
            clear e1 e2
            go_wp2
            go_roundw
            case rel => exact ⟨k + 1, _, by omega, by go_num, rfl⟩
            case measure => simp [intOf]; omega
          · have b2 : ((k : Int) == (P : Int) + 1) = false := by simp; omega
            have q1 : k < s1.size := by omega
            have q2 : k < s2.size := by omega
            have hsame : (((s1[k]'q1).toNat : Int) != ((s2[k]'q2).toNat : Int)) = false := by
              rw [HT1.out.byte k q1, HT2.out.byte k q2, txt_same (fun j => zs.getD j 0) (fun j => ys.getD j 0) i k hi hlt YJ.out (by rw [← HP.out]; exact e1) (by rw [← HP.out]; exact e2)]
              simp
            clear e1 e2
            go_wp2
            go_quiet (fail)
            go_wp2
            go_roundw
            case rel => exact ⟨k + 1, _, by omega, by go_num, rfl⟩
            case measure => simp [intOf]; omega
      · have ci : w5.cell? ⟨ba, i, none⟩ = some (.int .u8 (zs.getD i 0)) := by
          have := ra5.out i _ (bv_at zs i (by rw [HL.out]; exact hi))
          simpa using this
        obtain ⟨y, hy⟩ : ∃ y, zs.getD i 0 = y := ⟨_, rfl⟩
        rw [hy] at ci
        have HYY : Hid (zs.getD i 0 = y) := hy
        clear hy
        go_wp2_with fail
        refine (pair_at s1 (fun j => zs.getD j 0) i P y _ HP.out HT1.out hi (HR.out i hi) HYY.out.symm).mono ?_
        rintro e w6 ⟨rfl, rfl⟩
        go_wp2_with fail
        refine (pair_at s2 (fun j => ys.getD j 0) i P v _ HP.out HT2.out hi (YR.out i hi) YI.out.symm).mono ?_
        rintro e w6 ⟨rfl, rfl⟩
        go_wp2
        go_ret
        exact ⟨rfl, G5.out.trans ⟨rfl, rfl, rfl, Nat.le_refl _, fun _ _ => rfl⟩⟩
end Go.Proofs.Qxb6628810a
