/-
  ID.String: the walk.
-/
import Derived.Test.Qxb6628810aText
import Derived.Deep.RegionWith
namespace Go.Proofs.Qxb6628810a
open Go.RowKit Go.Lib

/-- Thirty-six zero bytes. -/
def zero36 : Array Value := #[.int .u8 0, .int .u8 0, .int .u8 0, .int .u8 0, .int .u8 0, .int .u8 0, .int .u8 0, .int .u8 0, .int .u8 0, .int .u8 0, .int .u8 0, .int .u8 0, .int .u8 0, .int .u8 0, .int .u8 0, .int .u8 0, .int .u8 0, .int .u8 0, .int .u8 0, .int .u8 0, .int .u8 0, .int .u8 0, .int .u8 0, .int .u8 0, .int .u8 0, .int .u8 0, .int .u8 0, .int .u8 0, .int .u8 0, .int .u8 0, .int .u8 0, .int .u8 0, .int .u8 0, .int .u8 0, .int .u8 0, .int .u8 0]

/-- The text's row (block bt) holds f; the id's row (block bi) holds the bytes g; what was there in w0 is as it was. -/
structure St (w0 w : World) (bi bt : Nat) (g : Nat → Int) (f : Nat → Value) : Prop where
  row : w.rowIs bt 32 36 f
  src : ∀ i, i < 16 → w.cell? ⟨bi, i, none⟩ = some (.int .u8 (g i))
  bel : Below w0.heap.size w0 w
  lo : w0.heap.size ≤ bt
  ne : bi < bt

theorem St.drew {w0 w : World} {bi bt : Nat} {g : Nat → Int} {f : Nat → Value} (h : St w0 w bi bt g f) : St w0 w.drew bi bt g f :=
  ⟨h.row.drew, h.src, h.bel.drew, h.lo, h.ne⟩

theorem St.set {w0 w : World} {bi bt : Nat} {g : Nat → Int} {f : Nat → Value} (h : St w0 w bi bt g f) (j : Nat) (v : Value) : St w0 (w.setCell ⟨bt, j, none⟩ v) bi bt g (fun k => if k = j then v else f k) :=
  ⟨h.row.set j v, fun i hi => by
    rw [World.cell?_setCell_other _ _ _ _ (by have := h.ne; intro e; injection e; omega)]
    exact h.src i hi, h.bel.setCell h.lo v, h.lo, h.ne⟩

theorem St.some {w0 w : World} {bi bt : Nat} {g : Nat → Int} {f : Nat → Value} (h : St w0 w bi bt g f) (j : Nat) (hj : j < 36) : ∃ v, w.cell? ⟨bt, j, none⟩ = some v := ⟨_, h.row.cell hj⟩

theorem st_new (w : World) (A : Array Value) (g : Nat → Int) (hA : ∀ i, i < 16 → A[i]? = some (.int .u8 (g i))) :
    St w ((w.alloc (.cells A 23)).alloc (.cells zero36 32)) w.heap.size (w.heap.size + 1) g (fun _ => .int .u8 0) := by
  refine ⟨?_, fun i hi => ?_, ((Below.refl _ _).alloc (Nat.le_refl _) _).alloc (by simp) _, by omega, by omega⟩
  · have h := World.rowIs_alloc (w.alloc (.cells A 23)) zero36 32 (fun _ => .int .u8 0) (fun i hi => by
      have key : ∀ n : Fin 36, zero36[n.val]? = some (Value.int .u8 0) := by
        intro n
        match n with
        | ⟨n, hn⟩ =>
          have : zero36.toList = List.replicate 36 (Value.int .u8 0) := rfl
          rw [← Array.getElem?_toList, this]
          rw [List.getElem?_replicate, if_pos hn]
      exact key ⟨i, hi⟩)
    have e : zero36.size = 36 := rfl
    rw [e] at h
    simpa using h
  · rw [World.cell?_alloc_past]
    · rw [← hA i hi]
      simp [go_sem]
    · simp

/-- What the text's row holds, statement by statement. -/
def F0 : Nat → Value := fun _ => .int .u8 0
def F1 (g : Nat → Int) : Nat → Value := Rw F0 0 (fun i => g (0 + i)) 4
def F2 (g : Nat → Int) : Nat → Value := fun k => if k = 8 then .int .u8 45 else F1 g k
def F3 (g : Nat → Int) : Nat → Value := Rw (F2 g) 9 (fun i => g (4 + i)) 2
def F4 (g : Nat → Int) : Nat → Value := fun k => if k = 13 then .int .u8 45 else F3 g k
def F5 (g : Nat → Int) : Nat → Value := Rw (F4 g) 14 (fun i => g (6 + i)) 2
def F6 (g : Nat → Int) : Nat → Value := fun k => if k = 18 then .int .u8 45 else F5 g k
def F7 (g : Nat → Int) : Nat → Value := Rw (F6 g) 19 (fun i => g (8 + i)) 2
def F8 (g : Nat → Int) : Nat → Value := fun k => if k = 23 then .int .u8 45 else F7 g k
def F9 (g : Nat → Int) : Nat → Value := Rw (F8 g) 24 (fun i => g (10 + i)) 6

theorem hyp_false {j : Nat} (h8 : j ≠ 8) (h13 : j ≠ 13) (h18 : j ≠ 18) (h23 : j ≠ 23) : ¬ hyp j = true := by
  unfold hyp
  simp [h8, h13, h18, h23]

theorem f9_txt (g : Nat → Int) (j : Nat) (hj : j < 36) : F9 g j = .int .u8 (txt g j) := by
  by_cases c24 : 24 ≤ j
  · unfold F9 Rw txt ownB ownP
    rw [if_pos (by omega), if_neg (hyp_false (by omega) (by omega) (by omega) (by omega)), if_neg (by omega), if_neg (by omega), if_neg (by omega), if_neg (by omega), if_neg (by omega), if_neg (by omega), if_neg (by omega), if_neg (by omega)]
  have e9 : F9 g j = F8 g j := by unfold F9 Rw; rw [if_neg (by omega)]
  rw [e9]
  by_cases c23 : j = 23
  · subst c23
    rfl
  have e8 : F8 g j = F7 g j := by unfold F8; rw [if_neg c23]
  rw [e8]
  by_cases c19 : 19 ≤ j
  · unfold F7 Rw txt ownB ownP
    rw [if_pos (by omega), if_neg (hyp_false (by omega) (by omega) (by omega) (by omega)), if_neg (by omega), if_neg (by omega), if_neg (by omega), if_pos (by omega), if_neg (by omega), if_neg (by omega), if_neg (by omega), if_pos (by omega)]
  have e7 : F7 g j = F6 g j := by unfold F7 Rw; rw [if_neg (by omega)]
  rw [e7]
  by_cases c18 : j = 18
  · subst c18
    rfl
  have e6 : F6 g j = F5 g j := by unfold F6; rw [if_neg c18]
  rw [e6]
  by_cases c14 : 14 ≤ j
  · unfold F5 Rw txt ownB ownP
    rw [if_pos (by omega), if_neg (hyp_false (by omega) (by omega) (by omega) (by omega)), if_neg (by omega), if_neg (by omega), if_pos (by omega), if_neg (by omega), if_neg (by omega), if_pos (by omega)]
  have e5 : F5 g j = F4 g j := by unfold F5 Rw; rw [if_neg (by omega)]
  rw [e5]
  by_cases c13 : j = 13
  · subst c13
    rfl
  have e4 : F4 g j = F3 g j := by unfold F4; rw [if_neg c13]
  rw [e4]
  by_cases c9 : 9 ≤ j
  · unfold F3 Rw txt ownB ownP
    rw [if_pos (by omega), if_neg (hyp_false (by omega) (by omega) (by omega) (by omega)), if_neg (by omega), if_pos (by omega), if_neg (by omega), if_pos (by omega)]
  have e3 : F3 g j = F2 g j := by unfold F3 Rw; rw [if_neg (by omega)]
  rw [e3]
  by_cases c8 : j = 8
  · subst c8
    rfl
  have e2 : F2 g j = F1 g j := by unfold F2; rw [if_neg c8]
  rw [e2]
  unfold F1 Rw txt ownB ownP
  rw [if_pos (by omega), if_neg (hyp_false (by omega) (by omega) (by omega) (by omega)), if_pos (by omega), if_pos (by omega)]
  simp

theorem ownB_lt (j : Nat) (h : j < 36) : ownB j < 16 := by unfold ownB; split <;> (try split) <;> (try split) <;> (try split) <;> omega

theorem txt_range (g : Nat → Int) (hr : ∀ i, i < 16 → 0 ≤ g i ∧ g i < 256) (j : Nat) (h : j < 36) : 45 ≤ txt g j ∧ txt g j ≤ 102 := by
  unfold txt
  split
  · omega
  · obtain ⟨a, b⟩ := hr _ (ownB_lt j h)
    have := hx_range (g (ownB j)) (ownP j) a b
    omega

/-- The numbers of the text. -/
def nums (g : Nat → Int) : List Int := (List.range 36).map (txt g)
theorem nums_length (g : Nat → Int) : (nums g).length = 36 := by simp [nums]
theorem nums_at (g : Nat → Int) (i : Nat) (h : i < 36) : (nums g).getD i 0 = txt g i := getD_map_range (txt g) 36 i h

theorem text_of (g : Nat → Int) (hr : ∀ i, i < 16 → 0 ≤ g i ∧ g i < 256) : Text (strOfNums (nums g)) g := by
  refine ⟨by rw [strOfNums_size, nums_length], fun k h => ?_⟩
  have hk : k < 36 := by rw [strOfNums_size, nums_length] at h; exact h
  have e : ((strOfNums (nums g))[k]'h) = UInt8.ofNat (txt g k).toNat := by
    have e1 : ((strOfNums (nums g))[k]'h) = (strOfNums (nums g)).data.toList[k]'(by simpa using h) := rfl
    rw [e1]
    simp only [strOfNums_data, nums, List.getElem_map, List.getElem_range]
  obtain ⟨a, b⟩ := txt_range g hr k hk
  rw [e, UInt8.toNat_ofNat']
  omega

theorem st_enc (w0 w : World) (bi bt od nd cd o n cs : Nat) (g : Nat → Int) (f : Nat → Value) (h : St w0 w bi bt g f) (hr : ∀ i, i < 16 → 0 ≤ g i ∧ g i < 256) (ho : o + n ≤ 16) (hfit : od + nd ≤ 36) (hlen : 2 * n ≤ nd) :
    Calls Try.prog 10 #[.slice (some ⟨bt, od, none⟩) nd cd, .slice (some ⟨bi, o, none⟩) n cs] w fun e w' => e = .returned (.int .i64 ((n : Int) * 2)) ∧ St w0 w' bi bt g (Rw f od (fun i => g (o + i)) n) := by
  have hne := h.ne
  refine (enc_at 32 bt od nd cd f bi o n cs g w hr h.src ho h.row hfit hlen (by omega)).mono ?_
  rintro e w' ⟨rfl, h1, h2⟩
  refine ⟨rfl, h1, fun i hi => h2.cell (h.src i hi) (by simp; omega), h.bel.grown h2 h.bel.size (fun k hk => ?_), h.lo, h.ne⟩
  cases hk
  exact h.lo

set_option maxHeartbeats 1600000 in
theorem string_any (A : Array Value) (g : Nat → Int) (w : World) (hA : ∀ i, i < 16 → A[i]? = some (.int .u8 (g i))) (hr : ∀ i, i < 16 → 0 ≤ g i ∧ g i < 256) :
    Calls Try.prog 5 #[.agg A] w fun e w' => ∃ s, e = .returned (.string s) ∧ Text s g ∧ Below w.heap.size w w' := by
  have HR : Hid (∀ i, i < 16 → 0 ≤ g i ∧ g i < 256) := hr
  have S0 := st_new w A g hA
  clear hA hr
  go_enter Try.func5, Try.ntmps5
  go_wp2_with fail
  show Code.wp _ _ _ _ ((w.alloc (.cells A 23)).alloc (.cells zero36 32))
  obtain ⟨W, hW⟩ : ∃ W, W = (w.alloc (.cells A 23)).alloc (.cells zero36 32) := ⟨_, rfl⟩
  obtain ⟨bt, hbt⟩ : ∃ bt, bt = w.heap.size + 1 := ⟨_, rfl⟩
  obtain ⟨bi, hbi⟩ : ∃ bi, bi = w.heap.size := ⟨_, rfl⟩
  rw [← hW, ← hbt, ← hbi]
  rw [← hW, ← hbt, ← hbi] at S0
  have H0 : Hid (St w W bi bt g F0) := S0
  clear hW hbt hbi S0
  go_region_with (go_at_call 10; refine (st_enc w _ bi bt 0 8 _ 0 4 _ g F0 ?_ HR.out ?_ ?_ ?_).mono ?_; exact H0.out.drew; omega; omega; omega; rintro e w1 ⟨rfl, h1⟩)
  have H1 : Hid (St w w1 bi bt g (F1 g)) := h1
  obtain ⟨v1, c1⟩ := h1.some 8 (by omega)
  have f1 := h1.row.frozen 8
  clear h1 H0
  go_wp2_with fail
  have H2 : Hid (St w (w1.setCell ⟨bt, 8, none⟩ (.int .u8 45)) bi bt g (F2 g)) := H1.out.set 8 (.int .u8 45)
  clear H1 c1 f1
  go_region_with (go_at_call 10; refine (st_enc w _ bi bt 9 4 _ 4 2 _ g (F2 g) ?_ HR.out ?_ ?_ ?_).mono ?_; exact H2.out.drew; omega; omega; omega; rintro e w3 ⟨rfl, h3⟩)
  have H3 : Hid (St w w3 bi bt g (F3 g)) := h3
  obtain ⟨v3, c3⟩ := h3.some 13 (by omega)
  have f3 := h3.row.frozen 13
  clear h3 H2
  go_wp2_with fail
  have H4 : Hid (St w (w3.setCell ⟨bt, 13, none⟩ (.int .u8 45)) bi bt g (F4 g)) := H3.out.set 13 (.int .u8 45)
  clear H3 c3 f3
  go_region_with (go_at_call 10; refine (st_enc w _ bi bt 14 4 _ 6 2 _ g (F4 g) ?_ HR.out ?_ ?_ ?_).mono ?_; exact H4.out.drew; omega; omega; omega; rintro e w5 ⟨rfl, h5⟩)
  have H5 : Hid (St w w5 bi bt g (F5 g)) := h5
  obtain ⟨v5, c5⟩ := h5.some 18 (by omega)
  have f5 := h5.row.frozen 18
  clear h5 H4
  go_wp2_with fail
  have H6 : Hid (St w (w5.setCell ⟨bt, 18, none⟩ (.int .u8 45)) bi bt g (F6 g)) := H5.out.set 18 (.int .u8 45)
  clear H5 c5 f5
  go_region_with (go_at_call 10; refine (st_enc w _ bi bt 19 4 _ 8 2 _ g (F6 g) ?_ HR.out ?_ ?_ ?_).mono ?_; exact H6.out.drew; omega; omega; omega; rintro e w7 ⟨rfl, h7⟩)
  have H7 : Hid (St w w7 bi bt g (F7 g)) := h7
  obtain ⟨v7, c7⟩ := h7.some 23 (by omega)
  have f7 := h7.row.frozen 23
  clear h7 H6
  go_wp2_with fail
  have H8 : Hid (St w (w7.setCell ⟨bt, 23, none⟩ (.int .u8 45)) bi bt g (F8 g)) := H7.out.set 23 (.int .u8 45)
  clear H7 c7 f7
  go_region_with (go_at_call 10; refine (st_enc w _ bi bt 24 12 _ 10 6 _ g (F8 g) ?_ HR.out ?_ ?_ ?_).mono ?_; exact H8.out.drew; omega; omega; omega; rintro e w9 ⟨rfl, h9⟩)
  have H9 : Hid (St w w9 bi bt g (F9 g)) := h9
  clear h9 H8
  have hcv := run_convert_bytes_arg (P := Try.prog) w9 34 5 Try.underlying34 Try.underlying5 bt 0 36 36 (nums g) (nums_length g) (fun i hi => by rw [Nat.zero_add, H9.out.row.cell hi, nums_at g i hi, f9_txt g i hi]) 9 Try.underlying9
  have ht := text_of g HR.out
  generalize strOfNums (nums g) = s at hcv ht
  have HT : Hid (Text s g) := ht
  clear ht
  go_wp2
  go_ret
  exact ⟨s, rfl, HT.out, H9.out.bel⟩
end Go.Proofs.Qxb6628810a
