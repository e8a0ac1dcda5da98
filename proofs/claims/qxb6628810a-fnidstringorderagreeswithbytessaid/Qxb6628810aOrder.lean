/-
  FnIDStringOrderAgreesWithBytes: the walk.
-/
import Derived.Test.Qxb6628810aCmp
import Derived.Test.Qxb6628810aDec
import Derived.Stop.BytesEq
import Derived.Deep.RegionHeld3
namespace Go.Proofs.Qxb6628810a
open Go.RowKit Go.Lib

/-- The two ids' rows; what was there in w0 is as it was. -/
structure Or (w0 W : World) (a b : Nat) (xs ys : List Int) : Prop where
  ra : W.rangeAt a 0 (bv xs)
  rb : W.rangeAt b 0 (bv ys)
  bel : Below w0.heap.size w0 W

theorem Or.below {w0 W W' : World} {a b : Nat} {xs ys : List Int} (h : Or w0 W a b xs ys) (hb : Below W.heap.size W W') : Or w0 W' a b xs ys :=
  ⟨range_below h.ra hb, range_below h.rb hb, h.bel.trans (hb.mono h.bel.size)⟩

theorem or_new (w : World) (xs ys : List Int) : Or w ((w.alloc (.cells (bv xs).toArray 22)).alloc (.cells (bv ys).toArray 22)) w.heap.size (w.heap.size + 1) xs ys := by
  refine ⟨World.rangeAt_alloc (range_new w (bv xs) 22) _, ?_, ((Below.refl _ _).alloc (Nat.le_refl _) _).alloc (by simp) _⟩
  have h := range_new (w.alloc (.cells (bv xs).toArray 22)) (bv ys) 22
  simpa using h

/-- A whole row stored into a new variable. -/
theorem below_var (w : World) (o : Obj) (vs : List Value) : Below w.heap.size w ((w.alloc o).setCells w.heap.size 0 vs) :=
  below_cells (Nat.le_refl _) _ _ _ ((Below.refl _ _).alloc (Nat.le_refl _) _)

/-- A load of a whole row under a guard that says yes. -/
theorem load_want {P : Program} {ops : Array Oper} {rest : List Oper} {op : Oper} {a : Act} {w : World} {Q : Exit → Act → World → Prop} (hw : Region.wanted op (yielded ops a.tmps) = true) (ty : TypeId) (x : Operand) (ho : op.op = .load ty x)
    (b o : Nat) (hx : a.eval x = .pointer (some ⟨b, o, none⟩)) (cs : List Value) (d : TypeDesc) (hc : w.rangeAt b o cs)
    (hu : P.underlying ty = some d) (hd : d.isRow = true) (hi : (P.info? ty).map (·.size) = some cs.length)
    (h : wpList P ops Q rest (a.put op.dst (.agg cs.toArray)) w) : wpList P ops Q (op :: rest) a w :=
  BigFrame.wpList_want hw fun _ hK => wp_load_mid ty x ho b o hx cs d hc hu hd hi (hK _ _ h)

theorem bv_cells (zs : List Int) (hl : zs.length = 16) (hr : ∀ j, j < 16 → 0 ≤ zs.getD j 0 ∧ zs.getD j 0 < 256) : bv zs = (zs.map fun n => UInt8.ofNat n.toNat).map fun u => Value.int .u8 (u.toNat : Int) := by
  unfold bv
  rw [List.map_map]
  apply List.ext_getElem (by simp)
  intro i h1 h2
  have hi : i < zs.length := by simpa using h1
  have e : zs.getD i 0 = zs[i] := by simp [List.getD, hi]
  have hb : 0 ≤ zs[i] ∧ zs[i] < 256 := by rw [← e]; exact hr i (by omega)
  simp only [List.getElem_map, Function.comp, UInt8.toNat_ofNat']
  congr 1
  generalize zs[i] = x at hb
  show x = ((x.toNat % 2 ^ 8 : Nat) : Int)
  omega

theorem Try.size5 (w : World) : (sizeOf 5).run Try.prog w = .ok 1 w := by kernel_rfl

/-- An id equals itself. -/
theorem same_id (zs : List Int) (hl : zs.length = 16) (hr : ∀ j, j < 16 → 0 ≤ zs.getD j 0 ∧ zs.getD j 0 < 256) (w : World) :
    (Op.equalIn 10000 22 (.agg (bv zs).toArray) (.agg (bv zs).toArray)).run Try.prog w = .ok true w := by
  rw [bv_cells zs hl hr]
  generalize hu : (zs.map fun n => UInt8.ofNat n.toNat) = us
  have hus : us.length = 16 := by rw [← hu]; simpa using hl
  have h : (Op.equalIn (9998 + 2) 22 (.agg (us.map fun u => Value.int .u8 (u.toNat : Int)).toArray) (.agg (us.map fun u => Value.int .u8 (u.toNat : Int)).toArray)).run Try.prog w = .ok (us == us) w :=
    run_equalIn_bytes (P := Try.prog) w 9998 22 5 16 Try.underlying22 Try.underlying5 Try.size5 us us hus hus
  simpa using h

theorem Try.guard22 : Try.prog.eqGuardType Try.prog.depth 22 = false := by kernel_rfl

/-- 'wpAnyH_take', the slot that is written said outright. -/
theorem take_at {P : Program} {md : Region.Mode} {ops : Array Oper} {Q : Exit → Act → World → Prop} {S : World → Prop} {i : Nat} {oi : Oper} {v : Value} {fuel : Nat} {listed : Array Bool} {a : Act} {w : World} (dst : Option Tmp) (hi : ops[i]? = some oi) (hd : oi.dst = dst)
    (hs : Region.noSelect ops = true) (hf : Region.free md ops listed i = true) (hr : (Region.ready md ops listed).contains i = true)
    (hQ : ∀ c a w, Q (.panic c) (a.put dst v) w → Q (.panic c) a w) (hy : YieldsIf P ops S oi v a) (hS : S w)
    (h : wpAnyH P md ops Q S fuel (listed.setIfInBounds i true) (a.put dst v) w) : wpAnyH P md ops Q S (fuel + 1) listed a w := by
  subst hd
  exact wpAnyH_take hi hs hf hr hQ hy hS h

theorem keepD {W w1 : World} {a b : Nat} {xs ys : List Value} (q : Nat) (h : Below W.heap.size W w1 ∧ w1.rangeAt a 0 xs ∧ w1.rangeAt b 0 ys) : Below W.heap.size W (w1.drewN q) ∧ (w1.drewN q).rangeAt a 0 xs ∧ (w1.drewN q).rangeAt b 0 ys :=
  ⟨h.1.trans ⟨rfl, rfl, rfl, Nat.le_refl _, fun _ _ => rfl⟩, h.2.1, h.2.2⟩
theorem keepB {W w1 w2 : World} {a b : Nat} {xs ys : List Value} (h : Below W.heap.size W w1 ∧ w1.rangeAt a 0 xs ∧ w1.rangeAt b 0 ys) (hb : Below w1.heap.size w1 w2) : Below W.heap.size W w2 ∧ w2.rangeAt a 0 xs ∧ w2.rangeAt b 0 ys :=
  ⟨h.1.trans (hb.mono h.1.size), range_below h.2.1 hb, range_below h.2.2 hb⟩
theorem outB {w W wx : World} {R : Prop} (hG : Below w.heap.size w W) (h : Below W.heap.size W wx ∧ R) : Below w.heap.size w wx := hG.trans (h.1.mono hG.size)

set_option maxHeartbeats 1600000 in
theorem order_any (xs ys : List Int) (w : World) (hx : xs.length = 16) (hy : ys.length = 16) (rx : ∀ j, j < 16 → 0 ≤ xs.getD j 0 ∧ xs.getD j 0 < 256) (ry : ∀ j, j < 16 → 0 ≤ ys.getD j 0 ∧ ys.getD j 0 < 256) :
    Calls Try.prog 3 #[.agg (bv xs).toArray, .agg (bv ys).toArray] w fun e w' => e = .returned (.bool true) ∧ Below w.heap.size w w' := by
  have HX : Hid (xs.length = 16) := hx
  have HY : Hid (ys.length = 16) := hy
  have RX : Hid (∀ j, j < 16 → 0 ≤ xs.getD j 0 ∧ xs.getD j 0 < 256) := rx
  have RY : Hid (∀ j, j < 16 → 0 ≤ ys.getD j 0 ∧ ys.getD j 0 < 256) := ry
  have ZX : Hid ((Try.prog.info? 22).map (·.size) = some (bv xs).length) := by unfold Hid; rw [bv_length, hx]; exact Try.size22
  have ZY : Hid ((Try.prog.info? 22).map (·.size) = some (bv ys).length) := by unfold Hid; rw [bv_length, hy]; exact Try.size22
  have ZX' : Hid ((Try.prog.info? 22).map (·.size) = some (bv xs).toArray.size) := (by simpa using ZX.out : (Try.prog.info? 22).map (·.size) = some (bv xs).toArray.size)
  have ZY' : Hid ((Try.prog.info? 22).map (·.size) = some (bv ys).toArray.size) := (by simpa using ZY.out : (Try.prog.info? 22).map (·.size) = some (bv ys).toArray.size)
  have OX : Hid ((bv xs).toArray.all (·.oneCell') = true) := all_oneCell_toArray (bv_one xs)
  have OY : Hid ((bv ys).toArray.all (·.oneCell') = true) := all_oneCell_toArray (bv_one ys)
  have h0 := or_new w xs ys
  clear hx hy rx ry
  go_enter Try.func3, Try.ntmps3
  go_upto_region 1 with fail
  obtain ⟨W, hW⟩ : ∃ W, W = (w.alloc (.cells (bv xs).toArray 22)).alloc (.cells (bv ys).toArray 22) := ⟨_, rfl⟩
  obtain ⟨b, hb⟩ : ∃ b, b = w.heap.size + 1 := ⟨_, rfl⟩
  obtain ⟨a, ha⟩ : ∃ a, a = w.heap.size := ⟨_, rfl⟩
  rw [← hW, ← hb, ← ha] at h0 ⊢
  have H0 : Hid (Or w W a b xs ys) := h0
  clear hW hb ha h0
  go_wp2_with (refine wpList_load_mid rfl 22 (.tmp 2) rfl a 0 rfl (bv xs) _ H0.out.ra Try.underlying22 rfl ZX.out ?_)
  refine (string_zs xs _ HX.out RX.out).mono ?_
  rintro e w1 ⟨s1, rfl, ht1, hb1⟩
  have T1 : Hid (Text s1 (fun j => xs.getD j 0)) := ht1
  have H1 : Hid (Or w w1 a b xs ys) := H0.out.below hb1
  clear ht1 hb1 H0
  go_wp2_with (refine wpList_load_mid rfl 22 (.tmp 3) rfl b 0 rfl (bv ys) _ H1.out.rb Try.underlying22 rfl ZY.out ?_)
  refine (string_zs ys _ HY.out RY.out).mono ?_
  rintro e w2 ⟨s2, rfl, ht2, hb2⟩
  have T2 : Hid (Text s2 (fun j => ys.getD j 0)) := ht2
  have H2 : Hid (Or w w2 a b xs ys) := H1.out.below hb2
  clear ht2 hb2 H1
  go_wp2_with fail
  refine (dec_any s1 xs _ HX.out RX.out T1.out).mono ?_
  rintro e w3 ⟨rfl, hb3⟩
  have H3 : Hid (Or w w3 a b xs ys) := H2.out.below hb3
  clear hb3 H2
  have V3 : Hid ((w3.alloc (.cells zero16 22)).there w3.heap.size 0 (bv xs).toArray.size) := there_new w3 22 _ (by simp [bv_length, HX.out])
  go_upto_region 4 with (refine wpList_store_mid rfl 22 (.tmp 7) (.tmp 18) rfl w3.heap.size 0 (bv xs).toArray rfl rfl V3.out ZX'.out OX.out ?_)
  show Code.wp _ _ _ _ ((w3.alloc (.cells zero16 22)).setCells w3.heap.size 0 (bv xs))
  have hb4 := below_var w3 (.cells zero16 22) (bv xs)
  have hd4 := World.rangeAt_setCells_same (w3.alloc (.cells zero16 22)) w3.heap.size 0 (bv xs) (by simpa using V3.out)
  obtain ⟨W4, hW4⟩ : ∃ W4, W4 = (w3.alloc (.cells zero16 22)).setCells w3.heap.size 0 (bv xs) := ⟨_, rfl⟩
  obtain ⟨d, hd⟩ : ∃ d, d = w3.heap.size := ⟨_, rfl⟩
  rw [← hW4] at hb4 hd4 ⊢
  have H4 : Hid (Or w W4 a b xs ys) := H3.out.below hb4
  rw [← hd] at hd4 ⊢
  have D4 : Hid (W4.rangeAt d 0 (bv xs)) := hd4
  clear hb4 hd4 hW4 hd H3 V3
  go_wp2_with fail
  refine (dec_any s2 ys _ HY.out RY.out T2.out).mono ?_
  rintro e w5 ⟨rfl, hb5⟩
  have H5 : Hid (Or w w5 a b xs ys) := H4.out.below hb5
  have D5 : Hid (w5.rangeAt d 0 (bv xs)) := range_below D4.out hb5
  clear hb5 H4 D4
  have V5 : Hid ((w5.alloc (.cells zero16 22)).there w5.heap.size 0 (bv ys).toArray.size) := there_new w5 22 _ (by simp [bv_length, HY.out])
  go_upto_region 5 with (refine wpList_store_mid rfl 22 (.tmp 9) (.tmp 23) rfl w5.heap.size 0 (bv ys).toArray rfl rfl V5.out ZY'.out OY.out ?_)
  show Code.wp _ _ _ _ ((w5.alloc (.cells zero16 22)).setCells w5.heap.size 0 (bv ys))
  have hb6 := below_var w5 (.cells zero16 22) (bv ys)
  have hd6 := World.rangeAt_setCells_same (w5.alloc (.cells zero16 22)) w5.heap.size 0 (bv ys) (by simpa using V5.out)
  obtain ⟨W6, hW6⟩ : ∃ W6, W6 = (w5.alloc (.cells zero16 22)).setCells w5.heap.size 0 (bv ys) := ⟨_, rfl⟩
  obtain ⟨f, hf⟩ : ∃ f, f = w5.heap.size := ⟨_, rfl⟩
  rw [← hW6] at hb6 hd6 ⊢
  have H6 : Hid (Or w W6 a b xs ys) := H5.out.below hb6
  have D6 : Hid (W6.rangeAt d 0 (bv xs)) := range_below D5.out hb6
  rw [← hf] at hd6 ⊢
  have E6 : Hid (W6.rangeAt f 0 (bv ys)) := hd6
  clear hb6 hd6 hW6 hf H5 D5 V5
  have sx := same_id xs HX.out RX.out
  have sy := same_id ys HY.out RY.out
  have gq := Try.guard22
  go_wp2_with (first
    | (refine wpList_load_mid rfl 22 (.tmp 7) rfl d 0 rfl (bv xs) _ D6.out Try.underlying22 rfl ZX.out ?_)
    | (refine wpList_load_mid rfl 22 (.tmp 2) rfl a 0 rfl (bv xs) _ H6.out.ra Try.underlying22 rfl ZX.out ?_)
    | (refine load_want rfl 22 (.tmp 9) rfl f 0 rfl (bv ys) _ E6.out Try.underlying22 rfl ZY.out ?_)
    | (refine load_want rfl 22 (.tmp 3) rfl b 0 rfl (bv ys) _ H6.out.rb Try.underlying22 rfl ZY.out ?_))
  have S0 : Below W6.heap.size W6 W6.drew ∧ W6.drew.rangeAt a 0 (bv xs) ∧ W6.drew.rangeAt b 0 (bv ys) := ⟨(Below.refl _ _).drew, H6.out.ra, H6.out.rb⟩
  clear sx sy gq D6 E6
  refine wp_region_noPanic ?_
  refine wp_region_held_drew (S := fun w' => Below W6.heap.size W6 w' ∧ w'.rangeAt a 0 (bv xs) ∧ w'.rangeAt b 0 (bv ys)) (by kernel_rfl) S0 (fun hH => ?_)
  refine take_at (i := 3) (v := .agg (bv xs).toArray) (some 42) rfl rfl (by kernel_rfl) (by kernel_rfl) (by kernel_rfl) (fun _ _ _ h => h) (yieldsIf_load_mid (by rfl) 22 (.tmp 2) rfl a 0 rfl (bv xs) _ (fun _ h => h.2.1) Try.underlying22 rfl ZX.out) hH ?_
  simp only [Act.put, List.setIfInBounds_toArray, List.set_cons_zero, List.set_cons_succ]
  refine take_at (i := 4) (v := .agg (bv ys).toArray) (some 43) rfl rfl (by kernel_rfl) (by kernel_rfl) (by kernel_rfl) (fun _ _ _ h => h) (yieldsIf_load_mid (by rfl) 22 (.tmp 3) rfl b 0 rfl (bv ys) _ (fun _ h => h.2.2) Try.underlying22 rfl ZY.out) hH ?_
  simp only [Act.put, List.setIfInBounds_toArray, List.set_cons_zero, List.set_cons_succ]
  refine take_at (i := 0) (v := .string s1) (some 39) rfl rfl (by kernel_rfl) (by kernel_rfl) (by kernel_rfl) (fun _ _ _ h => h) (Or.inl ⟨by rfl, fun _ _ => by rfl⟩) hH ?_
  simp only [Act.put, List.setIfInBounds_toArray, List.set_cons_zero, List.set_cons_succ]
  refine take_at (i := 1) (v := .string s2) (some 40) rfl rfl (by kernel_rfl) (by kernel_rfl) (by kernel_rfl) (fun _ _ _ h => h) (Or.inl ⟨by rfl, fun _ _ => by rfl⟩) hH ?_
  simp only [Act.put, List.setIfInBounds_toArray, List.set_cons_zero, List.set_cons_succ]
  refine wpAnyH_ready (rs := [2]) (by kernel_rfl) (by simp) ?_
  refine AllReadyH.cons rfl (fun K hK => ?_) AllReadyH.nil
  go_simp
  refine (cmpS_any s1 s2 (txt (fun j => xs.getD j 0)) (txt (fun j => ys.getD j 0)) _ T1.out.size T2.out.size T1.out.byte T2.out.byte).mono ?_
  rintro e wq ⟨r1, rfl, hL1, q1, rfl⟩
  have HL1 : Hid (LexR (txt (fun j => xs.getD j 0)) (txt (fun j => ys.getD j 0)) 36 r1) := hL1
  clear hL1
  dsimp only
  refine hK.out _ _ (keepD q1 S0) (fun hH1 => ?_)
  clear hK K
  refine wpAnyH_ready (rs := [5]) (by kernel_rfl) (by simp) ?_
  refine AllReadyH.cons rfl (fun K hK => ?_) AllReadyH.nil
  go_simp
  refine (cmpB_any xs ys _ HX.out HY.out).mono ?_
  rintro e wz ⟨r2, rfl, hL2, hbz⟩
  have HE : Hid (r1 = r2) := lex_agree HL1.out hL2
  dsimp only
  refine hK.out _ _ (keepB (keepD (1 + q1) ⟨Below.refl _ _, H6.out.ra, H6.out.rb⟩) hbz) (fun hH2 => ?_)
  clear hK K hL2 hbz hH1 HL1
  refine take_at (i := 6) (v := .bool (r1 == r2)) (some 45) rfl rfl (by kernel_rfl) (by kernel_rfl) (by kernel_rfl) (fun _ _ _ h => h) (Or.inl ⟨by rfl, fun _ _ => by go_simp⟩) hH2 ?_
  simp only [Act.put, List.setIfInBounds_toArray, List.set_cons_zero, List.set_cons_succ]
  refine take_at (i := 7) (v := .bool (r1 == r2)) (some 4) rfl rfl (by kernel_rfl) (by kernel_rfl) (by kernel_rfl) (fun _ _ _ h => h) (Or.inl ⟨by rfl, fun _ _ => by rfl⟩) hH2 ?_
  simp only [Act.put, List.setIfInBounds_toArray, List.set_cons_zero, List.set_cons_succ]
  refine wpAnyH_done (by kernel_rfl) ?_ _
  refine NoPanic.normal ?_
  have hfin := outB H6.out.bel hH2
  clear hH2 hH S0
  go_wp2
  go_ret
  exact ⟨by rw [HE.out]; simp, hfin⟩
end Go.Proofs.Qxb6628810a
