/-
  The proof of 'Rows.FnOverComposesAsNearerOwnWinsSaid': the guide's frame for a law (after the shells that the program wrote for this set's other seats), at pointers to integers; the walk lies in Comp.
-/
import Derived.Test.Qxb6628774aRows
import Derived.WalkKit
import Derived.ProofKit
import Derived.OpenShut
import Derived.ShutString
import Derived.ChangeOld
import Derived.Below
import Derived.Test.Qxb6628774aComp
namespace Go.Proofs.Qxb6628774a.fnOverComposesAsNearerOwnWins
open Go.ChangeShapes Go.WideShapes Go.ChangeAt Go.RowKit
set_option linter.unusedVariables false

theorem own : ownKnob Try.prog.godebug = none := by kernel_rfl
theorem laidOut : laidOutB Try.prog = true := by kernel_rfl
theorem cells3 : Try.prog.cellsOf 3 = 1 := by kernel_rfl

set_option maxRecDepth 100000 in
theorem lifted (os : Os) (started : os.Started) (H : Type) (enc : TypeId × Value → H) :
    ReturnsInHanded {} Try.checked os 3 .any (Rows.fnOverComposesAsNearerOwnWinsSpec.pre6 enc Try.prog Try.f3 Rows.fnOverComposesAsNearerOwnWinsRow.domain false) (Rows.fnOverComposesAsNearerOwnWinsSpec.post enc Try.prog Try.f3 false true false false) := by
  refine returnsInHanded_of_change (C := Try.checked) own started (by kernel_rfl) Try.func3
    (ChangeSpec.witness6 (enc := enc) (C := Try.checked) false ⟨#[], #[.pointer none, .pointer none, .pointer none, .pointer none, .int .i64 0, .int .i64 0], []⟩ 8 (by kernel_rfl) (by kernel_rfl) (by kernel_rfl) (by kernel_rfl)) ?_
  intro W base args ds gs before hval0 hW hcnd _
  have hval : ∀ (j : Nat) t v, Try.f3.params[j]? = some t → args[j]? = some v → Value.okWide Try.prog W .any base t v := hval0
  have hW' := hW
  obtain ⟨p, q, hA0, hV, rfl, hfz, hnd⟩ := hW
  have hA : DataW.TrodAll enc Try.prog W 0 (fun _ => true) true Try.f3.params.toList args.toList ds p := hA0
  rw [Try.params3] at hA hval
  obtain ⟨v0, vs0, d0, ds0, p0, q0, hargs, rfl, rfl, h0, r0⟩ := trodAll_cons hA
  obtain ⟨v1, vs1, d1, ds1, p1, q1, rfl, rfl, rfl, h1, r1⟩ := trodAll_cons r0
  obtain ⟨v2, vs2, d2, ds2, p2, q2, rfl, rfl, rfl, h2, r2⟩ := trodAll_cons r1
  obtain ⟨v3, vs3, d3, ds3, p3, q3, rfl, rfl, rfl, h3, r3⟩ := trodAll_cons r2
  obtain ⟨v4, vs4, d4, ds4, p4, q4, rfl, rfl, rfl, h4, r4⟩ := trodAll_cons r3
  obtain ⟨v5, vs5, d5, ds5, p5, q5, rfl, rfl, rfl, h5, r5⟩ := trodAll_cons r4
  obtain ⟨rfl, rfl, rfl⟩ := trodAll_nil r5
  obtain rfl : args = #[v0, v1, v2, v3, v4, v5] := by cases args; simp_all
  obtain ⟨rfl, rfl⟩ := trodVars_none hV
  have k0 := h0
  have lt0 : ∀ x ∈ p0, x.block < W.heap.size := by obtain ⟨m, hm⟩ := k0; exact DataW.trod_lt m _ _ _ hm
  obtain ⟨a0, o0, rfl, P0⟩ : ∃ a o, v0 = .pointer a ∧ Ptr W a o := by
    rcases open_ptr_int Try.underlying22 Try.underlying3 cells3 (hval 0 22 v0 rfl rfl) h0 with ⟨hv, _, _⟩ | ⟨b, off, n, hv, _, _, hcell, _⟩
    · exact ⟨_, _, hv, .inl ⟨rfl, rfl⟩⟩
    · exact ⟨_, _, hv, .inr ⟨b, off, n, rfl, rfl, hcell⟩⟩
  have k1 := h1
  have lt1 : ∀ x ∈ p1, x.block < W.heap.size := by obtain ⟨m, hm⟩ := k1; exact DataW.trod_lt m _ _ _ hm
  obtain ⟨a1, o1, rfl, P1⟩ : ∃ a o, v1 = .pointer a ∧ Ptr W a o := by
    rcases open_ptr_int Try.underlying22 Try.underlying3 cells3 (hval 1 22 v1 rfl rfl) h1 with ⟨hv, _, _⟩ | ⟨b, off, n, hv, _, _, hcell, _⟩
    · exact ⟨_, _, hv, .inl ⟨rfl, rfl⟩⟩
    · exact ⟨_, _, hv, .inr ⟨b, off, n, rfl, rfl, hcell⟩⟩
  have k2 := h2
  have lt2 : ∀ x ∈ p2, x.block < W.heap.size := by obtain ⟨m, hm⟩ := k2; exact DataW.trod_lt m _ _ _ hm
  obtain ⟨a2, o2, rfl, P2⟩ : ∃ a o, v2 = .pointer a ∧ Ptr W a o := by
    rcases open_ptr_int Try.underlying22 Try.underlying3 cells3 (hval 2 22 v2 rfl rfl) h2 with ⟨hv, _, _⟩ | ⟨b, off, n, hv, _, _, hcell, _⟩
    · exact ⟨_, _, hv, .inl ⟨rfl, rfl⟩⟩
    · exact ⟨_, _, hv, .inr ⟨b, off, n, rfl, rfl, hcell⟩⟩
  have k3 := h3
  have lt3 : ∀ x ∈ p3, x.block < W.heap.size := by obtain ⟨m, hm⟩ := k3; exact DataW.trod_lt m _ _ _ hm
  obtain ⟨a3, o3, rfl, P3⟩ : ∃ a o, v3 = .pointer a ∧ Ptr W a o := by
    rcases open_ptr_int Try.underlying22 Try.underlying3 cells3 (hval 3 22 v3 rfl rfl) h3 with ⟨hv, _, _⟩ | ⟨b, off, n, hv, _, _, hcell, _⟩
    · exact ⟨_, _, hv, .inl ⟨rfl, rfl⟩⟩
    · exact ⟨_, _, hv, .inr ⟨b, off, n, rfl, rfl, hcell⟩⟩
  obtain ⟨a4, rfl, rfl, rfl, w4⟩ := open_int Try.underlying3 (hval 4 3 v4 rfl rfl) h4
  obtain ⟨a5, rfl, rfl, rfl, w5⟩ := open_int Try.underlying3 (hval 5 3 v5 rfl rfl) h5
  clear hA0 hval0
  refine (comp_any a0 a1 a2 a3 o0 o1 o2 o3 a4 a5 W P0 P1 P2 P3).mono fun e W' ⟨he, bel⟩ => ?_
  subst he
  exact ⟨_, rfl, _, _, _, [], _, [], hW', trodAll_mk1 (shut_bool Try.underlying4 _), (trodAll_cons_mk (Below.trod laidOut (by kernel_rfl) (of_decide_eq_true (by kernel_rfl)) k0 bel lt0) (trodAll_cons_mk (Below.trod laidOut (by kernel_rfl) (of_decide_eq_true (by kernel_rfl)) k1 bel lt1) (trodAll_cons_mk (Below.trod laidOut (by kernel_rfl) (of_decide_eq_true (by kernel_rfl)) k2 bel lt2) (trodAll_cons_mk (Below.trod laidOut (by kernel_rfl) (of_decide_eq_true (by kernel_rfl)) k3 bel lt3) (trodAll_cons_mk (shut_int Try.underlying3 w4) (trodAll_cons_mk (shut_int Try.underlying3 w5) trodAll_mk0)))))), rfl, bel.frame _, fun h => by cases h⟩

theorem over : Rows.fnOverComposesAsNearerOwnWinsRow.holds Try.pinned (OpenSpec.ofChange Rows.fnOverComposesAsNearerOwnWinsSpec) :=
  OpenClaim.holds_of_wide 3 Try.f3 rfl rfl rfl rfl rfl rfl rfl ⟨rfl, rfl, rfl, rfl, rfl⟩ rfl rfl rfl rfl rfl (by kernel_rfl) Try.func3 (by kernel_rfl)
    (of_decide_eq_true (by kernel_rfl)) (by unfold Func.isWrapper; first | (rw [if_pos (by decide +kernel)]; kernel_rfl) | (rw [if_neg (by decide +kernel)]; exact ⟨rfl, rfl⟩))
    (fun os started H enc _ => lifted os started H enc)

theorem proved : Rows.FnOverComposesAsNearerOwnWinsSaid := over
#print axioms proved
end Go.Proofs.Qxb6628774a.fnOverComposesAsNearerOwnWins
