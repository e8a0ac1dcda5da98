/-
  An array of sixteen bytes that came in by value: opened.
-/
import Derived.Test.Qxb6628810aOne
import Derived.ProofKit
import Derived.OpenShut
namespace Go.Proofs.Qxb6628810a
open Go.ChangeShapes Go.WideShapes Go.ChangeAt Go.RowKit

theorem Try.cells22 : Try.prog.cellsOf 22 = 16 := by kernel_rfl
theorem Try.cells5 : Try.prog.cellsOf 5 = 1 := by kernel_rfl

/-- The number in a cell. -/
def numOf : Value → Int
  | .int _ n => n
  | _ => 0

theorem open_arr16 {H : Type} {enc : TypeId × Value → H} {W : World} {base b0 : Nat} {sp : Nat → Bool} {held : Bool} {v : Value} {d : DataW H} {p : List MemPlace}
    (hv : Value.okWide Try.prog W .any base 22 v) (h : DataW.Trod enc Try.prog W b0 sp held 22 v d p) :
    ∃ zs : List Int, v = .agg (bv zs).toArray ∧ zs.length = 16 ∧ ∀ j, j < 16 → 0 ≤ zs.getD j 0 ∧ zs.getD j 0 < 256 := by
  obtain ⟨cs, rfl, hsz, _⟩ : ∃ cs, v = .agg cs ∧ cs.size = Try.prog.cellsOf 22 ∧ Row.okWide Try.prog W .any base 22 cs := by
    simpa [Value.okWide, Try.underlying22] using hv
  rw [Try.cells22] at hsz
  obtain ⟨l⟩ := cs
  have hl : l.length = 16 := by simpa using hsz
  obtain ⟨fuel, hf⟩ := h
  have hf' : DataW.trod enc Try.prog W b0 sp held fuel 22 l = some (d, p) := by simpa [Value.cells] using hf
  obtain ⟨xs, m, _, _, _, hxl, hel⟩ := DataW.trod_array Try.underlying22 hf'
  have key : ∀ i, i < 16 → ∃ n, l[i]? = some (.int .u8 n) ∧ 0 ≤ n ∧ n < 256 := fun i hi => by
    have he := hel i hi
    rw [Try.cells5, Nat.mul_one] at he
    have hs : xs[i]? = some (xs[i]'(by omega)) := List.getElem?_eq_getElem (by omega)
    rw [hs] at he
    obtain ⟨n, e1, _, wn⟩ := DataW.trod_int Try.underlying5 he
    have hb := bounds_u8 wn
    refine ⟨n, ?_, by omega, by omega⟩
    have : (l.drop i)[0]? = some (.int .u8 n) := by
      have h1 : ((l.drop i).take 1)[0]? = some (.int .u8 n) := by rw [e1]; rfl
      simpa using h1
    simpa using this
  refine ⟨l.map numOf, ?_, by simpa using hl, fun j hj => ?_⟩
  · have : bv (l.map numOf) = l := by
      apply List.ext_getElem?
      intro i
      by_cases hi : i < 16
      · obtain ⟨n, e, _⟩ := key i hi
        simp [bv, e, numOf]
      · rw [List.getElem?_eq_none (by simp [bv, hl]; omega), List.getElem?_eq_none (by omega)]
    rw [this]
  · obtain ⟨n, e, h0, h1⟩ := key j hj
    have : (l.map numOf).getD j 0 = n := by simp [List.getD, e, numOf]
    rw [this]
    exact ⟨h0, h1⟩
end Go.Proofs.Qxb6628810a
