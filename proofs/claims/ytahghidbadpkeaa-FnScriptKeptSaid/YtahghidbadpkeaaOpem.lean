/- The argument opened: a Mix. -/
import Derived.Test.YtahghidbadpkeaaOpeo
import Derived.Test.YtahghidbadpkeaaMix
set_option linter.unusedVariables false
set_option linter.unusedSimpArgs false
namespace Go.Proofs.Ytahghidbadpkeaa
open Go.ChangeShapes Go.WideShapes Go.ChangeAt Go.RowKit Go.Deep

theorem cellsOf39 : Try.prog.cellsOf 39 = 6 := by kernel_rfl
section
variable {H : Type} {enc : TypeId × Value → H}
theorem open_mix {W : World} {v : Value} {d : DataW H} {ps : List MemPlace} (h : DataW.Trod enc Try.prog W 0 (fun _ => true) true 39 v d ps) (hv : ∃ cs, v = .agg cs) : ∃ x : Mx, v = .agg x.cells := by
  obtain ⟨n, h⟩ := h
  obtain ⟨cs, rfl⟩ := hv
  obtain ⟨xs, k, _, _, hl, hxl, hf⟩ := DataW.trod_struct Try.underlying39 h
  rw [cellsOf39] at hl
  simp only [Value.cells] at hl hf
  match hcs : cs.toList, hl with
  | [a0, a1, a2, a3, a4, a5], _ =>
    rw [hcs] at hf
    have get : ∀ i, i < 6 → ∃ y, xs[i]? = some y := fun i hi => ⟨_, List.getElem?_eq_getElem (by rw [hxl]; simpa using hi)⟩
    obtain ⟨y0, h0⟩ := get 0 (by omega)
    obtain ⟨y1, h1⟩ := get 1 (by omega)
    obtain ⟨y2, h2⟩ := get 2 (by omega)
    obtain ⟨y3, h3⟩ := get 3 (by omega)
    obtain ⟨y4, h4⟩ := get 4 (by omega)
    obtain ⟨y5, h5⟩ := get 5 (by omega)
    have g0 := (hf 0 _ rfl).trans h0
    have g1 := (hf 1 _ rfl).trans h1
    have g2 := (hf 2 _ rfl).trans h2
    have g3 := (hf 3 _ rfl).trans h3
    have g4 := (hf 4 _ rfl).trans h4
    have g5 := (hf 5 _ rfl).trans h5
    simp [cellsOf4] at g0
    simp [cellsOf3] at g1 g2 g3 g4 g5
    obtain ⟨b, e0, _⟩ := DataW.trod_bool Try.underlying4 g0
    obtain ⟨i1, e1, _, _⟩ := DataW.trod_int Try.underlying3 g1
    obtain ⟨i2, e2, _, _⟩ := DataW.trod_int Try.underlying3 g2
    obtain ⟨i3, e3, _, _⟩ := DataW.trod_int Try.underlying3 g3
    obtain ⟨i4, e4, _, _⟩ := DataW.trod_int Try.underlying3 g4
    obtain ⟨i5, e5, _, _⟩ := DataW.trod_int Try.underlying3 g5
    simp only [List.cons.injEq, and_true] at e0 e1 e2 e3 e4 e5
    subst e0; subst e1; subst e2; subst e3; subst e4; subst e5
    refine ⟨⟨b, i1, i2, i3, i4, i5⟩, ?_⟩
    congr 1
    exact Array.toList_inj.1 (by rw [hcs]; rfl)
end
end Go.Proofs.Ytahghidbadpkeaa
