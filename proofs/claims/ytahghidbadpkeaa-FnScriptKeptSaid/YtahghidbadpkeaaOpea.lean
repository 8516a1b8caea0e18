/- The argument opened: a slice of acts. -/
import Derived.Test.YtahghidbadpkeaaOpem
import Derived.Test.YtahghidbadpkeaaActs
set_option linter.unusedVariables false
set_option linter.unusedSimpArgs false
namespace Go.Proofs.Ytahghidbadpkeaa
open Go.ChangeShapes Go.WideShapes Go.ChangeAt Go.RowKit Go.Deep

theorem cellsOf76 : Try.prog.cellsOf 76 = 11 := by kernel_rfl
section
variable {H : Type} {enc : TypeId × Value → H}

theorem mix_of {W : World} {n : Nat} {a0 a1 a2 a3 a4 a5 : Value} {y : DataW H × List MemPlace} (h : DataW.trod enc Try.prog W 0 (fun _ => true) true n 39 [a0, a1, a2, a3, a4, a5] = some y) : ∃ x : Mx, a0 = .bool x.no ∧ a1 = .int .i64 x.a ∧ a2 = .int .i64 x.b ∧ a3 = .int .i64 x.c ∧ a4 = .int .i64 x.m ∧ a5 = .int .i64 x.r := by
  obtain ⟨xs, k, _, _, hl, hxl, hf⟩ := DataW.trod_struct Try.underlying39 h
  have get : ∀ i, i < 6 → ∃ y, xs[i]? = some y := fun i hi => ⟨_, List.getElem?_eq_getElem (by rw [hxl]; simpa using hi)⟩
  obtain ⟨y0, h0⟩ := get 0 (by omega)
  obtain ⟨y1, h1⟩ := get 1 (by omega)
  obtain ⟨y2, h2⟩ := get 2 (by omega)
  obtain ⟨y3, h3⟩ := get 3 (by omega)
  obtain ⟨y4, h4⟩ := get 4 (by omega)
  obtain ⟨y5, h5⟩ := get 5 (by omega)
  have g0 := (hf 0 _ rfl).trans h0
  have g1 := (hf 1 _ rfl).trans h1
  have g2 := (hf 2 _ rfl).trans h2
  have g3 := (hf 3 _ rfl).trans h3
  have g4 := (hf 4 _ rfl).trans h4
  have g5 := (hf 5 _ rfl).trans h5
  simp [cellsOf4] at g0
  simp [cellsOf3] at g1 g2 g3 g4 g5
  obtain ⟨b, e0, _⟩ := DataW.trod_bool Try.underlying4 g0
  obtain ⟨i1, e1, _, _⟩ := DataW.trod_int Try.underlying3 g1
  obtain ⟨i2, e2, _, _⟩ := DataW.trod_int Try.underlying3 g2
  obtain ⟨i3, e3, _, _⟩ := DataW.trod_int Try.underlying3 g3
  obtain ⟨i4, e4, _, _⟩ := DataW.trod_int Try.underlying3 g4
  obtain ⟨i5, e5, _, _⟩ := DataW.trod_int Try.underlying3 g5
  simp only [List.cons.injEq, and_true] at e0 e1 e2 e3 e4 e5
  exact ⟨⟨b, i1, i2, i3, i4, i5⟩, e0, e1, e2, e3, e4, e5⟩

set_option maxRecDepth 100000 in
theorem act_of {W : World} {n : Nat} {cs : List Value} {y : DataW H × List MemPlace} (h : DataW.trod enc Try.prog W 0 (fun _ => true) true n 76 cs = some y) : ∃ a : Ac, cs = ac a := by
  obtain ⟨xs, k, _, _, hl, hxl, hf⟩ := DataW.trod_struct Try.underlying76 h
  rw [cellsOf76] at hl
  match cs, hl with
  | [a0, a1, a2, a3, a4, a5, a6, a7, a8, a9, a10], _ =>
    have get : ∀ i, i < 6 → ∃ y, xs[i]? = some y := fun i hi => ⟨_, List.getElem?_eq_getElem (by rw [hxl]; simpa using hi)⟩
    obtain ⟨y0, h0⟩ := get 0 (by omega)
    obtain ⟨y1, h1⟩ := get 1 (by omega)
    obtain ⟨y2, h2⟩ := get 2 (by omega)
    obtain ⟨y3, h3⟩ := get 3 (by omega)
    obtain ⟨y4, h4⟩ := get 4 (by omega)
    obtain ⟨y5, h5⟩ := get 5 (by omega)
    have g0 := (hf 0 _ rfl).trans h0
    have g1 := (hf 1 _ rfl).trans h1
    have g2 := (hf 2 _ rfl).trans h2
    have g3 := (hf 3 _ rfl).trans h3
    have g4 := (hf 4 _ rfl).trans h4
    have g5 := (hf 5 _ rfl).trans h5
    simp [cellsOf3, cellsOf21, cellsOf39] at g0 g1 g2 g3 g4 g5
    obtain ⟨i0, e0, _, _⟩ := DataW.trod_int Try.underlying3 g0
    obtain ⟨i1, e1, _, _⟩ := DataW.trod_int Try.underlying3 g1
    obtain ⟨i2, e2, _, _⟩ := DataW.trod_int Try.underlying3 g2
    obtain ⟨i3, e3, _, _⟩ := DataW.trod_int Try.underlying21 g3
    obtain ⟨i4, e4, _, _⟩ := DataW.trod_int Try.underlying3 g4
    obtain ⟨x, m0, m1, m2, m3, m4, m5⟩ := mix_of g5
    simp only [List.cons.injEq, and_true] at e0 e1 e2 e3 e4
    subst e0; subst e1; subst e2; subst e3; subst e4; subst m0; subst m1; subst m2; subst m3; subst m4; subst m5
    exact ⟨⟨i0, i1, i2, i3, i4, x⟩, rfl⟩

theorem open_acts {W : World} {v : Value} {d : DataW H} {ps : List MemPlace} (h : DataW.Trod enc Try.prog W 0 (fun _ => true) true 44 v d ps) (hv : ∃ a n c, v = .slice a n c) : ∃ L, Rd ac 11 W v L := by
  obtain ⟨n, h⟩ := h
  obtain ⟨va, vn, vc, rfl⟩ := hv
  rcases open_slice Try.underlying44 h with ⟨hc, hx⟩ | ⟨a, len, cap, m, k, D0, P0, hc, _, hl, hm, hmm, hx, hall⟩
  · simp only [Value.cells, List.cons.injEq, and_true] at hc
    refine ⟨[], ?_⟩
    injection hc with e1 e2 e3
    subst e1; subst e2; subst e3
    exact ⟨_, _, rfl, .inl rfl⟩
  · simp only [Value.cells, List.cons.injEq, and_true] at hc
    injection hc with e1 e2 e3
    subst e1; subst e2; subst e3
    simp only [if_true] at hmm
    subst hmm
    have each : ∀ i, i < m → ∃ q : Ac, ∀ r x, (ac q)[r]? = some x → W.cell? (a.add (i * 11 + r)) = some x := by
      intro i hi
      obtain ⟨cs', h1, h2⟩ := hall i hi
      rw [cellsOf76] at h1
      obtain ⟨_, hlen, hcell⟩ := World.cells?_some h1
      obtain ⟨q, rfl⟩ := act_of h2
      refine ⟨q, fun r x hr => ?_⟩
      have hr' : r < 11 := by rw [← ac_len q]; exact (List.getElem?_eq_some_iff.1 hr).1
      have e0 := hcell r hr'
      rw [add_add] at e0
      rw [e0]
      first | exact hr | simpa using hr
    haveI : Inhabited Ac := ⟨⟨0, 0, 0, 0, 0, ⟨false, 0, 0, 0, 0, 0⟩⟩⟩
    obtain ⟨q, hq⟩ := choose_lt each
    refine ⟨(List.range vn).map q, some a, m, by simp, ?_⟩
    by_cases hz : vn = 0
    · exact .inl (by simp [hz])
    · right
      obtain ⟨sb, so, spot⟩ := a
      have hspot : spot = Option.none := by simpa [Addr.add] using World.cell?_spot (hq 0 (by omega) 0 _ rfl)
      subst hspot
      refine ⟨sb, so, rfl, fl_of ac_len (by omega) (p := fun j => W.cell? ⟨sb, so + j, Option.none⟩) ?_⟩
      intro i p r x hi hr
      have hin : i < vn := by simpa using (List.getElem?_eq_some_iff.1 hi).1
      have hp : p = q i := by simp [hin] at hi; exact hi.symm
      subst hp
      have h0 := hq i (by omega) r x hr
      rw [add_plain] at h0
      exact h0
end
end Go.Proofs.Ytahghidbadpkeaa
