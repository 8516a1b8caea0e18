/- The arguments opened: slices of numbers and of truths. -/
import Derived.Test.YtahghidbadpkeaaOpen
import Derived.Test.YtahghidbadpkeaaDele
set_option linter.unusedVariables false
set_option linter.unusedSimpArgs false
namespace Go.Proofs.Ytahghidbadpkeaa
open Go.ChangeShapes Go.WideShapes Go.ChangeAt Go.RowKit Go.Deep

theorem cellsOf4 : Try.prog.cellsOf 4 = 1 := by kernel_rfl
section
variable {H : Type} {enc : TypeId × Value → H}

theorem open_keys {W : World} {v : Value} {d : DataW H} {ps : List MemPlace} (h : DataW.Trod enc Try.prog W 0 (fun _ => true) true 33 v d ps) (hv : ∃ a n c, v = .slice a n c) : ∃ L, Rd kc 1 W v L := by
  obtain ⟨n, h⟩ := h
  obtain ⟨va, vn, vc, rfl⟩ := hv
  rcases open_slice1 Try.underlying33 cellsOf21 h with ⟨hc, hx⟩ | ⟨a, len, cap, m, k, V0, D0, P0, hc, _, hl, hm, hmm, hx, hall⟩
  · simp only [Value.cells, List.cons.injEq, and_true] at hc
    refine ⟨[], ?_⟩
    injection hc with e1 e2 e3
    subst e1; subst e2; subst e3
    exact ⟨_, _, rfl, .inl rfl⟩
  · simp only [Value.cells, List.cons.injEq, and_true] at hc
    injection hc with e1 e2 e3
    subst e1; subst e2; subst e3
    simp only [if_true] at hmm
    subst hmm
    have hk : ∀ i, i < m → ∃ k : Int, V0 i = .int .i32 k := fun i hi => by
      obtain ⟨Ni, h1, h2, h3⟩ := DataW.trod_int Try.underlying21 (hall i hi).2
      simp only [List.cons.injEq, and_true] at h1
      exact ⟨Ni, h1⟩
    obtain ⟨K, hK⟩ := choose_lt hk
    refine ⟨(List.range vn).map K, some a, m, by simp, ?_⟩
    by_cases hz : vn = 0
    · exact .inl (by simp [hz])
    · right
      obtain ⟨sb, so, spot⟩ := a
      have hspot : spot = Option.none := by simpa [Addr.add] using World.cell?_spot (hall 0 (by omega)).1
      subst hspot
      refine ⟨sb, so, rfl, fl_of kc_len (by omega) (p := fun j => W.cell? ⟨sb, so + j, Option.none⟩) ?_⟩
      intro i p r x hi hr
      have hin : i < vn := by simpa using (List.getElem?_eq_some_iff.1 hi).1
      have hp : p = K i := by simp [hin] at hi; exact hi.symm
      subst hp
      have h0 := (hall i (by omega)).1
      rw [hK i (by omega)] at h0
      match r, hr with
      | 0, hr =>
        have := Option.some.inj hr
        subst this
        rw [add_plain] at h0
        show W.cell? ⟨sb, so + (i * 1 + 0), Option.none⟩ = _
        rw [Nat.mul_one, Nat.add_zero]; exact h0

theorem open_bools {W : World} {v : Value} {d : DataW H} {ps : List MemPlace} (h : DataW.Trod enc Try.prog W 0 (fun _ => true) true 34 v d ps) (hv : ∃ a n c, v = .slice a n c) : ∃ L, Rd bc 1 W v L := by
  obtain ⟨n, h⟩ := h
  obtain ⟨va, vn, vc, rfl⟩ := hv
  rcases open_slice1 Try.underlying34 cellsOf4 h with ⟨hc, hx⟩ | ⟨a, len, cap, m, k, V0, D0, P0, hc, _, hl, hm, hmm, hx, hall⟩
  · simp only [Value.cells, List.cons.injEq, and_true] at hc
    refine ⟨[], ?_⟩
    injection hc with e1 e2 e3
    subst e1; subst e2; subst e3
    exact ⟨_, _, rfl, .inl rfl⟩
  · simp only [Value.cells, List.cons.injEq, and_true] at hc
    injection hc with e1 e2 e3
    subst e1; subst e2; subst e3
    simp only [if_true] at hmm
    subst hmm
    have hk : ∀ i, i < m → ∃ k : Bool, V0 i = .bool k := fun i hi => by
      obtain ⟨Ni, h1, h2⟩ := DataW.trod_bool Try.underlying4 (hall i hi).2
      simp only [List.cons.injEq, and_true] at h1
      exact ⟨Ni, h1⟩
    obtain ⟨K, hK⟩ := choose_lt hk
    refine ⟨(List.range vn).map K, some a, m, by simp, ?_⟩
    by_cases hz : vn = 0
    · exact .inl (by simp [hz])
    · right
      obtain ⟨sb, so, spot⟩ := a
      have hspot : spot = Option.none := by simpa [Addr.add] using World.cell?_spot (hall 0 (by omega)).1
      subst hspot
      refine ⟨sb, so, rfl, fl_of bc_len (by omega) (p := fun j => W.cell? ⟨sb, so + j, Option.none⟩) ?_⟩
      intro i p r x hi hr
      have hin : i < vn := by simpa using (List.getElem?_eq_some_iff.1 hi).1
      have hp : p = K i := by simp [hin] at hi; exact hi.symm
      subst hp
      have h0 := (hall i (by omega)).1
      rw [hK i (by omega)] at h0
      match r, hr with
      | 0, hr =>
        have := Option.some.inj hr
        subst this
        rw [add_plain] at h0
        show W.cell? ⟨sb, so + (i * 1 + 0), Option.none⟩ = _
        rw [Nat.mul_one, Nat.add_zero]; exact h0
end
end Go.Proofs.Ytahghidbadpkeaa
