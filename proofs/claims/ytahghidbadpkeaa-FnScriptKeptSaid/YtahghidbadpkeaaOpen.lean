/- The arguments opened: slices of pairs. -/
import Derived.Test.YtahghidbadpkeaaFlat
import Derived.Test.YtahghidbadpkeaaRows
import Derived.Deep.SlicePairs
import Derived.ProofKit
set_option linter.unusedVariables false
set_option linter.unusedSimpArgs false
namespace Go.Proofs.Ytahghidbadpkeaa
open Go.ChangeShapes Go.WideShapes Go.ChangeAt Go.RowKit Go.Deep

theorem Try.own : ownKnob Try.prog.godebug = Option.none := by kernel_rfl
theorem Try.laidOut : laidOutB Try.prog = true := by kernel_rfl
theorem cellsOf31 : Try.prog.cellsOf 31 = 2 := by kernel_rfl
theorem cellsOf21 : Try.prog.cellsOf 21 = 1 := by kernel_rfl
theorem cellsOf3 : Try.prog.cellsOf 3 = 1 := by kernel_rfl

/-- A list that is read cell by cell. -/
theorem fl_of {α : Type} {f : α → List Value} {s : Nat} (hs : ∀ a, (f a).length = s) (h0 : 0 < s) {L : List α} {p : Nat → Option Value} (h : ∀ i a r x, L[i]? = some a → (f a)[r]? = some x → p (i * s + r) = some x) :
    ∀ j x, (fl f L)[j]? = some x → p j = some x := by
  intro j x hx
  have hj : j < L.length * s := by rw [← fl_len hs]; exact (List.getElem?_eq_some_iff.1 hx).1
  have hi : j / s < L.length := (Nat.div_lt_iff_lt_mul h0).2 hj
  have hr : j % s < s := Nat.mod_lt _ h0
  have e : j / s * s + j % s = j := by rw [Nat.mul_comm]; exact Nat.div_add_mod j s
  have ha : L[j / s]? = some L[j / s] := List.getElem?_eq_getElem hi
  have hx' : (f L[j / s])[j % s]? = some x := by
    rw [← fl_get hs ha hr, e]; exact hx
  have := h _ _ _ _ ha hx'
  rwa [e] at this

theorem pair_cell {p : Int × Int} {r : Nat} {x : Value} (h : (pc p)[r]? = some x) : (r = 0 ∧ x = .int .i32 p.1) ∨ (r = 1 ∧ x = .int .i64 p.2) := by
  match r, h with
  | 0, h => exact .inl ⟨rfl, (Option.some.inj h).symm⟩
  | 1, h => exact .inr ⟨rfl, (Option.some.inj h).symm⟩

section
variable {H : Type} {enc : TypeId × Value → H}

theorem open_pairs {W : World} {v : Value} {d : DataW H} {ps : List MemPlace} (h : DataW.Trod enc Try.prog W 0 (fun _ => true) true 22 v d ps) (hv : ∃ a n c, v = .slice a n c) : ∃ L, Rd pc 2 W v L := by
  obtain ⟨n, h⟩ := h
  obtain ⟨va, vn, vc, rfl⟩ := hv
  rcases open_slice_pairs Try.underlying22 Try.underlying31 cellsOf31 rfl rfl cellsOf21 cellsOf3 h with ⟨hc, hx⟩ | ⟨a, len, cap, m, k, V0, V1, D0, D1, P0, P1, hc, _, hl, hm, hmm, hx, hall⟩
  · simp only [Value.cells, List.cons.injEq, and_true] at hc
    refine ⟨[], ?_⟩
    injection hc with e1 e2 e3
    subst e1; subst e2; subst e3
    exact ⟨_, _, rfl, .inl rfl⟩
  · simp only [Value.cells, List.cons.injEq, and_true] at hc
    injection hc with e1 e2 e3
    subst e1; subst e2; subst e3
    simp only [if_true] at hmm
    subst hmm
    have hk : ∀ i, i < m → ∃ k : Int, V0 i = .int .i32 k := fun i hi => by
      obtain ⟨Ni, h1, h2, h3⟩ := DataW.trod_int Try.underlying21 (hall i hi).2.2.1
      simp only [List.cons.injEq, and_true] at h1
      exact ⟨Ni, h1⟩
    have hd : ∀ i, i < m → ∃ k : Int, V1 i = .int .i64 k := fun i hi => by
      obtain ⟨Ni, h1, h2, h3⟩ := DataW.trod_int Try.underlying3 (hall i hi).2.2.2
      simp only [List.cons.injEq, and_true] at h1
      exact ⟨Ni, h1⟩
    obtain ⟨K, hK⟩ := choose_lt hk
    obtain ⟨X, hX⟩ := choose_lt hd
    refine ⟨(List.range vn).map (fun i => (K i, X i)), some a, m, by simp, ?_⟩
    by_cases hz : vn = 0
    · exact .inl (by simp [hz])
    · right
      obtain ⟨sb, so, spot⟩ := a
      have hspot : spot = Option.none := by simpa [Addr.add] using World.cell?_spot (hall 0 (by omega)).1
      subst hspot
      refine ⟨sb, so, rfl, fl_of pc_len (by omega) (p := fun j => W.cell? ⟨sb, so + j, Option.none⟩) ?_⟩
      intro i p r x hi hr
      have hin : i < vn := by simpa using (List.getElem?_eq_some_iff.1 hi).1
      have hp : p = (K i, X i) := by simp [hin] at hi; exact hi.symm
      subst hp
      have h0 := (hall i (by omega)).1
      have h1 := (hall i (by omega)).2.1
      rw [hK i (by omega)] at h0
      rw [hX i (by omega)] at h1
      rcases pair_cell hr with ⟨rfl, rfl⟩ | ⟨rfl, rfl⟩
      · rw [add_plain] at h0; exact h0
      · rw [add_plain] at h1; exact h1

end
end Go.Proofs.Ytahghidbadpkeaa
