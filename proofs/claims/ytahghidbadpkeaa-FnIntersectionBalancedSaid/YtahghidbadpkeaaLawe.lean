/- For every two slices of pairs and every Mix the law FnIntersectionBalanced returns true and leaves its arguments as they were: no condition. -/
import Derived.Test.YtahghidbadpkeaaLawiz
import Derived.Test.YtahghidbadpkeaaOpem
set_option linter.unusedVariables false
namespace Go.Proofs.Ytahghidbadpkeaa
open Go.ChangeShapes Go.WideShapes Go.ChangeAt Go.RowKit Go.Deep

set_option maxRecDepth 100000 in
theorem fnIntersectionBalanced_lifted (os : Os) (started : os.Started) (H : Type) (enc : TypeId × Value → H) :
    ReturnsInHanded {} Try.checked os 7 .any (Rows.fnIntersectionBalancedSpec.pre6 enc Try.prog Try.f7 Rows.fnIntersectionBalancedRow.domain false) (Rows.fnIntersectionBalancedSpec.post enc Try.prog Try.f7 false true false false) := by
  refine returnsInHanded_of_change (C := Try.checked) Try.own started (by kernel_rfl) Try.func7
    (ChangeSpec.witness6 (enc := enc) (C := Try.checked) false ⟨#[], #[.slice Option.none 0 0, .slice Option.none 0 0, .agg #[.bool false, .int .i64 0, .int .i64 0, .int .i64 0, .int .i64 0, .int .i64 0]], []⟩ 8 (by kernel_rfl) (by kernel_rfl) (by kernel_rfl) (by kernel_rfl)) ?_
  intro W base args ds gs before hval0 hW hcnd _
  have hval : ∀ (j : Nat) t v, Try.f7.params[j]? = some t → args[j]? = some v → Value.okWide Try.prog W .any base t v := hval0
  have hW' := hW
  obtain ⟨p, q, hA0, hV, rfl, hfz, hnd⟩ := hW
  have hA : DataW.TrodAll enc Try.prog W 0 (fun _ => true) true Try.f7.params.toList args.toList ds p := hA0
  rw [Try.params7] at hA hval
  obtain ⟨v0, v1, v2, d0, d1, d2, p0, p1, p2, rfl, rfl, rfl, h0, h1, h2⟩ := trodAll_three hA
  obtain ⟨rfl, rfl⟩ := trodVars_none hV
  have hs0 : ∃ a n c, v0 = .slice a n c := okWide_slice Try.underlying22 (hval 0 22 v0 rfl rfl)
  have hs1 : ∃ a n c, v1 = .slice a n c := okWide_slice Try.underlying22 (hval 1 22 v1 rfl rfl)
  obtain ⟨cs, hcs, _⟩ := okWide_struct Try.underlying39 (hval 2 39 v2 rfl rfl)
  obtain ⟨A, r0⟩ := open_pairs h0 hs0
  obtain ⟨B, r1⟩ := open_pairs h1 hs1
  obtain ⟨x, hx⟩ := open_mix h2 ⟨cs, hcs⟩
  subst hx
  clear hA0 hval0 hcs
  simp only [List.append_nil] at hW'
  have hlt : ∀ x ∈ p0 ++ p1 ++ p2, x.block < W.heap.size := fun x hx => by simpa using hW'.lt x hx
  refine (FnInter_any x r0 r1).mono fun e W' ⟨he, hB⟩ => ?_
  subst he
  refine ⟨_, rfl, _, _, _, [], p0 ++ (p1 ++ p2), [], hW', ?_, ?_, rfl, hB.frame _, fun h => by cases h⟩
  · exact trodAll_mk1 (shut_bool Try.underlying4 true)
  · exact trodAll_mk3 (Below.trod Try.laidOut (by kernel_rfl) (of_decide_eq_true (by kernel_rfl)) h0 hB (fun x hx => hlt x (by simp [hx])))
      (Below.trod Try.laidOut (by kernel_rfl) (of_decide_eq_true (by kernel_rfl)) h1 hB (fun x hx => hlt x (by simp [hx])))
      (Below.trod Try.laidOut (by kernel_rfl) (of_decide_eq_true (by kernel_rfl)) h2 hB (fun x hx => hlt x (by simp [hx])))

theorem fnIntersectionBalanced_holds : Rows.FnIntersectionBalancedSaid :=
  OpenClaim.holds_of_wide 7 Try.f7 rfl rfl rfl rfl rfl rfl rfl ⟨rfl, rfl, rfl, rfl, rfl⟩ rfl rfl rfl rfl rfl (by kernel_rfl) Try.func7 (by kernel_rfl)
    (of_decide_eq_true (by kernel_rfl)) (by unfold Func.isWrapper; first | (rw [if_pos (by decide +kernel)]; kernel_rfl) | (rw [if_neg (by decide +kernel)]; exact ⟨rfl, rfl⟩))
    (fun os started H enc _ => fnIntersectionBalanced_lifted os started H enc)

end Go.Proofs.Ytahghidbadpkeaa
