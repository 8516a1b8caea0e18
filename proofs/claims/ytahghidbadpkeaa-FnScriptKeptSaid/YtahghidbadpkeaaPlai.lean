/- The plain law of the difference. -/
import Derived.Test.YtahghidbadpkeaaSpdi
set_option linter.unusedVariables false
set_option linter.unusedSimpArgs false
namespace Go.Proofs.Ytahghidbadpkeaa

theorem dat_opt (k : Int) : ∀ S : List (Int × Int), dat k (opt S) = atP k S
  | [] => rfl
  | p :: S => by
    have ih := dat_opt k S
    by_cases h : p.1 = k
    · simp [dat, opt, atP, h]
    · have h2 : (p.1 == k) = false := by simpa using h
      simp only [atP, h2]
      rw [← ih]
      simp [dat, opt, h]

theorem psrt_opt {S : List (Int × Int)} (h : PSrt S) : Srt (opt S) := by
  simp only [Srt, opt, List.pairwise_map]; exact h
theorem opt_app (A B : List (Int × Int)) : opt (A ++ B) = opt A ++ opt B := by simp [opt]
theorem opt_cons (p : Int × Int) (B : List (Int × Int)) : opt (p :: B) = (p.1, some p.2) :: opt B := rfl

theorem dif_law (x : Mx) (U : List (Int × Int)) : ∀ (P E : List (Int × Int)), PSrt (E ++ P) → (opt P).foldl (difStep x (opt U)) (opt (E ++ P)) = opt (E ++ pDiff x P U)
  | [], E, _ => rfl
  | p :: P, E, hs => by
    have hs2 := psrt_opt hs
    rw [opt_app, opt_cons] at hs2
    have s := Srt.app hs2
    have hlo : lo p.1 (opt (E ++ p :: P)) = opt E := by rw [opt_app, opt_cons]; exact lo_here hs2 rfl
    have hhi : hi p.1 (opt (E ++ p :: P)) = opt P := by rw [opt_app, opt_cons]; exact hi_here hs2 rfl
    have hE : PSrt (E ++ P) := List.Pairwise.sublist (List.Sublist.append_left (List.sublist_cons_self p P) E) hs
    have hput : ∀ z, PSrt ((E ++ [(p.1, z)]) ++ P) := by
      intro z
      have : Srt (opt E ++ (p.1, some z) :: opt P) := Srt.mk s.1 s.2.1 s.2.2.1 s.2.2.2
      have e : opt ((E ++ [(p.1, z)]) ++ P) = opt E ++ (p.1, some z) :: opt P := by rw [opt_app, opt_app]; simp [opt]
      rw [← e] at this
      simp only [Srt, opt, List.pairwise_map] at this
      exact this
    have hd : pDiff x (p :: P) U = dstep x U p ++ pDiff x P U := rfl
    rw [opt_cons, List.foldl_cons, hd]
    have key : difStep x (opt U) (opt (E ++ p :: P)) (p.1, some p.2) = opt ((E ++ dstep x U p) ++ P) ∧ PSrt ((E ++ dstep x U p) ++ P) := by
      have hdrop : dropL p.1 (opt (E ++ p :: P)) = opt (E ++ P) := by rw [dropL, hlo, hhi, opt_app]
      unfold difStep dstep
      rw [dat_opt]
      cases hy : atP p.1 U with
      | none =>
        simp only
        refine ⟨by simp, ?_⟩
        have := hput p.2
        exact this
      | some y =>
        simp only
        cases hno : x.no with
        | true => simp [hdrop, hE]
        | false =>
          cases hm : mixok x (mixn x p.2 y) with
          | false => simp [mixf, hm, hdrop, hE]
          | true =>
            simp only [mixf, hm]
            by_cases hz : mixn x p.2 y = p.2
            · simp [hz]
              have := hput p.2
              simpa using this
            · simp [hz]
              refine ⟨?_, by have := hput (mixn x p.2 y); simpa using this⟩
              rw [putL, hlo, hhi, opt_app, opt_cons]
    rw [key.1, dif_law x U P (E ++ dstep x U p) key.2, List.append_assoc]

theorem dif_all (x : Mx) {A B : List (Int × Int)} (hA : PSrt A) : difL x (opt B) (opt A) = opt (pDiff x A B) := dif_law x B A [] hA

end Go.Proofs.Ytahghidbadpkeaa
