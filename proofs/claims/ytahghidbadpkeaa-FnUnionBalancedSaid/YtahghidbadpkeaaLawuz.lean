/- FnUnionBalanced, walked whole. -/
import Derived.Test.YtahghidbadpkeaaLawu
set_option linter.unusedVariables false
set_option linter.unusedSimpArgs false
namespace Go.Proofs.Ytahghidbadpkeaa
open Go.Deep Go.RowKit

set_option maxRecDepth 100000 in
set_option maxHeartbeats 800000 in
theorem FnUnion_any {w : World} {v bv : Value} {A B : List (Int × Int)} (x : Mx) (h : Rd pc 2 w v A) (hB : Rd pc 2 w bv B) :
    Calls Try.prog 8 #[v, bv, .agg x.cells] w (fun e w' => e = .returned (.bool true) ∧ Below w.heap.size w w') := by
  obtain ⟨sa, cap, rfl⟩ := h.shape
  obtain ⟨ba, bcap, rfl⟩ := hB.shape
  have RD := Lib.hid (And.intro h hB)
  clear h hB
  have CORE := Lib.hid (fun ha hb hn hn2 hka hkb => FnUnion_core x RD.out.1 RD.out.2 ha hb hn hn2 hka hkb)
  obtain ⟨no, ca, cb, cc, cm, cr⟩ := x
  simp only [Mx.cells] at *
  by_cases h1 : (A.length : Int) > 2147483647
  · go_enter Try.func8, Try.ntmps8
    go_wp2_with fail
    go_ret
    exact ⟨rfl, (Below.refl _ w).alloc (Nat.le_refl _) _⟩
  by_cases h2 : (B.length : Int) > 2147483647
  · go_enter Try.func8, Try.ntmps8
    go_wp2_with fail
    go_ret
    exact ⟨rfl, (Below.refl _ w).alloc (Nat.le_refl _) _⟩
  have KA := Lib.hid (fun (W : World) (hw : Below w.heap.size w W) => keyed_any (RD.out.1.below hw) (by omega))
  have KB := Lib.hid (fun (W : World) (hw : Below w.heap.size w W) => keyed_any (RD.out.2.below hw) (by omega))
  have W0 := Lib.hid (fun o => (Below.refl w.heap.size w).alloc (Nat.le_refl _) o)
  have FIRST : Hid (∀ o w1, Below (w.alloc o).heap.size (w.alloc o) w1 → Below w.heap.size w w1) := fun o w1 h => ((Below.refl w.heap.size w).alloc (Nat.le_refl _) o).trans (h.mono (by simp))
  by_cases hk : keyedB A = true
  · by_cases hk2 : keyedB B = true
    · by_cases h3 : (A.length : Int) > 1000
      · go_enter Try.func8, Try.ntmps8
        go_wp2_with fail
        refine (KA.out _ (W0.out _)).mono ?_
        rintro e w1 ⟨rfl, b1⟩
        have B0 := Lib.hid (FIRST.out _ _ b1)
        rw [hk]
        clear b1
        go_wp2_with fail
        refine (KB.out _ B0.out).mono ?_
        rintro e w2 ⟨rfl, b2⟩
        have B1 := Lib.hid (B0.out.trans (b2.mono B0.out.size))
        rw [hk2]
        clear b2
        go_wp2_with fail
        refine works_any.mono ?_
        rintro e w9 ⟨rfl, b9⟩
        have B9 := Lib.hid (B1.out.trans (b9.mono B1.out.size))
        clear b9
        go_wp2_with fail
        go_ret
        exact ⟨rfl, B9.out⟩
      by_cases h4 : (B.length : Int) > 1000
      · go_enter Try.func8, Try.ntmps8
        go_wp2_with fail
        refine (KA.out _ (W0.out _)).mono ?_
        rintro e w1 ⟨rfl, b1⟩
        have B0 := Lib.hid (FIRST.out _ _ b1)
        rw [hk]
        clear b1
        go_wp2_with fail
        refine (KB.out _ B0.out).mono ?_
        rintro e w2 ⟨rfl, b2⟩
        have B1 := Lib.hid (B0.out.trans (b2.mono B0.out.size))
        rw [hk2]
        clear b2
        go_wp2_with fail
        refine works_any.mono ?_
        rintro e w9 ⟨rfl, b9⟩
        have B9 := Lib.hid (B1.out.trans (b9.mono B1.out.size))
        clear b9
        go_wp2_with fail
        go_ret
        exact ⟨rfl, B9.out⟩
      exact CORE.out (keyedB_spec hk) (keyedB_spec hk2) (by omega) (by omega) hk hk2
    · have hk2' : keyedB B = false := by simpa using hk2
      clear hk2
      go_enter Try.func8, Try.ntmps8
      go_wp2_with fail
      refine (KA.out _ (W0.out _)).mono ?_
      rintro e w1 ⟨rfl, b1⟩
      have B0 := Lib.hid (FIRST.out _ _ b1)
      rw [hk]
      clear b1
      go_wp2_with fail
      refine (KB.out _ B0.out).mono ?_
      rintro e w2 ⟨rfl, b2⟩
      have B1 := Lib.hid (B0.out.trans (b2.mono B0.out.size))
      rw [hk2']
      clear b2
      go_wp2_with fail
      refine works_any.mono ?_
      rintro e w9 ⟨rfl, b9⟩
      have B9 := Lib.hid (B1.out.trans (b9.mono B1.out.size))
      clear b9
      go_wp2_with fail
      go_ret
      exact ⟨rfl, B9.out⟩
  · have hk' : keyedB A = false := by simpa using hk
    clear hk
    go_enter Try.func8, Try.ntmps8
    go_wp2_with fail
    refine (KA.out _ (W0.out _)).mono ?_
    rintro e w1 ⟨rfl, b1⟩
    have B1 := Lib.hid (FIRST.out _ _ b1)
    rw [hk']
    clear b1
    go_wp2_with fail
    refine works_any.mono ?_
    rintro e w9 ⟨rfl, b9⟩
    have B9 := Lib.hid (B1.out.trans (b9.mono B1.out.size))
    clear b9
    go_wp2_with fail
    go_ret
    exact ⟨rfl, B9.out⟩

end Go.Proofs.Ytahghidbadpkeaa
