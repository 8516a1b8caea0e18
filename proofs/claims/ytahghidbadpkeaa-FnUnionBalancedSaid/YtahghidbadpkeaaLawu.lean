/- The walk of FnUnionBalanced. -/
import Derived.Test.YtahghidbadpkeaaImpu
import Derived.Test.YtahghidbadpkeaaLawi
set_option linter.unusedVariables false
set_option linter.unusedSimpArgs false
namespace Go.Proofs.Ytahghidbadpkeaa
open Go.Deep Go.RowKit

set_option maxRecDepth 100000 in
set_option maxHeartbeats 3000000 in
theorem FnUnion_core {w : World} {v bv : Value} {A B : List (Int × Int)} (x : Mx) (h : Rd pc 2 w v A) (hB : Rd pc 2 w bv B) (ha : ∀ p ∈ A, p.1 ≠ -2147483648) (hb : ∀ p ∈ B, p.1 ≠ -2147483648) (hn : A.length ≤ 1000) (hn2 : B.length ≤ 1000) (hka : keyedB A = true) (hkb : keyedB B = true) :
    Calls Try.prog 8 #[v, bv, .agg x.cells] w (fun e w' => e = .returned (.bool true) ∧ Below w.heap.size w w') := by
  obtain ⟨sa, cap, rfl⟩ := h.shape
  obtain ⟨ba, bcap, rfl⟩ := hB.shape
  have RD := Lib.hid (And.intro h (And.intro hB (And.intro ha hb)))
  have KA := Lib.hid (fun (W : World) (hw : Below w.heap.size w W) => hka ▸ keyed_any (h.below hw) (by omega))
  have KB := Lib.hid (fun (W : World) (hw : Below w.heap.size w W) => hkb ▸ keyed_any (hB.below hw) (by omega))
  have ID := Lib.hid (fun (W : World) (hw : Below w.heap.size w W) => implUnion_any x (h.below hw) (hB.below hw) ha hb hn hn2)
  have LAB := Lib.hid (And.intro (pTree_len A) (pTree_len B))
  have DS := Lib.hid (fun (W : World) (va vb : Value) (h1 : Rd pc 2 W va (pTree A)) (h2 : Rd pc 2 W vb (pTree B)) => Union_spec x h1 h2 (by have := LAB.out.1; omega) (by have := LAB.out.2; omega))
  have FR := Lib.hid (fun (W : World) (va vb : Value) (h1 : Rd pc 2 W va (pTree A)) (h2 : Rd pc 2 W vb (pTree B)) => fresh_any x h1 h2 (by have := LAB.out.1; omega) (by have := LAB.out.2; omega))
  have LW := Lib.hid (uni_law x (pTree_srt A) (pTree_srt B))
  clear h hB ha hb hka hkb
  obtain ⟨no, ca, cb, cc, cm, cr⟩ := x
  simp only [Mx.cells] at *
  go_enter Try.func8, Try.ntmps8
  go_wp2_with fail
  refine (KA.out _ ((Below.refl _ w).alloc (Nat.le_refl _) _)).mono ?_
  rintro e w1 ⟨rfl, b1⟩
  have x1 : w1.heap[w.heap.size]? = some (.cells #[.bool no, .int .i64 ca, .int .i64 cb, .int .i64 cc, .int .i64 cm, .int .i64 cr] 39 (0, 0)) := (b1.block _ (by simp)).trans (heap_alloc_new w _)
  have B1 := Lib.hid (((Below.refl w.heap.size w).alloc (Nat.le_refl _) _).trans (b1.mono (by simp)))
  have X1 := Lib.hid x1
  clear b1 x1
  go_wp2_with fail
  refine (KB.out _ B1.out).mono ?_
  rintro e w2 ⟨rfl, b2⟩
  have B2 := Lib.hid (B1.out.trans (b2.mono B1.out.size))
  have X2 := Lib.hid ((b2.block _ (Array.getElem?_eq_some_iff.1 X1.out).1).trans X1.out)
  have m0 := bool_cell X2.out
  have m1 := int_cell1 X2.out
  have m2 := int_cell2 X2.out
  have m3 := int_cell3 X2.out
  have m4 := int_cell4 X2.out
  have m5 := int_cell5 X2.out
  clear b2
  go_wp2_with fail
  refine (ID.out _ B2.out).mono ?_
  rintro e w3 ⟨t, v3, rfl, r3, b3, e3, a3⟩
  obtain ⟨s3, c3, rfl⟩ := r3.shape
  have B3 := Lib.hid (B2.out.trans (b3.mono B2.out.size))
  have X3 := Lib.hid ((b3.block _ (Array.getElem?_eq_some_iff.1 X2.out).1).trans X2.out)
  have R3 := Lib.hid r3
  have hz : sz t ≤ 4000 := by
    rw [sz, e3]
    have h1 := uniL_len ⟨no, ca, cb, cc, cm, cr⟩ (psrt_opt (pTree_srt A)) (psrt_opt (pTree_srt B))
    rw [opt_len, opt_len] at h1
    have := LAB.out.1; have := LAB.out.2; omega
  have HT : Hid (Avl t ∧ sz t ≤ 4000 ∧ PSrt (pOf t) ∧ prs t = uniL ⟨no, ca, cb, cc, cm, cr⟩ (opt (pTree A)) (opt (pTree B))) := ⟨a3, hz, pOf_srt (by rw [e3]; exact uniL_srt _ (psrt_opt (pTree_srt A)) (psrt_opt (pTree_srt B))), e3⟩
  clear r3 b3 e3 a3 hz m0 m1 m2 m3 m4 m5
  go_wp2_with fail
  refine (IsBalanced_any R3.out HT.out.1 (by have := HT.out.2.1; omega) HT.out.2.2.1).mono ?_
  rintro e w4 ⟨rfl, b4⟩
  have B4 := Lib.hid (B3.out.trans (b4.mono B3.out.size))
  have X4 := Lib.hid ((b4.block _ (Array.getElem?_eq_some_iff.1 X3.out).1).trans X3.out)
  have R4 := Lib.hid (R3.out.below b4)
  clear b4
  go_wp2_with fail
  refine (Tree_any (RD.out.1.below B4.out) (by omega)).mono ?_
  rintro e w5 ⟨v5, rfl, r5, b5⟩
  obtain ⟨s5, c5, rfl⟩ := r5.shape
  have B5 := Lib.hid (B4.out.trans (b5.mono B4.out.size))
  have X5 := Lib.hid ((b5.block _ (Array.getElem?_eq_some_iff.1 X4.out).1).trans X4.out)
  have R5 := Lib.hid (And.intro (R4.out.below b5) r5)
  clear r5 b5
  go_wp2_with fail
  refine (Tree_any (RD.out.2.1.below B5.out) (by omega)).mono ?_
  rintro e w6 ⟨v6, rfl, r6, b6⟩
  obtain ⟨s6, c6, rfl⟩ := r6.shape
  have B6 := Lib.hid (B5.out.trans (b6.mono B5.out.size))
  have X6 := Lib.hid ((b6.block _ (Array.getElem?_eq_some_iff.1 X5.out).1).trans X5.out)
  have R6 := Lib.hid (And.intro (R5.out.1.below b6) (And.intro (R5.out.2.below b6) r6))
  clear r6 b6
  go_wp2_with fail
  refine works_any.mono ?_
  rintro e w7 ⟨rfl, b7⟩
  have B7 := Lib.hid (B6.out.trans (b7.mono B6.out.size))
  have X7 := Lib.hid ((b7.block _ (Array.getElem?_eq_some_iff.1 X6.out).1).trans X6.out)
  have R7 := Lib.hid (And.intro (R6.out.1.below b7) (And.intro (R6.out.2.1.below b7) (R6.out.2.2.below b7)))
  clear b7
  have m0 := bool_cell X7.out
  have m1 := int_cell1 X7.out
  have m2 := int_cell2 X7.out
  have m3 := int_cell3 X7.out
  have m4 := int_cell4 X7.out
  have m5 := int_cell5 X7.out
  cases no with
  | true =>
    go_wp2_with fail
    go_ret
    exact ⟨rfl, B7.out⟩
  | false =>
    go_wp2_with fail
    refine (FR.out _ _ _ R7.out.2.1 R7.out.2.2).mono ?_
    rintro e w8 ⟨rfl, b8⟩
    have B8 := Lib.hid (B7.out.trans (b8.mono B7.out.size))
    have X8 := Lib.hid ((b8.block _ (Array.getElem?_eq_some_iff.1 X7.out).1).trans X7.out)
    have R8 := Lib.hid (And.intro (R7.out.1.below b8) (And.intro (R7.out.2.1.below b8) (R7.out.2.2.below b8)))
    clear b8 m0 m1 m2 m3 m4 m5
    obtain ⟨fb, hfb⟩ : ∃ fb, fb = pFresh ⟨false, ca, cb, cc, cm, cr⟩ (pTree A) (pTree B) := ⟨_, rfl⟩
    rw [← hfb]
    have HF := Lib.hid hfb
    clear hfb
    have m0 := bool_cell X8.out
    have m1 := int_cell1 X8.out
    have m2 := int_cell2 X8.out
    have m3 := int_cell3 X8.out
    have m4 := int_cell4 X8.out
    have m5 := int_cell5 X8.out
    cases fb with
    | false =>
      go_wp2_with fail
      go_ret
      exact ⟨rfl, B8.out⟩
    | true =>
      go_wp2_with fail
      refine (DS.out _ _ _ R8.out.2.1 R8.out.2.2).mono ?_
      rintro e w9 ⟨v9, rfl, r9, b9⟩
      obtain ⟨s9, c9, rfl⟩ := r9.shape
      have B9 := Lib.hid (B8.out.trans (b9.mono B8.out.size))
      have HP : Hid (pOf t = pUnion ⟨false, ca, cb, cc, cm, cr⟩ (pTree A) (pTree B)) := by
        have h1 := by first | exact LW.out rfl HF.out.symm | exact LW.out trivial HF.out.symm
        exact pOf_opt (HT.out.2.2.2.trans h1)
      have HA := Lib.hid (Has_any (R8.out.1.below b9) (by rw [HP.out]; exact r9) HT.out.1 (by have := HT.out.2.1; omega) HT.out.2.2.1)
      clear r9 b9
      go_wp2_with fail
      refine HA.out.mono ?_
      rintro e w10 ⟨rfl, b10⟩
      have B10 := Lib.hid (B9.out.trans (b10.mono B9.out.size))
      clear b10
      go_wp2_with fail
      go_ret
      exact ⟨rfl, B10.out⟩

end Go.Proofs.Ytahghidbadpkeaa
