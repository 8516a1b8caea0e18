/- The walk of FnDifferenceBalanced. -/
import Derived.Test.YtahghidbadpkeaaImpd
import Derived.Test.YtahghidbadpkeaaHas
import Derived.Deep.RegionWith
set_option linter.unusedVariables false
set_option linter.unusedSimpArgs false
namespace Go.Proofs.Ytahghidbadpkeaa
open Go.Deep Go.RowKit

theorem pDiff_srt (x : Mx) {A B : List (Int × Int)} (h : PSrt A) : PSrt (pDiff x A B) := by
  induction A with
  | nil => exact List.Pairwise.nil
  | cons p A ih =>
    have h1 := List.pairwise_cons.1 h
    have e : pDiff x (p :: A) B = dstep x B p ++ pDiff x A B := rfl
    have hm : ∀ q ∈ pDiff x A B, p.1 < q.1 := by
      intro q hq
      obtain ⟨r, hr, hq⟩ := List.mem_flatMap.1 hq
      have : q.1 = r.1 := by
        unfold dstep at hq
        split at hq
        · simp at hq; rw [hq]
        · split at hq
          · simp at hq; rw [hq]
          · cases hq
      rw [this]; exact h1.1 r hr
    rw [e]
    refine List.pairwise_append.2 ⟨?_, ih h1.2, ?_⟩
    · unfold dstep
      split
      · exact List.pairwise_singleton _ _
      · split
        · exact List.pairwise_singleton _ _
        · exact List.Pairwise.nil
    · intro a ha q hq
      have : a.1 = p.1 := by
        unfold dstep at ha
        split at ha
        · simp at ha; rw [ha]
        · split at ha
          · simp at ha; rw [ha]
          · cases ha
      rw [this]; exact hm q hq

theorem pOf_opt {t : BT Nd} {S : List (Int × Int)} (h : prs t = opt S) : pOf t = S := by
  rw [pOf, h, opt, List.map_map]
  exact (List.map_congr_left (g := id) (fun p _ => rfl)).trans (List.map_id _)

set_option maxRecDepth 100000 in
set_option maxHeartbeats 3000000 in
theorem FnDiff_core {w : World} {v bv : Value} {A B : List (Int × Int)} (x : Mx) (h : Rd pc 2 w v A) (hB : Rd pc 2 w bv B) (ha : ∀ p ∈ A, p.1 ≠ -2147483648) (hb : ∀ p ∈ B, p.1 ≠ -2147483648) (hn : A.length ≤ 1000) (hn2 : B.length ≤ 1000) (hka : keyedB A = true) (hkb : keyedB B = true) :
    Calls Try.prog 6 #[v, bv, .agg x.cells] w (fun e w' => e = .returned (.bool true) ∧ Below w.heap.size w w') := by
  obtain ⟨sa, cap, rfl⟩ := h.shape
  obtain ⟨ba, bcap, rfl⟩ := hB.shape
  have RD := Lib.hid (And.intro h (And.intro hB (And.intro ha hb)))
  have KA := Lib.hid (fun (W : World) (hw : Below w.heap.size w W) => hka ▸ keyed_any (h.below hw) (by omega))
  have KB := Lib.hid (fun (W : World) (hw : Below w.heap.size w W) => hkb ▸ keyed_any (hB.below hw) (by omega))
  have ID := Lib.hid (fun (W : World) (hw : Below w.heap.size w W) => implDiff_any x (h.below hw) (hB.below hw) ha hb hn hn2)
  clear h hB ha hb hka hkb
  obtain ⟨no, ca, cb, cc, cm, cr⟩ := x
  simp only [Mx.cells] at *
  go_enter Try.func6, Try.ntmps6
  go_wp2_with fail
  refine (KA.out _ ((Below.refl _ w).alloc (Nat.le_refl _) _)).mono ?_
  rintro e w1 ⟨rfl, b1⟩
  have x1 : w1.heap[w.heap.size]? = some (.cells #[.bool no, .int .i64 ca, .int .i64 cb, .int .i64 cc, .int .i64 cm, .int .i64 cr] 39 (0, 0)) := (b1.block _ (by simp)).trans (heap_alloc_new w _)
  have B1 := Lib.hid (((Below.refl w.heap.size w).alloc (Nat.le_refl _) _).trans (b1.mono (by simp)))
  have X1 := Lib.hid x1
  clear b1 x1
  go_wp2_with fail
  refine (KB.out _ B1.out).mono ?_
  rintro e w2 ⟨rfl, b2⟩
  have B2 := Lib.hid (B1.out.trans (b2.mono B1.out.size))
  have X2 := Lib.hid ((b2.block _ (Array.getElem?_eq_some_iff.1 X1.out).1).trans X1.out)
  have m0 := bool_cell X2.out
  have m1 := int_cell1 X2.out
  have m2 := int_cell2 X2.out
  have m3 := int_cell3 X2.out
  have m4 := int_cell4 X2.out
  have m5 := int_cell5 X2.out
  clear b2
  go_wp2_with fail
  refine (ID.out _ B2.out).mono ?_
  rintro e w3 ⟨t, v3, rfl, r3, b3, e3, a3⟩
  obtain ⟨s3, c3, rfl⟩ := r3.shape
  have B3 := Lib.hid (B2.out.trans (b3.mono B2.out.size))
  have X3 := Lib.hid ((b3.block _ (Array.getElem?_eq_some_iff.1 X2.out).1).trans X2.out)
  have R3 := Lib.hid (And.intro r3 (And.intro e3 a3))
  clear r3 b3 e3 a3 m0 m1 m2 m3 m4 m5
  have m0 := bool_cell X3.out
  have m1 := int_cell1 X3.out
  have m2 := int_cell2 X3.out
  have m3 := int_cell3 X3.out
  have m4 := int_cell4 X3.out
  have m5 := int_cell5 X3.out
  go_wp2_with fail
  have BW : Hid (Below w.heap.size w w3.drew) := B3.out.trans ⟨rfl, rfl, rfl, Nat.le_refl _, fun _ _ => rfl⟩
  have BX : Hid (w3.drew.heap[w.heap.size]? = some (.cells #[.bool no, .int .i64 ca, .int .i64 cb, .int .i64 cc, .int .i64 cm, .int .i64 cr] 39 (0, 0))) := X3.out
  have RT : Hid (Rd Nn.cells 5 w3.drew (.slice s3 (nlist t).length c3) (nlist t)) := R3.out.1.below ⟨rfl, rfl, rfl, Nat.le_refl _, fun _ _ => rfl⟩
  have HT := Lib.hid (And.intro R3.out.2.2 (And.intro (show sz t ≤ 300000 by
    rw [sz, R3.out.2.1, opt_len]
    have := pDiff_len ⟨no, ca, cb, cc, cm, cr⟩ (pTree A) (pTree B); have := pTree_len A; omega) (And.intro (pOf_opt R3.out.2.1) (pDiff_srt ⟨no, ca, cb, cc, cm, cr⟩ (B := pTree B) (pTree_srt A)))))
  have LAB := Lib.hid (And.intro (pTree_len A) (pTree_len B))
  have DS : Hid (∀ (W : World) (va vb : Value), Rd pc 2 W va (pTree A) → Rd pc 2 W vb (pTree B) → Calls Try.prog 24 #[va, vb, .agg #[.bool no, .int .i64 ca, .int .i64 cb, .int .i64 cc, .int .i64 cm, .int .i64 cr]] W (fun e w' => ∃ v', e = .returned v' ∧ Rd pc 2 w' v' (pDiff ⟨no, ca, cb, cc, cm, cr⟩ (pTree A) (pTree B)) ∧ Below W.heap.size W w')) := fun W va vb h1 h2 => Diff_spec ⟨no, ca, cb, cc, cm, cr⟩ h1 h2 (by have := LAB.out.1; omega) (by have := LAB.out.2; omega)
  go_region_with (first
      | (go_at_call 15
         refine works_any.mono ?_
         rintro e wN ⟨rfl, bN⟩
         have lt0 := (Array.getElem?_eq_some_iff.1 BX.out).1
         have BW := Lib.hid (BW.out.trans (bN.mono BW.out.size))
         have BX := Lib.hid ((bN.block _ lt0).trans BX.out)
         have m0 := bool_cell BX.out
         have m1 := int_cell1 BX.out
         have m2 := int_cell2 BX.out
         have m3 := int_cell3 BX.out
         have m4 := int_cell4 BX.out
         have m5 := int_cell5 BX.out
         have RT := Lib.hid (RT.out.below bN)
         try (have RA := Lib.hid (RA.out.below bN))
         try (have RB := Lib.hid (RB.out.below bN))
         try (have RF := Lib.hid (RF.out.below bN))
         clear bN lt0)
      | (go_at_call 23
         refine (IsBalanced_any RT.out HT.out.1 HT.out.2.1 ?_).mono ?_
         · rw [HT.out.2.2.1]; exact HT.out.2.2.2
         rintro e wN ⟨rfl, bN⟩
         have lt0 := (Array.getElem?_eq_some_iff.1 BX.out).1
         have BW := Lib.hid (BW.out.trans (bN.mono BW.out.size))
         have BX := Lib.hid ((bN.block _ lt0).trans BX.out)
         have m0 := bool_cell BX.out
         have m1 := int_cell1 BX.out
         have m2 := int_cell2 BX.out
         have m3 := int_cell3 BX.out
         have m4 := int_cell4 BX.out
         have m5 := int_cell5 BX.out
         have RT := Lib.hid (RT.out.below bN)
         try (have RA := Lib.hid (RA.out.below bN))
         try (have RB := Lib.hid (RB.out.below bN))
         try (have RF := Lib.hid (RF.out.below bN))
         clear bN lt0)
      | (go_at_call_of 18 (Value.slice sa A.length cap)
         refine (Tree_any (RD.out.1.below BW.out) ?_).mono ?_
         · omega
         rintro e wN ⟨vA, rfl, rA, bN⟩
         obtain ⟨tA, cA, rfl⟩ := rA.shape
         have lt0 := (Array.getElem?_eq_some_iff.1 BX.out).1
         have BW := Lib.hid (BW.out.trans (bN.mono BW.out.size))
         have BX := Lib.hid ((bN.block _ lt0).trans BX.out)
         have m0 := bool_cell BX.out
         have m1 := int_cell1 BX.out
         have m2 := int_cell2 BX.out
         have m3 := int_cell3 BX.out
         have m4 := int_cell4 BX.out
         have m5 := int_cell5 BX.out
         have RT := Lib.hid (RT.out.below bN)
         try (have RA := Lib.hid (RA.out.below bN))
         try (have RB := Lib.hid (RB.out.below bN))
         try (have RF := Lib.hid (RF.out.below bN))
         clear bN lt0
         have RA := Lib.hid rA
         clear rA)
      | (go_at_call_of 18 (Value.slice ba B.length bcap)
         refine (Tree_any (RD.out.2.1.below BW.out) ?_).mono ?_
         · omega
         rintro e wN ⟨vB, rfl, rB, bN⟩
         obtain ⟨tB, cB, rfl⟩ := rB.shape
         have lt0 := (Array.getElem?_eq_some_iff.1 BX.out).1
         have BW := Lib.hid (BW.out.trans (bN.mono BW.out.size))
         have BX := Lib.hid ((bN.block _ lt0).trans BX.out)
         have m0 := bool_cell BX.out
         have m1 := int_cell1 BX.out
         have m2 := int_cell2 BX.out
         have m3 := int_cell3 BX.out
         have m4 := int_cell4 BX.out
         have m5 := int_cell5 BX.out
         have RT := Lib.hid (RT.out.below bN)
         try (have RA := Lib.hid (RA.out.below bN))
         try (have RB := Lib.hid (RB.out.below bN))
         try (have RF := Lib.hid (RF.out.below bN))
         clear bN lt0
         have RB := Lib.hid rB
         clear rB)
      | (go_at_call 24
         go_loud (refine (DS.out _ _ _ RA.out RB.out).mono ?_)
         rintro e wN ⟨vF, rfl, rF, bN⟩
         obtain ⟨tF, cF, rfl⟩ := rF.shape
         have lt0 := (Array.getElem?_eq_some_iff.1 BX.out).1
         have BW := Lib.hid (BW.out.trans (bN.mono BW.out.size))
         have BX := Lib.hid ((bN.block _ lt0).trans BX.out)
         have m0 := bool_cell BX.out
         have m1 := int_cell1 BX.out
         have m2 := int_cell2 BX.out
         have m3 := int_cell3 BX.out
         have m4 := int_cell4 BX.out
         have m5 := int_cell5 BX.out
         have RT := Lib.hid (RT.out.below bN)
         try (have RA := Lib.hid (RA.out.below bN))
         try (have RB := Lib.hid (RB.out.below bN))
         try (have RF := Lib.hid (RF.out.below bN))
         clear bN lt0
         have RF := Lib.hid rF
         clear rF)
      | (go_at_call 16
         go_loud (refine (Has_any RT.out ?_ HT.out.1 HT.out.2.1 ?_).mono ?_)
         · rw [HT.out.2.2.1]; exact RF.out
         · rw [HT.out.2.2.1]; exact HT.out.2.2.2
         rintro e wN ⟨rfl, bN⟩
         have lt0 := (Array.getElem?_eq_some_iff.1 BX.out).1
         have BW := Lib.hid (BW.out.trans (bN.mono BW.out.size))
         have BX := Lib.hid ((bN.block _ lt0).trans BX.out)
         have m0 := bool_cell BX.out
         have m1 := int_cell1 BX.out
         have m2 := int_cell2 BX.out
         have m3 := int_cell3 BX.out
         have m4 := int_cell4 BX.out
         have m5 := int_cell5 BX.out
         have RT := Lib.hid (RT.out.below bN)
         try (have RA := Lib.hid (RA.out.below bN))
         try (have RB := Lib.hid (RB.out.below bN))
         try (have RF := Lib.hid (RF.out.below bN))
         clear bN lt0))
  all_goals (go_wp2_with fail; go_ret; exact ⟨rfl, BW.out⟩)

end Go.Proofs.Ytahghidbadpkeaa
