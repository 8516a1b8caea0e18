/- The walk of impl.Intersection. -/
import Derived.Test.YtahghidbadpkeaaSpun
set_option linter.unusedVariables false
set_option linter.unusedSimpArgs false
namespace Go.Proofs.Ytahghidbadpkeaa
open Go.Deep Go.RowKit

/-- What a tree is shown as, its pairs told. -/
def DlPostL (L : Ls) (w : World) (e : Ending) (w' : World) : Prop :=
  ∃ t v, e = .returned v ∧ Rd Nn.cells 5 w' v (nlist t) ∧ Below w.heap.size w w' ∧ prs t = L ∧ Avl t

set_option maxRecDepth 100000 in
set_option maxHeartbeats 3000000 in
theorem implInter_any {w : World} {v bv : Value} {A B : List (Int × Int)} (x : Mx) (h : Rd pc 2 w v A) (hB : Rd pc 2 w bv B) (ha : ∀ p ∈ A, p.1 ≠ -2147483648) (hb : ∀ p ∈ B, p.1 ≠ -2147483648) (hn : A.length ≤ 1000) (hn2 : B.length ≤ 1000) :
    Calls Try.prog 25 #[v, bv, .agg x.cells] w (DlPostL (intL x (opt (pTree A)) (opt (pTree B))) w) := by
  obtain ⟨sa, cap, rfl⟩ := h.shape
  obtain ⟨ba, bcap, rfl⟩ := hB.shape
  have TA := Lib.hid (fun (W : World) (hw : Below w.heap.size w W) => tree_any (h.below hw) ha (by omega))
  have TB := Lib.hid (fun (W : World) (hw : Below w.heap.size w W) => tree_any (hB.below hw) hb (by omega))
  have KA := Lib.hid (opt_mem (pTree_mem ha))
  have LA := Lib.hid (pTree_len A)
  have LB := Lib.hid (pTree_len B)
  have KB := Lib.hid (opt_mem (pTree_mem hb))
  have SB := Lib.hid (pTree_srt B)
  have SA := Lib.hid (pTree_srt A)
  clear h hB ha hb
  obtain ⟨no, ca, cb, cc, cm, cr⟩ := x
  have CA : Hid (∀ W : World, Calls Try.prog 48 #[.agg #[.bool no, .int .i64 ca, .int .i64 cb, .int .i64 cc, .int .i64 cm, .int .i64 cr]] W (fun e w' => e = .returned (fv ⟨no, ca, cb, cc, cm, cr⟩ W.heap.size) ∧ W.alloc (.cells #[.bool no, .int .i64 ca, .int .i64 cb, .int .i64 cc, .int .i64 cm, .int .i64 cr] 39) = w')) := fun W => call_any ⟨no, ca, cb, cc, cm, cr⟩
  simp only [Mx.cells]
  have BW : Hid (Below w.heap.size w (w.alloc (.cells #[.bool no, .int .i64 ca, .int .i64 cb, .int .i64 cc, .int .i64 cm, .int .i64 cr] 39)).drew) := ((Below.refl _ w).alloc (Nat.le_refl _) _).trans ⟨rfl, rfl, rfl, Nat.le_refl _, fun _ _ => rfl⟩
  have BX : Hid ((w.alloc (.cells #[.bool no, .int .i64 ca, .int .i64 cb, .int .i64 cc, .int .i64 cm, .int .i64 cr] 39)).drew.heap[w.heap.size]? = some (.cells #[.bool no, .int .i64 ca, .int .i64 cb, .int .i64 cc, .int .i64 cm, .int .i64 cr] 39 (0, 0))) := heap_alloc_new w _
  have E0 := Lib.hid (show (w.alloc (.cells #[.bool no, .int .i64 ca, .int .i64 cb, .int .i64 cc, .int .i64 cm, .int .i64 cr] 39)).drew.heap.size = w.heap.size + 1 by simp)
  go_enter Try.func25, Try.ntmps25
  go_upto_region 1 with (fail)
  go_region_with (first
      | (go_at_call_of 42 (Value.slice sa A.length cap)
         refine (TA.out _ BW.out).mono ?_
         rintro e wN ⟨t1, rfl, bN, g1, e1⟩
         have lt0 := (Array.getElem?_eq_some_iff.1 BX.out).1
         have BW := Lib.hid (BW.out.trans (bN.mono BW.out.size))
         have BX := Lib.hid ((bN.block _ lt0).trans BX.out)
         have m0 := bool_cell BX.out
         have m1 := int_cell1 BX.out
         have m2 := int_cell2 BX.out
         have m3 := int_cell3 BX.out
         have m4 := int_cell4 BX.out
         have m5 := int_cell5 BX.out
         try (have G2 := Lib.hid (And.intro (G2.out.1.below bN) G2.out.2))
         try (have HC := Lib.hid ((bN.block _ (Array.getElem?_eq_some_iff.1 HC.out).1).trans HC.out))
         try rw [E0.out] at g1
         have G1 := Lib.hid (And.intro g1 (e1.trans (opt_tree A).symm))
         clear bN g1 e1 lt0)
      | (go_at_call_of 42 (Value.slice ba B.length bcap)
         refine (TB.out _ BW.out).mono ?_
         rintro e wN ⟨t2, rfl, bN, g2, e2⟩
         have lt0 := (Array.getElem?_eq_some_iff.1 BX.out).1
         have BW := Lib.hid (BW.out.trans (bN.mono BW.out.size))
         have BX := Lib.hid ((bN.block _ lt0).trans BX.out)
         have m0 := bool_cell BX.out
         have m1 := int_cell1 BX.out
         have m2 := int_cell2 BX.out
         have m3 := int_cell3 BX.out
         have m4 := int_cell4 BX.out
         have m5 := int_cell5 BX.out
         try (have G1 := Lib.hid (And.intro (G1.out.1.below bN) G1.out.2))
         try (have HC := Lib.hid ((bN.block _ (Array.getElem?_eq_some_iff.1 HC.out).1).trans HC.out))
         try rw [E0.out] at g2
         have G2 := Lib.hid (And.intro g2 (e2.trans (opt_tree B).symm))
         clear bN g2 e2 lt0)
      | (go_at_call 48
         refine (CA.out _).mono ?_
         rintro e wN ⟨rfl, hcc⟩
         have bN := (alloc_at hcc).2
         have lt0 := (Array.getElem?_eq_some_iff.1 BX.out).1
         have BW := Lib.hid (BW.out.trans (bN.mono BW.out.size))
         have BX := Lib.hid ((bN.block _ lt0).trans BX.out)
         have m0 := bool_cell BX.out
         have m1 := int_cell1 BX.out
         have m2 := int_cell2 BX.out
         have m3 := int_cell3 BX.out
         have m4 := int_cell4 BX.out
         have m5 := int_cell5 BX.out
         try (have G1 := Lib.hid (And.intro (G1.out.1.below bN) G1.out.2))
         try (have G2 := Lib.hid (And.intro (G2.out.1.below bN) G2.out.2))
         have hc1 := (alloc_at hcc).1
         try rw [E0.out] at hc1
         have HC := Lib.hid hc1
         clear bN hcc lt0 hc1)
      | (go_at_call 51
         go_loud (refine (Intersection_any ⟨no, ca, cb, cc, cm, cr⟩ rfl G1.out.1 G2.out.1 HC.out ?_ ?_ ?_ ?_).mono ?_)
         · rw [G1.out.2, opt_len]; have := LA.out; omega
         · rw [G2.out.2, opt_len]; have := LB.out; omega
         · rw [G1.out.2]; exact KA.out
         · rw [G2.out.2]; exact KB.out
         rintro e wD ⟨tb', t', rfl, bD, gD, eD⟩
         have GD := Lib.hid (And.intro gD (And.intro (eD.trans (by rw [G1.out.2, G2.out.2])) (BW.out.trans (bD.mono BW.out.size))))
         clear bD gD eD)
      | (go_at_call 41
         go_loud (refine (shape_good GD.out.1 ?_).mono ?_)
         · rw [sz, GD.out.2.1]; have h1 := intL_len ⟨no, ca, cb, cc, cm, cr⟩ (psrt_opt SA.out) (psrt_opt SB.out); rw [opt_len, opt_len] at h1; have := LA.out; have := LB.out; omega
         rintro e wS ⟨vS, rfl, oS, bS⟩
         have GS := Lib.hid (And.intro oS bS)
         clear oS bS))
  all_goals (go_wp2_with fail; go_ret; exact ⟨t', vS, rfl, Rd.of_own Nn.len (by rw [nlist_len]; exact GS.out.1), GD.out.2.2.trans (GS.out.2.mono GD.out.2.2.size), GD.out.2.1, GD.out.1.A⟩)

end Go.Proofs.Ytahghidbadpkeaa
