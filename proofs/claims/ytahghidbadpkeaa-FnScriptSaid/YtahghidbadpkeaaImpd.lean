/- The walk of impl.Difference. -/
import Derived.Test.YtahghidbadpkeaaPlai
import Derived.Deep.RegionWith
set_option linter.unusedVariables false
set_option linter.unusedSimpArgs false
namespace Go.Proofs.Ytahghidbadpkeaa
open Go.Deep Go.RowKit

section
variable {w : World} {g : Nat} {no : Bool} {ca cb cc cm cr : Int} (h : w.heap[g]? = some (.cells #[.bool no, .int .i64 ca, .int .i64 cb, .int .i64 cc, .int .i64 cm, .int .i64 cr] 39 (0, 0)))
include h
theorem bool_cell : w.cell? ⟨g, 0, none⟩ = some (.bool no) := by simp [World.cell?, h]
theorem int_cell1 : w.cell? ⟨g, 1, none⟩ = some (.int .i64 ca) := by simp [World.cell?, h]
theorem int_cell2 : w.cell? ⟨g, 2, none⟩ = some (.int .i64 cb) := by simp [World.cell?, h]
theorem int_cell3 : w.cell? ⟨g, 3, none⟩ = some (.int .i64 cc) := by simp [World.cell?, h]
theorem int_cell4 : w.cell? ⟨g, 4, none⟩ = some (.int .i64 cm) := by simp [World.cell?, h]
theorem int_cell5 : w.cell? ⟨g, 5, none⟩ = some (.int .i64 cr) := by simp [World.cell?, h]
end
theorem alloc_at {W wC : World} {o : Obj} (h : W.alloc o = wC) : wC.heap[W.heap.size]? = some o ∧ Below W.heap.size W wC := by
  subst h
  exact ⟨heap_alloc_new W o, (Below.refl _ W).alloc (Nat.le_refl _) o⟩
theorem pDiff_len (x : Mx) (A B : List (Int × Int)) : (pDiff x A B).length ≤ A.length := by
  induction A with
  | nil => simp [pDiff]
  | cons p A ih =>
    have h1 : pDiff x (p :: A) B = dstep x B p ++ pDiff x A B := rfl
    have := dstep_len x B p
    rw [h1, List.length_append, List.length_cons]; omega
theorem opt_mem {k : Int} {S : List (Int × Int)} (h : ∀ p ∈ S, p.1 ≠ k) : ∀ p ∈ opt S, p.1 ≠ k := by
  intro p hp
  obtain ⟨q, hq, rfl⟩ := List.mem_map.1 hp
  exact h q hq
theorem pPut_mem {k x v : Int} {S : List (Int × Int)} (h : ∀ p ∈ S, p.1 ≠ k) (hx : x ≠ k) : ∀ p ∈ pPut x v S, p.1 ≠ k := by
  intro p hp
  simp only [pPut, pLo, pHi, List.mem_append, List.mem_cons, List.mem_filter] at hp
  rcases hp with hp | rfl | hp
  · exact h p hp.1
  · exact hx
  · exact h p hp.1
theorem pTree_mem {k : Int} {L : List (Int × Int)} (h : ∀ p ∈ L, p.1 ≠ k) : ∀ p ∈ pTree L, p.1 ≠ k := by
  have : ∀ (L S : List (Int × Int)), (∀ p ∈ L, p.1 ≠ k) → (∀ p ∈ S, p.1 ≠ k) → ∀ p ∈ L.foldl (fun S p => pPut p.1 p.2 S) S, p.1 ≠ k := by
    intro L
    induction L with
    | nil => exact fun S _ h => h
    | cons q L ih => exact fun S h1 h2 => ih _ (fun p hp => h1 p (List.mem_cons_of_mem _ hp)) (pPut_mem h2 (h1 q (List.mem_cons_self ..)))
  exact this L [] h (fun p hp => by cases hp)

set_option maxRecDepth 100000 in
set_option maxHeartbeats 3000000 in
theorem implDiff_any {w : World} {v bv : Value} {A B : List (Int × Int)} (x : Mx) (h : Rd pc 2 w v A) (hB : Rd pc 2 w bv B) (ha : ∀ p ∈ A, p.1 ≠ -2147483648) (hb : ∀ p ∈ B, p.1 ≠ -2147483648) (hn : A.length ≤ 1000) (hn2 : B.length ≤ 1000) :
    Calls Try.prog 22 #[v, bv, .agg x.cells] w (DlPost (pDiff x (pTree A) (pTree B)) w) := by
  obtain ⟨sa, cap, rfl⟩ := h.shape
  obtain ⟨ba, bcap, rfl⟩ := hB.shape
  have TA := Lib.hid (fun (W : World) (hw : Below w.heap.size w W) => tree_any (h.below hw) ha (by omega))
  have TB := Lib.hid (fun (W : World) (hw : Below w.heap.size w W) => tree_any (hB.below hw) hb (by omega))
  have KA := Lib.hid (opt_mem (pTree_mem ha))
  have LA := Lib.hid (pTree_len A)
  have SA := Lib.hid (pTree_srt A)
  clear h hB ha hb
  obtain ⟨no, ca, cb, cc, cm, cr⟩ := x
  have CA : Hid (∀ W : World, Calls Try.prog 48 #[.agg #[.bool no, .int .i64 ca, .int .i64 cb, .int .i64 cc, .int .i64 cm, .int .i64 cr]] W (fun e w' => e = .returned (fv ⟨no, ca, cb, cc, cm, cr⟩ W.heap.size) ∧ W.alloc (.cells #[.bool no, .int .i64 ca, .int .i64 cb, .int .i64 cc, .int .i64 cm, .int .i64 cr] 39) = w')) := fun W => call_any ⟨no, ca, cb, cc, cm, cr⟩
  simp only [Mx.cells]
  have BW : Hid (Below w.heap.size w (w.alloc (.cells #[.bool no, .int .i64 ca, .int .i64 cb, .int .i64 cc, .int .i64 cm, .int .i64 cr] 39)).drew) := ((Below.refl _ w).alloc (Nat.le_refl _) _).trans ⟨rfl, rfl, rfl, Nat.le_refl _, fun _ _ => rfl⟩
  have BX : Hid ((w.alloc (.cells #[.bool no, .int .i64 ca, .int .i64 cb, .int .i64 cc, .int .i64 cm, .int .i64 cr] 39)).drew.heap[w.heap.size]? = some (.cells #[.bool no, .int .i64 ca, .int .i64 cb, .int .i64 cc, .int .i64 cm, .int .i64 cr] 39 (0, 0))) := heap_alloc_new w _
  have E0 := Lib.hid (show (w.alloc (.cells #[.bool no, .int .i64 ca, .int .i64 cb, .int .i64 cc, .int .i64 cm, .int .i64 cr] 39)).drew.heap.size = w.heap.size + 1 by simp)
  go_enter Try.func22, Try.ntmps22
  go_upto_region 1 with (fail)
  go_region_with (first
      | (go_at_call_of 42 (Value.slice sa A.length cap)
         refine (TA.out _ BW.out).mono ?_
         rintro e wN ⟨t1, rfl, bN, g1, e1⟩
         have lt0 := (Array.getElem?_eq_some_iff.1 BX.out).1
         have BW := Lib.hid (BW.out.trans (bN.mono BW.out.size))
         have BX := Lib.hid ((bN.block _ lt0).trans BX.out)
         have m0 := bool_cell BX.out
         have m1 := int_cell1 BX.out
         have m2 := int_cell2 BX.out
         have m3 := int_cell3 BX.out
         have m4 := int_cell4 BX.out
         have m5 := int_cell5 BX.out
         try (have G2 := Lib.hid (And.intro (G2.out.1.below bN) G2.out.2))
         try (have HC := Lib.hid ((bN.block _ (Array.getElem?_eq_some_iff.1 HC.out).1).trans HC.out))
         try rw [E0.out] at g1
         have G1 := Lib.hid (And.intro g1 (e1.trans (opt_tree A).symm))
         clear bN g1 e1 lt0)
      | (go_at_call_of 42 (Value.slice ba B.length bcap)
         refine (TB.out _ BW.out).mono ?_
         rintro e wN ⟨t2, rfl, bN, g2, e2⟩
         have lt0 := (Array.getElem?_eq_some_iff.1 BX.out).1
         have BW := Lib.hid (BW.out.trans (bN.mono BW.out.size))
         have BX := Lib.hid ((bN.block _ lt0).trans BX.out)
         have m0 := bool_cell BX.out
         have m1 := int_cell1 BX.out
         have m2 := int_cell2 BX.out
         have m3 := int_cell3 BX.out
         have m4 := int_cell4 BX.out
         have m5 := int_cell5 BX.out
         try (have G1 := Lib.hid (And.intro (G1.out.1.below bN) G1.out.2))
         try (have HC := Lib.hid ((bN.block _ (Array.getElem?_eq_some_iff.1 HC.out).1).trans HC.out))
         try rw [E0.out] at g2
         have G2 := Lib.hid (And.intro g2 (e2.trans (opt_tree B).symm))
         clear bN g2 e2 lt0)
      | (go_at_call 48
         refine (CA.out _).mono ?_
         rintro e wN ⟨rfl, hcc⟩
         have bN := (alloc_at hcc).2
         have lt0 := (Array.getElem?_eq_some_iff.1 BX.out).1
         have BW := Lib.hid (BW.out.trans (bN.mono BW.out.size))
         have BX := Lib.hid ((bN.block _ lt0).trans BX.out)
         have m0 := bool_cell BX.out
         have m1 := int_cell1 BX.out
         have m2 := int_cell2 BX.out
         have m3 := int_cell3 BX.out
         have m4 := int_cell4 BX.out
         have m5 := int_cell5 BX.out
         try (have G1 := Lib.hid (And.intro (G1.out.1.below bN) G1.out.2))
         try (have G2 := Lib.hid (And.intro (G2.out.1.below bN) G2.out.2))
         have hc1 := (alloc_at hcc).1
         try rw [E0.out] at hc1
         have HC := Lib.hid hc1
         clear bN hcc lt0 hc1)
      | (go_at_call 47
         go_loud (refine (Difference_any ⟨no, ca, cb, cc, cm, cr⟩ rfl G1.out.1 G2.out.1 HC.out ?_ ?_).mono ?_)
         · rw [G1.out.2, opt_len]; have := LA.out; omega
         · rw [G1.out.2]; exact KA.out
         rintro e wD ⟨tb', t', rfl, bD, gD, eD⟩
         have GD := Lib.hid (And.intro gD (And.intro (eD.trans (by rw [G1.out.2, G2.out.2, dif_all _ SA.out])) (BW.out.trans (bD.mono BW.out.size))))
         clear bD gD eD)
      | (go_at_call 41
         go_loud (refine (shape_good GD.out.1 ?_).mono ?_)
         · rw [sz, GD.out.2.1, opt_len]; have := pDiff_len ⟨no, ca, cb, cc, cm, cr⟩ (pTree A) (pTree B); have := LA.out; omega
         rintro e wS ⟨vS, rfl, oS, bS⟩
         have GS := Lib.hid (And.intro oS bS)
         clear oS bS))
  all_goals (go_wp2_with fail; go_ret; exact ⟨t', vS, rfl, Rd.of_own Nn.len (by rw [nlist_len]; exact GS.out.1), GD.out.2.2.trans (GS.out.2.mono GD.out.2.2.size), GD.out.2.1, GD.out.1.A⟩)

end Go.Proofs.Ytahghidbadpkeaa
