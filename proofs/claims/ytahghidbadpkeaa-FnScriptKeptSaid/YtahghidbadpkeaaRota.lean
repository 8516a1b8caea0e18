/- The walks of the nodes' small methods: height, copy, makeNode, and the rotations. -/
import Derived.Test.YtahghidbadpkeaaHeap
import Derived.Test.YtahghidbadpkeaaRows
import Derived.WalkSpells
import Derived.WalkLawsBesides
import Derived.BigQuiet
import Derived.Deep.QuietTactic
import Derived.Deep.RegionWith
import Derived.StillTailTactics
import Derived.Lib.Hide
import Derived.LaidEqlPtr
set_option linter.unusedVariables false
set_option linter.unusedSimpArgs false
namespace Go.Proofs.Ytahghidbadpkeaa
open Go.Deep Go.RowKit

theorem max_ite (x y : Int) : (if x < y then y else x) = max x y := by split <;> omega
attribute [local go_sem] max_ite
theorem wrap_i8 {x : Int} (h0 : -129 ≤ x) (h1 : x ≤ 126) : IntKind.i8.wrap (1 + x) = 1 + x :=
  IntWalk.i8_in _ ⟨by omega, by omega⟩

/-- A pointer to a node, or nil. -/
def IsNode (w : World) (p : Option Addr) : Prop := p = none ∨ ∃ b cs, p = some ⟨b, 0, none⟩ ∧ w.heap[b]? = some (.cells cs 101 (0, 0))
theorem Holds.isNode {w : World} {t : BT Nd} (h : Holds w t) : IsNode w (pt t) := by
  cases t with
  | nil => exact .inl rfl
  | node b o a l r => exact .inr ⟨b, _, rfl, h.2.1⟩
theorem Cel.isNode {w : World} {b : Nat} {lp rp : Option Addr} {d : Option Int} {k h : Int} (c : Cel w b lp rp d k h) : IsNode w (some ⟨b, 0, none⟩) := .inr ⟨b, _, rfl, c⟩

theorem info101 : (Try.prog.info? 101).map (·.size) = some 5 := by kernel_rfl

theorem equal94 {w : World} {p q : Option Addr} (hp : IsNode w p) (hq : IsNode w q) : (Op.equal 94 (.pointer p) (.pointer q)).run Try.prog w = .ok (decide (p = q)) w := by
  have hi : ∃ j, Try.prog.info? 101 = some j ∧ j.size ≠ 0 := by
    have := info101
    cases h : Try.prog.info? 101 with
    | none => rw [h] at this; cases this
    | some j => rw [h] at this; exact ⟨j, rfl, by simp at this; omega⟩
  obtain ⟨j, hj, hz⟩ := hi
  have key : ∀ d : Nat, (Op.equalIn (d + 1) 94 (.pointer p) (.pointer q)).run Try.prog w = .ok (decide (p = q)) w := by
    intro d
    rcases hp with rfl | ⟨b, cs, rfl, hb⟩
    · rcases hq with rfl | ⟨b', cs', rfl, hb'⟩ <;> simp [Op.equalIn, run_underlying Try.underlying94]
    · rcases hq with rfl | ⟨b', cs', rfl, hb'⟩
      · simp [Op.equalIn, run_underlying Try.underlying94]
      · by_cases e : b = b'
        · subst e
          simp [Op.equalIn, run_underlying Try.underlying94, sizeOf, typeInfo, hj, run_sameAddr_same]
        · have hne : (⟨b, 0, none⟩ : Addr) ≠ ⟨b', 0, none⟩ := by intro h; exact e (congrArg Addr.block h)
          simp [Op.equalIn, run_underlying Try.underlying94, sizeOf, typeInfo, hj, hz, run_sameAddr_other w hne hb hb', e]
  exact key 9999

theorem eql94 {w : World} {p q : Option Addr} (hp : IsNode w p) (hq : IsNode w q) : (binOp .eql 94 (.pointer p) (.pointer q)).run Try.prog w = .ok (.bool (decide (p = q))) w := by
  simp only [binOp]
  simp [equal94 hp hq]
theorem neq94 {w : World} {p q : Option Addr} (hp : IsNode w p) (hq : IsNode w q) : (binOp .neq 94 (.pointer p) (.pointer q)).run Try.prog w = .ok (.bool (!decide (p = q))) w := by
  simp only [binOp]
  simp [equal94 hp hq]

theorem copy_any (b : Nat) (lp rp : Option Addr) (d : Option Int) (k h : Int) (w : World) (hc : Cel w b lp rp d k h) :
    Calls Try.prog 77 #[.pointer (some ⟨b, 0, none⟩)] w fun e w' => e = .returned (.pointer (some ⟨w.heap.size, 0, none⟩)) ∧ w.alloc (.cells #[.pointer lp, .pointer rp, dv d, .int .i32 k, .int .i8 h] 101) = w' := by
  have h0 := hc.c0
  have h1 := hc.c1
  have h2 := hc.c2
  have h3 := hc.c3
  have h4 := hc.c4
  clear hc
  cases d
  all_goals
    unfold dv at *
    go_enter Try.func77, Try.ntmps77
    go_wp2
    go_ret
    exact ⟨rfl, rfl⟩

theorem make_any (k : Int) (w : World) :
    Calls Try.prog 74 #[.int .i32 k] w fun e w' => e = .returned (.pointer (some ⟨w.heap.size, 0, none⟩)) ∧ w.alloc (.cells #[.pointer none, .pointer none, dv none, .int .i32 k, .int .i8 1] 101) = w' := by
  go_enter Try.func74, Try.ntmps74
  go_wp2
  go_ret
  exact ⟨rfl, rfl⟩

theorem height_nil (w : World) :
    Calls Try.prog 76 #[.pointer none] w fun e w' => e = .returned (.int .i8 0) ∧ w' = w := by
  go_enter Try.func76, Try.ntmps76
  go_wp2
  go_ret
  exact ⟨rfl, rfl⟩

theorem height_some (b : Nat) (h : Int) (w : World) (hc : w.cell? ⟨b, 4, none⟩ = some (.int .i8 h)) :
    Calls Try.prog 76 #[.pointer (some ⟨b, 0, none⟩)] w fun e w' => e = .returned (.int .i8 h) ∧ w' = w := by
  go_enter Try.func76, Try.ntmps76
  go_wp2
  go_ret
  exact ⟨rfl, rfl⟩

theorem height_any (t : BT Nd) (w : World) (ht : Holds w t) :
    Calls Try.prog 76 #[.pointer (pt t)] w fun e w' => e = .returned (.int .i8 (sh t)) ∧ w' = w := by
  cases t with
  | nil => exact height_nil w
  | node b o a l r => exact height_some b a.h w ht.2.1.c4

set_option maxRecDepth 100000 in
set_option maxHeartbeats 400000 in
theorem rtr_walk (b br : Nat) (l rl rr : BT Nd) (d dr : Option Int) (k kr h hr : Int) (w : World) (hne : b ≠ br)
  (c : Cel w b (pt l) (some ⟨br, 0, none⟩) d k h) (cr : Cel w br (pt rl) (pt rr) dr kr hr)
  (tl : Holds w l) (trl : Holds w rl) (trr : Holds w rr) (n1 : b ∉ blks l) (n2 : b ∉ blks rl) (n3 : b ∉ blks rr) (m1 : br ∉ blks l) (m2 : br ∉ blks rl) (m3 : br ∉ blks rr) :
    Calls Try.prog 89 #[.pointer (some ⟨b, 0, none⟩)] w fun e w' => e = .returned (.pointer (some ⟨br, 0, none⟩)) ∧
      (((((w.setCell ⟨br, 0, none⟩ (.pointer (some ⟨b, 0, none⟩))).setCell ⟨b, 1, none⟩ (.pointer (pt rl))).setCell ⟨b, 4, none⟩ (.int .i8 (IntKind.i8.wrap (1 + max (sh rl) (sh l))))).setCell ⟨br, 4, none⟩ (.int .i8 (IntKind.i8.wrap (1 + max (IntKind.i8.wrap (1 + max (sh rl) (sh l))) (sh rr)))))).drew.drew = w' := by
  have a0 := c.c0
  have a1 := c.c1
  have a4 := c.c4
  have af := c.fz
  have r0 := cr.c0
  have r1 := cr.c1
  have r4 := cr.c4
  have rf := cr.fz
  have H1 : Hid (Holds ((w.setCell ⟨br, 0, none⟩ (.pointer (some ⟨b, 0, none⟩))).setCell ⟨b, 1, none⟩ (.pointer (pt rl))) rl) := (trl.set _ _ m2).set _ _ n2
  have H2 : Hid (Holds ((w.setCell ⟨br, 0, none⟩ (.pointer (some ⟨b, 0, none⟩))).setCell ⟨b, 1, none⟩ (.pointer (pt rl))) l) := (tl.set _ _ m1).set _ _ n1
  have H3 : Hid (∀ v, Holds (((w.setCell ⟨br, 0, none⟩ (.pointer (some ⟨b, 0, none⟩))).setCell ⟨b, 1, none⟩ (.pointer (pt rl))).setCell ⟨b, 4, none⟩ v) rr) := fun v => ((trr.set _ _ m3).set _ _ n3).set _ _ n3
  have H4 : Hid (∀ v, (((w.setCell ⟨br, 0, none⟩ (.pointer (some ⟨b, 0, none⟩))).setCell ⟨b, 1, none⟩ (.pointer (pt rl))).setCell ⟨b, 4, none⟩ (.int .i8 v)).cell? ⟨b, 4, none⟩ = some (.int .i8 v)) := fun v => (((c.other _ hne).set1 _).set4 v).c4
  clear c cr tl trl trr n1 n2 n3 m1 m2 m3
  go_enter Try.func89, Try.ntmps89
  go_wp2_with fail
  refine wp_region_still_tail 12 (by kernel_rfl) (by kernel_rfl) ?_
  simp only [List.take_succ_cons, List.take_zero, List.drop_succ_cons, List.drop_zero]
  change wpStill _ _ (World.drew _) _ _ _
  repeat still_step
  refine wpStill_step (fun K hK => ?_)
  go_simp
  refine ⟨_, height_any rl _ H1.out.drew, hK _ ?_⟩
  clear hK K
  repeat still_step
  refine wpStill_step (fun K hK => ?_)
  go_simp
  refine ⟨_, height_any l _ H2.out.drew, hK _ ?_⟩
  clear hK K
  repeat still_step
  refine wpStill_nil ?_
  change wpList _ _ _ _ _ (World.drew _)
  go_wp2_with fail
  refine wp_region_still_tail 12 (by kernel_rfl) (by kernel_rfl) ?_
  simp only [List.take_succ_cons, List.take_zero, List.drop_succ_cons, List.drop_zero]
  change wpStill _ _ (World.drew _) _ _ _
  repeat still_step
  refine wpStill_step (fun K hK => ?_)
  go_simp
  refine ⟨_, height_some b _ _ (H4.out _), hK _ ?_⟩
  clear hK K
  repeat still_step
  refine wpStill_step (fun K hK => ?_)
  go_simp
  refine ⟨_, height_any rr _ (H3.out _).drew.drew, hK _ ?_⟩
  clear hK K
  repeat still_step
  refine wpStill_nil ?_
  change wpList _ _ _ _ _ (World.drew _)
  go_wp2_with fail
  go_ret
  exact ⟨rfl, rfl⟩

theorem rtr_any (b br : Nat) (l rl rr : BT Nd) (d dr : Option Int) (k kr h hr : Int) (w : World) (hne : b ≠ br)
  (c : Cel w b (pt l) (some ⟨br, 0, none⟩) d k h) (cr : Cel w br (pt rl) (pt rr) dr kr hr)
  (tl : Holds w l) (trl : Holds w rl) (trr : Holds w rr) (n1 : b ∉ blks l) (n2 : b ∉ blks rl) (n3 : b ∉ blks rr) (m1 : br ∉ blks l) (m2 : br ∉ blks rl) (m3 : br ∉ blks rr)
  (b1 : 0 ≤ sh l ∧ sh l ≤ 100) (b2 : 0 ≤ sh rl ∧ sh rl ≤ 100) (b3 : 0 ≤ sh rr ∧ sh rr ≤ 100) :
    Calls Try.prog 89 #[.pointer (some ⟨b, 0, none⟩)] w fun e w' => e = .returned (.pointer (some ⟨br, 0, none⟩)) ∧ Chg (fun k => k = b ∨ k = br) w w' ∧ w'.heap.size = w.heap.size ∧
      Cel w' b (pt l) (pt rl) d k (1 + max (sh rl) (sh l)) ∧ Cel w' br (some ⟨b, 0, none⟩) (pt rr) dr kr (1 + max (1 + max (sh rl) (sh l)) (sh rr)) := by
  refine (rtr_walk b br l rl rr d dr k kr h hr w hne c cr tl trl trr n1 n2 n3 m1 m2 m3).mono ?_
  rintro e w' ⟨rfl, rfl⟩
  rw [wrap_i8 (x := max (sh rl) (sh l)) (by omega) (by omega), wrap_i8 (x := max (1 + max (sh rl) (sh l)) (sh rr)) (by omega) (by omega)]
  refine ⟨rfl, ?_, by simp, ?_, ?_⟩
  · refine ((((((Chg.refl _ w).setCell _ _ ?_).setCell _ _ ?_).setCell _ _ ?_).setCell _ _ ?_).drew).drew <;> simp
  · exact ((((c.other _ hne).set1 _).set4 _).other _ hne).drew.drew
  · exact (((((cr.set0 _).other _ (Ne.symm hne)).other _ (Ne.symm hne)).set4 _)).drew.drew

set_option maxRecDepth 100000 in
set_option maxHeartbeats 400000 in
theorem ltr_walk (b br : Nat) (l rl rr : BT Nd) (d dr : Option Int) (k kr h hr : Int) (w : World) (hne : b ≠ br)
  (c : Cel w b (some ⟨br, 0, none⟩) (pt l) d k h) (cr : Cel w br (pt rr) (pt rl) dr kr hr)
  (tl : Holds w l) (trl : Holds w rl) (trr : Holds w rr) (n1 : b ∉ blks l) (n2 : b ∉ blks rl) (n3 : b ∉ blks rr) (m1 : br ∉ blks l) (m2 : br ∉ blks rl) (m3 : br ∉ blks rr) :
    Calls Try.prog 90 #[.pointer (some ⟨b, 0, none⟩)] w fun e w' => e = .returned (.pointer (some ⟨br, 0, none⟩)) ∧
      (((((w.setCell ⟨br, 1, none⟩ (.pointer (some ⟨b, 0, none⟩))).setCell ⟨b, 0, none⟩ (.pointer (pt rl))).setCell ⟨b, 4, none⟩ (.int .i8 (IntKind.i8.wrap (1 + max (sh rl) (sh l))))).setCell ⟨br, 4, none⟩ (.int .i8 (IntKind.i8.wrap (1 + max (IntKind.i8.wrap (1 + max (sh rl) (sh l))) (sh rr)))))).drew.drew = w' := by
  have a0 := c.c0
  have a1 := c.c1
  have a4 := c.c4
  have af := c.fz
  have r0 := cr.c0
  have r1 := cr.c1
  have r4 := cr.c4
  have rf := cr.fz
  have H1 : Hid (Holds ((w.setCell ⟨br, 1, none⟩ (.pointer (some ⟨b, 0, none⟩))).setCell ⟨b, 0, none⟩ (.pointer (pt rl))) rl) := (trl.set _ _ m2).set _ _ n2
  have H2 : Hid (Holds ((w.setCell ⟨br, 1, none⟩ (.pointer (some ⟨b, 0, none⟩))).setCell ⟨b, 0, none⟩ (.pointer (pt rl))) l) := (tl.set _ _ m1).set _ _ n1
  have H3 : Hid (∀ v, Holds (((w.setCell ⟨br, 1, none⟩ (.pointer (some ⟨b, 0, none⟩))).setCell ⟨b, 0, none⟩ (.pointer (pt rl))).setCell ⟨b, 4, none⟩ v) rr) := fun v => ((trr.set _ _ m3).set _ _ n3).set _ _ n3
  have H4 : Hid (∀ v, (((w.setCell ⟨br, 1, none⟩ (.pointer (some ⟨b, 0, none⟩))).setCell ⟨b, 0, none⟩ (.pointer (pt rl))).setCell ⟨b, 4, none⟩ (.int .i8 v)).cell? ⟨b, 4, none⟩ = some (.int .i8 v)) := fun v => (((c.other _ hne).set0 _).set4 v).c4
  clear c cr tl trl trr n1 n2 n3 m1 m2 m3
  go_enter Try.func90, Try.ntmps90
  go_wp2_with fail
  refine wp_region_still_tail 12 (by kernel_rfl) (by kernel_rfl) ?_
  simp only [List.take_succ_cons, List.take_zero, List.drop_succ_cons, List.drop_zero]
  change wpStill _ _ (World.drew _) _ _ _
  repeat still_step
  refine wpStill_step (fun K hK => ?_)
  go_simp
  refine ⟨_, height_any rl _ H1.out.drew, hK _ ?_⟩
  clear hK K
  repeat still_step
  refine wpStill_step (fun K hK => ?_)
  go_simp
  refine ⟨_, height_any l _ H2.out.drew, hK _ ?_⟩
  clear hK K
  repeat still_step
  refine wpStill_nil ?_
  change wpList _ _ _ _ _ (World.drew _)
  go_wp2_with fail
  refine wp_region_still_tail 12 (by kernel_rfl) (by kernel_rfl) ?_
  simp only [List.take_succ_cons, List.take_zero, List.drop_succ_cons, List.drop_zero]
  change wpStill _ _ (World.drew _) _ _ _
  repeat still_step
  refine wpStill_step (fun K hK => ?_)
  go_simp
  refine ⟨_, height_some b _ _ (H4.out _), hK _ ?_⟩
  clear hK K
  repeat still_step
  refine wpStill_step (fun K hK => ?_)
  go_simp
  refine ⟨_, height_any rr _ (H3.out _).drew.drew, hK _ ?_⟩
  clear hK K
  repeat still_step
  refine wpStill_nil ?_
  change wpList _ _ _ _ _ (World.drew _)
  go_wp2_with fail
  go_ret
  exact ⟨rfl, rfl⟩

theorem ltr_any (b br : Nat) (l rl rr : BT Nd) (d dr : Option Int) (k kr h hr : Int) (w : World) (hne : b ≠ br)
  (c : Cel w b (some ⟨br, 0, none⟩) (pt l) d k h) (cr : Cel w br (pt rr) (pt rl) dr kr hr)
  (tl : Holds w l) (trl : Holds w rl) (trr : Holds w rr) (n1 : b ∉ blks l) (n2 : b ∉ blks rl) (n3 : b ∉ blks rr) (m1 : br ∉ blks l) (m2 : br ∉ blks rl) (m3 : br ∉ blks rr)
  (b1 : 0 ≤ sh l ∧ sh l ≤ 100) (b2 : 0 ≤ sh rl ∧ sh rl ≤ 100) (b3 : 0 ≤ sh rr ∧ sh rr ≤ 100) :
    Calls Try.prog 90 #[.pointer (some ⟨b, 0, none⟩)] w fun e w' => e = .returned (.pointer (some ⟨br, 0, none⟩)) ∧ Chg (fun k => k = b ∨ k = br) w w' ∧ w'.heap.size = w.heap.size ∧
      Cel w' b (pt rl) (pt l) d k (1 + max (sh rl) (sh l)) ∧ Cel w' br (pt rr) (some ⟨b, 0, none⟩) dr kr (1 + max (1 + max (sh rl) (sh l)) (sh rr)) := by
  refine (ltr_walk b br l rl rr d dr k kr h hr w hne c cr tl trl trr n1 n2 n3 m1 m2 m3).mono ?_
  rintro e w' ⟨rfl, rfl⟩
  rw [wrap_i8 (x := max (sh rl) (sh l)) (by omega) (by omega), wrap_i8 (x := max (1 + max (sh rl) (sh l)) (sh rr)) (by omega) (by omega)]
  refine ⟨rfl, ?_, by simp, ?_, ?_⟩
  · refine ((((((Chg.refl _ w).setCell _ _ ?_).setCell _ _ ?_).setCell _ _ ?_).setCell _ _ ?_).drew).drew <;> simp
  · exact ((((c.other _ hne).set0 _).set4 _).other _ hne).drew.drew
  · exact (((((cr.set1 _).other _ (Ne.symm hne)).other _ (Ne.symm hne)).set4 _)).drew.drew

end Go.Proofs.Ytahghidbadpkeaa
