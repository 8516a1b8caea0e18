/- The walk of aInsert, its right side, and the whole. -/
import Derived.Test.YtahghidbadpkeaaInsw
set_option linter.unusedVariables false
set_option linter.unusedSimpArgs false
namespace Go.Proofs.Ytahghidbadpkeaa
open Go.Deep Go.RowKit
attribute [local go_sem] max_ite

set_option maxRecDepth 100000 in
set_option maxHeartbeats 400000 in
theorem ins_leaf_right {w : World} {b : Nat} {a : Nd} {l : BT Nd} {x : Int} (hx : a.k < x) (H : Holds w (.node b 0 a l .nil)) (S : Srt (prs (.node b 0 a l .nil))) (A : Avl (.node b 0 a l .nil)) :
    Calls Try.prog 75 #[.pointer (some ⟨b, 0, none⟩), .int .i32 x] w (InsPost x (.node b 0 a l .nil) w) := by
  have F : InsPost x (.node b 0 a l .nil) w (.returned (.tuple #[.pointer (some ⟨w.heap.size, 0, none⟩), .pointer (some ⟨w.heap.size + 1, 0, none⟩), .pointer none]))
      ((w.alloc (.cells #[.pointer (pt l), .pointer (some ⟨w.heap.size + 1, 0, none⟩), dv a.d, .int .i32 a.k, .int .i8 2] 101)).alloc (.cells #[.pointer none, .pointer none, dv none, .int .i32 x, .int .i8 1] 101)) := by
    have S' := Srt.app S
    refine ⟨.node w.heap.size 0 { a with h := 2 } l (.node (w.heap.size + 1) 0 ⟨x, none, 1⟩ .nil .nil), w.heap.size + 1, _, rfl, ((Below.refl _ _).alloc (Nat.le_refl _) _).alloc (by simp) _, ⟨rfl, blk_alloc2, (H.2.2.1.alloc _).alloc _, ⟨rfl, ?_, trivial, trivial⟩⟩, Ins.leaf_right A S hx, ⟨?_, ?_, ⟨by simp, trivial, trivial⟩⟩, Nat.le_succ _, ?_, .inl ⟨rfl, ?_⟩⟩
    · have h := Cel.new (w.alloc (.cells #[.pointer (pt l), .pointer (some ⟨w.heap.size + 1, 0, none⟩), dv a.d, .int .i32 a.k, .int .i8 2] 101)) none none none x 1
      rw [World.size_alloc] at h
      exact h
    · show w.heap.size = w.heap.size + 1 ↔ a.k = x
      omega
    · exact Mk.none (fun h => by have := H.2.2.1.lt _ h; omega) (fun p hp => by have := S'.2.2.1 p hp; simp at this; omega)
    · intro y hy; simp only [pt, Option.some.injEq] at hy; subst hy; exact Nat.le_refl _
    · intro p hp
      simp only [prs, List.mem_append, List.mem_singleton] at hp
      rcases hp with hp | rfl
      · have := S'.2.2.1 p hp; simp at this; omega
      · show a.k ≠ x; omega
  have HF := Lib.hid F
  clear F S A
  have c := H.2.1
  clear H
  have C := Lib.hid c
  have c1 := c.c1
  have c3 := c.c3
  clear c
  simp only [pt] at c1
  go_enter Try.func75, Try.ntmps75
  go_wp2_with fail
  refine (copy_any b _ _ _ _ _ _ C.out).mono ?_
  rintro e w1 ⟨rfl, rfl⟩
  go_wp2_with fail
  refine (make_any x _).mono ?_
  rintro e w1 ⟨rfl, rfl⟩
  go_wp2_with fail
  go_ret3
  exact HF.out

/-- What is known behind the call on the right side, the node copied. -/
structure InsR (w W : World) (b b' nb : Nat) (a : Nd) (l r r' : BT Nd) (x : Int) (op : Option Addr) : Prop where
  hx : a.k < x
  S : Srt (prs (.node b 0 a l r))
  A : Avl (.node b 0 a l r)
  hh : ht (.node b 0 a l r) ≤ 80
  r0 : Holds w l
  blw : Below w.heap.size w W
  H : Holds W (.node b' 0 a l r')
  I : Ins x r r'
  M : Mk nb x r'
  fb : w.heap.size ≤ b'
  fn : w.heap.size ≤ nb
  fr : ∀ a, pt r' = some a → w.heap.size ≤ a.block
  ne : b' ≠ nb
  old : Old x r w op

section
variable {w W : World} {b b' nb : Nat} {a : Nd} {l r r' : BT Nd} {x : Int} {op : Option Addr} (q : InsR w W b b' nb a l r r' x op)
include q
theorem InsR.mk_all (h : Int) : Mk nb x (.node b' 0 { a with h := h } l r') := by
  have S' := Srt.app q.S
  have := q.hx
  refine ⟨⟨fun e => absurd e q.ne, fun e => ?_⟩, Mk.none (fun h => ?_) (fun p hp => by have := S'.2.2.1 p hp; simp at this; omega), q.M⟩
  · have e' : a.k = x := e
    omega
  · have := q.r0.lt _ h; have := q.fn; omega

theorem InsR.old' : Old x (.node b 0 a l r) w op := by
  have S' := Srt.app q.S
  have := q.hx
  rcases q.old with ⟨h1, h2⟩ | ⟨ob, lp, rp, d, h, h1, h2, h3⟩
  · refine .inl ⟨h1, fun p hp => ?_⟩
    simp only [prs, List.mem_append, List.mem_cons] at hp
    rcases hp with hp | rfl | hp
    · have := S'.2.2.1 p hp; simp at this; omega
    · show a.k ≠ x; omega
    · exact h2 p hp
  · exact .inr ⟨ob, lp, rp, d, h, h1, h2, by simp only [prs]; exact List.mem_append_right _ (List.mem_cons_of_mem _ h3)⟩

theorem InsR.srt : Srt (prs (.node b' 0 a l r')) := by
  have e : prs (.node b' 0 a l r') = lo x (prs (.node b 0 a l r)) ++ (x, dat x (prs (.node b 0 a l r))) :: hi x (prs (.node b 0 a l r)) := by
    have S := q.S
    simp only [prs] at S ⊢
    rw [lo_more S q.hx, hi_more S q.hx, dat_more S q.hx, q.I.ps]
    simp
  rw [e]; exact q.S.put

/-- The side is not too high: the height is told anew. -/
theorem InsR.low (hc : ¬ 1 + sh l < sh r') (W' : World) (hW' : Chg (fun k => k = b') W W') (hC : Cel W' b' (pt l) (pt r') a.d a.k (1 + max (sh l) (sh r'))) (e : Ending)
    (he : e = .returned (.tuple #[.pointer (some ⟨b', 0, none⟩), .pointer (some ⟨nb, 0, none⟩), .pointer op])) : InsPost x (.node b 0 a l r) w e W' := by
  obtain ⟨p1, p2, p3⟩ := q.H.apart q.srt
  have e1 := q.I.avl.sh
  have e2 := q.A.1.sh
  refine ⟨.node b' 0 { a with h := 1 + max (sh l) (sh r') } l r', nb, op, he, q.blw.trans ((hW'.mono (S' := fun k => w.heap.size ≤ k) (fun k _ e => by subst e; exact q.fb)).below q.blw.size (fun _ h => h)),
    ⟨rfl, hC, q.H.2.2.1.chg hW' (fun k hk e => by subst e; exact p1 hk), q.H.2.2.2.chg hW' (fun k hk e => by subst e; exact p2 hk)⟩, Ins.right q.A q.S q.hx q.I (by omega) rfl, q.mk_all _, q.fn, ?_, q.old'⟩
  intro y hy; simp only [pt, Option.some.injEq] at hy; subst hy; exact q.fb

/-- It is: aRightIsHigh. -/
theorem InsR.high (hc : 1 + sh l < sh r') (W' : World) (hW' : Chg (fun _ => False) W W') :
    Calls Try.prog 87 #[.pointer (some ⟨b', 0, none⟩), .pointer (some ⟨nb, 0, none⟩)] W' (fun e w' => ∃ t', e = .returned (.pointer t') ∧
      InsPost x (.node b 0 a l r) w (.returned (.tuple #[.pointer t', .pointer (some ⟨nb, 0, none⟩), .pointer op])) w') := by
  obtain ⟨p1, p2, p3⟩ := q.H.apart q.srt
  have e1 := q.I.avl.sh
  have e2 := q.A.1.sh
  have hI := q.I.hgt
  have hs := q.srt
  have hm := Mk.mem q.M ⟨dat x (prs r), by rw [q.I.ps]; simp⟩
  obtain ⟨lp, rp, d, k, h, cn, _⟩ := q.H.2.2.2.key nb hm
  have g0 := q.A.2.2.2.1
  have hh := q.hh
  have fr := q.fr
  have H := q.H.chg hW' (fun _ _ h => h)
  have I := q.I
  have M := q.mk_all a.h
  cases r' with
  | nil => cases hm
  | node br o ar rl rr =>
    have ho : o = 0 := q.H.2.2.2.1
    subst ho
    obtain ⟨A2, A1, g2, g1, _⟩ := I.avl
    simp only [ht] at hI hh e1
    refine (right_high (w := W') ⟨H, hs, A1, A2, q.A.1, g1, g2, by omega, by omega⟩ w.heap.size (Nat.le_trans q.blw.size hW'.size) q.fb (fr _ rfl) (some ⟨nb, 0, none⟩) ((hW'.cel cn (fun h => h)).isNode)
      (fun y hy => by simp only [Option.some.injEq] at hy; cases hy; exact q.fn)).mono ?_
    rintro e w' ⟨t', rfl, b1, h1, r1, f1, m1⟩
    have hB : Below w.heap.size w W' := q.blw.trans ((hW'.mono (S' := fun k => w.heap.size ≤ k) (fun k _ e => e.elim)).below q.blw.size (fun _ h => h))
    refine ⟨_, rfl, t', nb, op, rfl, hB.trans b1, h1, Ins.right_rot q.A q.S q.hx I (by simp only [ht]; omega) r1, m1 nb x rfl (Nat.lt_of_lt_of_le cn.lt hW'.size) M, q.fn, f1, q.old'⟩
end

theorem InsR.mk' {w w1 : World} {b : Nat} {a : Nd} {l r r' : BT Nd} {x : Int} {nb : Nat} {op : Option Addr} (hx : a.k < x) (H : Holds w (.node b 0 a l r)) (S : Srt (prs (.node b 0 a l r))) (A : Avl (.node b 0 a l r)) (hh : ht (.node b 0 a l r) ≤ 80)
    (q : Below w.heap.size w w1 ∧ Holds w1 r' ∧ Ins x r r' ∧ Mk nb x r' ∧ w.heap.size ≤ nb ∧ (∀ a, pt r' = some a → w.heap.size ≤ a.block) ∧ Old x r w op) :
    InsR w (w1.alloc (.cells #[.pointer (pt l), .pointer (pt r'), dv a.d, .int .i32 a.k, .int .i8 a.h] 101)) b w1.heap.size nb a l r r' x op := by
  obtain ⟨q1, q2, q3, q4, q5, q6, q7⟩ := q
  refine ⟨hx, S, A, hh, H.2.2.1, q1.alloc q1.size _, ⟨rfl, Cel.new _ _ _ _ _ _, (H.2.2.1.below q1 (Nat.le_refl _)).alloc _, q2.alloc _⟩, q3, q4, q1.size, q5, q6, ?_, q7⟩
  have hm := Mk.mem q4 ⟨dat x (prs r), by rw [q3.ps]; simp⟩
  have := q2.lt nb hm
  omega

set_option maxRecDepth 100000 in
set_option maxHeartbeats 400000 in
theorem ins_right {w : World} {b : Nat} {a : Nd} {l r : BT Nd} {x : Int} (hx : a.k < x) (hl : r ≠ .nil) (H : Holds w (.node b 0 a l r)) (S : Srt (prs (.node b 0 a l r))) (A : Avl (.node b 0 a l r)) (hh : ht (.node b 0 a l r) ≤ 80)
    (ih : Calls Try.prog 75 #[.pointer (pt r), .int .i32 x] w (InsPost x r w)) :
    Calls Try.prog 75 #[.pointer (some ⟨b, 0, none⟩), .int .i32 x] w (InsPost x (.node b 0 a l r) w) := by
  have c := H.2.1
  have C := Lib.hid c
  have MK := Lib.hid (fun (w1 : World) (r' : BT Nd) (nb : Nat) (op : Option Addr) q => InsR.mk' (w1 := w1) (r' := r') (nb := nb) (op := op) hx H S A hh q)
  have IH := Lib.hid ih
  have hw : IntKind.i8.wrap (1 + sh l) = 1 + sh l := by
    have := A.1.sh
    simp only [ht] at hh
    exact wrap_i8 (by omega) (by omega)
  have c1 := c.c1
  have c3 := c.c3
  have hn : (pt r).isNone = false := by cases r with
    | nil => exact absurd rfl hl
    | node => rfl
  clear c H ih S A
  go_enter Try.func75, Try.ntmps75
  go_wp2_with fail
  refine IH.out.mono ?_
  rintro e w1 ⟨r', nb, op, rfl, q⟩
  have Q := Lib.hid q
  clear q
  go_wp2_with fail
  refine (copy_any b _ _ _ _ _ _ (Chg.cel (Chg.of_below Q.out.1) C.out (Nat.not_le.2 C.out.lt))).mono ?_
  rintro e w2 ⟨rfl, rfl⟩
  go_wp2_with fail
  have L := Lib.hid (MK.out w1 r' nb op Q.out)
  clear Q MK IH
  obtain ⟨b', hb'⟩ : ∃ b', b' = w1.heap.size := ⟨_, rfl⟩
  rw [← hb'] at L ⊢
  clear hb'
  generalize (w1.alloc (.cells #[.pointer (pt l), .pointer (pt r'), dv a.d, .int .i32 a.k, .int .i8 a.h] 101)) = W at L ⊢
  have n0 := L.out.H.2.1.c0
  have n1 := L.out.H.2.1.c1
  have n4 := L.out.H.2.1.c4
  have nf := L.out.H.2.1.fz
  by_cases hc : 1 + sh l < sh r'
  · go_quiet (first | (go_at_call_of 76 (pt r'); exact Calls.quiet_of_same (height_any r' _ (L.out.H.2.2.2.drewN _))) | (go_at_call_of 76 (pt l); exact Calls.quiet_of_same (height_any l _ (L.out.H.2.2.1.drewN _))))
    go_wp2_with fail
    refine (L.out.high hc _ ((Chg.refl _ _).drewN _)).mono ?_
    rintro e w' ⟨t', rfl, z⟩
    have Z := Lib.hid z
    clear z
    go_wp2_with fail
    go_ret3
    exact Z.out
  · go_quiet (first | (go_at_call_of 76 (pt r'); exact Calls.quiet_of_same (height_any r' _ (L.out.H.2.2.2.drewN _))) | (go_at_call_of 76 (pt l); exact Calls.quiet_of_same (height_any l _ (L.out.H.2.2.1.drewN _))))
    go_wp2_with fail
    refine wp_region_still_tail 15 (by kernel_rfl) (by kernel_rfl) ?_
    simp only [List.take_succ_cons, List.take_zero, List.drop_succ_cons, List.drop_zero]
    change wpStill _ _ (World.drew _) _ _ _
    repeat still_step
    refine wpStill_step (fun K hK => ?_)
    go_simp
    refine ⟨_, height_any l _ (L.out.H.2.2.1.drewN _), hK _ ?_⟩
    clear hK K
    repeat still_step
    refine wpStill_step (fun K hK => ?_)
    go_simp
    refine ⟨_, height_any r' _ (L.out.H.2.2.2.drewN _), hK _ ?_⟩
    clear hK K
    repeat still_step
    refine wpStill_nil ?_
    change wpList _ _ _ _ _ (World.drew _)
    go_wp2_with fail
    go_ret3
    refine L.out.low (Int.not_lt.2 hc) _ (((Chg.refl _ _).drewN _).setCell _ _ (fun _ => rfl)) ?_ _ rfl
    have e1 := L.out.I.avl.sh
    have e2 := L.out.A.1.sh
    have hI := L.out.I.hgt
    simp only [ht] at hh
    rw [wrap_i8 (x := max (sh l) (sh r')) (by omega) (by omega)]
    exact L.out.H.2.1.set4 _

/-- aInsert: the tree with the key. -/
theorem insert_any (x : Int) : ∀ (t : BT Nd) (w : World), t ≠ .nil → Holds w t → Srt (prs t) → Avl t → ht t ≤ 80 → Calls Try.prog 75 #[.pointer (pt t), .int .i32 x] w (InsPost x t w)
  | .nil, _, h, _, _, _, _ => absurd rfl h
  | .node b o a l r, w, _, H, S, A, hh => by
    have ho : o = 0 := H.1
    subst ho
    have S' := Srt.app S
    have hh' := hh
    simp only [ht] at hh'
    rcases Int.lt_trichotomy x a.k with hx | hx | hx
    · by_cases hl : l = .nil
      · subst hl
        exact ins_leaf_left hx H S A
      · exact ins_left hx hl H S A hh (insert_any x l w hl H.2.2.1 S'.1 A.1 (by omega))
    · subst hx
      exact ins_here H S A
    · by_cases hr : r = .nil
      · subst hr
        exact ins_leaf_right hx H S A
      · exact ins_right hx hr H S A hh (insert_any x r w hr H.2.2.2 S'.2.1 A.2.1 (by omega))

end Go.Proofs.Ytahghidbadpkeaa
