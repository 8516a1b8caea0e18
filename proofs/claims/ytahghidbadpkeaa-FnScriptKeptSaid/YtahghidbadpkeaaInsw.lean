/- The walk of aInsert. -/
import Derived.Test.YtahghidbadpkeaaHighr
set_option linter.unusedVariables false
set_option linter.unusedSimpArgs false
namespace Go.Proofs.Ytahghidbadpkeaa
open Go.Deep Go.RowKit
attribute [local go_sem] max_ite

theorem Mk.mem {nb : Nat} {x : Int} : ∀ {t : BT Nd}, Mk nb x t → (∃ d, (x, d) ∈ prs t) → nb ∈ blks t
  | .nil, _, ⟨_, h⟩ => by cases h
  | .node b o a l r, ⟨m1, m2, m3⟩, ⟨d, h⟩ => by
    simp only [prs, List.mem_append, List.mem_cons] at h
    simp only [blks, List.mem_cons, List.mem_append]
    rcases h with h | h | h
    · exact .inr (.inl (Mk.mem m2 ⟨d, h⟩))
    · exact .inl (m1.2 (by cases h; rfl)).symm
    · exact .inr (.inr (Mk.mem m3 ⟨d, h⟩))

/-- The node that held the key before. -/
def Old (x : Int) (t : BT Nd) (w : World) (op : Option Addr) : Prop :=
  (op = none ∧ ∀ p ∈ prs t, p.1 ≠ x) ∨ ∃ ob lp rp d h, op = some ⟨ob, 0, none⟩ ∧ Cel w ob lp rp d x h ∧ (x, d) ∈ prs t

def InsPost (x : Int) (t : BT Nd) (w : World) (e : Ending) (w' : World) : Prop :=
  ∃ t' nb op, e = .returned (.tuple #[.pointer (pt t'), .pointer (some ⟨nb, 0, none⟩), .pointer op]) ∧ Below w.heap.size w w' ∧ Holds w' t' ∧ Ins x t t' ∧ Mk nb x t' ∧ w.heap.size ≤ nb ∧
    (∀ a, pt t' = some a → w.heap.size ≤ a.block) ∧ Old x t w op

set_option maxRecDepth 100000 in
set_option maxHeartbeats 400000 in
theorem ins_here {w : World} {b : Nat} {a : Nd} {l r : BT Nd} (H : Holds w (.node b 0 a l r)) (S : Srt (prs (.node b 0 a l r))) (A : Avl (.node b 0 a l r)) :
    Calls Try.prog 75 #[.pointer (some ⟨b, 0, none⟩), .int .i32 a.k] w (InsPost a.k (.node b 0 a l r) w) := by
  have F : InsPost a.k (.node b 0 a l r) w (.returned (.tuple #[.pointer (some ⟨w.heap.size, 0, none⟩), .pointer (some ⟨w.heap.size, 0, none⟩), .pointer (some ⟨b, 0, none⟩)])) (w.alloc (.cells #[.pointer (pt l), .pointer (pt r), dv a.d, .int .i32 a.k, .int .i8 a.h] 101)) := by
    have S' := Srt.app S
    refine ⟨.node w.heap.size 0 a l r, w.heap.size, _, rfl, (Below.refl _ _).alloc (Nat.le_refl _) _, ⟨rfl, Cel.new _ _ _ _ _ _, H.2.2.1.alloc _, H.2.2.2.alloc _⟩, Ins.here _ A S, ⟨by simp, ?_, ?_⟩, Nat.le_refl _, ?_, ?_⟩
    · exact Mk.none (fun h => Nat.lt_irrefl _ (H.2.2.1.lt _ h)) (fun p hp => by have := S'.2.2.1 p hp; simp at this; omega)
    · exact Mk.none (fun h => Nat.lt_irrefl _ (H.2.2.2.lt _ h)) (fun p hp => by have := S'.2.2.2 p hp; simp at this; omega)
    · intro x hx; simp only [pt, Option.some.injEq] at hx; subst hx; exact Nat.le_refl _
    · exact .inr ⟨b, _, _, a.d, _, rfl, H.2.1, by simp [prs]⟩
  have HF := Lib.hid F
  clear F S A
  have c := H.2.1
  clear H
  have c0 := c.c0
  have c1 := c.c1
  have c2 := c.c2
  have c3 := c.c3
  have c4 := c.c4
  clear c
  obtain ⟨k, d, h⟩ := a
  cases d
  all_goals
    unfold dv at *
    simp only at *
    go_enter Try.func75, Try.ntmps75
    go_wp2_with fail
    go_ret3
    exact HF.out

theorem blk_alloc2 {w : World} {o o' : Obj} : ((w.alloc o).alloc o').heap[w.heap.size]? = some o := by
  show ((w.heap.push o).push o')[w.heap.size]? = _
  rw [Array.getElem?_push, if_neg (by simp), Array.getElem?_push, if_pos rfl]

set_option maxRecDepth 100000 in
set_option maxHeartbeats 400000 in
theorem ins_leaf_left {w : World} {b : Nat} {a : Nd} {r : BT Nd} {x : Int} (hx : x < a.k) (H : Holds w (.node b 0 a .nil r)) (S : Srt (prs (.node b 0 a .nil r))) (A : Avl (.node b 0 a .nil r)) :
    Calls Try.prog 75 #[.pointer (some ⟨b, 0, none⟩), .int .i32 x] w (InsPost x (.node b 0 a .nil r) w) := by
  have F : InsPost x (.node b 0 a .nil r) w (.returned (.tuple #[.pointer (some ⟨w.heap.size, 0, none⟩), .pointer (some ⟨w.heap.size + 1, 0, none⟩), .pointer none]))
      ((w.alloc (.cells #[.pointer (some ⟨w.heap.size + 1, 0, none⟩), .pointer (pt r), dv a.d, .int .i32 a.k, .int .i8 2] 101)).alloc (.cells #[.pointer none, .pointer none, dv none, .int .i32 x, .int .i8 1] 101)) := by
    have S' := Srt.app S
    refine ⟨.node w.heap.size 0 { a with h := 2 } (.node (w.heap.size + 1) 0 ⟨x, none, 1⟩ .nil .nil) r, w.heap.size + 1, _, rfl, ((Below.refl _ _).alloc (Nat.le_refl _) _).alloc (by simp) _, ⟨rfl, blk_alloc2, ⟨rfl, ?_, trivial, trivial⟩, (H.2.2.2.alloc _).alloc _⟩, Ins.leaf_left A S hx, ⟨?_, ⟨by simp, trivial, trivial⟩, ?_⟩, Nat.le_succ _, ?_, .inl ⟨rfl, ?_⟩⟩
    · have h := Cel.new (w.alloc (.cells #[.pointer (some ⟨w.heap.size + 1, 0, none⟩), .pointer (pt r), dv a.d, .int .i32 a.k, .int .i8 2] 101)) none none none x 1
      rw [World.size_alloc] at h
      exact h
    · show w.heap.size = w.heap.size + 1 ↔ a.k = x
      omega
    · exact Mk.none (fun h => by have := H.2.2.2.lt _ h; omega) (fun p hp => by have := S'.2.2.2 p hp; simp at this; omega)
    · intro y hy; simp only [pt, Option.some.injEq] at hy; subst hy; exact Nat.le_refl _
    · intro p hp
      simp only [prs, List.nil_append, List.mem_cons] at hp
      rcases hp with rfl | hp
      · show a.k ≠ x; omega
      · have := S'.2.2.2 p hp; simp at this; omega
  have HF := Lib.hid F
  clear F S A
  have c := H.2.1
  clear H
  have C := Lib.hid c
  have c0 := c.c0
  have c3 := c.c3
  clear c
  simp only [pt] at c0
  go_enter Try.func75, Try.ntmps75
  go_wp2_with fail
  refine (copy_any b _ _ _ _ _ _ C.out).mono ?_
  rintro e w1 ⟨rfl, rfl⟩
  go_wp2_with fail
  refine (make_any x _).mono ?_
  rintro e w1 ⟨rfl, rfl⟩
  go_wp2_with fail
  go_ret3
  exact HF.out

/-- What is known behind the call on the left side, the node copied. -/
structure InsL (w W : World) (b b' nb : Nat) (a : Nd) (l r l' : BT Nd) (x : Int) (op : Option Addr) : Prop where
  hx : x < a.k
  S : Srt (prs (.node b 0 a l r))
  A : Avl (.node b 0 a l r)
  hh : ht (.node b 0 a l r) ≤ 80
  r0 : Holds w r
  blw : Below w.heap.size w W
  H : Holds W (.node b' 0 a l' r)
  I : Ins x l l'
  M : Mk nb x l'
  fb : w.heap.size ≤ b'
  fn : w.heap.size ≤ nb
  fr : ∀ a, pt l' = some a → w.heap.size ≤ a.block
  ne : b' ≠ nb
  old : Old x l w op

section
variable {w W : World} {b b' nb : Nat} {a : Nd} {l r l' : BT Nd} {x : Int} {op : Option Addr} (q : InsL w W b b' nb a l r l' x op)
include q
theorem InsL.mk_all (h : Int) : Mk nb x (.node b' 0 { a with h := h } l' r) := by
  have S' := Srt.app q.S
  have := q.hx
  refine ⟨⟨fun e => absurd e q.ne, fun e => ?_⟩, q.M, Mk.none (fun h => ?_) (fun p hp => by have := S'.2.2.2 p hp; simp at this; omega)⟩
  · have e' : a.k = x := e
    omega
  · have := q.r0.lt _ h; have := q.fn; omega

theorem InsL.old' : Old x (.node b 0 a l r) w op := by
  have S' := Srt.app q.S
  have := q.hx
  rcases q.old with ⟨h1, h2⟩ | ⟨ob, lp, rp, d, h, h1, h2, h3⟩
  · refine .inl ⟨h1, fun p hp => ?_⟩
    simp only [prs, List.mem_append, List.mem_cons] at hp
    rcases hp with hp | rfl | hp
    · exact h2 p hp
    · show a.k ≠ x; omega
    · have := S'.2.2.2 p hp; simp at this; omega
  · exact .inr ⟨ob, lp, rp, d, h, h1, h2, by simp only [prs]; exact List.mem_append_left _ h3⟩

theorem InsL.srt : Srt (prs (.node b' 0 a l' r)) := by
  have e : prs (.node b' 0 a l' r) = lo x (prs (.node b 0 a l r)) ++ (x, dat x (prs (.node b 0 a l r))) :: hi x (prs (.node b 0 a l r)) := by
    have S := q.S
    simp only [prs] at S ⊢
    rw [lo_less S q.hx, hi_less S q.hx, dat_less S q.hx, q.I.ps]
    simp
  rw [e]; exact q.S.put

/-- The side is not too high: the height is told anew. -/
theorem InsL.low (hc : ¬ 1 + sh r < sh l') (W' : World) (hW' : Chg (fun k => k = b') W W') (hC : Cel W' b' (pt l') (pt r) a.d a.k (1 + max (sh l') (sh r))) (e : Ending)
    (he : e = .returned (.tuple #[.pointer (some ⟨b', 0, none⟩), .pointer (some ⟨nb, 0, none⟩), .pointer op])) : InsPost x (.node b 0 a l r) w e W' := by
  obtain ⟨p1, p2, p3⟩ := q.H.apart q.srt
  have e1 := q.I.avl.sh
  have e2 := q.A.2.1.sh
  refine ⟨.node b' 0 { a with h := 1 + max (sh l') (sh r) } l' r, nb, op, he, q.blw.trans ((hW'.mono (S' := fun k => w.heap.size ≤ k) (fun k _ e => by subst e; exact q.fb)).below q.blw.size (fun _ h => h)),
    ⟨rfl, hC, q.H.2.2.1.chg hW' (fun k hk e => by subst e; exact p1 hk), q.H.2.2.2.chg hW' (fun k hk e => by subst e; exact p2 hk)⟩, Ins.left q.A q.S q.hx q.I (by omega) rfl, q.mk_all _, q.fn, ?_, q.old'⟩
  intro y hy; simp only [pt, Option.some.injEq] at hy; subst hy; exact q.fb

/-- It is: aLeftIsHigh. -/
theorem InsL.high (hc : 1 + sh r < sh l') (W' : World) (hW' : Chg (fun _ => False) W W') :
    Calls Try.prog 86 #[.pointer (some ⟨b', 0, none⟩), .pointer (some ⟨nb, 0, none⟩)] W' (fun e w' => ∃ t', e = .returned (.pointer t') ∧
      InsPost x (.node b 0 a l r) w (.returned (.tuple #[.pointer t', .pointer (some ⟨nb, 0, none⟩), .pointer op])) w') := by
  obtain ⟨p1, p2, p3⟩ := q.H.apart q.srt
  have e1 := q.I.avl.sh
  have e2 := q.A.2.1.sh
  have hI := q.I.hgt
  have hs := q.srt
  have hm := Mk.mem q.M ⟨dat x (prs l), by rw [q.I.ps]; simp⟩
  obtain ⟨lp, rp, d, k, h, cn, _⟩ := q.H.2.2.1.key nb hm
  have g0 := q.A.2.2.1
  have hh := q.hh
  have fr := q.fr
  have H := q.H.chg hW' (fun _ _ h => h)
  have I := q.I
  have M := q.mk_all a.h
  cases l' with
  | nil => cases hm
  | node bl o al ll lr =>
    have ho : o = 0 := q.H.2.2.1.1
    subst ho
    obtain ⟨A1, A2, g1, g2, _⟩ := I.avl
    simp only [ht] at hI hh e1
    refine (left_high (w := W') ⟨H, hs, A1, A2, q.A.2.1, g1, g2, by omega, by omega⟩ w.heap.size (Nat.le_trans q.blw.size hW'.size) q.fb (fr _ rfl) (some ⟨nb, 0, none⟩) ((hW'.cel cn (fun h => h)).isNode)
      (fun y hy => by simp only [Option.some.injEq] at hy; cases hy; exact q.fn)).mono ?_
    rintro e w' ⟨t', rfl, b1, h1, r1, f1, m1⟩
    have hB : Below w.heap.size w W' := q.blw.trans ((hW'.mono (S' := fun k => w.heap.size ≤ k) (fun k _ e => e.elim)).below q.blw.size (fun _ h => h))
    refine ⟨_, rfl, t', nb, op, rfl, hB.trans b1, h1, Ins.left_rot q.A q.S q.hx I (by simp only [ht]; omega) r1, m1 nb x rfl (Nat.lt_of_lt_of_le cn.lt hW'.size) M, q.fn, f1, q.old'⟩
end

theorem InsL.mk' {w w1 : World} {b : Nat} {a : Nd} {l r l' : BT Nd} {x : Int} {nb : Nat} {op : Option Addr} (hx : x < a.k) (H : Holds w (.node b 0 a l r)) (S : Srt (prs (.node b 0 a l r))) (A : Avl (.node b 0 a l r)) (hh : ht (.node b 0 a l r) ≤ 80)
    (q : Below w.heap.size w w1 ∧ Holds w1 l' ∧ Ins x l l' ∧ Mk nb x l' ∧ w.heap.size ≤ nb ∧ (∀ a, pt l' = some a → w.heap.size ≤ a.block) ∧ Old x l w op) :
    InsL w (w1.alloc (.cells #[.pointer (pt l'), .pointer (pt r), dv a.d, .int .i32 a.k, .int .i8 a.h] 101)) b w1.heap.size nb a l r l' x op := by
  obtain ⟨q1, q2, q3, q4, q5, q6, q7⟩ := q
  refine ⟨hx, S, A, hh, H.2.2.2, q1.alloc q1.size _, ⟨rfl, Cel.new _ _ _ _ _ _, q2.alloc _, (H.2.2.2.below q1 (Nat.le_refl _)).alloc _⟩, q3, q4, q1.size, q5, q6, ?_, q7⟩
  have hm := Mk.mem q4 ⟨dat x (prs l), by rw [q3.ps]; simp⟩
  have := q2.lt nb hm
  omega

set_option maxRecDepth 100000 in
set_option maxHeartbeats 400000 in
theorem ins_left {w : World} {b : Nat} {a : Nd} {l r : BT Nd} {x : Int} (hx : x < a.k) (hl : l ≠ .nil) (H : Holds w (.node b 0 a l r)) (S : Srt (prs (.node b 0 a l r))) (A : Avl (.node b 0 a l r)) (hh : ht (.node b 0 a l r) ≤ 80)
    (ih : Calls Try.prog 75 #[.pointer (pt l), .int .i32 x] w (InsPost x l w)) :
    Calls Try.prog 75 #[.pointer (some ⟨b, 0, none⟩), .int .i32 x] w (InsPost x (.node b 0 a l r) w) := by
  have c := H.2.1
  have C := Lib.hid c
  have MK := Lib.hid (fun (w1 : World) (l' : BT Nd) (nb : Nat) (op : Option Addr) q => InsL.mk' (w1 := w1) (l' := l') (nb := nb) (op := op) hx H S A hh q)
  have IH := Lib.hid ih
  have hw : IntKind.i8.wrap (1 + sh r) = 1 + sh r := by
    have := A.2.1.sh
    simp only [ht] at hh
    exact wrap_i8 (by omega) (by omega)
  have c0 := c.c0
  have c3 := c.c3
  have hn : (pt l).isNone = false := by cases l with
    | nil => exact absurd rfl hl
    | node => rfl
  clear c H ih S A
  go_enter Try.func75, Try.ntmps75
  go_wp2_with fail
  refine IH.out.mono ?_
  rintro e w1 ⟨l', nb, op, rfl, q⟩
  have Q := Lib.hid q
  clear q
  go_wp2_with fail
  refine (copy_any b _ _ _ _ _ _ (Chg.cel (Chg.of_below Q.out.1) C.out (Nat.not_le.2 C.out.lt))).mono ?_
  rintro e w2 ⟨rfl, rfl⟩
  go_wp2_with fail
  have L := Lib.hid (MK.out w1 l' nb op Q.out)
  clear Q MK IH
  obtain ⟨b', hb'⟩ : ∃ b', b' = w1.heap.size := ⟨_, rfl⟩
  rw [← hb'] at L ⊢
  clear hb'
  generalize (w1.alloc (.cells #[.pointer (pt l'), .pointer (pt r), dv a.d, .int .i32 a.k, .int .i8 a.h] 101)) = W at L ⊢
  have n0 := L.out.H.2.1.c0
  have n1 := L.out.H.2.1.c1
  have n4 := L.out.H.2.1.c4
  have nf := L.out.H.2.1.fz
  by_cases hc : 1 + sh r < sh l'
  · go_quiet (first | (go_at_call_of 76 (pt l'); exact Calls.quiet_of_same (height_any l' _ (L.out.H.2.2.1.drewN _))) | (go_at_call_of 76 (pt r); exact Calls.quiet_of_same (height_any r _ (L.out.H.2.2.2.drewN _))))
    go_wp2_with fail
    refine (L.out.high hc _ ((Chg.refl _ _).drewN _)).mono ?_
    rintro e w' ⟨t', rfl, z⟩
    have Z := Lib.hid z
    clear z
    go_wp2_with fail
    go_ret3
    exact Z.out
  · go_quiet (first | (go_at_call_of 76 (pt l'); exact Calls.quiet_of_same (height_any l' _ (L.out.H.2.2.1.drewN _))) | (go_at_call_of 76 (pt r); exact Calls.quiet_of_same (height_any r _ (L.out.H.2.2.2.drewN _))))
    go_wp2_with fail
    refine wp_region_still_tail 15 (by kernel_rfl) (by kernel_rfl) ?_
    simp only [List.take_succ_cons, List.take_zero, List.drop_succ_cons, List.drop_zero]
    change wpStill _ _ (World.drew _) _ _ _
    repeat still_step
    refine wpStill_step (fun K hK => ?_)
    go_simp
    refine ⟨_, height_any l' _ (L.out.H.2.2.1.drewN _), hK _ ?_⟩
    clear hK K
    repeat still_step
    refine wpStill_step (fun K hK => ?_)
    go_simp
    refine ⟨_, height_any r _ (L.out.H.2.2.2.drewN _), hK _ ?_⟩
    clear hK K
    repeat still_step
    refine wpStill_nil ?_
    change wpList _ _ _ _ _ (World.drew _)
    go_wp2_with fail
    go_ret3
    refine L.out.low (Int.not_lt.2 hc) _ (((Chg.refl _ _).drewN _).setCell _ _ (fun _ => rfl)) ?_ _ rfl
    have e1 := L.out.I.avl.sh
    have e2 := L.out.A.2.1.sh
    have hI := L.out.I.hgt
    simp only [ht] at hh
    rw [wrap_i8 (x := max (sh l') (sh r)) (by omega) (by omega)]
    exact L.out.H.2.1.set4 _

end Go.Proofs.Ytahghidbadpkeaa
