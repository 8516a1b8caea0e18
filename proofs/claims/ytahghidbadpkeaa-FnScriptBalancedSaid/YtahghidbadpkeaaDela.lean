/- The walk of aDelete. -/
import Derived.Test.YtahghidbadpkeaaDelwr
set_option linter.unusedVariables false
set_option linter.unusedSimpArgs false
namespace Go.Proofs.Ytahghidbadpkeaa
open Go.Deep Go.RowKit
attribute [local go_sem] max_ite

def DelNo (x : Int) (t : BT Nd) (w : World) (e : Ending) (w' : World) : Prop :=
  (∀ p ∈ prs t, p.1 ≠ x) ∧ e = .returned (.tuple #[.pointer none, .pointer (pt t)]) ∧ Below w.heap.size w w'
def DelYes (x : Int) (t : BT Nd) (w : World) (e : Ending) (w' : World) : Prop :=
  ∃ t' db d lp rp h, e = .returned (.tuple #[.pointer (some ⟨db, 0, none⟩), .pointer (pt t')]) ∧ Below w.heap.size w w' ∧ Holds w' t' ∧ (x, d) ∈ prs t ∧ Del t t' (lo x (prs t) ++ hi x (prs t)) ∧ Cel w db lp rp d x h
def DelPost (x : Int) (t : BT Nd) (w : World) (e : Ending) (w' : World) : Prop := DelNo x t w e w' ∨ DelYes x t w e w'

theorem no_len {x : Int} : ∀ {L : List (Int × Option Int)} {d : Option Int}, (x, d) ∈ L → (lo x L ++ hi x L).length < L.length
  | [], d, h => by cases h
  | p :: L, d, h => by
    rcases List.mem_cons.1 h with rfl | h
    · have h1 := List.length_filter_le (fun p : Int × Option Int => decide (p.1 < x)) L
      have h2 : ∀ L : List (Int × Option Int), (lo x L ++ hi x L).length ≤ L.length := by
        intro L
        induction L with
        | nil => simp [lo, hi]
        | cons q L ih =>
          simp only [lo, hi, List.filter_cons, List.length_append, List.length_cons] at ih ⊢
          by_cases a : q.1 < x
          · have b : ¬ x < q.1 := by omega
            simp [a, b] at ih ⊢; omega
          · by_cases b : x < q.1 <;> simp [a, b] at ih ⊢ <;> omega
      have := h2 L
      simp only [lo, hi, List.filter_cons, List.length_append, List.length_cons] at this ⊢
      simp at this ⊢; omega
    · have ih := no_len h
      simp only [lo, hi, List.filter_cons, List.length_append, List.length_cons] at ih ⊢
      by_cases a : p.1 < x
      · have b : ¬ x < p.1 := by omega
        simp [a, b] at ih ⊢; omega
      · by_cases b : x < p.1 <;> simp [a, b] at ih ⊢ <;> omega

set_option maxRecDepth 100000 in
theorem del_nil (x : Int) (w : World) : Calls Try.prog 60 #[.pointer none, .int .i32 x] w (DelPost x .nil w) := by
  have Z : Hid (DelPost x .nil w (.returned (.tuple #[.pointer none, .pointer none])) w) := .inl ⟨fun _ h => (by cases h), rfl, Below.refl _ _⟩
  go_enter Try.func60, Try.ntmps60
  go_wp2_with fail
  go_ret2
  exact Z.out

set_option maxRecDepth 100000 in
set_option maxHeartbeats 400000 in
theorem del_left {w : World} {b : Nat} {a : Nd} {l r : BT Nd} {x : Int} (hx : x < a.k) (H : Holds w (.node b 0 a l r)) (S : Srt (prs (.node b 0 a l r))) (A : Avl (.node b 0 a l r)) (hh : ht (.node b 0 a l r) ≤ 80)
    (ih : Calls Try.prog 60 #[.pointer (pt l), .int .i32 x] w (DelPost x l w)) :
    Calls Try.prog 60 #[.pointer (some ⟨b, 0, none⟩), .int .i32 x] w (DelPost x (.node b 0 a l r) w) := by
  have C := Lib.hid H.2.1
  have HL := Lib.hid H.2.2.1
  have RB := Lib.hid (fun (w1 : World) (l' : BT Nd) L hb Hl D S => rebL_copy (w1 := w1) (l' := l') (L := L) (a' := a) H A hh hb Hl D S rfl (.inl ⟨rfl, rfl⟩))
  have SS := Lib.hid S
  have IH := Lib.hid ih
  have c0 := H.2.1.c0
  have c3 := H.2.1.c3
  clear H ih S A
  go_enter Try.func60, Try.ntmps60
  go_wp2_with fail
  refine (height_any l _ HL.out).mono ?_
  rintro e w1 ⟨rfl, hw⟩
  rw [hw]
  clear hw w1
  go_wp2_with fail
  refine IH.out.mono ?_
  rintro e w1 (⟨h1, rfl, b1⟩ | ⟨l', mb, d, lp, rp, h, rfl, b1, h1, p1, d1, m1⟩)
  · have ne : (binOp .eql 94 (.pointer (pt l)) (.pointer (pt l))).run Try.prog w1 = .ok (.bool true) w1 := by
      rw [eql94 (HL.out.below b1 (Nat.le_refl _)).isNode (HL.out.below b1 (Nat.le_refl _)).isNode]; simp
    have d0 : w1.cell? ⟨b, 0, none⟩ = some (.pointer (pt l)) := (Chg.cel (Chg.of_below b1) C.out (Nat.not_le.2 C.out.lt)).c0
    have Z : Hid (DelPost x (.node b 0 a l r) w (.returned (.tuple #[.pointer none, .pointer (some ⟨b, 0, none⟩)])) w1) := by
      refine .inl ⟨fun p hp => ?_, rfl, b1⟩
      simp only [prs, List.mem_append, List.mem_cons] at hp
      rcases hp with hp | rfl | hp
      · exact h1 p hp
      · show a.k ≠ x; omega
      · have := (Srt.app SS.out).2.2.2 p hp; simp at this; omega
    clear b1 h1
    go_wp2_with fail
    go_ret2
    exact Z.out
  · have ne : (binOp .eql 94 (.pointer (pt l')) (.pointer (pt l))).run Try.prog w1 = .ok (.bool false) w1 := by
      rw [eql94 h1.isNode (HL.out.below b1 (Nat.le_refl _)).isNode]
      simp [h1.ne (HL.out.below b1 (Nat.le_refl _)) (by rw [d1.ps]; intro e; have := no_len p1; rw [e] at this; omega)]
    have d0 : w1.cell? ⟨b, 0, none⟩ = some (.pointer (pt l)) := (Chg.cel (Chg.of_below b1) C.out (Nat.not_le.2 C.out.lt)).c0
    have CC := Lib.hid (Chg.cel (Chg.of_below b1) C.out (Nat.not_le.2 C.out.lt))
    have Q := Lib.hid (And.intro b1 (And.intro h1 (And.intro p1 (And.intro d1 m1))))
    clear b1 h1 p1 d1 m1
    go_wp2_with fail
    refine (copy_any b _ _ _ _ _ _ CC.out).mono ?_
    rintro e w2 ⟨rfl, rfl⟩
    go_wp2_with fail
    have E : lo x (prs (.node b 0 a l r)) ++ hi x (prs (.node b 0 a l r)) = (lo x (prs l) ++ hi x (prs l)) ++ (a.k, a.d) :: prs r := by
      have := SS.out
      simp only [prs] at this ⊢
      rw [lo_less this hx, hi_less this hx]; simp
    have S2 : Srt ((lo x (prs l) ++ hi x (prs l)) ++ (a.k, a.d) :: prs r) := by rw [← E]; exact SS.out.drop
    refine (rebL_any (RB.out w1 l' _ Q.out.1 Q.out.2.1 Q.out.2.2.2.1 S2)).mono ?_
    rintro e w2 ⟨t', rfl, z⟩
    have Z := Lib.hid z
    have EE := Lib.hid E
    clear z S2 E
    go_wp2_with fail
    go_ret2
    obtain ⟨q1, q2, q3, q4, q5⟩ := Q.out
    exact .inr ⟨t', mb, d, lp, rp, h, rfl, (q1.alloc q1.size _).trans Z.out.1, Z.out.2.1, by simp only [prs]; exact List.mem_append_left _ q3, by rw [EE.out]; exact Z.out.2.2, q5⟩

/- MARK -/
set_option maxRecDepth 100000 in
set_option maxHeartbeats 400000 in
theorem del_right {w : World} {b : Nat} {a : Nd} {l r : BT Nd} {x : Int} (hx : a.k < x) (H : Holds w (.node b 0 a l r)) (S : Srt (prs (.node b 0 a l r))) (A : Avl (.node b 0 a l r)) (hh : ht (.node b 0 a l r) ≤ 80)
    (ih : Calls Try.prog 60 #[.pointer (pt r), .int .i32 x] w (DelPost x r w)) :
    Calls Try.prog 60 #[.pointer (some ⟨b, 0, none⟩), .int .i32 x] w (DelPost x (.node b 0 a l r) w) := by
  have C := Lib.hid H.2.1
  have HL := Lib.hid H.2.2.2
  have RB := Lib.hid (fun (w1 : World) (r' : BT Nd) L hb Hl D S => rebR_copy (w1 := w1) (r' := r') (L := L) (a' := a) H A hh hb Hl D S rfl (.inl ⟨rfl, rfl⟩))
  have SS := Lib.hid S
  have IH := Lib.hid ih
  have c0 := H.2.1.c1
  have c3 := H.2.1.c3
  clear H ih S A
  go_enter Try.func60, Try.ntmps60
  go_wp2_with fail
  refine (height_any r _ HL.out).mono ?_
  rintro e w1 ⟨rfl, hw⟩
  rw [hw]
  clear hw w1
  go_wp2_with fail
  refine IH.out.mono ?_
  rintro e w1 (⟨h1, rfl, b1⟩ | ⟨r', mb, d, lp, rp, h, rfl, b1, h1, p1, d1, m1⟩)
  · have ne : (binOp .eql 94 (.pointer (pt r)) (.pointer (pt r))).run Try.prog w1 = .ok (.bool true) w1 := by
      rw [eql94 (HL.out.below b1 (Nat.le_refl _)).isNode (HL.out.below b1 (Nat.le_refl _)).isNode]; simp
    have d0 : w1.cell? ⟨b, 1, none⟩ = some (.pointer (pt r)) := (Chg.cel (Chg.of_below b1) C.out (Nat.not_le.2 C.out.lt)).c1
    have Z : Hid (DelPost x (.node b 0 a l r) w (.returned (.tuple #[.pointer none, .pointer (some ⟨b, 0, none⟩)])) w1) := by
      refine .inl ⟨fun p hp => ?_, rfl, b1⟩
      simp only [prs, List.mem_append, List.mem_cons] at hp
      rcases hp with hp | rfl | hp
      · have := (Srt.app SS.out).2.2.1 p hp; simp at this; omega
      · show a.k ≠ x; omega
      · exact h1 p hp
    clear b1 h1
    go_wp2_with fail
    go_ret2
    exact Z.out
  · have ne : (binOp .eql 94 (.pointer (pt r')) (.pointer (pt r))).run Try.prog w1 = .ok (.bool false) w1 := by
      rw [eql94 h1.isNode (HL.out.below b1 (Nat.le_refl _)).isNode]
      simp [h1.ne (HL.out.below b1 (Nat.le_refl _)) (by rw [d1.ps]; intro e; have := no_len p1; rw [e] at this; omega)]
    have d0 : w1.cell? ⟨b, 1, none⟩ = some (.pointer (pt r)) := (Chg.cel (Chg.of_below b1) C.out (Nat.not_le.2 C.out.lt)).c1
    have CC := Lib.hid (Chg.cel (Chg.of_below b1) C.out (Nat.not_le.2 C.out.lt))
    have Q := Lib.hid (And.intro b1 (And.intro h1 (And.intro p1 (And.intro d1 m1))))
    clear b1 h1 p1 d1 m1
    go_wp2_with fail
    refine (copy_any b _ _ _ _ _ _ CC.out).mono ?_
    rintro e w2 ⟨rfl, rfl⟩
    go_wp2_with fail
    have E : lo x (prs (.node b 0 a l r)) ++ hi x (prs (.node b 0 a l r)) = prs l ++ (a.k, a.d) :: (lo x (prs r) ++ hi x (prs r)) := by
      have := SS.out
      simp only [prs] at this ⊢
      rw [lo_more this hx, hi_more this hx]; simp
    have S2 : Srt (prs l ++ (a.k, a.d) :: (lo x (prs r) ++ hi x (prs r))) := by rw [← E]; exact SS.out.drop
    refine (rebR_any (RB.out w1 r' _ Q.out.1 Q.out.2.1 Q.out.2.2.2.1 S2)).mono ?_
    rintro e w2 ⟨t', rfl, z⟩
    have Z := Lib.hid z
    have EE := Lib.hid E
    clear z S2 E
    go_wp2_with fail
    go_ret2
    obtain ⟨q1, q2, q3, q4, q5⟩ := Q.out
    exact .inr ⟨t', mb, d, lp, rp, h, rfl, (q1.alloc q1.size _).trans Z.out.1, Z.out.2.1, by simp only [prs]; exact List.mem_append_right _ (List.mem_cons_of_mem _ q3), by rw [EE.out]; exact Z.out.2.2, q5⟩

set_option maxRecDepth 100000 in
set_option maxHeartbeats 400000 in
theorem del_one {w : World} {b : Nat} {a : Nd} {l r : BT Nd} (h1 : a.h = 1) (H : Holds w (.node b 0 a l r)) (S : Srt (prs (.node b 0 a l r))) (A : Avl (.node b 0 a l r)) :
    Calls Try.prog 60 #[.pointer (some ⟨b, 0, none⟩), .int .i32 a.k] w (DelPost a.k (.node b 0 a l r) w) := by
  have hl : l = .nil ∧ r = .nil := by
    have e : a.h = _ := A.sh
    rw [h1] at e
    simp only [ht] at e
    constructor
    · cases l with
      | nil => rfl
      | node => simp only [ht] at e; omega
    · cases r with
      | nil => rfl
      | node => simp only [ht] at e; omega
  obtain ⟨rfl, rfl⟩ := hl
  have Z : Hid (DelPost a.k (.node b 0 a .nil .nil) w (.returned (.tuple #[.pointer (some ⟨b, 0, none⟩), .pointer none])) w) :=
    .inr ⟨.nil, b, a.d, _, _, _, rfl, Below.refl _ _, trivial, by simp [prs], ⟨trivial, .inr (by simp [ht]), by simp [prs, lo, hi], .inl ⟨rfl, by simp [prs, lo, hi, er], rfl⟩⟩, H.2.1⟩
  have c3 := H.2.1.c3
  have c4 := H.2.1.c4
  rw [h1] at c4
  clear H S A h1
  go_enter Try.func60, Try.ntmps60
  go_wp2_with fail
  refine (height_some b 1 _ c4).mono ?_
  rintro e w1 ⟨rfl, hw⟩
  rw [hw]
  clear hw w1
  go_wp2_with fail
  go_ret2
  exact Z.out

theorem RebL.turn {B : Nat} {W W' : World} {b b' : Nat} {a : Nd} {l r l' : BT Nd} {p : Option Addr} {L : List (Int × Option Int)} (q : RebL B W b b' a a l r l' p L) {k : Int} {d : Option Int} (hW : Chg (fun k => k = b') W W')
    (hC : Cel W' b' p (pt r) d k a.h) (S : Srt (L ++ (k, d) :: prs r)) (sd : ht r < ht l) : RebL B W' b b' a { a with k := k, d := d } l r l' p L :=
  ⟨q.A, q.hh, q.D, rfl, hC, q.Hl.chg hW (fun x hx e => q.n1 (e ▸ hx)), q.Hr.chg hW (fun x hx e => q.n2 (e ▸ hx)), q.n1, q.n2, S, Nat.le_trans q.hB hW.size, q.fb, .inr sd⟩

theorem Srt.app_l {A B : List (Int × Option Int)} (h : Srt (A ++ B)) : Srt A := (List.pairwise_append.1 h).1

set_option maxRecDepth 100000 in
set_option maxHeartbeats 800000 in
theorem del_max {w : World} {b : Nat} {a : Nd} {l r : BT Nd} (h1 : a.h ≠ 1) (hc : sh r < sh l) (H : Holds w (.node b 0 a l r)) (S : Srt (prs (.node b 0 a l r))) (A : Avl (.node b 0 a l r)) (hh : ht (.node b 0 a l r) ≤ 80) :
    Calls Try.prog 60 #[.pointer (some ⟨b, 0, none⟩), .int .i32 a.k] w (DelPost a.k (.node b 0 a l r) w) := by
  have hl : l ≠ .nil := by
    rintro rfl
    have e := A.2.1.sh
    have e2 : sh (.nil) = 0 := rfl
    rw [e2] at hc
    omega
  have HSD : Hid (ht r < ht l) := by
    have e1 := A.1.sh
    have e2 := A.2.1.sh
    show ht r < ht l
    omega
  have C := Lib.hid H.2.1
  have HL := Lib.hid (And.intro H.2.2.1 H.2.2.2)
  have RB := Lib.hid (fun (w1 : World) (l' : BT Nd) a' L hb Hl D S e sd => rebL_copy (w1 := w1) (l' := l') (L := L) (a' := a') H A hh hb Hl D S e sd)
  have SS := Lib.hid S
  have hh' := hh
  simp only [ht] at hh'
  have MX := Lib.hid (max_any l · hl · (Srt.app S).1 A.1 (by omega))
  have c0 := H.2.1.c0
  have c1 := H.2.1.c1
  have c3 := H.2.1.c3
  have c4 := H.2.1.c4
  have t1 : (a.h == 1) = false := by simp [h1]
  clear H S A h1 hl
  go_enter Try.func60, Try.ntmps60
  go_wp2_with fail
  refine (height_some b a.h _ c4).mono ?_
  rintro e w1 ⟨rfl, hw⟩
  rw [hw]
  clear hw w1
  go_wp2_with fail
  go_quiet (first | (go_at_call_of 76 (pt l); exact Calls.quiet_of_same (height_any l _ (HL.out.1.drewN _))) | (go_at_call_of 76 (pt r); exact Calls.quiet_of_same (height_any r _ (HL.out.2.drewN _))))
  go_wp2_with fail
  refine (height_any l _ (HL.out.1.drewN _)).mono ?_
  rintro e w1 ⟨rfl, hw⟩
  rw [hw]
  clear hw w1
  go_wp2_with fail
  refine (MX.out _ (HL.out.1.drewN _)).mono ?_
  rintro e w1 ⟨l', mb, k, d, lp, rp, h, L, rfl, b1, h1, p1, d1, m1⟩
  have b2 : Below w.heap.size w w1 := Below.trans (⟨rfl, rfl, rfl, Nat.le_refl _, fun _ _ => rfl⟩ : Below w.heap.size w (w.drewN nq)) b1
  have m2 : Cel w mb lp rp d k h := m1
  have m3 := Chg.cel (Chg.of_below b2) m2 (Nat.not_le.2 m2.lt)
  have CC := Lib.hid (Chg.cel (Chg.of_below b2) C.out (Nat.not_le.2 C.out.lt))
  have Q := Lib.hid (And.intro b2 (And.intro h1 (And.intro p1 (And.intro d1 m2))))
  have k2 := m3.c2
  have k3 := m3.c3
  have klt := m3.lt
  clear b1 h1 p1 d1 m1 b2 m2 m3
  go_wp2_with fail
  refine (copy_any b _ _ _ _ _ _ CC.out).mono ?_
  rintro e w2 ⟨rfl, rfl⟩
  go_wp2_with fail
  have E : lo a.k (prs (.node b 0 a l r)) ++ hi a.k (prs (.node b 0 a l r)) = L ++ (k, d) :: prs r := by
    have := SS.out
    simp only [prs] at this ⊢
    rw [lo_here this rfl, hi_here this rfl, Q.out.2.2.1]; simp
  have S2 : Srt (L ++ (k, d) :: prs r) := by rw [← E]; exact SS.out.drop
  have S3 : Srt (L ++ (a.k, a.d) :: prs r) := by
    have := SS.out
    simp only [prs, Q.out.2.2.1] at this
    have h3 := Srt.app this
    refine Srt.mk h3.1.app_l h3.2.1 (fun q hq => h3.2.2.1 q (List.mem_append_left _ hq)) h3.2.2.2
  have RR := Lib.hid (RB.out w1 l' a L Q.out.1 Q.out.2.1 Q.out.2.2.2.1 S3 rfl (.inl ⟨rfl, rfl⟩))
  have BW := Lib.hid (Q.out.1.alloc Q.out.1.size (.cells #[.pointer (pt l), .pointer (pt r), dv a.d, .int .i32 a.k, .int .i8 a.h] 101))
  have F := Lib.hid (And.intro E S2)
  clear E S2 S3
  obtain ⟨b', hb'⟩ : ∃ b', b' = w1.heap.size := ⟨_, rfl⟩
  have m2 : (w1.alloc (.cells #[.pointer (pt l), .pointer (pt r), dv a.d, .int .i32 a.k, .int .i8 a.h] 101)).cell? ⟨mb, 2, none⟩ = some (dv d) := by rw [World.cell?_alloc_lt _ _ _ klt]; exact k2
  have m3 : (w1.alloc (.cells #[.pointer (pt l), .pointer (pt r), dv a.d, .int .i32 a.k, .int .i8 a.h] 101)).cell? ⟨mb, 3, none⟩ = some (.int .i32 k) := by rw [World.cell?_alloc_lt _ _ _ klt]; exact k3
  rw [← hb'] at RR klt ⊢
  have hne : mb ≠ b' := by omega
  clear k2 k3 hb'
  generalize (w1.alloc (.cells #[.pointer (pt l), .pointer (pt r), dv a.d, .int .i32 a.k, .int .i8 a.h] 101)) = W at RR BW m2 m3 ⊢
  have k2 := RR.out.C.c2
  have k3 := RR.out.C.c3
  have kf := RR.out.C.fz
  clear c0 c1 c3 c4
  cases d
  all_goals
    simp only [dv] at m2
    go_region
    go_wp2_with fail
    refine (rebL_any (RR.out.turn (W' := _) (k := k) ?hc1 ?hc2 F.out.2 HSD.out)).mono ?_
    case hc1 => exact ((((Chg.refl (fun k => k = b') W).setCell ⟨b', 2, none⟩ _ (fun _ => rfl)).setCell ⟨b', 3, none⟩ _ (fun _ => rfl)).drew)
    case hc2 => first | exact (((RR.out.C.set2 none).set3 k).drew) | exact (((RR.out.C.set2 (some _)).set3 k).drew)
    rintro e w2 ⟨t', rfl, z⟩
    have Z := Lib.hid z
    clear z
    go_wp2_with fail
    go_ret2
    refine .inr ⟨t', b, a.d, _, _, _, rfl, (BW.out.trans ?hb3).trans Z.out.1, Z.out.2.1, by simp [prs], by rw [F.out.1]; exact Z.out.2.2, C.out⟩
    case hb3 => exact ((((Below.refl _ _).setCell (p := ⟨b', 2, none⟩) RR.out.fb _).setCell (p := ⟨b', 3, none⟩) RR.out.fb _).drew)

/- MARK2 -/
theorem RebR.turn {B : Nat} {W W' : World} {b b' : Nat} {a : Nd} {l r r' : BT Nd} {p : Option Addr} {L : List (Int × Option Int)} (q : RebR B W b b' a a l r r' p L) {k : Int} {d : Option Int} (hW : Chg (fun k => k = b') W W')
    (hC : Cel W' b' (pt l) p d k a.h) (S : Srt (prs l ++ (k, d) :: L)) (sd : ht l ≤ ht r) : RebR B W' b b' a { a with k := k, d := d } l r r' p L :=
  ⟨q.A, q.hh, q.D, rfl, hC, q.Hl.chg hW (fun x hx e => q.n1 (e ▸ hx)), q.Hr.chg hW (fun x hx e => q.n2 (e ▸ hx)), q.n1, q.n2, S, Nat.le_trans q.hB hW.size, q.fb, .inr sd⟩

set_option maxRecDepth 100000 in
set_option maxHeartbeats 800000 in
theorem del_min {w : World} {b : Nat} {a : Nd} {l r : BT Nd} (h1 : a.h ≠ 1) (hc : sh l ≤ sh r) (H : Holds w (.node b 0 a l r)) (S : Srt (prs (.node b 0 a l r))) (A : Avl (.node b 0 a l r)) (hh : ht (.node b 0 a l r) ≤ 80) :
    Calls Try.prog 60 #[.pointer (some ⟨b, 0, none⟩), .int .i32 a.k] w (DelPost a.k (.node b 0 a l r) w) := by
  have hl : r ≠ .nil := by
    rintro rfl
    have e := A.1.sh
    have e2 : sh (.nil) = 0 := rfl
    have e3 : a.h = _ := A.sh
    rw [e2] at hc
    simp only [ht] at e3
    omega
  have HSD : Hid (ht l ≤ ht r) := by
    have e1 := A.1.sh
    have e2 := A.2.1.sh
    show ht l ≤ ht r
    omega
  have C := Lib.hid H.2.1
  have HL := Lib.hid (And.intro H.2.2.1 H.2.2.2)
  have RB := Lib.hid (fun (w1 : World) (r' : BT Nd) a' L hb Hl D S e sd => rebR_copy (w1 := w1) (r' := r') (L := L) (a' := a') H A hh hb Hl D S e sd)
  have SS := Lib.hid S
  have hh' := hh
  simp only [ht] at hh'
  have MX := Lib.hid (min_any r · hl · (Srt.app S).2.1 A.2.1 (by omega))
  have c0 := H.2.1.c0
  have c1 := H.2.1.c1
  have c3 := H.2.1.c3
  have c4 := H.2.1.c4
  have t1 : (a.h == 1) = false := by simp [h1]
  clear H S A h1 hl
  go_enter Try.func60, Try.ntmps60
  go_wp2_with fail
  refine (height_some b a.h _ c4).mono ?_
  rintro e w1 ⟨rfl, hw⟩
  rw [hw]
  clear hw w1
  go_wp2_with fail
  go_quiet (first | (go_at_call_of 76 (pt l); exact Calls.quiet_of_same (height_any l _ (HL.out.1.drewN _))) | (go_at_call_of 76 (pt r); exact Calls.quiet_of_same (height_any r _ (HL.out.2.drewN _))))
  go_wp2_with fail
  refine (height_any r _ (HL.out.2.drewN _)).mono ?_
  rintro e w1 ⟨rfl, hw⟩
  rw [hw]
  clear hw w1
  go_wp2_with fail
  refine (MX.out _ (HL.out.2.drewN _)).mono ?_
  rintro e w1 ⟨r', mb, k, d, lp, rp, h, L, rfl, b1, h1, p1, d1, m1⟩
  have b2 : Below w.heap.size w w1 := Below.trans (⟨rfl, rfl, rfl, Nat.le_refl _, fun _ _ => rfl⟩ : Below w.heap.size w (w.drewN nq)) b1
  have m2 : Cel w mb lp rp d k h := m1
  have m3 := Chg.cel (Chg.of_below b2) m2 (Nat.not_le.2 m2.lt)
  have CC := Lib.hid (Chg.cel (Chg.of_below b2) C.out (Nat.not_le.2 C.out.lt))
  have Q := Lib.hid (And.intro b2 (And.intro h1 (And.intro p1 (And.intro d1 m2))))
  have k2 := m3.c2
  have k3 := m3.c3
  have klt := m3.lt
  clear b1 h1 p1 d1 m1 b2 m2 m3
  go_wp2_with fail
  refine (copy_any b _ _ _ _ _ _ CC.out).mono ?_
  rintro e w2 ⟨rfl, rfl⟩
  go_wp2_with fail
  have E : lo a.k (prs (.node b 0 a l r)) ++ hi a.k (prs (.node b 0 a l r)) = prs l ++ (k, d) :: L := by
    have := SS.out
    simp only [prs] at this ⊢
    rw [lo_here this rfl, hi_here this rfl, Q.out.2.2.1]
  have S2 : Srt (prs l ++ (k, d) :: L) := by rw [← E]; exact SS.out.drop
  have S3 : Srt (prs l ++ (a.k, a.d) :: L) := by
    have := SS.out
    simp only [prs, Q.out.2.2.1] at this
    have h3 := Srt.app this
    refine Srt.mk h3.1 (List.pairwise_cons.1 h3.2.1).2 h3.2.2.1 (fun q hq => h3.2.2.2 q (List.mem_cons_of_mem _ hq))
  have RR := Lib.hid (RB.out w1 r' a L Q.out.1 Q.out.2.1 Q.out.2.2.2.1 S3 rfl (.inl ⟨rfl, rfl⟩))
  have BW := Lib.hid (Q.out.1.alloc Q.out.1.size (.cells #[.pointer (pt l), .pointer (pt r), dv a.d, .int .i32 a.k, .int .i8 a.h] 101))
  have F := Lib.hid (And.intro E S2)
  clear E S2 S3
  obtain ⟨b', hb'⟩ : ∃ b', b' = w1.heap.size := ⟨_, rfl⟩
  have m2 : (w1.alloc (.cells #[.pointer (pt l), .pointer (pt r), dv a.d, .int .i32 a.k, .int .i8 a.h] 101)).cell? ⟨mb, 2, none⟩ = some (dv d) := by rw [World.cell?_alloc_lt _ _ _ klt]; exact k2
  have m3 : (w1.alloc (.cells #[.pointer (pt l), .pointer (pt r), dv a.d, .int .i32 a.k, .int .i8 a.h] 101)).cell? ⟨mb, 3, none⟩ = some (.int .i32 k) := by rw [World.cell?_alloc_lt _ _ _ klt]; exact k3
  rw [← hb'] at RR klt ⊢
  have hne : mb ≠ b' := by omega
  clear k2 k3 hb'
  generalize (w1.alloc (.cells #[.pointer (pt l), .pointer (pt r), dv a.d, .int .i32 a.k, .int .i8 a.h] 101)) = W at RR BW m2 m3 ⊢
  have k2 := RR.out.C.c2
  have k3 := RR.out.C.c3
  have kf := RR.out.C.fz
  clear c0 c1 c3 c4
  cases d
  all_goals
    simp only [dv] at m2
    go_region
    go_wp2_with fail
    refine (rebR_any (RR.out.turn (W' := _) (k := k) ?hc1 ?hc2 F.out.2 HSD.out)).mono ?_
    case hc1 => exact ((((Chg.refl (fun k => k = b') W).setCell ⟨b', 2, none⟩ _ (fun _ => rfl)).setCell ⟨b', 3, none⟩ _ (fun _ => rfl)).drew)
    case hc2 => first | exact (((RR.out.C.set2 none).set3 k).drew) | exact (((RR.out.C.set2 (some _)).set3 k).drew)
    rintro e w2 ⟨t', rfl, z⟩
    have Z := Lib.hid z
    clear z
    go_wp2_with fail
    go_ret2
    refine .inr ⟨t', b, a.d, _, _, _, rfl, (BW.out.trans ?hb3).trans Z.out.1, Z.out.2.1, by simp [prs], by rw [F.out.1]; exact Z.out.2.2, C.out⟩
    case hb3 => exact ((((Below.refl _ _).setCell (p := ⟨b', 2, none⟩) RR.out.fb _).setCell (p := ⟨b', 3, none⟩) RR.out.fb _).drew)

/-- aDelete: the tree without the key. -/
theorem delete_any (x : Int) : ∀ (t : BT Nd) (w : World), Holds w t → Srt (prs t) → Avl t → ht t ≤ 80 → Calls Try.prog 60 #[.pointer (pt t), .int .i32 x] w (DelPost x t w)
  | .nil, w, _, _, _, _ => del_nil x w
  | .node b o a l r, w, H, S, A, hh => by
    have ho : o = 0 := H.1
    subst ho
    have S' := Srt.app S
    have hh' := hh
    simp only [ht] at hh'
    rcases Int.lt_trichotomy x a.k with hx | hx | hx
    · exact del_left hx H S A hh (delete_any x l w H.2.2.1 S'.1 A.1 (by omega))
    · subst hx
      by_cases h1 : a.h = 1
      · exact del_one h1 H S A
      · by_cases hc : sh r < sh l
        · exact del_max h1 hc H S A hh
        · exact del_min h1 (Int.not_lt.1 hc) H S A hh
    · exact del_right hx H S A hh (delete_any x r w H.2.2.2 S'.2.1 A.2.1 (by omega))

end Go.Proofs.Ytahghidbadpkeaa
