/- The walk of aRightIsHigh: the other side of aLeftIsHigh's. -/
import Derived.Test.YtahghidbadpkeaaHigh
set_option linter.unusedVariables false
set_option linter.unusedSimpArgs false
namespace Go.Proofs.Ytahghidbadpkeaa
open Go.Deep Go.RowKit

/-- What is asked of a node whose right side is too high by one. -/
structure RH (w : World) (b br : Nat) (a ar : Nd) (rr rl l : BT Nd) : Prop where
  H : Holds w (.node b 0 a l (.node br 0 ar rl rr))
  S : Srt (prs (.node b 0 a l (.node br 0 ar rl rr)))
  A1 : Avl rr
  A2 : Avl rl
  A3 : Avl l
  g1 : ht rr ≤ ht rl + 1
  g2 : ht rl ≤ ht rr + 1
  g3 : max (ht rr) (ht rl) = ht l + 1
  g4 : ht l ≤ 90

theorem rh_one_call {w : World} {b br : Nat} {a ar : Nd} {rr rl l : BT Nd} (h : RH w b br a ar rr rl l) (hc : sh rl ≤ sh rr) (B : Nat) (hB : B ≤ w.heap.size) (h1 : B ≤ b) (h2 : B ≤ br) (no : Option Addr)
    (W : World) (hW : Chg (fun _ => False) w W) : Calls Try.prog 89 #[.pointer (some ⟨b, 0, none⟩)] W (fun e w' => LHPost B no (.node b 0 a l (.node br 0 ar rl rr)) w e w') := by
  obtain ⟨H, S, A1, A2, A3, g1, g2, g3, g4⟩ := h
  obtain ⟨p2, p1, p3⟩ := H.apart S
  obtain ⟨q2, q1, q3⟩ := H.2.2.2.apart (Srt.app S).2.1
  simp only [blks, List.mem_cons, List.mem_append, not_or] at p1
  have p4 : br ∉ blks l := fun h => p3 br h (List.mem_cons_self ..)
  have e1 := A1.sh
  have e2 := A2.sh
  have e3 := A3.sh
  obtain ⟨_, c, Hl, _, cr, Hrl, Hrr⟩ := H
  refine (rtr_any b br l rl rr a.d ar.d a.k ar.k a.h ar.h W p1.1 (hW.cel c (fun h => h)) (hW.cel cr (fun h => h)) (Hl.chg hW (fun _ _ h => h)) (Hrl.chg hW (fun _ _ h => h)) (Hrr.chg hW (fun _ _ h => h))
    p2 p1.2.1 p1.2.2 p4 q2 q1 (by omega) (by omega) (by omega)).mono ?_
  rintro e w' ⟨rfl, hC, hs, k1, k2⟩
  have r1 := rot_right1 (a := a) (ar := ar) A3 A2 A1 (by omega) g1 (by omega) b br _ _ rfl rfl
  have hC' : Chg (fun k => k = b ∨ k = br) w w' := (hW.mono (fun _ _ h => h.elim)).trans hC
  refine ⟨.node br 0 { ar with h := 1 + max (1 + max (sh rl) (sh l)) (sh rr) } (.node b 0 { a with h := 1 + max (sh rl) (sh l) } l rl) rr, rfl, hC'.below hB (fun k hk => by rcases hk with rfl | rfl <;> assumption),
    ⟨rfl, k2, ⟨rfl, k1, Hl.chg hC' (fun k hk h => ?_), Hrl.chg hC' (fun k hk h => ?_)⟩, Hrr.chg hC' (fun k hk h => ?_)⟩, ⟨r1.1, ?_, ?_, fixE_right1 (by simp only [ht]; omega) hc b br⟩, fun x hx => ?_, ?_⟩
  · rcases h with rfl | rfl
    · exact p2 hk
    · exact p4 hk
  · rcases h with rfl | rfl
    · exact p1.2.1 hk
    · exact q2 hk
  · rcases h with rfl | rfl
    · exact p1.2.2 hk
    · exact q1 hk
  · have r2 := r1.2
    simp only [ht] at r2 ⊢
    omega
  · simp [prs]
  · simp only [pt, Option.some.injEq] at hx; subst hx; exact h2
  · intro nb x _ _ ⟨m1, m2, m3, m4, m5⟩
    exact ⟨m3, ⟨m1, m2, m4⟩, m5⟩

set_option maxRecDepth 100000 in
set_option maxHeartbeats 400000 in
theorem rh_one {w : World} {b br : Nat} {a ar : Nd} {rr rl l : BT Nd} (h : RH w b br a ar rr rl l) (hc : sh rl ≤ sh rr) (B : Nat) (hB : B ≤ w.heap.size) (h1 : B ≤ b) (h2 : B ≤ br) (no : Option Addr) :
    Calls Try.prog 87 #[.pointer (some ⟨b, 0, none⟩), .pointer no] w (LHPost B no (.node b 0 a l (.node br 0 ar rl rr)) w) := by
  have K1 := Lib.hid (rh_one_call h hc B hB h1 h2 no)
  obtain ⟨_, c, Hl, _, cr, Hrl, Hrr⟩ := h.H
  have a0 := c.c1
  have l0 := cr.c0
  have l1 := cr.c1
  have Q1 : Hid (Holds w rr ∧ Holds w rl) := ⟨Hrr, Hrl⟩
  clear c cr Hrr Hrl Hl hB h1 h2 h
  simp only [pt] at a0 
  go_enter Try.func87, Try.ntmps87
  go_wp2_with fail
  go_quiet (first | (go_at_call_of 76 (pt rr); exact Calls.quiet_of_same (height_any rr _ (Q1.out.1.drewN _))) | (go_at_call_of 76 (pt rl); exact Calls.quiet_of_same (height_any rl _ (Q1.out.2.drewN _))))
  go_wp2_with fail
  refine (K1.out _ ((Chg.refl _ _).drewN _)).mono ?_
  rintro e w' ⟨t', rfl, h'⟩
  have H' := Lib.hid h'
  clear h'
  go_wp2_with fail
  go_ret
  exact ⟨t', rfl, H'.out⟩


theorem three_r1 {W : World} {b br c : Nat} {p1 p2 : Option Addr} {a ar ac : Nd} {rr cr cl l : BT Nd} (T : Three W b br c p1 p2 (some ⟨c, 0, none⟩) (pt rr) a ar ac rr cl cr l) :
    Calls Try.prog 90 #[.pointer (some ⟨br, 0, none⟩)] W fun e w1 => e = .returned (.pointer (some ⟨c, 0, none⟩)) ∧ Chg (fun k => k = br ∨ k = c) W w1 ∧
      Cel w1 br (pt cr) (pt rr) ar.d ar.k (1 + max (sh cr) (sh rr)) ∧ Cel w1 c (pt cl) (some ⟨br, 0, none⟩) ac.d ac.k (1 + max (1 + max (sh cr) (sh rr)) (sh cl)) := by
  have m1 := T.m br (by simp)
  have m2 := T.m c (by simp)
  have s1 := T.s1
  have s2 := T.s2
  have s3 := T.s3
  refine (ltr_any br c rr cr cl ar.d ac.d ar.k ac.k ar.h ac.h W T.n3 T.kl T.kc T.hx T.hcr T.hcl m1.1 m1.2.2.1 m1.2.1 m2.1 m2.2.2.1 m2.2.1 (by omega) (by omega) (by omega)).mono ?_
  rintro e w' ⟨rfl, h1, _, h2, h3⟩
  exact ⟨rfl, h1, h2, h3⟩

theorem three_r2 {W w1 : World} {b br c : Nat} {p1 : Option Addr} {a ar ac : Nd} {rr cr cl l : BT Nd} (T : Three W b br c (pt l) p1 (some ⟨c, 0, none⟩) (pt rr) a ar ac rr cl cr l)
    (h1 : Chg (fun k => k = br ∨ k = c) W w1) (h2 : Cel w1 br (pt cr) (pt rr) ar.d ar.k (1 + max (sh cr) (sh rr))) (h3 : Cel w1 c (pt cl) (some ⟨br, 0, none⟩) ac.d ac.k (1 + max (1 + max (sh cr) (sh rr)) (sh cl))) :
    Calls Try.prog 89 #[.pointer (some ⟨b, 0, none⟩)] (w1.setCell ⟨b, 1, none⟩ (.pointer (some ⟨c, 0, none⟩))) fun e w' => e = .returned (.pointer (some ⟨c, 0, none⟩)) ∧ Chg (fun k => k = b ∨ k = br ∨ k = c) W w' ∧
      Holds w' (.node c 0 { ac with h := 1 + max (1 + max (sh cl) (sh l)) (1 + max (sh cr) (sh rr)) } (.node b 0 { a with h := 1 + max (sh cl) (sh l) } l cl) (.node br 0 { ar with h := 1 + max (sh cr) (sh rr) } cr rr)) := by
  have mb := T.m b (by simp)
  have ml := T.m br (by simp)
  have mc := T.m c (by simp)
  have s1 := T.s1
  have s2 := T.s2
  have s3 := T.s3
  have s4 := T.s4
  have hC : Chg (fun k => k = b ∨ k = br ∨ k = c) W (w1.setCell ⟨b, 1, none⟩ (.pointer (some ⟨c, 0, none⟩))) := (h1.mono (fun _ _ h => .inr h)).setCell _ _ (fun _ => .inl rfl)
  have ap : ∀ {t : BT Nd}, b ∉ blks t → br ∉ blks t → c ∉ blks t → ∀ k ∈ blks t, ¬ (k = b ∨ k = br ∨ k = c) := by
    rintro t a1 a2 a3 k hk (rfl | rfl | rfl)
    · exact a1 hk
    · exact a2 hk
    · exact a3 hk
  have apx := ap mb.1 ml.1 mc.1
  have apl := ap mb.2.1 ml.2.1 mc.2.1
  have apr := ap mb.2.2.1 ml.2.2.1 mc.2.2.1
  have apy := ap mb.2.2.2 ml.2.2.2 mc.2.2.2
  have kb : Cel (w1.setCell ⟨b, 1, none⟩ (.pointer (some ⟨c, 0, none⟩))) b (pt l) (some ⟨c, 0, none⟩) a.d a.k a.h := by
    refine (h1.cel T.kb ?_).set1 _
    rintro (h | h)
    · exact T.n1 h
    · exact T.n2 h
  have kc := h3.other (a := ⟨b, 1, none⟩) (.pointer (some ⟨c, 0, none⟩)) (Ne.symm T.n2)
  have kl := h2.other (a := ⟨b, 1, none⟩) (.pointer (some ⟨c, 0, none⟩)) (Ne.symm T.n1)
  have bn : b ∉ blks (.node br 0 { ar with h := 1 + max (sh cr) (sh rr) } cr rr) := by
    simp only [blks, List.mem_cons, List.mem_append, not_or]; exact ⟨T.n1, mb.2.2.1, mb.1⟩
  have cn : c ∉ blks (.node br 0 { ar with h := 1 + max (sh cr) (sh rr) } cr rr) := by
    simp only [blks, List.mem_cons, List.mem_append, not_or]; exact ⟨Ne.symm T.n3, mc.2.2.1, mc.1⟩
  have hn : Holds (w1.setCell ⟨b, 1, none⟩ (.pointer (some ⟨c, 0, none⟩))) (.node br 0 { ar with h := 1 + max (sh cr) (sh rr) } cr rr) := ⟨rfl, kl, T.hcr.chg hC apr, T.hx.chg hC apx⟩
  refine (rtr_any b c l cl (.node br 0 { ar with h := 1 + max (sh cr) (sh rr) } cr rr) a.d ac.d a.k ac.k a.h _ _ T.n2 kb kc (T.hr.chg hC apy) (T.hcl.chg hC apl) hn mb.2.2.2 mb.2.1 bn mc.2.2.2 mc.2.1 cn (by omega) (by omega) (by show 0 ≤ 1 + max (sh cr) (sh rr) ∧ 1 + max (sh cr) (sh rr) ≤ 100; omega)).mono ?_
  rintro e w' ⟨rfl, k1, _, k2, k3⟩
  have hC' : Chg (fun k => k = b ∨ k = br ∨ k = c) W w' := hC.trans (k1.mono (fun k _ h => by rcases h with h | h <;> simp [h]))
  refine ⟨rfl, hC', rfl, k3, ⟨rfl, k2, T.hr.chg hC' apy, T.hcl.chg hC' apl⟩, rfl, k1.cel kl ?_, T.hcr.chg hC' apr, T.hx.chg hC' apx⟩
  rintro (h | h)
  · exact T.n1 h.symm
  · exact T.n3 h

theorem RH.three {w : World} {b br c : Nat} {a ar ac : Nd} {rr cr cl l : BT Nd} (h : RH w b br a ar rr (.node c 0 ac cl cr) l) : Three w b br c (pt l) (some ⟨br, 0, none⟩) (some ⟨c, 0, none⟩) (pt rr) a ar ac rr cl cr l := by
  obtain ⟨H, S, A1, A2, A3, g1, g2, g3, g4⟩ := h
  obtain ⟨p2, p1, p3⟩ := H.apart S
  obtain ⟨q2, q1, q3⟩ := H.2.2.2.apart (Srt.app S).2.1
  obtain ⟨u1, u2, u3⟩ := H.2.2.2.2.2.1.apart (Srt.app (Srt.app S).2.1).1
  have p4 : br ∉ blks l := fun h => p3 br h (by simp [blks])
  have p5 : c ∉ blks l := fun h => p3 c h (by simp [blks])
  have q4 : c ∉ blks rr := q3 c (by simp [blks])
  simp only [blks, List.mem_cons, List.mem_append, not_or] at p1 q2
  have e1 := A1.sh
  have e2 := A2.1.sh
  have e3 := A2.2.1.sh
  have e4 := A3.sh
  simp only [ht] at g1 g2 g3
  obtain ⟨_, c1, Hl, _, c2, ⟨_, c3, Hcl, Hcr⟩, Hrr⟩ := H
  refine ⟨c1, c2, c3, Hrr, Hcl, Hcr, Hl, p1.1, p1.2.1.1, q2.1, ?_, by omega, by omega, by omega, by omega⟩
  rintro k (rfl | rfl | rfl)
  · exact ⟨p1.2.2, p1.2.1.2.1, p1.2.1.2.2, p2⟩
  · exact ⟨q1, q2.2.1, q2.2.2, p4⟩
  · exact ⟨q4, u1, u2, p5⟩

/-- The end of the double rotation. -/
theorem rh_fin {w w' W : World} {b br c c' : Nat} {a ar ac : Nd} {rr cr cl l : BT Nd} (h : RH w b br a ar rr (.node c 0 ac cl cr) l) (hc : sh rr < ac.h) {B : Nat} (hB : B ≤ w.heap.size) (h1 : B ≤ b) (h2 : B ≤ br) (h3 : B ≤ c')
    (no : Option Addr) (hno : ∀ nb x, no = some ⟨nb, 0, none⟩ → nb < w.heap.size → (c = nb ↔ ac.k = x) → (c' = nb ↔ ac.k = x)) (hW : Chg (fun k => k = br) w W) (hw' : Chg (fun k => k = b ∨ k = br ∨ k = c') W w')
    (hH : Holds w' (.node c' 0 { ac with h := 1 + max (1 + max (sh cl) (sh l)) (1 + max (sh cr) (sh rr)) } (.node b 0 { a with h := 1 + max (sh cl) (sh l) } l cl) (.node br 0 { ar with h := 1 + max (sh cr) (sh rr) } cr rr))) :
    LHPost B no (.node b 0 a l (.node br 0 ar (.node c 0 ac cl cr) rr)) w (.returned (.pointer (some ⟨c', 0, none⟩))) w' := by
  obtain ⟨H, S, A1, A2, A3, g1, g2, g3, g4⟩ := h
  have e1 := A1.sh
  have e2 : ac.h = _ := A2.sh
  obtain ⟨A4, A5, g5, g6, _⟩ := A2
  simp only [ht] at g1 g2 g3 e2
  have r1 := rot_right2 (a := a) (ar := ar) (ac := ac) A3 A4 A5 A1 g5 g6 (by omega) (by omega) b br c' _ _ _ rfl rfl rfl
  have r2 := r1.2
  refine ⟨_, rfl, ((hW.mono (S' := fun k => B ≤ k) (fun k _ e => by subst e; exact h2)).trans (hw'.mono (fun k _ e => by rcases e with rfl | rfl | rfl <;> assumption))).below hB (fun _ h => h), hH, ⟨r1.1, ?_, ?_, fixE_right2 (by simp only [ht]; omega) hc b br c'⟩, fun x hx => ?_, ?_⟩
  · simp only [ht] at r2 ⊢
    omega
  · simp [prs]
  · simp only [pt, Option.some.injEq] at hx; subst hx; exact h3
  · intro nb x e1 e2 ⟨m1, m2, m3, ⟨m4, m5, m6⟩, m7⟩
    exact ⟨hno nb x e1 e2 m4, ⟨m1, m2, m5⟩, m3, m6, m7⟩

set_option maxRecDepth 100000 in
set_option maxHeartbeats 400000 in
theorem rh_two {w : World} {b br c : Nat} {a ar ac : Nd} {rr cr cl l : BT Nd} (h : RH w b br a ar rr (.node c 0 ac cl cr) l) (hc : sh rr < ac.h) (B : Nat) (hB : B ≤ w.heap.size) (h1 : B ≤ b) (h2 : B ≤ br) (h3 : B ≤ c) :
    Calls Try.prog 87 #[.pointer (some ⟨b, 0, none⟩), .pointer (some ⟨c, 0, none⟩)] w (LHPost B (some ⟨c, 0, none⟩) (.node b 0 a l (.node br 0 ar (.node c 0 ac cl cr) rr)) w) := by
  have T := Lib.hid h.three
  have F := Lib.hid (fun W w' => rh_fin (c' := c) (W := W) (w' := w') h hc hB h1 h2 h3 (some ⟨c, 0, none⟩) (fun _ _ _ _ e => e))
  obtain ⟨_, cb, Hl, _, ckr, ⟨_, cc, _, _⟩, Hrr⟩ := h.H
  have a0 := cb.c1
  have l0 := ckr.c0
  have l1 := ckr.c1
  have c4 := cc.c4
  have Q1 : Hid (Holds w rr) := Hrr
  have ne : ∀ n, (binOp .neq 94 (.pointer (some ⟨c, 0, none⟩)) (.pointer (some ⟨c, 0, none⟩))).run Try.prog (w.drewN n) = .ok (.bool false) (w.drewN n) := fun n => by
    rw [neq94 (w := w.drewN n) cc.isNode cc.isNode]; simp
  clear cb ckr Hrr Hl hB h1 h2 h h3 cc
  simp only [pt] at a0 l0
  go_enter Try.func87, Try.ntmps87
  go_wp2_with fail
  go_quiet (first | (go_at_call_of 76 (pt rr); exact Calls.quiet_of_same (height_any rr _ (Q1.out.drewN _))) | (exact Calls.quiet_of_same (height_some c ac.h _ c4)))
  go_wp2_with fail
  refine (three_r1 (T.out.chg ((Chg.refl _ _).drewN _))).mono ?_
  rintro e w1 ⟨rfl, q1, q2, q3⟩
  have b0 : w1.cell? ⟨b, 1, none⟩ = some (.pointer (some ⟨br, 0, none⟩)) := (q1.cel T.out.kb (by have := T.out.n1; have := T.out.n2; omega)).c1
  have bf : w1.frozen? ⟨b, 1, none⟩ = false := (q1.cel T.out.kb (by have := T.out.n1; have := T.out.n2; omega)).fz 1
  have L2 := Lib.hid (three_r2 (T.out.chg ((Chg.refl _ _).drewN _)) q1 q2 q3)
  clear q1 q2 q3
  go_wp2_with fail
  refine L2.out.mono ?_
  rintro e w' ⟨rfl, q1, q2⟩
  have Z := Lib.hid (F.out _ w' ((Chg.refl _ _).drewN nq) q1 q2)
  clear q1 q2
  go_wp2_with fail
  go_ret
  exact Z.out

/-- The third node copied. -/
theorem Three.copied_r {w : World} {b br c : Nat} {p1 p2 : Option Addr} {a ar ac : Nd} {x cr cl l : BT Nd} (T : Three w b br c p1 p2 (some ⟨c, 0, none⟩) (pt x) a ar ac x cl cr l) :
    Three ((w.alloc (.cells #[.pointer (pt cl), .pointer (pt cr), dv ac.d, .int .i32 ac.k, .int .i8 ac.h] 101)).setCell ⟨br, 0, none⟩ (.pointer (some ⟨w.heap.size, 0, none⟩))) b br w.heap.size p1 p2 (some ⟨w.heap.size, 0, none⟩) (pt x) a ar ac x cl cr l := by
  have lb := T.kb.lt
  have rr := T.kl.lt
  have ml := T.m br (by simp)
  refine ⟨(T.kb.alloc _).other _ T.n1, (T.kl.alloc _).set0 _, (Cel.new w _ _ _ _ _).other _ (by simp; omega), (T.hx.alloc _).set _ _ ml.1, (T.hcl.alloc _).set _ _ ml.2.1, (T.hcr.alloc _).set _ _ ml.2.2.1, (T.hr.alloc _).set _ _ ml.2.2.2, T.n1, by omega, by omega, ?_, T.s1, T.s2, T.s3, T.s4⟩
  rintro k (rfl | rfl | rfl)
  · exact T.m _ (.inl rfl)
  · exact ml
  · exact ⟨fun h => Nat.lt_irrefl _ (T.hx.lt _ h), fun h => Nat.lt_irrefl _ (T.hcl.lt _ h), fun h => Nat.lt_irrefl _ (T.hcr.lt _ h), fun h => Nat.lt_irrefl _ (T.hr.lt _ h)⟩

set_option maxRecDepth 100000 in
set_option maxHeartbeats 400000 in
theorem rh_two' {w : World} {b br c : Nat} {a ar ac : Nd} {rr cr cl l : BT Nd} (h : RH w b br a ar rr (.node c 0 ac cl cr) l) (hc : sh rr < ac.h) (B : Nat) (hB : B ≤ w.heap.size) (h1 : B ≤ b) (h2 : B ≤ br) (no : Option Addr) (hn : IsNode w no) (hno : no ≠ some ⟨c, 0, none⟩) :
    Calls Try.prog 87 #[.pointer (some ⟨b, 0, none⟩), .pointer no] w (LHPost B no (.node b 0 a l (.node br 0 ar (.node c 0 ac cl cr) rr)) w) := by
  have T := Lib.hid h.three
  have F := Lib.hid (fun W w' => rh_fin (c' := w.heap.size) (W := W) (w' := w') h hc hB h1 h2 hB no (fun nb x e1 e2 e3 =>
    ⟨fun e => by omega, fun e => by have := e3.2 e; subst this; exact absurd e1 hno⟩))
  obtain ⟨_, cb, Hl, _, ckr, ⟨_, cc, _, _⟩, Hrr⟩ := h.H
  have a0 := cb.c1
  have l0 := ckr.c0
  have l1 := ckr.c1
  have lf := ckr.fz
  have c4 := cc.c4
  have Q1 : Hid (Holds w rr) := Hrr
  have CC := Lib.hid cc
  have fa : ∀ n ob o, ((w.drewN n).alloc ob).frozen? ⟨br, o, none⟩ = false := fun n ob o => Cel.fz (w := (w.drewN n).alloc ob) (Cel.alloc (w := w.drewN n) ckr ob) o
  have ca : ∀ n ob, ((w.drewN n).alloc ob).cell? ⟨br, 0, none⟩ = some (.pointer (some ⟨c, 0, none⟩)) := fun n ob => Cel.c0 (w := (w.drewN n).alloc ob) (Cel.alloc (w := w.drewN n) ckr ob)
  have ne : ∀ n, (binOp .neq 94 (.pointer no) (.pointer (some ⟨c, 0, none⟩))).run Try.prog (w.drewN n) = .ok (.bool true) (w.drewN n) := fun n => by
    rw [neq94 (w := w.drewN n) hn cc.isNode]; simp [hno]
  clear cb ckr Hrr Hl hB h1 h2 h cc hno hn
  simp only [pt] at a0 l0
  go_enter Try.func87, Try.ntmps87
  go_wp2_with fail
  go_quiet (first | (go_at_call_of 76 (pt rr); exact Calls.quiet_of_same (height_any rr _ (Q1.out.drewN _))) | (exact Calls.quiet_of_same (height_some c ac.h _ c4)))
  go_wp2_with fail
  refine (copy_any c _ _ _ _ _ (w.drewN nq) CC.out).mono ?_
  rintro e w1 ⟨rfl, rfl⟩
  go_wp2_with fail
  have T2 := Lib.hid (T.out.chg ((Chg.refl _ _).drewN nq)).copied_r
  refine (three_r1 T2.out).mono ?_
  rintro e w1 ⟨rfl, q1, q2, q3⟩
  have b0 : w1.cell? ⟨b, 1, none⟩ = some (.pointer (some ⟨br, 0, none⟩)) := (q1.cel T2.out.kb (by have := T2.out.n1; have := T2.out.n2; omega)).c1
  have bf : w1.frozen? ⟨b, 1, none⟩ = false := (q1.cel T2.out.kb (by have := T2.out.n1; have := T2.out.n2; omega)).fz 1
  have L2 := Lib.hid (three_r2 T2.out q1 q2 q3)
  clear q1 q2 q3
  go_wp2_with fail
  refine L2.out.mono ?_
  rintro e w' ⟨rfl, q1, q2⟩
  have Z := Lib.hid (F.out _ w' ((((Chg.refl _ _).drewN nq).alloc _).setCell _ _ (fun _ => rfl)) q1 q2)
  clear q1 q2
  go_wp2_with fail
  go_ret
  exact Z.out

/-- aRightIsHigh. -/
theorem right_high {w : World} {b br : Nat} {a ar : Nd} {rr rl l : BT Nd} (h : RH w b br a ar rr rl l) (B : Nat) (hB : B ≤ w.heap.size) (h1 : B ≤ b) (h2 : B ≤ br) (no : Option Addr) (hn : IsNode w no) (h3 : ∀ nb, no = some ⟨nb, 0, none⟩ → B ≤ nb) :
    Calls Try.prog 87 #[.pointer (some ⟨b, 0, none⟩), .pointer no] w (LHPost B no (.node b 0 a l (.node br 0 ar rl rr)) w) := by
  by_cases hc : sh rl ≤ sh rr
  · exact rh_one h hc B hB h1 h2 no
  · have e1 := h.A1.sh
    cases rl with
    | nil => exact absurd (show (0 : Int) ≤ _ by rw [e1]; omega) hc
    | node c o ac cl cr =>
      have ho : o = 0 := h.H.2.2.2.2.2.1.1
      subst ho
      have hc' : sh rr < ac.h := Int.not_le.1 hc
      by_cases hno : no = some ⟨c, 0, none⟩
      · subst hno
        exact rh_two h hc' B hB h1 h2 (h3 c rfl)
      · exact rh_two' h hc' B hB h1 h2 no hn hno

end Go.Proofs.Ytahghidbadpkeaa
