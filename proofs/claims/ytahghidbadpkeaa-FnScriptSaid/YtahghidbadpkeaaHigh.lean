/- The walks of aLeftIsHigh and aRightIsHigh. -/
import Derived.Test.YtahghidbadpkeaaRota
set_option linter.unusedVariables false
set_option linter.unusedSimpArgs false
namespace Go.Proofs.Ytahghidbadpkeaa
open Go.Deep Go.RowKit

/-- What is asked of a node whose left side is too high by one. -/
structure LH (w : World) (b bl : Nat) (a al : Nd) (ll lr r : BT Nd) : Prop where
  H : Holds w (.node b 0 a (.node bl 0 al ll lr) r)
  S : Srt (prs (.node b 0 a (.node bl 0 al ll lr) r))
  A1 : Avl ll
  A2 : Avl lr
  A3 : Avl r
  g1 : ht ll ≤ ht lr + 1
  g2 : ht lr ≤ ht ll + 1
  g3 : max (ht ll) (ht lr) = ht r + 1
  g4 : ht r ≤ 90

/-- What comes of it. -/
def LHPost (B : Nat) (no : Option Addr) (t : BT Nd) (w : World) (e : Ending) (w' : World) : Prop :=
  ∃ t', e = .returned (.pointer (pt t')) ∧ Below B w w' ∧ Holds w' t' ∧ Rot t t' ∧ (∀ a, pt t' = some a → B ≤ a.block) ∧
    ∀ nb x, no = some ⟨nb, 0, none⟩ → nb < w.heap.size → Mk nb x t → Mk nb x t'

theorem lh_one_call {w : World} {b bl : Nat} {a al : Nd} {ll lr r : BT Nd} (h : LH w b bl a al ll lr r) (hc : sh lr ≤ sh ll) (B : Nat) (hB : B ≤ w.heap.size) (h1 : B ≤ b) (h2 : B ≤ bl) (no : Option Addr)
    (W : World) (hW : Chg (fun _ => False) w W) : Calls Try.prog 90 #[.pointer (some ⟨b, 0, none⟩)] W (fun e w' => LHPost B no (.node b 0 a (.node bl 0 al ll lr) r) w e w') := by
  obtain ⟨H, S, A1, A2, A3, g1, g2, g3, g4⟩ := h
  obtain ⟨p1, p2, p3⟩ := H.apart S
  obtain ⟨q1, q2, q3⟩ := H.2.2.1.apart (Srt.app S).1
  simp only [blks, List.mem_cons, List.mem_append, not_or] at p1
  have p4 : bl ∉ blks r := p3 bl (List.mem_cons_self ..)
  have e1 := A1.sh
  have e2 := A2.sh
  have e3 := A3.sh
  obtain ⟨_, c, ⟨_, cl, Hll, Hlr⟩, Hr⟩ := H
  refine (ltr_any b bl r lr ll a.d al.d a.k al.k a.h al.h W p1.1 (hW.cel c (fun h => h)) (hW.cel cl (fun h => h)) (Hr.chg hW (fun _ _ h => h)) (Hlr.chg hW (fun _ _ h => h)) (Hll.chg hW (fun _ _ h => h))
    p2 p1.2.2 p1.2.1 p4 q2 q1 (by omega) (by omega) (by omega)).mono ?_
  rintro e w' ⟨rfl, hC, hs, k1, k2⟩
  have r1 := rot_left1 (a := a) (al := al) A1 A2 A3 (by omega) g1 (by omega) b bl _ _ rfl rfl
  have hC' : Chg (fun k => k = b ∨ k = bl) w w' := (hW.mono (fun _ _ h => h.elim)).trans hC
  refine ⟨.node bl 0 { al with h := 1 + max (1 + max (sh lr) (sh r)) (sh ll) } ll (.node b 0 { a with h := 1 + max (sh lr) (sh r) } lr r), rfl, hC'.below hB (fun k hk => by rcases hk with rfl | rfl <;> assumption),
    ⟨rfl, k2, Hll.chg hC' (fun k hk h => ?_), rfl, k1, Hlr.chg hC' (fun k hk h => ?_), Hr.chg hC' (fun k hk h => ?_)⟩, ⟨r1.1, ?_, ?_, fixE_left1 (by simp only [ht]; omega) hc b bl⟩, fun x hx => ?_, ?_⟩
  · rcases h with rfl | rfl
    · exact p1.2.1 hk
    · exact q1 hk
  · rcases h with rfl | rfl
    · exact p1.2.2 hk
    · exact q2 hk
  · rcases h with rfl | rfl
    · exact p2 hk
    · exact p4 hk
  · have r2 := r1.2
    simp only [ht] at r2 ⊢
    omega
  · simp [prs]
  · simp only [pt, Option.some.injEq] at hx; subst hx; exact h2
  · intro nb x _ _ ⟨m1, ⟨m2, m3, m4⟩, m5⟩
    exact ⟨m2, m3, m1, m4, m5⟩

set_option maxRecDepth 100000 in
set_option maxHeartbeats 400000 in
theorem lh_one {w : World} {b bl : Nat} {a al : Nd} {ll lr r : BT Nd} (h : LH w b bl a al ll lr r) (hc : sh lr ≤ sh ll) (B : Nat) (hB : B ≤ w.heap.size) (h1 : B ≤ b) (h2 : B ≤ bl) (no : Option Addr) :
    Calls Try.prog 86 #[.pointer (some ⟨b, 0, none⟩), .pointer no] w (LHPost B no (.node b 0 a (.node bl 0 al ll lr) r) w) := by
  have K1 := Lib.hid (lh_one_call h hc B hB h1 h2 no)
  obtain ⟨_, c, ⟨_, cl, Hll, Hlr⟩, Hr⟩ := h.H
  have a0 := c.c0
  have l0 := cl.c0
  have l1 := cl.c1
  have Q1 : Hid (Holds w ll ∧ Holds w lr) := ⟨Hll, Hlr⟩
  clear c cl Hll Hlr Hr hB h1 h2 h
  simp only [pt] at a0 
  go_enter Try.func86, Try.ntmps86
  go_wp2_with fail
  go_quiet (first | (go_at_call_of 76 (pt ll); exact Calls.quiet_of_same (height_any ll _ (Q1.out.1.drewN _))) | (go_at_call_of 76 (pt lr); exact Calls.quiet_of_same (height_any lr _ (Q1.out.2.drewN _))))
  go_wp2_with fail
  refine (K1.out _ ((Chg.refl _ _).drewN _)).mono ?_
  rintro e w' ⟨t', rfl, h'⟩
  have H' := Lib.hid h'
  clear h'
  go_wp2_with fail
  go_ret
  exact ⟨t', rfl, H'.out⟩


/-- Three nodes that a double rotation turns. -/
structure Three (W : World) (b bl c : Nat) (p1 p2 : Option Addr) (q1 q2 : Option Addr) (a al ac : Nd) (x cl cr r : BT Nd) : Prop where
  kb : Cel W b p1 p2 a.d a.k a.h
  kl : Cel W bl q1 q2 al.d al.k al.h
  kc : Cel W c (pt cl) (pt cr) ac.d ac.k ac.h
  hx : Holds W x
  hcl : Holds W cl
  hcr : Holds W cr
  hr : Holds W r
  n1 : b ≠ bl
  n2 : b ≠ c
  n3 : bl ≠ c
  m : ∀ k, (k = b ∨ k = bl ∨ k = c) → k ∉ blks x ∧ k ∉ blks cl ∧ k ∉ blks cr ∧ k ∉ blks r
  s1 : 0 ≤ sh x ∧ sh x ≤ 98
  s2 : 0 ≤ sh cl ∧ sh cl ≤ 98
  s3 : 0 ≤ sh cr ∧ sh cr ≤ 98
  s4 : 0 ≤ sh r ∧ sh r ≤ 98

theorem three_l1 {W : World} {b bl c : Nat} {p1 p2 : Option Addr} {a al ac : Nd} {ll cl cr r : BT Nd} (T : Three W b bl c p1 p2 (pt ll) (some ⟨c, 0, none⟩) a al ac ll cl cr r) :
    Calls Try.prog 89 #[.pointer (some ⟨bl, 0, none⟩)] W fun e w1 => e = .returned (.pointer (some ⟨c, 0, none⟩)) ∧ Chg (fun k => k = bl ∨ k = c) W w1 ∧
      Cel w1 bl (pt ll) (pt cl) al.d al.k (1 + max (sh cl) (sh ll)) ∧ Cel w1 c (some ⟨bl, 0, none⟩) (pt cr) ac.d ac.k (1 + max (1 + max (sh cl) (sh ll)) (sh cr)) := by
  have m1 := T.m bl (by simp)
  have m2 := T.m c (by simp)
  have s1 := T.s1
  have s2 := T.s2
  have s3 := T.s3
  refine (rtr_any bl c ll cl cr al.d ac.d al.k ac.k al.h ac.h W T.n3 T.kl T.kc T.hx T.hcl T.hcr m1.1 m1.2.1 m1.2.2.1 m2.1 m2.2.1 m2.2.2.1 (by omega) (by omega) (by omega)).mono ?_
  rintro e w' ⟨rfl, h1, _, h2, h3⟩
  exact ⟨rfl, h1, h2, h3⟩

theorem three_l2 {W w1 : World} {b bl c : Nat} {p1 : Option Addr} {a al ac : Nd} {ll cl cr r : BT Nd} (T : Three W b bl c p1 (pt r) (pt ll) (some ⟨c, 0, none⟩) a al ac ll cl cr r)
    (h1 : Chg (fun k => k = bl ∨ k = c) W w1) (h2 : Cel w1 bl (pt ll) (pt cl) al.d al.k (1 + max (sh cl) (sh ll))) (h3 : Cel w1 c (some ⟨bl, 0, none⟩) (pt cr) ac.d ac.k (1 + max (1 + max (sh cl) (sh ll)) (sh cr))) :
    Calls Try.prog 90 #[.pointer (some ⟨b, 0, none⟩)] (w1.setCell ⟨b, 0, none⟩ (.pointer (some ⟨c, 0, none⟩))) fun e w' => e = .returned (.pointer (some ⟨c, 0, none⟩)) ∧ Chg (fun k => k = b ∨ k = bl ∨ k = c) W w' ∧
      Holds w' (.node c 0 { ac with h := 1 + max (1 + max (sh cr) (sh r)) (1 + max (sh cl) (sh ll)) } (.node bl 0 { al with h := 1 + max (sh cl) (sh ll) } ll cl) (.node b 0 { a with h := 1 + max (sh cr) (sh r) } cr r)) := by
  have mb := T.m b (by simp)
  have ml := T.m bl (by simp)
  have mc := T.m c (by simp)
  have s1 := T.s1
  have s2 := T.s2
  have s3 := T.s3
  have s4 := T.s4
  have hC : Chg (fun k => k = b ∨ k = bl ∨ k = c) W (w1.setCell ⟨b, 0, none⟩ (.pointer (some ⟨c, 0, none⟩))) := (h1.mono (fun _ _ h => .inr h)).setCell _ _ (fun _ => .inl rfl)
  have ap : ∀ {t : BT Nd}, b ∉ blks t → bl ∉ blks t → c ∉ blks t → ∀ k ∈ blks t, ¬ (k = b ∨ k = bl ∨ k = c) := by
    rintro t a1 a2 a3 k hk (rfl | rfl | rfl)
    · exact a1 hk
    · exact a2 hk
    · exact a3 hk
  have apx := ap mb.1 ml.1 mc.1
  have apl := ap mb.2.1 ml.2.1 mc.2.1
  have apr := ap mb.2.2.1 ml.2.2.1 mc.2.2.1
  have apy := ap mb.2.2.2 ml.2.2.2 mc.2.2.2
  have kb : Cel (w1.setCell ⟨b, 0, none⟩ (.pointer (some ⟨c, 0, none⟩))) b (some ⟨c, 0, none⟩) (pt r) a.d a.k a.h := by
    refine (h1.cel T.kb ?_).set0 _
    rintro (h | h)
    · exact T.n1 h
    · exact T.n2 h
  have kc := h3.other (a := ⟨b, 0, none⟩) (.pointer (some ⟨c, 0, none⟩)) (Ne.symm T.n2)
  have kl := h2.other (a := ⟨b, 0, none⟩) (.pointer (some ⟨c, 0, none⟩)) (Ne.symm T.n1)
  have bn : b ∉ blks (.node bl 0 { al with h := 1 + max (sh cl) (sh ll) } ll cl) := by
    simp only [blks, List.mem_cons, List.mem_append, not_or]; exact ⟨T.n1, mb.1, mb.2.1⟩
  have cn : c ∉ blks (.node bl 0 { al with h := 1 + max (sh cl) (sh ll) } ll cl) := by
    simp only [blks, List.mem_cons, List.mem_append, not_or]; exact ⟨Ne.symm T.n3, mc.1, mc.2.1⟩
  have hn : Holds (w1.setCell ⟨b, 0, none⟩ (.pointer (some ⟨c, 0, none⟩))) (.node bl 0 { al with h := 1 + max (sh cl) (sh ll) } ll cl) := ⟨rfl, kl, T.hx.chg hC apx, T.hcl.chg hC apl⟩
  refine (ltr_any b c r cr (.node bl 0 { al with h := 1 + max (sh cl) (sh ll) } ll cl) a.d ac.d a.k ac.k a.h _ _ T.n2 kb kc (T.hr.chg hC apy) (T.hcr.chg hC apr) hn mb.2.2.2 mb.2.2.1 bn mc.2.2.2 mc.2.2.1 cn (by omega) (by omega) (by show 0 ≤ 1 + max (sh cl) (sh ll) ∧ 1 + max (sh cl) (sh ll) ≤ 100; omega)).mono ?_
  rintro e w' ⟨rfl, k1, _, k2, k3⟩
  have hC' : Chg (fun k => k = b ∨ k = bl ∨ k = c) W w' := hC.trans (k1.mono (fun k _ h => by rcases h with h | h <;> simp [h]))
  refine ⟨rfl, hC', rfl, k3, ⟨rfl, k1.cel kl ?_, T.hx.chg hC' apx, T.hcl.chg hC' apl⟩, rfl, k2, T.hcr.chg hC' apr, T.hr.chg hC' apy⟩
  rintro (h | h)
  · exact T.n1 h.symm
  · exact T.n3 h

theorem Three.chg {W W' : World} {b bl c : Nat} {p1 p2 q1 q2 : Option Addr} {a al ac : Nd} {x cl cr r : BT Nd} (T : Three W b bl c p1 p2 q1 q2 a al ac x cl cr r) (h : Chg (fun _ => False) W W') : Three W' b bl c p1 p2 q1 q2 a al ac x cl cr r :=
  ⟨h.cel T.kb (fun h => h), h.cel T.kl (fun h => h), h.cel T.kc (fun h => h), T.hx.chg h (fun _ _ h => h), T.hcl.chg h (fun _ _ h => h), T.hcr.chg h (fun _ _ h => h), T.hr.chg h (fun _ _ h => h), T.n1, T.n2, T.n3, T.m, T.s1, T.s2, T.s3, T.s4⟩

theorem LH.three {w : World} {b bl c : Nat} {a al ac : Nd} {ll cl cr r : BT Nd} (h : LH w b bl a al ll (.node c 0 ac cl cr) r) : Three w b bl c (some ⟨bl, 0, none⟩) (pt r) (pt ll) (some ⟨c, 0, none⟩) a al ac ll cl cr r := by
  obtain ⟨H, S, A1, A2, A3, g1, g2, g3, g4⟩ := h
  obtain ⟨p1, p2, p3⟩ := H.apart S
  obtain ⟨q1, q2, q3⟩ := H.2.2.1.apart (Srt.app S).1
  obtain ⟨u1, u2, u3⟩ := H.2.2.1.2.2.2.apart (Srt.app (Srt.app S).1).2.1
  have p4 : bl ∉ blks r := p3 bl (by simp [blks])
  have p5 : c ∉ blks r := p3 c (by simp [blks])
  have q4 : c ∉ blks ll := fun hc => q3 c hc (by simp [blks])
  simp only [blks, List.mem_cons, List.mem_append, not_or] at p1 q2
  have e1 := A1.sh
  have e2 := A2.1.sh
  have e3 := A2.2.1.sh
  have e4 := A3.sh
  simp only [ht] at g1 g2 g3
  obtain ⟨_, c1, ⟨_, c2, Hll, _, c3, Hcl, Hcr⟩, Hr⟩ := H
  refine ⟨c1, c2, c3, Hll, Hcl, Hcr, Hr, p1.1, p1.2.2.1, q2.1, ?_, by omega, by omega, by omega, by omega⟩
  rintro k (rfl | rfl | rfl)
  · exact ⟨p1.2.1, p1.2.2.2.1, p1.2.2.2.2, p2⟩
  · exact ⟨q1, q2.2.1, q2.2.2, p4⟩
  · exact ⟨q4, u1, u2, p5⟩

/-- The end of the double rotation. -/
theorem lh_fin {w w' W : World} {b bl c c' : Nat} {a al ac : Nd} {ll cl cr r : BT Nd} (h : LH w b bl a al ll (.node c 0 ac cl cr) r) (hc : sh ll < ac.h) {B : Nat} (hB : B ≤ w.heap.size) (h1 : B ≤ b) (h2 : B ≤ bl) (h3 : B ≤ c')
    (no : Option Addr) (hno : ∀ nb x, no = some ⟨nb, 0, none⟩ → nb < w.heap.size → (c = nb ↔ ac.k = x) → (c' = nb ↔ ac.k = x)) (hW : Chg (fun k => k = bl) w W) (hw' : Chg (fun k => k = b ∨ k = bl ∨ k = c') W w')
    (hH : Holds w' (.node c' 0 { ac with h := 1 + max (1 + max (sh cr) (sh r)) (1 + max (sh cl) (sh ll)) } (.node bl 0 { al with h := 1 + max (sh cl) (sh ll) } ll cl) (.node b 0 { a with h := 1 + max (sh cr) (sh r) } cr r))) :
    LHPost B no (.node b 0 a (.node bl 0 al ll (.node c 0 ac cl cr)) r) w (.returned (.pointer (some ⟨c', 0, none⟩))) w' := by
  obtain ⟨H, S, A1, A2, A3, g1, g2, g3, g4⟩ := h
  have e1 := A1.sh
  have e2 : ac.h = _ := A2.sh
  obtain ⟨A4, A5, g5, g6, _⟩ := A2
  simp only [ht] at g1 g2 g3 e2
  have r1 := rot_left2 (a := a) (al := al) (ac := ac) A1 A4 A5 A3 g5 g6 (by omega) (by omega) b bl c' _ _ _ rfl rfl rfl
  have r2 := r1.2
  refine ⟨_, rfl, ((hW.mono (S' := fun k => B ≤ k) (fun k _ e => by subst e; exact h2)).trans (hw'.mono (fun k _ e => by rcases e with rfl | rfl | rfl <;> assumption))).below hB (fun _ h => h), hH, ⟨r1.1, ?_, ?_, fixE_left2 (by simp only [ht]; omega) hc b bl c'⟩, fun x hx => ?_, ?_⟩
  · simp only [ht] at r2 ⊢
    omega
  · simp [prs]
  · simp only [pt, Option.some.injEq] at hx; subst hx; exact h3
  · intro nb x e1 e2 ⟨m1, ⟨m2, m3, m4, m5, m6⟩, m7⟩
    exact ⟨hno nb x e1 e2 m4, ⟨m2, m3, m5⟩, m1, m6, m7⟩

set_option maxRecDepth 100000 in
set_option maxHeartbeats 400000 in
theorem lh_two {w : World} {b bl c : Nat} {a al ac : Nd} {ll cl cr r : BT Nd} (h : LH w b bl a al ll (.node c 0 ac cl cr) r) (hc : sh ll < ac.h) (B : Nat) (hB : B ≤ w.heap.size) (h1 : B ≤ b) (h2 : B ≤ bl) (h3 : B ≤ c) :
    Calls Try.prog 86 #[.pointer (some ⟨b, 0, none⟩), .pointer (some ⟨c, 0, none⟩)] w (LHPost B (some ⟨c, 0, none⟩) (.node b 0 a (.node bl 0 al ll (.node c 0 ac cl cr)) r) w) := by
  have T := Lib.hid h.three
  have F := Lib.hid (fun W w' => lh_fin (c' := c) (W := W) (w' := w') h hc hB h1 h2 h3 (some ⟨c, 0, none⟩) (fun _ _ _ _ e => e))
  obtain ⟨_, cb, ⟨_, ckl, Hll, _, cc, _, _⟩, Hr⟩ := h.H
  have a0 := cb.c0
  have l0 := ckl.c0
  have l1 := ckl.c1
  have c4 := cc.c4
  have Q1 : Hid (Holds w ll) := Hll
  have ne : ∀ n, (binOp .neq 94 (.pointer (some ⟨c, 0, none⟩)) (.pointer (some ⟨c, 0, none⟩))).run Try.prog (w.drewN n) = .ok (.bool false) (w.drewN n) := fun n => by
    rw [neq94 (w := w.drewN n) cc.isNode cc.isNode]; simp
  clear cb ckl Hll Hr hB h1 h2 h h3 cc
  simp only [pt] at a0 l1
  go_enter Try.func86, Try.ntmps86
  go_wp2_with fail
  go_quiet (first | (go_at_call_of 76 (pt ll); exact Calls.quiet_of_same (height_any ll _ (Q1.out.drewN _))) | (exact Calls.quiet_of_same (height_some c ac.h _ c4)))
  go_wp2_with fail
  refine (three_l1 (T.out.chg ((Chg.refl _ _).drewN _))).mono ?_
  rintro e w1 ⟨rfl, q1, q2, q3⟩
  have b0 : w1.cell? ⟨b, 0, none⟩ = some (.pointer (some ⟨bl, 0, none⟩)) := (q1.cel T.out.kb (by have := T.out.n1; have := T.out.n2; omega)).c0
  have bf : w1.frozen? ⟨b, 0, none⟩ = false := (q1.cel T.out.kb (by have := T.out.n1; have := T.out.n2; omega)).fz 0
  have L2 := Lib.hid (three_l2 (T.out.chg ((Chg.refl _ _).drewN _)) q1 q2 q3)
  clear q1 q2 q3
  go_wp2_with fail
  refine L2.out.mono ?_
  rintro e w' ⟨rfl, q1, q2⟩
  have Z := Lib.hid (F.out _ w' ((Chg.refl _ _).drewN nq) q1 q2)
  clear q1 q2
  go_wp2_with fail
  go_ret
  exact Z.out

/-- The third node copied. -/
theorem Three.copied {w : World} {b bl c : Nat} {p1 p2 : Option Addr} {a al ac : Nd} {x cl cr r : BT Nd} (T : Three w b bl c p1 p2 (pt x) (some ⟨c, 0, none⟩) a al ac x cl cr r) :
    Three ((w.alloc (.cells #[.pointer (pt cl), .pointer (pt cr), dv ac.d, .int .i32 ac.k, .int .i8 ac.h] 101)).setCell ⟨bl, 1, none⟩ (.pointer (some ⟨w.heap.size, 0, none⟩))) b bl w.heap.size p1 p2 (pt x) (some ⟨w.heap.size, 0, none⟩) a al ac x cl cr r := by
  have lb := T.kb.lt
  have ll := T.kl.lt
  have ml := T.m bl (by simp)
  refine ⟨(T.kb.alloc _).other _ T.n1, (T.kl.alloc _).set1 _, (Cel.new w _ _ _ _ _).other _ (by simp; omega), (T.hx.alloc _).set _ _ ml.1, (T.hcl.alloc _).set _ _ ml.2.1, (T.hcr.alloc _).set _ _ ml.2.2.1, (T.hr.alloc _).set _ _ ml.2.2.2, T.n1, by omega, by omega, ?_, T.s1, T.s2, T.s3, T.s4⟩
  rintro k (rfl | rfl | rfl)
  · exact T.m _ (.inl rfl)
  · exact ml
  · exact ⟨fun h => Nat.lt_irrefl _ (T.hx.lt _ h), fun h => Nat.lt_irrefl _ (T.hcl.lt _ h), fun h => Nat.lt_irrefl _ (T.hcr.lt _ h), fun h => Nat.lt_irrefl _ (T.hr.lt _ h)⟩

set_option maxRecDepth 100000 in
set_option maxHeartbeats 400000 in
theorem lh_two' {w : World} {b bl c : Nat} {a al ac : Nd} {ll cl cr r : BT Nd} (h : LH w b bl a al ll (.node c 0 ac cl cr) r) (hc : sh ll < ac.h) (B : Nat) (hB : B ≤ w.heap.size) (h1 : B ≤ b) (h2 : B ≤ bl) (no : Option Addr) (hn : IsNode w no) (hno : no ≠ some ⟨c, 0, none⟩) :
    Calls Try.prog 86 #[.pointer (some ⟨b, 0, none⟩), .pointer no] w (LHPost B no (.node b 0 a (.node bl 0 al ll (.node c 0 ac cl cr)) r) w) := by
  have T := Lib.hid h.three
  have F := Lib.hid (fun W w' => lh_fin (c' := w.heap.size) (W := W) (w' := w') h hc hB h1 h2 hB no (fun nb x e1 e2 e3 =>
    ⟨fun e => by omega, fun e => by have := e3.2 e; subst this; exact absurd e1 hno⟩))
  obtain ⟨_, cb, ⟨_, ckl, Hll, _, cc, _, _⟩, Hr⟩ := h.H
  have a0 := cb.c0
  have l0 := ckl.c0
  have l1 := ckl.c1
  have lf := ckl.fz
  have c4 := cc.c4
  have Q1 : Hid (Holds w ll) := Hll
  have CC := Lib.hid cc
  have fa : ∀ n ob o, ((w.drewN n).alloc ob).frozen? ⟨bl, o, none⟩ = false := fun n ob o => Cel.fz (w := (w.drewN n).alloc ob) (Cel.alloc (w := w.drewN n) ckl ob) o
  have ca : ∀ n ob, ((w.drewN n).alloc ob).cell? ⟨bl, 1, none⟩ = some (.pointer (some ⟨c, 0, none⟩)) := fun n ob => Cel.c1 (w := (w.drewN n).alloc ob) (Cel.alloc (w := w.drewN n) ckl ob)
  have ne : ∀ n, (binOp .neq 94 (.pointer no) (.pointer (some ⟨c, 0, none⟩))).run Try.prog (w.drewN n) = .ok (.bool true) (w.drewN n) := fun n => by
    rw [neq94 (w := w.drewN n) hn cc.isNode]; simp [hno]
  clear cb ckl Hll Hr hB h1 h2 h cc hno hn
  simp only [pt] at a0 l1
  go_enter Try.func86, Try.ntmps86
  go_wp2_with fail
  go_quiet (first | (go_at_call_of 76 (pt ll); exact Calls.quiet_of_same (height_any ll _ (Q1.out.drewN _))) | (exact Calls.quiet_of_same (height_some c ac.h _ c4)))
  go_wp2_with fail
  refine (copy_any c _ _ _ _ _ (w.drewN nq) CC.out).mono ?_
  rintro e w1 ⟨rfl, rfl⟩
  go_wp2_with fail
  have T2 := Lib.hid (T.out.chg ((Chg.refl _ _).drewN nq)).copied
  refine (three_l1 T2.out).mono ?_
  rintro e w1 ⟨rfl, q1, q2, q3⟩
  have b0 : w1.cell? ⟨b, 0, none⟩ = some (.pointer (some ⟨bl, 0, none⟩)) := (q1.cel T2.out.kb (by have := T2.out.n1; have := T2.out.n2; omega)).c0
  have bf : w1.frozen? ⟨b, 0, none⟩ = false := (q1.cel T2.out.kb (by have := T2.out.n1; have := T2.out.n2; omega)).fz 0
  have L2 := Lib.hid (three_l2 T2.out q1 q2 q3)
  clear q1 q2 q3
  go_wp2_with fail
  refine L2.out.mono ?_
  rintro e w' ⟨rfl, q1, q2⟩
  have Z := Lib.hid (F.out _ w' ((((Chg.refl _ _).drewN nq).alloc _).setCell _ _ (fun _ => rfl)) q1 q2)
  clear q1 q2
  go_wp2_with fail
  go_ret
  exact Z.out

/-- aLeftIsHigh. -/
theorem left_high {w : World} {b bl : Nat} {a al : Nd} {ll lr r : BT Nd} (h : LH w b bl a al ll lr r) (B : Nat) (hB : B ≤ w.heap.size) (h1 : B ≤ b) (h2 : B ≤ bl) (no : Option Addr) (hn : IsNode w no) (h3 : ∀ nb, no = some ⟨nb, 0, none⟩ → B ≤ nb) :
    Calls Try.prog 86 #[.pointer (some ⟨b, 0, none⟩), .pointer no] w (LHPost B no (.node b 0 a (.node bl 0 al ll lr) r) w) := by
  by_cases hc : sh lr ≤ sh ll
  · exact lh_one h hc B hB h1 h2 no
  · have e1 := h.A1.sh
    cases lr with
    | nil => exact absurd (show (0 : Int) ≤ _ by rw [e1]; omega) hc
    | node c o ac cl cr =>
      have ho : o = 0 := h.H.2.2.1.2.2.2.1
      subst ho
      have hc' : sh ll < ac.h := Int.not_le.1 hc
      by_cases hno : no = some ⟨c, 0, none⟩
      · subst hno
        exact lh_two h hc' B hB h1 h2 (h3 c rfl)
      · exact lh_two' h hc' B hB h1 h2 no hn hno

end Go.Proofs.Ytahghidbadpkeaa
