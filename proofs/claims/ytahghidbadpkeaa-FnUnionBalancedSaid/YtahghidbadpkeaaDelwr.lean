/- The walks of aRebalanceAfterRightDeletion, aDeleteMax. -/
import Derived.Test.YtahghidbadpkeaaDelw
set_option linter.unusedVariables false
set_option linter.unusedSimpArgs false
namespace Go.Proofs.Ytahghidbadpkeaa
open Go.Deep Go.RowKit
attribute [local go_sem] max_ite

/-- A fresh copy of a node whose right side has lost a node. -/
structure RebR (B : Nat) (W : World) (b b' : Nat) (a a' : Nd) (l r r' : BT Nd) (p : Option Addr) (L : List (Int × Option Int)) : Prop where
  A : Avl (.node b 0 a l r)
  hh : ht (.node b 0 a l r) ≤ 80
  D : Del r r' L
  eh : a'.h = a.h
  C : Cel W b' (pt l) p a'.d a'.k a'.h
  Hl : Holds W r'
  Hr : Holds W l
  n1 : b' ∉ blks r'
  n2 : b' ∉ blks l
  S : Srt (prs l ++ (a'.k, a'.d) :: L)
  hB : B ≤ W.heap.size
  fb : B ≤ b'
  sd : (a'.k = a.k ∧ a'.d = a.d) ∨ ht l ≤ ht r

section
variable {B : Nat} {W : World} {b b' : Nat} {a a' : Nd} {l r r' : BT Nd} {p : Option Addr} {L : List (Int × Option Int)} (q : RebR B W b b' a a' l r r' p L)
include q
theorem RebR.holds : Holds (W.setCell ⟨b', 1, none⟩ (.pointer (pt r'))) (.node b' 0 a' l r') := ⟨rfl, q.C.set1 _, q.Hr.set _ _ q.n2, q.Hl.set _ _ q.n1⟩
theorem RebR.same (h : ht r = ht r' ∨ ht r = ht l) : RebPost B (.node b 0 a l r) (prs l ++ (a'.k, a'.d) :: L) W (.returned (.pointer (some ⟨b', 0, none⟩))) (W.setCell ⟨b', 1, none⟩ (.pointer (pt r'))) :=
  ⟨.node b' 0 a' l r', rfl, (Below.refl _ _).setCell q.fb _, q.holds, Del.right_same q.A q.D h q.eh q.sd⟩
theorem RebR.less (h : ht r ≠ ht r') (h' : ht l < ht r) : RebPost B (.node b 0 a l r) (prs l ++ (a'.k, a'.d) :: L) W (.returned (.pointer (some ⟨b', 0, none⟩))) ((W.setCell ⟨b', 1, none⟩ (.pointer (pt r'))).setCell ⟨b', 4, none⟩ (.int .i8 (a.h - 1))) := by
  obtain ⟨_, h1, h2, h3⟩ := q.holds
  exact ⟨.node b' 0 { a' with h := a.h - 1 } l r', rfl, ((Below.refl _ _).setCell q.fb _).setCell q.fb _, ⟨rfl, h1.set4 _, h2.set _ _ q.n2, h3.set _ _ q.n1⟩, Del.right_less (a' := { a' with h := a.h - 1 }) q.A q.D h h' rfl⟩
theorem RebR.rot (h : ht r ≠ ht r') (h' : ht r < ht l) {bl o : Nat} {al : Nd} {ll lr : BT Nd} (er : l = .node bl o al ll lr) (o1 : Obj) (ho : o1 = .cells #[.pointer (pt ll), .pointer (pt lr), dv al.d, .int .i32 al.k, .int .i8 al.h] 101) :
    Calls Try.prog 86 #[.pointer (some ⟨b', 0, none⟩), .pointer none] (((W.setCell ⟨b', 1, none⟩ (.pointer (pt r'))).alloc o1).setCell ⟨b', 0, none⟩ (.pointer (some ⟨W.heap.size, 0, none⟩))) (RebPost B (.node b 0 a l r) (prs l ++ (a'.k, a'.d) :: L) W) := by
  subst er ho
  obtain ⟨_, h1, ⟨h3, h4, h5, h6⟩, h2⟩ := q.holds
  have nb := q.n2
  simp only [blks, List.mem_cons, List.mem_append, not_or] at nb
  have hH : Holds (((W.setCell ⟨b', 1, none⟩ (.pointer (pt r'))).alloc (.cells #[.pointer (pt ll), .pointer (pt lr), dv al.d, .int .i32 al.k, .int .i8 al.h] 101)).setCell ⟨b', 0, none⟩ (.pointer (some ⟨W.heap.size, 0, none⟩))) (.node b' 0 a' (.node W.heap.size 0 al ll lr) r') := by
    have hc := Cel.new (W.setCell ⟨b', 1, none⟩ (.pointer (pt r'))) (pt ll) (pt lr) al.d al.k al.h
    rw [World.size_setCell] at hc
    have hlt := q.C.lt
    exact ⟨rfl, (h1.alloc _).set0 _, ⟨rfl, hc.other _ (by simp; omega), (h5.alloc _).set _ _ nb.2.1, (h6.alloc _).set _ _ nb.2.2⟩, (h2.alloc _).set _ _ q.n1⟩
  obtain ⟨A2, A1, g2, g1, _⟩ := q.A
  obtain ⟨A3, A4, g3, g4, _⟩ := A2
  have hd := q.D.hgt
  have hh := q.hh
  have S : Srt (prs (.node b' 0 a' (.node W.heap.size 0 al ll lr) r')) := by
    have := q.S
    simp only [prs] at this ⊢
    rw [q.D.ps]; exact this
  simp only [ht] at h' g1 g2 hh
  refine (left_high ⟨hH, S, A3, A4, q.D.avl, g3, g4, by omega, by omega⟩ B (by simp; have := q.hB; omega) q.fb q.hB none (.inl rfl) (fun _ h => by cases h)).mono ?_
  rintro e w' ⟨t', rfl, b1, hh1, r1, _, _⟩
  refine ⟨t', rfl, ((((Below.refl _ _).setCell q.fb _).alloc (by simp; exact q.hB) _).setCell q.fb _).trans b1, hh1, Del.right_rot q.A q.D h (by simp only [ht]; omega) (l2 := .node W.heap.size 0 al ll lr) rfl rfl rfl q.eh q.sd r1⟩
end

set_option maxRecDepth 100000 in
set_option maxHeartbeats 400000 in
theorem rebR_any {B : Nat} {W : World} {b b' : Nat} {a a' : Nd} {l r r' : BT Nd} {p : Option Addr} {L : List (Int × Option Int)} (q : RebR B W b b' a a' l r r' p L) :
    Calls Try.prog 79 #[.pointer (some ⟨b', 0, none⟩), .int .i8 (sh r), .pointer (pt r')] W (RebPost B (.node b 0 a l r) (prs l ++ (a'.k, a'.d) :: L) W) := by
  have e1 := q.A.2.1.sh
  have e2 := q.A.1.sh
  have e3 := q.D.avl.sh
  have H := Lib.hid q.holds
  have c0 := q.C.c1
  have cf := q.C.fz
  have c1 := q.C.c0
  have c4 : W.cell? ⟨b', 4, none⟩ = some (.int .i8 a.h) := by rw [← q.eh]; exact q.C.c4
  by_cases h1 : sh r = sh r'
  · have Z := Lib.hid (q.same (.inl (by omega)))
    have t1 : (sh r == sh r') = true := by simp [h1]
    clear e1 e2 e3 q h1
    go_enter Try.func79, Try.ntmps79
    go_wp2_with fail
    refine (height_any r' _ H.out.2.2.2).mono ?_
    rintro e w1 ⟨rfl, rfl⟩
    go_wp2_with fail
    go_ret
    exact Z.out
  · by_cases h2 : sh r = sh l
    · have Z := Lib.hid (q.same (.inr (by omega)))
      have t1 : (sh r == sh r') = false := by simp [h1]
      have t2 : (sh r == sh l) = true := by simp [h2]
      clear e1 e2 e3 q h1 h2
      go_enter Try.func79, Try.ntmps79
      go_wp2_with fail
      refine (height_any r' _ H.out.2.2.2).mono ?_
      rintro e w1 ⟨rfl, rfl⟩
      go_wp2_with fail
      refine (height_any l _ H.out.2.2.1).mono ?_
      rintro e w1 ⟨rfl, rfl⟩
      go_wp2_with fail
      go_ret
      exact Z.out
    · by_cases h3 : sh l < sh r
      · have Z := Lib.hid (q.less (by omega) (by omega))
        have t1 : (sh r == sh r') = false := by simp [h1]
        have t2 : (sh r == sh l) = false := by simp [h2]
        have b1 : 0 ≤ a.h ∧ a.h ≤ 100 := by have h9 : a.h = _ := q.A.sh; have := q.hh; omega
        clear e1 e2 e3 q h1 h2
        go_enter Try.func79, Try.ntmps79
        go_wp2_with fail
        refine (height_any r' _ H.out.2.2.2).mono ?_
        rintro e w1 ⟨rfl, rfl⟩
        go_wp2_with fail
        refine (height_any l _ H.out.2.2.1).mono ?_
        rintro e w1 ⟨rfl, rfl⟩
        go_wp2_with fail
        refine (height_any l _ H.out.2.2.1).mono ?_
        rintro e w1 ⟨rfl, rfl⟩
        go_wp2_with fail
        go_ret
        exact Z.out
      · cases l with
        | nil => exact absurd (show (0 : Int) ≤ _ by rw [e1]; omega) (fun h : (0 : Int) ≤ sh r => h2 (Int.le_antisymm (Int.not_lt.1 h3) h))
        | node bl o al ll lr =>
          have ho : o = 0 := q.Hr.1
          subst ho
          have R0 := q.rot (by omega) (by omega) rfl _ rfl
          rw [World.setCell_alloc_past (w := W.setCell ⟨b', 1, none⟩ (.pointer (pt r'))) _ b' 0 _ (by simpa using q.C.lt)] at R0
          have R := Lib.hid R0
          clear R0
          have CR := Lib.hid H.out.2.2.1.2.1
          have t1 : (sh r == sh r') = false := by simp [h1]
          have t2 : (sh r == al.h) = false := by have h9 : ¬ sh r = al.h := h2; simp [h9]
          have t3 : sh r ≤ al.h := Int.not_lt.1 h3
          have k4 : (W.setCell ⟨b', 1, none⟩ (.pointer (pt r'))).cell? ⟨bl, 4, none⟩ = some (.int .i8 al.h) := CR.out.c4
          have hlt : b' < W.heap.size := q.C.lt
          have fa : ∀ ob o, ((W.setCell ⟨b', 1, none⟩ (.pointer (pt r'))).alloc ob).frozen? ⟨b', o, none⟩ = false := fun ob o => (H.out.2.1.alloc ob).fz o
          have ca : ∀ ob, ((W.setCell ⟨b', 1, none⟩ (.pointer (pt r'))).alloc ob).cell? ⟨b', 0, none⟩ = some (.pointer (some ⟨bl, 0, none⟩)) := fun ob => (H.out.2.1.alloc ob).c0
          clear e1 e2 e3 q h1 h2 h3
          simp only [pt] at c1
          go_enter Try.func79, Try.ntmps79
          go_wp2_with fail
          refine (height_any r' _ H.out.2.2.2).mono ?_
          rintro e w1 ⟨rfl, rfl⟩
          go_wp2_with fail
          refine (height_some bl al.h _ k4).mono ?_
          rintro e w1 ⟨rfl, rfl⟩
          go_wp2_with fail
          refine (height_some bl al.h _ k4).mono ?_
          rintro e w1 ⟨rfl, rfl⟩
          go_wp2_with fail
          refine (copy_any bl _ _ _ _ _ _ CR.out).mono ?_
          rintro e w1 ⟨rfl, rfl⟩
          go_wp2_with fail
          refine R.out.mono ?_
          rintro e w1 ⟨t', rfl, z⟩
          have Z := Lib.hid z
          clear z
          go_wp2_with fail
          go_ret
          exact ⟨t', rfl, Z.out⟩

def MaxPost (t : BT Nd) (w : World) (e : Ending) (w' : World) : Prop :=
  ∃ t' mb k d lp rp h L, e = .returned (.tuple #[.pointer (some ⟨mb, 0, none⟩), .pointer (pt t')]) ∧ Below w.heap.size w w' ∧ Holds w' t' ∧ prs t = L ++ [(k, d)] ∧ Del t t' L ∧ Cel w mb lp rp d k h

theorem MaxPost.ne {t t' : BT Nd} {k : Int} {d : Option Int} {L : List (Int × Option Int)} (h : prs t = L ++ [(k, d)]) (h' : Del t t' L) : prs t' ≠ prs t := by
  rw [h, h'.ps]; intro e; have := congrArg List.length e; simp at this

/-- The rebalancing behind a copy. -/
theorem rebR_copy {w w1 : World} {b : Nat} {a a' : Nd} {l r r' : BT Nd} {L : List (Int × Option Int)} (H : Holds w (.node b 0 a l r)) (A : Avl (.node b 0 a l r)) (hh : ht (.node b 0 a l r) ≤ 80)
    (hb : Below w.heap.size w w1) (Hl : Holds w1 r') (D : Del r r' L) (S : Srt (prs l ++ (a'.k, a'.d) :: L)) (eh : a'.h = a.h) (sd : (a'.k = a.k ∧ a'.d = a.d) ∨ ht l ≤ ht r) :
    RebR w.heap.size (w1.alloc (.cells #[.pointer (pt l), .pointer (pt r), dv a'.d, .int .i32 a'.k, .int .i8 a'.h] 101)) b w1.heap.size a a' l r r' (pt r) L := by
  have Hr := H.2.2.1.below hb (Nat.le_refl _)
  exact ⟨A, hh, D, eh, Cel.new _ _ _ _ _ _, Hl.alloc _, Hr.alloc _, fun h => Nat.lt_irrefl _ (Hl.lt _ h), fun h => Nat.lt_irrefl _ (Hr.lt _ h), S, by simp; have := hb.size; omega, hb.size, sd⟩

set_option maxRecDepth 100000 in
set_option maxHeartbeats 400000 in
theorem max_leaf {w : World} {b : Nat} {a : Nd} {l : BT Nd} (H : Holds w (.node b 0 a l .nil)) (A : Avl (.node b 0 a l .nil)) :
    Calls Try.prog 61 #[.pointer (some ⟨b, 0, none⟩)] w (MaxPost (.node b 0 a l .nil) w) := by
  have F : ∀ n, MaxPost (.node b 0 a l .nil) w (.returned (.tuple #[.pointer (some ⟨b, 0, none⟩), .pointer (pt l)])) (w.drewN n) := fun n =>
    ⟨l, b, a.k, a.d, _, _, _, prs l, rfl, ⟨rfl, rfl, rfl, Nat.le_refl _, fun _ _ => rfl⟩, H.2.2.1.drewN n, rfl, ⟨A.1, .inr (by simp only [ht]; omega), rfl, .inr (.inl ⟨rfl, (prs_er _).symm, rfl⟩)⟩, H.2.1⟩
  have Z := Lib.hid F
  have c0 := H.2.1.c0
  have c1 := H.2.1.c1
  clear H A F
  simp only [pt] at c1
  go_enter Try.func61, Try.ntmps61
  go_wp2_with fail
  go_quiet (fail)
  go_wp2_with fail
  go_ret2
  exact Z.out _

set_option maxRecDepth 100000 in
set_option maxHeartbeats 400000 in
theorem max_right {w : World} {b : Nat} {a : Nd} {l r : BT Nd} (hl : r ≠ .nil) (H : Holds w (.node b 0 a l r)) (S : Srt (prs (.node b 0 a l r))) (A : Avl (.node b 0 a l r)) (hh : ht (.node b 0 a l r) ≤ 80)
    (ih : Calls Try.prog 61 #[.pointer (pt r)] w (MaxPost r w)) :
    Calls Try.prog 61 #[.pointer (some ⟨b, 0, none⟩)] w (MaxPost (.node b 0 a l r) w) := by
  have C := Lib.hid H.2.1
  have HL := Lib.hid H.2.2.2
  have RB := Lib.hid (fun (w1 : World) (r' : BT Nd) L hb Hl D S => rebR_copy (w1 := w1) (r' := r') (L := L) (a' := a) H A hh hb Hl D S rfl (.inl ⟨rfl, rfl⟩))
  have SS := Lib.hid S
  have IH := Lib.hid ih
  have c0 := H.2.1.c1
  have hn : (pt r).isNone = false := by cases r with
    | nil => exact absurd rfl hl
    | node => rfl
  clear H ih S A
  go_enter Try.func61, Try.ntmps61
  go_wp2_with fail
  refine (height_any r _ HL.out).mono ?_
  rintro e w1 ⟨rfl, rfl⟩
  go_wp2_with fail
  refine IH.out.mono ?_
  rintro e w1 ⟨r', mb, k, d, lp, rp, h, L, rfl, b1, h1, p1, d1, m1⟩
  have ne : (binOp .eql 94 (.pointer (pt r')) (.pointer (pt r))).run Try.prog w1 = .ok (.bool false) w1 := by
    rw [eql94 h1.isNode (HL.out.below b1 (Nat.le_refl _)).isNode]
    simp [h1.ne (HL.out.below b1 (Nat.le_refl _)) (MaxPost.ne p1 d1)]
  have d0 : w1.cell? ⟨b, 1, none⟩ = some (.pointer (pt r)) := (Chg.cel (Chg.of_below b1) C.out (Nat.not_le.2 C.out.lt)).c1
  have CC := Lib.hid (Chg.cel (Chg.of_below b1) C.out (Nat.not_le.2 C.out.lt))
  have Q := Lib.hid (And.intro b1 (And.intro h1 (And.intro p1 (And.intro d1 m1))))
  clear b1 h1 p1 d1 m1
  go_wp2_with fail
  refine (copy_any b _ _ _ _ _ _ CC.out).mono ?_
  rintro e w2 ⟨rfl, rfl⟩
  go_wp2_with fail
  have S2 : Srt (prs l ++ (a.k, a.d) :: L) := by
    have := SS.out
    simp only [prs, Q.out.2.2.1] at this
    exact (List.pairwise_append.1 (show Srt ((prs l ++ (a.k, a.d) :: L) ++ [(k, d)]) by simpa using this)).1
  refine (rebR_any (RB.out w1 r' L Q.out.1 Q.out.2.1 Q.out.2.2.2.1 S2)).mono ?_
  rintro e w2 ⟨t', rfl, z⟩
  have Z := Lib.hid z
  clear z S2
  go_wp2_with fail
  go_ret2
  obtain ⟨q1, q2, q3, q4, q5⟩ := Q.out
  exact ⟨t', mb, k, d, lp, rp, h, _, rfl, (q1.alloc q1.size _).trans Z.out.1, Z.out.2.1, by simp only [prs]; rw [q3]; simp, Z.out.2.2, q5⟩

/-- aDeleteMax. -/
theorem max_any : ∀ (t : BT Nd) (w : World), t ≠ .nil → Holds w t → Srt (prs t) → Avl t → ht t ≤ 80 → Calls Try.prog 61 #[.pointer (pt t)] w (MaxPost t w)
  | .nil, _, h, _, _, _, _ => absurd rfl h
  | .node b o a l r, w, _, H, S, A, hh => by
    have ho : o = 0 := H.1
    subst ho
    by_cases hl : r = .nil
    · subst hl
      exact max_leaf H A
    · have hh' := hh
      simp only [ht] at hh'
      exact max_right hl H S A hh (max_any r w hl H.2.2.2 (Srt.app S).2.1 A.2.1 (by omega))

end Go.Proofs.Ytahghidbadpkeaa
