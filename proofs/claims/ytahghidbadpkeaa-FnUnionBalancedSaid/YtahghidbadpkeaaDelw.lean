/- The walks of aRebalanceAfterLeftDeletion, aDeleteMin. -/
import Derived.Test.YtahghidbadpkeaaInswr
set_option linter.unusedVariables false
set_option linter.unusedSimpArgs false
namespace Go.Proofs.Ytahghidbadpkeaa
open Go.Deep Go.RowKit
attribute [local go_sem] max_ite

/-- A fresh copy of a node whose left side has lost a node. -/
structure RebL (B : Nat) (W : World) (b b' : Nat) (a a' : Nd) (l r l' : BT Nd) (p : Option Addr) (L : List (Int × Option Int)) : Prop where
  A : Avl (.node b 0 a l r)
  hh : ht (.node b 0 a l r) ≤ 80
  D : Del l l' L
  eh : a'.h = a.h
  C : Cel W b' p (pt r) a'.d a'.k a'.h
  Hl : Holds W l'
  Hr : Holds W r
  n1 : b' ∉ blks l'
  n2 : b' ∉ blks r
  S : Srt (L ++ (a'.k, a'.d) :: prs r)
  hB : B ≤ W.heap.size
  fb : B ≤ b'
  sd : (a'.k = a.k ∧ a'.d = a.d) ∨ ht r < ht l

def RebPost (B : Nat) (t : BT Nd) (L : List (Int × Option Int)) (W : World) (e : Ending) (w' : World) : Prop :=
  ∃ t', e = .returned (.pointer (pt t')) ∧ Below B W w' ∧ Holds w' t' ∧ Del t t' L

section
variable {B : Nat} {W : World} {b b' : Nat} {a a' : Nd} {l r l' : BT Nd} {p : Option Addr} {L : List (Int × Option Int)} (q : RebL B W b b' a a' l r l' p L)
include q
theorem RebL.holds : Holds (W.setCell ⟨b', 0, none⟩ (.pointer (pt l'))) (.node b' 0 a' l' r) := ⟨rfl, q.C.set0 _, q.Hl.set _ _ q.n1, q.Hr.set _ _ q.n2⟩
theorem RebL.same (h : ht l = ht l' ∨ ht l = ht r) : RebPost B (.node b 0 a l r) (L ++ (a'.k, a'.d) :: prs r) W (.returned (.pointer (some ⟨b', 0, none⟩))) (W.setCell ⟨b', 0, none⟩ (.pointer (pt l'))) :=
  ⟨.node b' 0 a' l' r, rfl, (Below.refl _ _).setCell q.fb _, q.holds, Del.left_same q.A q.D h q.eh q.sd⟩
theorem RebL.less (h : ht l ≠ ht l') (h' : ht r < ht l) : RebPost B (.node b 0 a l r) (L ++ (a'.k, a'.d) :: prs r) W (.returned (.pointer (some ⟨b', 0, none⟩))) ((W.setCell ⟨b', 0, none⟩ (.pointer (pt l'))).setCell ⟨b', 4, none⟩ (.int .i8 (a.h - 1))) := by
  obtain ⟨_, h1, h2, h3⟩ := q.holds
  exact ⟨.node b' 0 { a' with h := a.h - 1 } l' r, rfl, ((Below.refl _ _).setCell q.fb _).setCell q.fb _, ⟨rfl, h1.set4 _, h2.set _ _ q.n1, h3.set _ _ q.n2⟩, Del.left_less (a' := { a' with h := a.h - 1 }) q.A q.D h h' rfl⟩
theorem RebL.rot (h : ht l ≠ ht l') (h' : ht l < ht r) {br o : Nat} {ar : Nd} {rl rr : BT Nd} (er : r = .node br o ar rl rr) (o1 : Obj) (ho : o1 = .cells #[.pointer (pt rl), .pointer (pt rr), dv ar.d, .int .i32 ar.k, .int .i8 ar.h] 101) :
    Calls Try.prog 87 #[.pointer (some ⟨b', 0, none⟩), .pointer none] (((W.setCell ⟨b', 0, none⟩ (.pointer (pt l'))).alloc o1).setCell ⟨b', 1, none⟩ (.pointer (some ⟨W.heap.size, 0, none⟩))) (RebPost B (.node b 0 a l r) (L ++ (a'.k, a'.d) :: prs r) W) := by
  subst er ho
  obtain ⟨_, h1, h2, h3, h4, h5, h6⟩ := q.holds
  have nb := q.n2
  simp only [blks, List.mem_cons, List.mem_append, not_or] at nb
  have hH : Holds (((W.setCell ⟨b', 0, none⟩ (.pointer (pt l'))).alloc (.cells #[.pointer (pt rl), .pointer (pt rr), dv ar.d, .int .i32 ar.k, .int .i8 ar.h] 101)).setCell ⟨b', 1, none⟩ (.pointer (some ⟨W.heap.size, 0, none⟩))) (.node b' 0 a' l' (.node W.heap.size 0 ar rl rr)) := by
    have hc := Cel.new (W.setCell ⟨b', 0, none⟩ (.pointer (pt l'))) (pt rl) (pt rr) ar.d ar.k ar.h
    rw [World.size_setCell] at hc
    have hlt := q.C.lt
    exact ⟨rfl, (h1.alloc _).set1 _, (h2.alloc _).set _ _ q.n1, rfl, hc.other _ (by simp; omega), (h5.alloc _).set _ _ nb.2.1, (h6.alloc _).set _ _ nb.2.2⟩
  obtain ⟨A1, A2, g1, g2, _⟩ := q.A
  obtain ⟨A3, A4, g3, g4, _⟩ := A2
  have hd := q.D.hgt
  have hh := q.hh
  have S : Srt (prs (.node b' 0 a' l' (.node W.heap.size 0 ar rl rr))) := by
    have := q.S
    simp only [prs] at this ⊢
    rw [q.D.ps]; exact this
  simp only [ht] at h' g1 g2 hh
  refine (right_high ⟨hH, S, A4, A3, q.D.avl, g4, g3, by omega, by omega⟩ B (by simp; have := q.hB; omega) q.fb q.hB none (.inl rfl) (fun _ h => by cases h)).mono ?_
  rintro e w' ⟨t', rfl, b1, hh1, r1, _, _⟩
  refine ⟨t', rfl, ((((Below.refl _ _).setCell q.fb _).alloc (by simp; exact q.hB) _).setCell q.fb _).trans b1, hh1, Del.left_rot q.A q.D h (by simp only [ht]; omega) (r2 := .node W.heap.size 0 ar rl rr) rfl rfl rfl q.eh q.sd r1⟩
end

set_option maxRecDepth 100000 in
set_option maxHeartbeats 400000 in
theorem rebL_any {B : Nat} {W : World} {b b' : Nat} {a a' : Nd} {l r l' : BT Nd} {p : Option Addr} {L : List (Int × Option Int)} (q : RebL B W b b' a a' l r l' p L) :
    Calls Try.prog 78 #[.pointer (some ⟨b', 0, none⟩), .int .i8 (sh l), .pointer (pt l')] W (RebPost B (.node b 0 a l r) (L ++ (a'.k, a'.d) :: prs r) W) := by
  have e1 := q.A.1.sh
  have e2 := q.A.2.1.sh
  have e3 := q.D.avl.sh
  have H := Lib.hid q.holds
  have c0 := q.C.c0
  have cf := q.C.fz
  have c1 := q.C.c1
  have c4 : W.cell? ⟨b', 4, none⟩ = some (.int .i8 a.h) := by rw [← q.eh]; exact q.C.c4
  by_cases h1 : sh l = sh l'
  · have Z := Lib.hid (q.same (.inl (by omega)))
    have t1 : (sh l == sh l') = true := by simp [h1]
    clear e1 e2 e3 q h1
    go_enter Try.func78, Try.ntmps78
    go_wp2_with fail
    refine (height_any l' _ H.out.2.2.1).mono ?_
    rintro e w1 ⟨rfl, rfl⟩
    go_wp2_with fail
    go_ret
    exact Z.out
  · by_cases h2 : sh l = sh r
    · have Z := Lib.hid (q.same (.inr (by omega)))
      have t1 : (sh l == sh l') = false := by simp [h1]
      have t2 : (sh l == sh r) = true := by simp [h2]
      clear e1 e2 e3 q h1 h2
      go_enter Try.func78, Try.ntmps78
      go_wp2_with fail
      refine (height_any l' _ H.out.2.2.1).mono ?_
      rintro e w1 ⟨rfl, rfl⟩
      go_wp2_with fail
      refine (height_any r _ H.out.2.2.2).mono ?_
      rintro e w1 ⟨rfl, rfl⟩
      go_wp2_with fail
      go_ret
      exact Z.out
    · by_cases h3 : sh r < sh l
      · have Z := Lib.hid (q.less (by omega) (by omega))
        have t1 : (sh l == sh l') = false := by simp [h1]
        have t2 : (sh l == sh r) = false := by simp [h2]
        have b1 : 0 ≤ a.h ∧ a.h ≤ 100 := by have h9 : a.h = _ := q.A.sh; have := q.hh; omega
        clear e1 e2 e3 q h1 h2
        go_enter Try.func78, Try.ntmps78
        go_wp2_with fail
        refine (height_any l' _ H.out.2.2.1).mono ?_
        rintro e w1 ⟨rfl, rfl⟩
        go_wp2_with fail
        refine (height_any r _ H.out.2.2.2).mono ?_
        rintro e w1 ⟨rfl, rfl⟩
        go_wp2_with fail
        refine (height_any r _ H.out.2.2.2).mono ?_
        rintro e w1 ⟨rfl, rfl⟩
        go_wp2_with fail
        go_ret
        exact Z.out
      · cases r with
        | nil => exact absurd (show (0 : Int) ≤ _ by rw [e1]; omega) (fun h : (0 : Int) ≤ sh l => h2 (Int.le_antisymm (Int.not_lt.1 h3) h))
        | node br o ar rl rr =>
          have ho : o = 0 := q.Hr.1
          subst ho
          have R0 := q.rot (by omega) (by omega) rfl _ rfl
          rw [World.setCell_alloc_past (w := W.setCell ⟨b', 0, none⟩ (.pointer (pt l'))) _ b' 1 _ (by simpa using q.C.lt)] at R0
          have R := Lib.hid R0
          clear R0
          have CR := Lib.hid H.out.2.2.2.2.1
          have t1 : (sh l == sh l') = false := by simp [h1]
          have t2 : (sh l == ar.h) = false := by have h9 : ¬ sh l = ar.h := h2; simp [h9]
          have t3 : sh l ≤ ar.h := Int.not_lt.1 h3
          have k4 : (W.setCell ⟨b', 0, none⟩ (.pointer (pt l'))).cell? ⟨br, 4, none⟩ = some (.int .i8 ar.h) := CR.out.c4
          have hlt : b' < W.heap.size := q.C.lt
          have fa : ∀ ob o, ((W.setCell ⟨b', 0, none⟩ (.pointer (pt l'))).alloc ob).frozen? ⟨b', o, none⟩ = false := fun ob o => (H.out.2.1.alloc ob).fz o
          have ca : ∀ ob, ((W.setCell ⟨b', 0, none⟩ (.pointer (pt l'))).alloc ob).cell? ⟨b', 1, none⟩ = some (.pointer (some ⟨br, 0, none⟩)) := fun ob => (H.out.2.1.alloc ob).c1
          clear e1 e2 e3 q h1 h2 h3
          simp only [pt] at c1
          go_enter Try.func78, Try.ntmps78
          go_wp2_with fail
          refine (height_any l' _ H.out.2.2.1).mono ?_
          rintro e w1 ⟨rfl, rfl⟩
          go_wp2_with fail
          refine (height_some br ar.h _ k4).mono ?_
          rintro e w1 ⟨rfl, rfl⟩
          go_wp2_with fail
          refine (height_some br ar.h _ k4).mono ?_
          rintro e w1 ⟨rfl, rfl⟩
          go_wp2_with fail
          refine (copy_any br _ _ _ _ _ _ CR.out).mono ?_
          rintro e w1 ⟨rfl, rfl⟩
          go_wp2_with fail
          refine R.out.mono ?_
          rintro e w1 ⟨t', rfl, z⟩
          have Z := Lib.hid z
          clear z
          go_wp2_with fail
          go_ret
          exact ⟨t', rfl, Z.out⟩

def MinPost (t : BT Nd) (w : World) (e : Ending) (w' : World) : Prop :=
  ∃ t' mb k d lp rp h L, e = .returned (.tuple #[.pointer (some ⟨mb, 0, none⟩), .pointer (pt t')]) ∧ Below w.heap.size w w' ∧ Holds w' t' ∧ prs t = (k, d) :: L ∧ Del t t' L ∧ Cel w mb lp rp d k h

theorem MinPost.ne {t t' : BT Nd} {k : Int} {d : Option Int} {L : List (Int × Option Int)} (h : prs t = (k, d) :: L) (h' : Del t t' L) : prs t' ≠ prs t := by
  rw [h, h'.ps]; intro e; have := congrArg List.length e; simp at this

/-- The rebalancing behind a copy. -/
theorem rebL_copy {w w1 : World} {b : Nat} {a a' : Nd} {l r l' : BT Nd} {L : List (Int × Option Int)} (H : Holds w (.node b 0 a l r)) (A : Avl (.node b 0 a l r)) (hh : ht (.node b 0 a l r) ≤ 80)
    (hb : Below w.heap.size w w1) (Hl : Holds w1 l') (D : Del l l' L) (S : Srt (L ++ (a'.k, a'.d) :: prs r)) (eh : a'.h = a.h) (sd : (a'.k = a.k ∧ a'.d = a.d) ∨ ht r < ht l) :
    RebL w.heap.size (w1.alloc (.cells #[.pointer (pt l), .pointer (pt r), dv a'.d, .int .i32 a'.k, .int .i8 a'.h] 101)) b w1.heap.size a a' l r l' (pt l) L := by
  have Hr := H.2.2.2.below hb (Nat.le_refl _)
  exact ⟨A, hh, D, eh, Cel.new _ _ _ _ _ _, Hl.alloc _, Hr.alloc _, fun h => Nat.lt_irrefl _ (Hl.lt _ h), fun h => Nat.lt_irrefl _ (Hr.lt _ h), S, by simp; have := hb.size; omega, hb.size, sd⟩

set_option maxRecDepth 100000 in
set_option maxHeartbeats 400000 in
theorem min_leaf {w : World} {b : Nat} {a : Nd} {r : BT Nd} (H : Holds w (.node b 0 a .nil r)) (A : Avl (.node b 0 a .nil r)) :
    Calls Try.prog 62 #[.pointer (some ⟨b, 0, none⟩)] w (MinPost (.node b 0 a .nil r) w) := by
  have F : ∀ n, MinPost (.node b 0 a .nil r) w (.returned (.tuple #[.pointer (some ⟨b, 0, none⟩), .pointer (pt r)])) (w.drewN n) := fun n =>
    ⟨r, b, a.k, a.d, _, _, _, prs r, rfl, ⟨rfl, rfl, rfl, Nat.le_refl _, fun _ _ => rfl⟩, H.2.2.2.drewN n, rfl, ⟨A.2.1, .inr (by simp only [ht]; omega), rfl, .inl ⟨rfl, (prs_er _).symm, rfl⟩⟩, H.2.1⟩
  have Z := Lib.hid F
  have c0 := H.2.1.c0
  have c1 := H.2.1.c1
  clear H A F
  simp only [pt] at c0
  go_enter Try.func62, Try.ntmps62
  go_wp2_with fail
  go_quiet (fail)
  go_wp2_with fail
  go_ret2
  exact Z.out _

set_option maxRecDepth 100000 in
set_option maxHeartbeats 400000 in
theorem min_left {w : World} {b : Nat} {a : Nd} {l r : BT Nd} (hl : l ≠ .nil) (H : Holds w (.node b 0 a l r)) (S : Srt (prs (.node b 0 a l r))) (A : Avl (.node b 0 a l r)) (hh : ht (.node b 0 a l r) ≤ 80)
    (ih : Calls Try.prog 62 #[.pointer (pt l)] w (MinPost l w)) :
    Calls Try.prog 62 #[.pointer (some ⟨b, 0, none⟩)] w (MinPost (.node b 0 a l r) w) := by
  have C := Lib.hid H.2.1
  have HL := Lib.hid H.2.2.1
  have RB := Lib.hid (fun (w1 : World) (l' : BT Nd) L hb Hl D S => rebL_copy (w1 := w1) (l' := l') (L := L) (a' := a) H A hh hb Hl D S rfl (.inl ⟨rfl, rfl⟩))
  have SS := Lib.hid S
  have IH := Lib.hid ih
  have c0 := H.2.1.c0
  have hn : (pt l).isNone = false := by cases l with
    | nil => exact absurd rfl hl
    | node => rfl
  clear H ih S A
  go_enter Try.func62, Try.ntmps62
  go_wp2_with fail
  refine (height_any l _ HL.out).mono ?_
  rintro e w1 ⟨rfl, rfl⟩
  go_wp2_with fail
  refine IH.out.mono ?_
  rintro e w1 ⟨l', mb, k, d, lp, rp, h, L, rfl, b1, h1, p1, d1, m1⟩
  have ne : (binOp .eql 94 (.pointer (pt l')) (.pointer (pt l))).run Try.prog w1 = .ok (.bool false) w1 := by
    rw [eql94 h1.isNode (HL.out.below b1 (Nat.le_refl _)).isNode]
    simp [h1.ne (HL.out.below b1 (Nat.le_refl _)) (MinPost.ne p1 d1)]
  have d0 : w1.cell? ⟨b, 0, none⟩ = some (.pointer (pt l)) := (Chg.cel (Chg.of_below b1) C.out (Nat.not_le.2 C.out.lt)).c0
  have CC := Lib.hid (Chg.cel (Chg.of_below b1) C.out (Nat.not_le.2 C.out.lt))
  have Q := Lib.hid (And.intro b1 (And.intro h1 (And.intro p1 (And.intro d1 m1))))
  clear b1 h1 p1 d1 m1
  go_wp2_with fail
  refine (copy_any b _ _ _ _ _ _ CC.out).mono ?_
  rintro e w2 ⟨rfl, rfl⟩
  go_wp2_with fail
  have S2 : Srt (L ++ (a.k, a.d) :: prs r) := by
    have := SS.out
    simp only [prs, Q.out.2.2.1, List.cons_append] at this
    exact (List.pairwise_cons.1 this).2
  refine (rebL_any (RB.out w1 l' L Q.out.1 Q.out.2.1 Q.out.2.2.2.1 S2)).mono ?_
  rintro e w2 ⟨t', rfl, z⟩
  have Z := Lib.hid z
  clear z S2
  go_wp2_with fail
  go_ret2
  obtain ⟨q1, q2, q3, q4, q5⟩ := Q.out
  exact ⟨t', mb, k, d, lp, rp, h, _, rfl, (q1.alloc q1.size _).trans Z.out.1, Z.out.2.1, by simp only [prs]; rw [q3]; rfl, Z.out.2.2, q5⟩

/-- aDeleteMin. -/
theorem min_any : ∀ (t : BT Nd) (w : World), t ≠ .nil → Holds w t → Srt (prs t) → Avl t → ht t ≤ 80 → Calls Try.prog 62 #[.pointer (pt t)] w (MinPost t w)
  | .nil, _, h, _, _, _, _ => absurd rfl h
  | .node b o a l r, w, _, H, S, A, hh => by
    have ho : o = 0 := H.1
    subst ho
    by_cases hl : l = .nil
    · subst hl
      exact min_leaf H A
    · have hh' := hh
      simp only [ht] at hh'
      exact min_left hl H S A hh (min_any l w hl H.2.2.1 (Srt.app S).1 A.1 (by omega))

end Go.Proofs.Ytahghidbadpkeaa
