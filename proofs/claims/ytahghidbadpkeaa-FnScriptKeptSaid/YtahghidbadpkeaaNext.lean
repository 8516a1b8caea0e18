/- The walk of the iterator's next. -/
import Derived.Test.YtahghidbadpkeaaIter
set_option linter.unusedVariables false
set_option linter.unusedSimpArgs false
namespace Go.Proofs.Ytahghidbadpkeaa
open Go.Deep Go.RowKit

theorem It.flag {w : World} {B ib : Nat} {ty : TypeId} {v : Value} {s : List Ent} {t : BT Nd} {f g : Bool} (h : It w B ib ty v ((t, f) :: s)) : It w B ib ty v ((t, g) :: s) :=
  ⟨h.hd, by have := h.ow; simpa [fl_app, fl_one, pl] using this, h.ne, h.lo, fun e he => by
    rcases List.mem_cons.1 he with rfl | he
    · exact h.H (t, f) (List.mem_cons_self ..)
    · exact h.H e (List.mem_cons_of_mem _ he), fun e he => by
    rcases List.mem_cons.1 he with rfl | he
    · exact h.bl (t, f) (List.mem_cons_self ..)
    · exact h.bl e (List.mem_cons_of_mem _ he)⟩

theorem own_pop {w : World} {B : Nat} {sa : Option Addr} {m cap : Nat} {xs : List Value} {x : Value} (h : w.ownsRow B 94 1 (.slice sa (m + 1) cap) (m + 1) (xs ++ [x])) : w.ownsRow B 94 1 (.slice sa m cap) m xs := by
  have hl := h.1
  simp only [List.length_append, List.length_cons, List.length_nil] at hl
  rcases h.2 with ⟨_, h1⟩ | ⟨g, c, cur, e, h1, h2, h3, h4, h5, h6⟩
  · omega
  · injection e with e1 e2 e3
    subst e1; subst e3
    refine ⟨by omega, .inr ⟨g, cap, cur, rfl, h1, h2, by omega, h4, h5, ?_⟩⟩
    have : (cur.toList.take ((m + 1) * 1)).take m = (xs ++ [x]).take m := by rw [h6]
    rw [List.take_take, Nat.min_eq_left (by omega), List.take_left' (by omega)] at this
    rw [Nat.mul_one]; exact this

theorem It.pop {w : World} {B ib : Nat} {ty : TypeId} {sa : Option Addr} {m cap : Nat} {s : List Ent} {e : Ent} (h : It w B ib ty (.slice sa (m + 1) cap) (e :: s)) (hm : s.length = m) : It (w.setCell ⟨ib, 0, none⟩ (.slice sa m cap)) B ib ty (.slice sa m cap) s ∧ Chg (fun k => k = ib) w (w.setCell ⟨ib, 0, none⟩ (.slice sa m cap)) := by
  have c := (Chg.refl (fun k => k = ib) w).setCell ⟨ib, 0, none⟩ (.slice sa m cap) (fun _ => rfl)
  have ow : w.ownsRow B 94 1 (.slice sa m cap) m (fl pl s.reverse) := by
    have := h.ow
    simp only [List.reverse_cons, fl_app, fl_one, List.length_cons, hm] at this
    exact own_pop (x := .pointer (pt e.1)) this
  have hne : (Value.slice sa m cap).ownBlock ≠ some ib := by cases sa <;> exact h.ne
  refine ⟨⟨?_, ?_, hne, h.lo, fun e' he => (h.H e' (List.mem_cons_of_mem _ he)).chg c (fun k hk hS => ?_), fun e' he => h.bl e' (List.mem_cons_of_mem _ he)⟩, c⟩
  · simp [World.setCell, Array.getElem?_modify, h.hd]
  · rw [hm]; exact row_chg ow c (fun k hk e => hne (by rw [hk, e]))
  · have := h.bl e' (List.mem_cons_of_mem _ he) k hk; have := h.lo; omega

/-- The top's cell. -/
theorem It.top {w : World} {B ib : Nat} {ty : TypeId} {v : Value} {m : Nat} {s : List Ent} {e : Ent} (h : It w B ib ty v (e :: s)) (hm : s.length = m) : ∃ g cap, v = .slice (some ⟨g, 0, none⟩) (m + 1) cap ∧ m + 1 ≤ cap ∧ cap ≤ maxLen ∧ w.cell? ⟨g, m, none⟩ = some (.pointer (pt e.1)) := by
  have ow := h.ow
  simp only [List.length_cons, hm] at ow
  obtain ⟨g, cap, rfl, _, _⟩ := ow.form (by omega)
  refine ⟨g, cap, rfl, ?_, ?_, ?_⟩
  · rcases ow.2 with ⟨e, _⟩ | ⟨g, c, cur, e, h1, h2, h3, h4, _⟩
    · cases e
    · injection e with e1 e2 e3; omega
  · rcases ow.2 with ⟨e, _⟩ | ⟨g, c, cur, e, h1, h2, h3, h4, _⟩
    · cases e
    · injection e with e1 e2 e3; omega
  · rw [ow.cellAt m (by omega)]
    simp only [List.reverse_cons, fl_app, fl_one]
    have : (fl pl s.reverse).length = m := by rw [fl_len pl_len]; simp [hm]
    rw [List.getElem?_append_right (by omega), this, Nat.sub_self]; rfl

def NxPost (B ib : Nat) (ty : TypeId) (v : Value) (D b : Nat) (P : List (Int × Option Int)) (w : World) (e : Ending) (w' : World) : Prop :=
  e = .returned (.pointer (some ⟨b, 0, none⟩)) ∧ ∃ s', ItPost B ib ty v w s' w' ∧ Stk s' ∧ Lim D s' ∧ pend s' = P ∧ topF s'

set_option maxRecDepth 100000 in
set_option maxHeartbeats 800000 in
theorem next_right {w : World} {B ib : Nat} {ty : TypeId} {v : Value} {s : List Ent} {b o D : Nat} {a : Nd} {l r : BT Nd} (hD : D ≤ 1000) (hr : r ≠ .nil) (h : It w B ib ty v ((.node b o a l r, false) :: s)) (hs : Stk ((.node b o a l r, false) :: s)) (hL : Lim D ((.node b o a l r, false) :: s)) :
    Calls Try.prog 81 #[.pointer (some ⟨ib, 0, none⟩)] w (NxPost B ib ty v D b (prs r ++ pend s) w) := by
  obtain ⟨m, hm⟩ : ∃ m, s.length = m := ⟨_, rfl⟩
  obtain ⟨g, cap, rfl, hc1, hc2, k0⟩ := h.top hm
  have h0 := h.H _ (List.mem_cons_self ..)
  obtain ⟨rfl, hcel, hl, hrr⟩ := h0
  have k1 := hcel.c1
  simp only [pt] at k0
  have o0 : w.cell? ⟨ib, 0, none⟩ = some (.slice (some ⟨g, 0, none⟩) (m + 1) cap) := by simp [World.cell?, h.hd]
  have hrs := (Srt.app (p := (a.k, a.d)) hs.2.1).2.1
  have LM := Lib.hid (leftmost_any (h.flag (g := true)) hrr (fun k hk => h.bl _ (List.mem_cons_self ..) k (List.mem_cons_of_mem _ (List.mem_append_right _ hk))) (by have := hL.1; simp only [ht, List.length_cons] at this ⊢; omega))
  have hlen : m ≤ 1000 := by have := hL.1; simp only [ht] at this; omega
  obtain ⟨bb, hbb⟩ : ∃ bb, pt r = some bb := by
    cases r with
    | nil => exact absurd rfl hr
    | node b' o' a' l' r' => exact ⟨_, rfl⟩
  have Q : Hid (Stk (lp r ((.node b 0 a l r, true) :: s)) ∧ Lim D (lp r ((.node b 0 a l r, true) :: s)) ∧ pend (lp r ((.node b 0 a l r, true) :: s)) = prs r ++ pend s ∧ topF (lp r ((.node b 0 a l r, true) :: s))) := by
    refine ⟨stk_lp _ _ ⟨by simp, hs.2.1, hs.2.2.1, hs.2.2.2⟩ hrs (.inr rfl), lim_lp D _ _ hL ?_, by rw [pend_lp]; simp [pend], topF_lp' hr⟩
    have := hL.1; simp only [ht, List.length_cons] at this ⊢; omega
  rw [hbb] at k1 LM
  clear h hs hL hcel hl hrr hrs hr hm hbb
  go_enter Try.func81, Try.ntmps81
  go_wp2_with fail
  refine LM.out.mono ?_
  rintro e w2 ⟨rfl, hp⟩
  have HP := Lib.hid hp
  clear hp
  go_wp2_with fail
  go_ret
  exact ⟨rfl, _, HP.out, Q.out⟩

theorem child_ne {w : World} {p c : BT Nd} {b o : Nat} {a : Nd} {l r : BT Nd} (hp : p = .node b o a l r) (hw : Holds w p) (hs : Srt (prs p)) (hc : c = l) (hn : c ≠ .nil) : pt c ≠ pt r := by
  subst hp; subst hc
  obtain ⟨s1, s2, s3, s4⟩ := Srt.app (p := (a.k, a.d)) hs
  refine Holds.ne hw.2.2.1 hw.2.2.2 (fun e => ?_)
  cases c with
  | nil => exact hn rfl
  | node b' o' a' l' r' =>
    have m : (a'.k, a'.d) ∈ prs (.node b' o' a' l' r') := by simp [prs]
    have h1 := s3 _ m
    have h2 := s4 _ (e ▸ m)
    simp only at h1 h2
    omega

set_option maxRecDepth 100000 in
set_option maxHeartbeats 1600000 in
theorem next_up {w : World} {B ib : Nat} {ty : TypeId} {v : Value} {s : List Ent} {b o D : Nat} {a : Nd} {l : BT Nd} (hD : D ≤ 1000) (h : It w B ib ty v ((.node b o a l .nil, false) :: s)) (hs : Stk ((.node b o a l .nil, false) :: s)) (hL : Lim D ((.node b o a l .nil, false) :: s)) :
    Calls Try.prog 81 #[.pointer (some ⟨ib, 0, none⟩)] w (NxPost B ib ty v D b (pend s) w) := by
  obtain ⟨m, hm⟩ : ∃ m, s.length = m := ⟨_, rfl⟩
  obtain ⟨g, cap, rfl, hc1, hc2, k0⟩ := h.top hm
  have h0 := h.H _ (List.mem_cons_self ..)
  have h00 := h0
  obtain ⟨rfl, hcel, hl, hrr⟩ := h0
  have k1 := hcel.c1
  simp only [pt] at k0 k1
  have o0 : w.cell? ⟨ib, 0, none⟩ = some (.slice (some ⟨g, 0, none⟩) (m + 1) cap) := by simp [World.cell?, h.hd]
  have of : w.frozen? ⟨ib, 0, none⟩ = false := by simp [World.frozen?, h.hd]
  have hlen : m ≤ 1000 := by have := hL.1; simp only [ht] at this; omega
  have PP := Lib.hid (h.pop hm)
  have W0 : Hid (∀ wn, w.setCell ⟨ib, 0, none⟩ (.slice (some ⟨g, 0, none⟩) m cap) = wn → It wn B ib ty (.slice (some ⟨g, 0, none⟩) m cap) s ∧ Chg (fun k => k = ib) w wn) := by
    rintro wn rfl
    exact PP.out
  have HB := Lib.hid (h.bl _ (List.mem_cons_self ..))
  have bB : b < B := h.bl _ (List.mem_cons_self ..) b (List.mem_cons_self ..)
  have H0 := Lib.hid (And.intro h00 (And.intro hs (And.intro hL hm)))
  have hBI := h.lo
  clear h hs hL hcel hl hrr h00 hm PP
  go_enter Try.func81, Try.ntmps81
  go_wp2_with fail
  generalize hW : w.setCell _ _ = wn
  obtain ⟨i1, c1⟩ := W0.out wn hW
  have I1 := Lib.hid (And.intro i1 c1)
  clear hW W0 i1 c1 k0 k1 o0 of
  go_loopg [3, 5] m (fun k n cur wr => ∃ (m' : Nat) (c : Option Addr), n = .int .i64 m' ∧ cur = .pointer c ∧ m' = k ∧ m' ≤ 1000 ∧ Hid (∃ (s' : List Ent) (t' : BT Nd), s'.length = m' ∧ c = pt t' ∧ t' ≠ .nil ∧ onTop t' s' ∧ Stk s' ∧ Lim D s' ∧ pend s' = pend s ∧ It wr B ib ty (.slice (some ⟨g, 0, none⟩) m' cap) s' ∧ Holds wr t' ∧ Chg (fun k => k = ib) w wr))
  case atStart =>
    refine ⟨m, some ⟨b, 0, none⟩, rfl, rfl, rfl, hlen, s, .node b 0 a l .nil, H0.out.2.2.2, rfl, by simp, H0.out.2.1.2.2.1, H0.out.2.1.2.2.2, H0.out.2.2.1.2, rfl, I1.out.1, ?_, I1.out.2⟩
    exact H0.out.1.chg I1.out.2 (fun k hk e => by have := HB.out k hk; omega)
  case round =>
    obtain ⟨m', c, rfl, rfl, rfl, hm', hr⟩ := hrel
    obtain ⟨s', t', e1, rfl, e3, e4, e5, e6, e7, e8, e9, e10⟩ := hr.out
    cases m' with
    | zero =>
      have e0 : topF s' := by rw [List.eq_nil_of_length_eq_zero e1]; trivial
      have Q := Lib.hid (And.intro e5 (And.intro e6 (And.intro e7 (And.intro e8 (And.intro e10 e0)))))
      clear e0 hr e1 e3 e4 e5 e6 e7 e8 e9 e10
      go_wp2_with fail
      go_ret
      obtain ⟨e5, e6, e7, e8, e10, e0⟩ := Q.out
      exact ⟨rfl, s', ⟨_, e8, e10.mono (fun k _ hk => .inl hk), .inl rfl⟩, e5, e6, e7, e0⟩
    | succ m' =>
      match s', e1, e4, e5, e6, e7, e8 with
      | (.nil, vis) :: s'', e1, e4, e5, e6, e7, e8 => exact absurd rfl e5.1
      | (.node pb po pa pl' pr, vis) :: s'', e1, e4, e5, e6, e7, e8 =>
        have hm2 : s''.length = m' := by simpa using e1
        obtain ⟨g2, cap2, ev, hd1, hd2, k0⟩ := e8.top hm2
        injection ev with ev1 ev2 ev3
        injection ev1 with ev1
        injection ev1 with ev1
        subst ev1; subst ev3
        have hp0 := e8.H _ (List.mem_cons_self ..)
        have hp1 := hp0
        obtain ⟨rfl, hcel, hpl, hpr⟩ := hp0
        have k1 := hcel.c1
        simp only [pt] at k0
        have o0 : wr.cell? ⟨ib, 0, none⟩ = some (.slice (some ⟨g, 0, none⟩) (m' + 1) cap) := by simp [World.cell?, e8.hd]
        have of : wr.frozen? ⟨ib, 0, none⟩ = false := by simp [World.frozen?, e8.hd]
        have PP := Lib.hid (e8.pop hm2)
        cases vis with
        | true =>
          have e4' : t' = pr := e4
          subst e4'
          have hq : (binOp .eql 94 (.pointer (pt t')) (.pointer (pt t'))).run Try.prog wr = .ok (.bool true) wr := by
            rw [eql94 e9.isNode e9.isNode]; simp
          have Q := Lib.hid (And.intro e5 (And.intro e6 (And.intro e7 (And.intro e8 (And.intro e10 (And.intro hp1 hm2))))))
          clear hr e1 e3 e4 e5 e6 e7 e8 e9 e10 hcel hpl hpr hp1 hm2
          go_wp2_with fail
          go_roundg m'
          case measure => omega
          case rel =>
            obtain ⟨e5, e6, e7, e8, e10, hp1, hm2⟩ := Q.out
            refine ⟨m', _, rfl, rfl, rfl, by omega, s'', .node pb 0 pa pl' t', hm2, rfl, by simp, e5.2.2.1, e5.2.2.2, e6.2, by simpa [pend] using e7, PP.out.1, hp1.chg PP.out.2 (fun k hk e => ?_), e10.trans PP.out.2⟩
            have := e8.bl _ (List.mem_cons_self ..) k hk
            omega
        | false =>
          have e4' : t' = pl' := e4
          have hne := child_ne rfl hp1 e5.2.1 e4' e3
          have hq : (binOp .eql 94 (.pointer (pt t')) (.pointer (pt pr))).run Try.prog wr = .ok (.bool false) wr := by
            rw [eql94 e9.isNode hpr.isNode]; simp [hne]
          have Q := Lib.hid (And.intro e5 (And.intro e6 (And.intro e7 (And.intro e8 e10))))
          clear hr e1 e3 e4 e5 e6 e7 e8 e9 e10 hcel hpl hpr hp1 hm2 hne e4'
          go_wp2_with fail
          go_ret
          obtain ⟨e5, e6, e7, e8, e10⟩ := Q.out
          exact ⟨rfl, _, ⟨_, e8, e10.mono (fun k _ hk => .inl hk), .inl rfl⟩, e5, e6, e7, rfl⟩

/-- The iterator's next. -/
theorem next_any {w : World} {B ib : Nat} {ty : TypeId} {v : Value} {s : List Ent} {b o D : Nat} {a : Nd} {l r : BT Nd} (hD : D ≤ 1000) (h : It w B ib ty v ((.node b o a l r, false) :: s)) (hs : Stk ((.node b o a l r, false) :: s)) (hL : Lim D ((.node b o a l r, false) :: s)) :
    Calls Try.prog 81 #[.pointer (some ⟨ib, 0, none⟩)] w (NxPost B ib ty v D b (prs r ++ pend s) w) := by
  by_cases hr : r = .nil
  · subst hr; exact next_up hD h hs hL
  · exact next_right hD hr h hs hL

end Go.Proofs.Ytahghidbadpkeaa
