/- The walks of DeleteMin, DeleteMax, Copy, Size, Find. -/
import Derived.Test.YtahghidbadpkeaaTops
import Derived.Deep.LoopGhost
set_option linter.unusedVariables false
set_option linter.unusedSimpArgs false
namespace Go.Proofs.Ytahghidbadpkeaa
open Go.Deep Go.RowKit

def MinDoneE (tb : Nat) (t : BT Nd) (w : World) (e : Ending) (w' : World) : Prop :=
  ∃ k d, e = .returned (.tuple #[.int .i32 k, dv d]) ∧ DeletePostE tb t (prs t).tail w w'

theorem DeletePostE.drewN {tb : Nat} {t : BT Nd} {L : List (Int × Option Int)} {w w' : World} (h : DeletePostE tb t L w w') (n : Nat) : DeletePostE tb t L w (w'.drewN n) := by
  obtain ⟨t', h1, h2, h3, h4⟩ := h
  exact ⟨t', h1.drewN n, h2.chg ((Chg.refl (fun _ => False) w').drewN n) (fun h => h) (fun _ _ h => h), h3, h4⟩

set_option maxRecDepth 100000 in
set_option maxHeartbeats 400000 in
/-- DeleteMin. -/
theorem DeleteMin_anyE {w : World} {tb : Nat} {t : BT Nd} (g : Good w tb t) (hlen : (prs t).length ≤ 300000) :
    Calls Try.prog 46 #[.pointer (some ⟨tb, 0, none⟩)] w (MinDoneE tb t w) := by
  have c0 := g.hd.c0
  have G := Lib.hid g
  have LL := Lib.hid hlen
  cases t with
  | nil =>
    have Z : Hid (MinDoneE tb .nil w (.returned (.tuple #[.int .i32 (-2147483648), .nilIface])) w) := ⟨_, none, rfl, .nil, Chg.refl _ _, g, rfl, .inr ⟨rfl, rfl⟩⟩
    clear g hlen
    simp only [pt] at c0
    go_enter Try.func46, Try.ntmps46
    go_wp2_with fail
    go_ret2
    exact Z.out
  | node b o a l r =>
    have IH := Lib.hid (min_any (.node b o a l r) w (by simp) g.H g.S g.A (by have := g.A.low hlen; omega))
    have ho : o = 0 := g.H.1
    subst ho
    clear g hlen
    simp only [pt] at c0
    go_enter Try.func46, Try.ntmps46
    go_wp2_with fail
    refine IH.out.mono ?_
    rintro e w1 ⟨t', mb, k, d, lp, rp, h, L, rfl, b1, h1, p1, d1, m1⟩
    have hd1 := G.out.hd.chg (Chg.of_below b1) (Nat.not_le.2 G.out.hd.lt)
    have m2 := Chg.cel (Chg.of_below b1) m1 (Nat.not_le.2 m1.lt)
    have k2 := m2.c2
    have k3 := m2.c3
    have d0 := hd1.c0
    have d2 := hd1.c1
    have df := hd1.fz
    have hne : mb ≠ tb := fun e => G.out.hd.ne m1 e
    have bd : 0 ≤ ((prs (.node b 0 a l r)).length : Int) ∧ ((prs (.node b 0 a l r)).length : Int) ≤ 300000 := by have := LL.out; omega
    have S2 : Srt L := by have := G.out.S; rw [p1] at this; exact (List.pairwise_cons.1 this).2
    have F2 : ∀ p ∈ L, p.2.isSome = true := fun p hp => G.out.F p (by rw [p1]; exact List.mem_cons_of_mem _ hp)
    have FIN := Lib.hid (fun w' => delete_fin (w' := w') G.out b1 h1 d1 S2 F2 (by rw [p1]; rfl))
    have P1 := Lib.hid p1
    clear b1 h1 p1 d1 m1 hd1 m2 S2 F2
    obtain ⟨n, hn⟩ : ∃ n : Int, n = ((prs (.node b 0 a l r)).length : Int) := ⟨_, rfl⟩
    rw [← hn] at d2 bd
    have HN := Lib.hid hn
    clear hn
    go_wp2_with fail
    go_quiet (fail)
    go_wp2_with fail
    go_ret2
    refine ⟨k, d, rfl, ?_⟩
    rw [P1.out]
    refine DeletePostE.drewN (FIN.out _ ?_) _
    rw [← HN.out]

def MaxDoneE (tb : Nat) (t : BT Nd) (w : World) (e : Ending) (w' : World) : Prop :=
  ∃ k d, e = .returned (.tuple #[.int .i32 k, dv d]) ∧ DeletePostE tb t (prs t).dropLast w w'

set_option maxRecDepth 100000 in
set_option maxHeartbeats 400000 in
/-- DeleteMax. -/
theorem DeleteMax_anyE {w : World} {tb : Nat} {t : BT Nd} (g : Good w tb t) (hlen : (prs t).length ≤ 300000) :
    Calls Try.prog 45 #[.pointer (some ⟨tb, 0, none⟩)] w (MaxDoneE tb t w) := by
  have c0 := g.hd.c0
  have G := Lib.hid g
  have LL := Lib.hid hlen
  cases t with
  | nil =>
    have Z : Hid (MaxDoneE tb .nil w (.returned (.tuple #[.int .i32 (-2147483648), .nilIface])) w) := ⟨_, none, rfl, .nil, Chg.refl _ _, g, rfl, .inr ⟨rfl, rfl⟩⟩
    clear g hlen
    simp only [pt] at c0
    go_enter Try.func45, Try.ntmps45
    go_wp2_with fail
    go_ret2
    exact Z.out
  | node b o a l r =>
    have IH := Lib.hid (max_any (.node b o a l r) w (by simp) g.H g.S g.A (by have := g.A.low hlen; omega))
    have ho : o = 0 := g.H.1
    subst ho
    clear g hlen
    simp only [pt] at c0
    go_enter Try.func45, Try.ntmps45
    go_wp2_with fail
    refine IH.out.mono ?_
    rintro e w1 ⟨t', mb, k, d, lp, rp, h, L, rfl, b1, h1, p1, d1, m1⟩
    have hd1 := G.out.hd.chg (Chg.of_below b1) (Nat.not_le.2 G.out.hd.lt)
    have m2 := Chg.cel (Chg.of_below b1) m1 (Nat.not_le.2 m1.lt)
    have k2 := m2.c2
    have k3 := m2.c3
    have d0 := hd1.c0
    have d2 := hd1.c1
    have df := hd1.fz
    have hne : mb ≠ tb := fun e => G.out.hd.ne m1 e
    have bd : 0 ≤ ((prs (.node b 0 a l r)).length : Int) ∧ ((prs (.node b 0 a l r)).length : Int) ≤ 300000 := by have := LL.out; omega
    have S2 : Srt L := by have := G.out.S; rw [p1] at this; exact this.app_l
    have F2 : ∀ p ∈ L, p.2.isSome = true := fun p hp => G.out.F p (by rw [p1]; exact List.mem_append_left _ hp)
    have FIN := Lib.hid (fun w' => delete_fin (w' := w') G.out b1 h1 d1 S2 F2 (by rw [p1]; simp))
    have P1 := Lib.hid p1
    clear b1 h1 p1 d1 m1 hd1 m2 S2 F2
    obtain ⟨n, hn⟩ : ∃ n : Int, n = ((prs (.node b 0 a l r)).length : Int) := ⟨_, rfl⟩
    rw [← hn] at d2 bd
    have HN := Lib.hid hn
    clear hn
    go_wp2_with fail
    go_quiet (fail)
    go_wp2_with fail
    go_ret2
    refine ⟨k, d, rfl, ?_⟩
    rw [P1.out, List.dropLast_concat]
    refine DeletePostE.drewN (FIN.out _ ?_) _
    rw [← HN.out]

def MinDone (tb : Nat) (t : BT Nd) (w : World) (e : Ending) (w' : World) : Prop :=
  ∃ k d, e = .returned (.tuple #[.int .i32 k, dv d]) ∧ DeletePost tb t (prs t).tail w w'
def MaxDone (tb : Nat) (t : BT Nd) (w : World) (e : Ending) (w' : World) : Prop :=
  ∃ k d, e = .returned (.tuple #[.int .i32 k, dv d]) ∧ DeletePost tb t (prs t).dropLast w w'
theorem DeleteMin_any {w : World} {tb : Nat} {t : BT Nd} (g : Good w tb t) (hlen : (prs t).length ≤ 300000) :
    Calls Try.prog 46 #[.pointer (some ⟨tb, 0, none⟩)] w (MinDone tb t w) :=
  (DeleteMin_anyE g hlen).mono fun e w' ⟨k, d, h1, h2⟩ => ⟨k, d, h1, h2.plain⟩
theorem DeleteMax_any {w : World} {tb : Nat} {t : BT Nd} (g : Good w tb t) (hlen : (prs t).length ≤ 300000) :
    Calls Try.prog 45 #[.pointer (some ⟨tb, 0, none⟩)] w (MaxDone tb t w) :=
  (DeleteMax_anyE g hlen).mono fun e w' ⟨k, d, h1, h2⟩ => ⟨k, d, h1, h2.plain⟩

/-- Copy: another head. -/
theorem Copy_any {w : World} {tb : Nat} {p : Option Addr} {n : Int} (g : Hd w tb p n) :
    Calls Try.prog 63 #[.pointer (some ⟨tb, 0, none⟩)] w (fun e w' => e = .returned (.pointer (some ⟨w.heap.size, 0, none⟩)) ∧ w.alloc (.cells #[.pointer p, .int .i64 n] 96) = w') := by
  have c0 := g.c0
  have c1 := g.c1
  clear g
  go_enter Try.func63, Try.ntmps63
  go_wp2
  go_ret
  exact ⟨rfl, rfl⟩

theorem Size_any {w : World} {tb : Nat} {p : Option Addr} {n : Int} (g : Hd w tb p n) :
    Calls Try.prog 58 #[.pointer (some ⟨tb, 0, none⟩)] w (fun e w' => e = .returned (.int .i64 n) ∧ w' = w) := by
  have c1 := g.c1
  clear g
  go_enter Try.func58, Try.ntmps58
  go_wp2
  go_ret
  exact ⟨rfl, rfl⟩

theorem nilOrData_nil (w : World) : Calls Try.prog 83 #[.pointer none] w (fun e w' => e = .returned .nilIface ∧ w' = w) := by
  go_enter Try.func83, Try.ntmps83
  go_wp2
  go_ret
  exact ⟨rfl, rfl⟩
theorem nilOrData_some {w : World} {b : Nat} {lp rp : Option Addr} {d : Option Int} {k h : Int} (c : Cel w b lp rp d k h) : Calls Try.prog 83 #[.pointer (some ⟨b, 0, none⟩)] w (fun e w' => e = .returned (dv d) ∧ w' = w) := by
  have c2 := c.c2
  clear c
  go_enter Try.func83, Try.ntmps83
  go_wp2
  go_ret
  exact ⟨rfl, rfl⟩

/-- The node of a key. -/
def nodeOf (x : Int) : BT Nd → BT Nd
  | .nil => .nil
  | .node b o a l r => if x < a.k then nodeOf x l else if a.k < x then nodeOf x r else .node b o a l r

theorem nodeOf_holds {w : World} (x : Int) : ∀ {t : BT Nd}, Holds w t → Holds w (nodeOf x t)
  | .nil, _ => trivial
  | .node b o a l r, h => by
    unfold nodeOf
    split
    · exact nodeOf_holds x h.2.2.1
    · split
      · exact nodeOf_holds x h.2.2.2
      · exact h

theorem nodeOf_dat {x : Int} : ∀ {t : BT Nd}, Srt (prs t) → (nodeOf x t = .nil ∧ dat x (prs t) = none) ∨ ∃ b o a l r, nodeOf x t = .node b o a l r ∧ dat x (prs t) = a.d
  | .nil, _ => .inl ⟨rfl, rfl⟩
  | .node b o a l r, s => by
    have s' := Srt.app s
    simp only [prs] at s ⊢
    unfold nodeOf
    split
    · rename_i h
      rw [dat_less s h]
      exact nodeOf_dat s'.1
    · split
      · rename_i h1 h
        rw [dat_more s h]
        exact nodeOf_dat s'.2.1
      · rename_i h1 h2
        exact .inr ⟨b, o, a, l, r, rfl, dat_here s (by show x = a.k; omega)⟩

set_option maxRecDepth 100000 in
set_option maxHeartbeats 400000 in
theorem find_any (x : Int) (t : BT Nd) (w : World) (H : Holds w t) :
    Calls Try.prog 82 #[.pointer (pt t), .int .i32 x] w (fun e w' => e = .returned (.pointer (pt (nodeOf x t))) ∧ w' = w) := by
  have HH := Lib.hid H
  clear H
  go_enter Try.func82, Try.ntmps82
  go_wp2_with fail
  go_loopg [0] ((blks t).length) (fun k p wr => w = wr ∧ ∃ u : BT Nd, p = .pointer (pt u) ∧ Hid (Holds w u ∧ nodeOf x u = nodeOf x t ∧ (blks u).length = k))
  case atStart => exact ⟨rfl, t, rfl, HH.out, rfl, rfl⟩
  case round =>
    obtain ⟨rfl, u, rfl, hu⟩ := hrel
    cases u with
    | nil =>
      simp only [pt]
      go_wp2_with fail
      go_ret
      exact ⟨by rw [← hu.out.2.1]; rfl, rfl⟩
    | node b o a l r =>
      have ho : o = 0 := hu.out.1.1
      subst ho
      have c0 := hu.out.1.2.1.c0
      have c1 := hu.out.1.2.1.c1
      have c3 := hu.out.1.2.1.c3
      simp only [pt]
      by_cases h1 : x < a.k
      · go_wp2_with fail
        go_roundg (blks l).length
        case measure => rw [← hu.out.2.2]; simp [blks]; omega
        case rel => exact ⟨rfl, l, rfl, hu.out.1.2.2.1, by rw [← hu.out.2.1, nodeOf, if_pos h1], rfl⟩
      · by_cases h2 : a.k < x
        · go_wp2_with fail
          go_roundg (blks r).length
          case measure => rw [← hu.out.2.2]; simp [blks]; omega
          case rel => exact ⟨rfl, r, rfl, hu.out.1.2.2.2, by rw [← hu.out.2.1, nodeOf, if_neg (by omega), if_pos h2], rfl⟩
        · go_wp2_with fail
          go_ret
          exact ⟨by rw [← hu.out.2.1, nodeOf, if_neg (by omega), if_neg (by omega)]; rfl, rfl⟩

set_option maxRecDepth 100000 in
set_option maxHeartbeats 400000 in
/-- Find. -/
theorem Find_any {w : World} {tb : Nat} {t : BT Nd} (g : Good w tb t) (x : Int) :
    Calls Try.prog 67 #[.pointer (some ⟨tb, 0, none⟩), .int .i32 x] w (fun e w' => e = .returned (dv (dat x (prs t))) ∧ w' = w) := by
  have c0 := g.hd.c0
  have F := Lib.hid (find_any x t w g.H)
  have hH := nodeOf_holds x g.H
  have hD := nodeOf_dat (x := x) g.S
  clear g
  rcases hD with ⟨e1, e2⟩ | ⟨b, o, a, l, r, e1, e2⟩
  · rw [e1] at F
    have F : Hid (Calls Try.prog 82 #[.pointer (pt t), .int .i32 x] w (fun e w' => e = .returned (.pointer none) ∧ w' = w)) := F
    have N := Lib.hid (nilOrData_nil w)
    rw [e2]
    clear hH e1 e2
    go_enter Try.func67, Try.ntmps67
    go_wp2_with fail
    refine F.out.mono ?_
    rintro e w1 ⟨rfl, hw⟩
    rw [hw]
    clear hw w1
    go_wp2_with fail
    refine N.out.mono ?_
    rintro e w1 ⟨rfl, hw⟩
    rw [hw]
    clear hw w1
    go_wp2_with fail
    go_ret
    exact ⟨rfl, rfl⟩
  · rw [e1] at F hH
    have ho : o = 0 := hH.1
    subst ho
    have F : Hid (Calls Try.prog 82 #[.pointer (pt t), .int .i32 x] w (fun e w' => e = .returned (.pointer (some ⟨b, 0, none⟩)) ∧ w' = w)) := F
    have N := Lib.hid (nilOrData_some hH.2.1)
    rw [e2]
    clear hH e1 e2
    go_enter Try.func67, Try.ntmps67
    go_wp2_with fail
    refine F.out.mono ?_
    rintro e w1 ⟨rfl, hw⟩
    rw [hw]
    clear hw w1
    go_wp2_with fail
    refine N.out.mono ?_
    rintro e w1 ⟨rfl, hw⟩
    rw [hw]
    clear hw w1
    go_wp2_with fail
    go_ret
    exact ⟨rfl, rfl⟩

end Go.Proofs.Ytahghidbadpkeaa
