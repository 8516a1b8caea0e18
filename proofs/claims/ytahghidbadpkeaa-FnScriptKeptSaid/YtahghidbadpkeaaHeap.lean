/- The trees of the program as they lie in memory: a node's block, a tree's nodes, what changes and what stays. -/
import Derived.Test.YtahghidbadpkeaaTree
import Derived.WalkKit
import Derived.Deep.Draws
set_option linter.unusedVariables false
set_option linter.unusedSimpArgs false
namespace Go.Proofs.Ytahghidbadpkeaa
open Go.Deep Go.RowKit

/-- Data as an interface value. -/
def dv : Option Int → Value
  | none => .nilIface
  | some d => .iface 3 (.int .i64 d)

theorem dv_inj {a b : Option Int} (h : dv a = dv b) : a = b := by
  cases a <;> cases b <;> simp [dv] at h ⊢
  exact h

/-- A node's block. -/
def Cel (w : World) (b : Nat) (lp rp : Option Addr) (d : Option Int) (k h : Int) : Prop :=
  w.heap[b]? = some (.cells #[.pointer lp, .pointer rp, dv d, .int .i32 k, .int .i8 h] 101 (0, 0))

section
variable {w : World} {b : Nat} {lp rp : Option Addr} {d : Option Int} {k h : Int} (c : Cel w b lp rp d k h)
include c
theorem Cel.c0 : w.cell? ⟨b, 0, none⟩ = some (.pointer lp) := by simp [World.cell?, show w.heap[b]? = _ from c]
theorem Cel.c1 : w.cell? ⟨b, 1, none⟩ = some (.pointer rp) := by simp [World.cell?, show w.heap[b]? = _ from c]
theorem Cel.c2 : w.cell? ⟨b, 2, none⟩ = some (dv d) := by simp [World.cell?, show w.heap[b]? = _ from c]
theorem Cel.c3 : w.cell? ⟨b, 3, none⟩ = some (.int .i32 k) := by simp [World.cell?, show w.heap[b]? = _ from c]
theorem Cel.c4 : w.cell? ⟨b, 4, none⟩ = some (.int .i8 h) := by simp [World.cell?, show w.heap[b]? = _ from c]
theorem Cel.fz : ∀ o, w.frozen? ⟨b, o, none⟩ = false := fun o => by simp [World.frozen?, show w.heap[b]? = _ from c]
theorem Cel.lt : b < w.heap.size := by
  rcases Nat.lt_or_ge b w.heap.size with h' | h'
  · exact h'
  · have c' : w.heap[b]? = _ := c
    rw [Array.getElem?_eq_none h'] at c'; cases c'
theorem Cel.drew : Cel w.drew b lp rp d k h := c
theorem Cel.set0 (q : Option Addr) : Cel (w.setCell ⟨b, 0, none⟩ (.pointer q)) b q rp d k h := by
  unfold Cel at *; simp [World.setCell, Array.getElem?_modify, c]
theorem Cel.set1 (q : Option Addr) : Cel (w.setCell ⟨b, 1, none⟩ (.pointer q)) b lp q d k h := by
  unfold Cel at *; simp [World.setCell, Array.getElem?_modify, c]
theorem Cel.set2 (q : Option Int) : Cel (w.setCell ⟨b, 2, none⟩ (dv q)) b lp rp q k h := by
  unfold Cel at *; simp [World.setCell, Array.getElem?_modify, c]
theorem Cel.set3 (q : Int) : Cel (w.setCell ⟨b, 3, none⟩ (.int .i32 q)) b lp rp d q h := by
  unfold Cel at *; simp [World.setCell, Array.getElem?_modify, c]
theorem Cel.set4 (q : Int) : Cel (w.setCell ⟨b, 4, none⟩ (.int .i8 q)) b lp rp d k q := by
  unfold Cel at *; simp [World.setCell, Array.getElem?_modify, c]
theorem Cel.other {a : Addr} (v : Value) (hb : b ≠ a.block) : Cel (w.setCell a v) b lp rp d k h :=
  (Below.heap_setCell _ _ _ _ hb).trans c
theorem Cel.alloc (o : Obj) : Cel (w.alloc o) b lp rp d k h := (Below.heap_alloc _ _ _ (Cel.lt c)).trans c
end

theorem Cel.new (w : World) (lp rp : Option Addr) (d : Option Int) (k h : Int) : Cel (w.alloc (.cells #[.pointer lp, .pointer rp, dv d, .int .i32 k, .int .i8 h] 101)) w.heap.size lp rp d k h := by
  show (w.heap.push _)[w.heap.size]? = _
  rw [Array.getElem?_push, if_pos rfl]

/-- Blocks outside S are as they were. -/
structure Chg (S : Nat → Prop) (w w' : World) : Prop where
  os : w'.os = w.os
  tape : w'.tape = w.tape
  output : w'.output = w.output
  size : w.heap.size ≤ w'.heap.size
  block : ∀ k, k < w.heap.size → ¬ S k → w'.heap[k]? = w.heap[k]?

namespace Chg
variable {S S' : Nat → Prop} {w w1 w2 : World}
theorem refl (S : Nat → Prop) (w : World) : Chg S w w := ⟨rfl, rfl, rfl, Nat.le_refl _, fun _ _ _ => rfl⟩
theorem trans (h : Chg S w w1) (h' : Chg S w1 w2) : Chg S w w2 :=
  ⟨h'.os.trans h.os, h'.tape.trans h.tape, h'.output.trans h.output, Nat.le_trans h.size h'.size, fun k hk hs => (h'.block k (Nat.lt_of_lt_of_le hk h.size) hs).trans (h.block k hk hs)⟩
theorem mono (h : Chg S w w1) (hs : ∀ k, k < w.heap.size → S k → S' k) : Chg S' w w1 :=
  ⟨h.os, h.tape, h.output, h.size, fun k hk hn => h.block k hk (fun h' => hn (hs k hk h'))⟩
theorem drew (h : Chg S w w1) : Chg S w w1.drew := ⟨h.os, h.tape, h.output, h.size, h.block⟩
theorem drewN (h : Chg S w w1) (n : Nat) : Chg S w (w1.drewN n) := ⟨h.os, h.tape, h.output, h.size, h.block⟩
theorem alloc (h : Chg S w w1) (o : Obj) : Chg S w (w1.alloc o) :=
  ⟨h.os, h.tape, h.output, by rw [World.size_alloc]; exact Nat.le_succ_of_le h.size, fun k hk hs => (Below.heap_alloc _ _ _ (Nat.lt_of_lt_of_le hk h.size)).trans (h.block k hk hs)⟩
theorem setCell (h : Chg S w w1) (a : Addr) (v : Value) (ha : a.block < w.heap.size → S a.block) : Chg S w (w1.setCell a v) :=
  ⟨h.os, h.tape, h.output, by rw [World.size_setCell]; exact h.size, fun k hk hs => (Below.heap_setCell _ _ _ _ (fun e => hs (by subst e; exact ha hk))).trans (h.block k hk hs)⟩
theorem of_below {B : Nat} (h : Below B w w1) : Chg (fun k => B ≤ k) w w1 := ⟨h.os, h.tape, h.output, h.size, fun k _ hs => h.block k (Nat.lt_of_not_le hs)⟩
theorem below {B : Nat} (h : Chg S w w1) (hB : B ≤ w.heap.size) (hs : ∀ k, S k → B ≤ k) : Below B w w1 :=
  ⟨h.os, h.tape, h.output, h.size, fun k hk => h.block k (Nat.lt_of_lt_of_le hk hB) (fun h' => Nat.not_lt.2 (hs k h') hk)⟩
theorem cel (h : Chg S w w1) {b : Nat} {lp rp : Option Addr} {d : Option Int} {k hh : Int} (c : Cel w b lp rp d k hh) (hs : ¬ S b) : Cel w1 b lp rp d k hh := (h.block b c.lt hs).trans c
end Chg

/-- A tree's nodes lie in w. -/
def Holds (w : World) : BT Nd → Prop
  | .nil => True
  | .node b o a l r => o = 0 ∧ Cel w b (pt l) (pt r) a.d a.k a.h ∧ Holds w l ∧ Holds w r

theorem Holds.lt {w : World} : ∀ {t : BT Nd}, Holds w t → ∀ k ∈ blks t, k < w.heap.size
  | .nil, _, _, hk => by cases hk
  | .node b o a l r, h, k, hk => by
    rcases List.mem_cons.1 hk with rfl | hk
    · exact h.2.1.lt
    · rcases List.mem_append.1 hk with hk | hk
      · exact Holds.lt h.2.2.1 k hk
      · exact Holds.lt h.2.2.2 k hk

theorem Holds.chg {S : Nat → Prop} {w w1 : World} (hc : Chg S w w1) : ∀ {t : BT Nd}, Holds w t → (∀ k ∈ blks t, ¬ S k) → Holds w1 t
  | .nil, _, _ => trivial
  | .node b o a l r, h, hs => ⟨h.1, hc.cel h.2.1 (hs b (List.mem_cons_self ..)), Holds.chg hc h.2.2.1 (fun k hk => hs k (List.mem_cons_of_mem _ (List.mem_append_left _ hk))),
      Holds.chg hc h.2.2.2 (fun k hk => hs k (List.mem_cons_of_mem _ (List.mem_append_right _ hk)))⟩

theorem Holds.below {B : Nat} {w w1 : World} (hb : Below B w w1) {t : BT Nd} (h : Holds w t) (hB : w.heap.size ≤ B) : Holds w1 t :=
  h.chg (Chg.of_below hb) (fun k hk h' => by have := h.lt k hk; omega)
theorem Holds.alloc {w : World} {t : BT Nd} (h : Holds w t) (o : Obj) : Holds (w.alloc o) t := h.chg ((Chg.refl (fun _ => False) w).alloc o) (fun _ _ h => h)
theorem Holds.drew {w : World} {t : BT Nd} (h : Holds w t) : Holds w.drew t := h.chg ((Chg.refl (fun _ => False) w).drew) (fun _ _ h => h)
theorem Holds.drewN {w : World} {t : BT Nd} (h : Holds w t) (n : Nat) : Holds (w.drewN n) t := h.chg ((Chg.refl (fun _ => False) w).drewN n) (fun _ _ h => h)
theorem Holds.set {w : World} {t : BT Nd} (h : Holds w t) (a : Addr) (v : Value) (hb : a.block ∉ blks t) : Holds (w.setCell a v) t :=
  h.chg ((Chg.refl (fun k => k = a.block) w).setCell a v (fun _ => rfl)) (fun k hk e => hb (e ▸ hk))

/-- A node's key is its block's. -/
theorem Holds.key {w : World} : ∀ {t : BT Nd}, Holds w t → ∀ b ∈ blks t, ∃ lp rp d k h, Cel w b lp rp d k h ∧ (k, d) ∈ prs t
  | .nil, _, _, hk => by cases hk
  | .node b o a l r, h, k, hk => by
    rcases List.mem_cons.1 hk with rfl | hk
    · exact ⟨_, _, _, _, _, h.2.1, by simp [prs]⟩
    · rcases List.mem_append.1 hk with hk | hk
      · obtain ⟨lp, rp, d, x, y, c, m⟩ := Holds.key h.2.2.1 k hk
        exact ⟨lp, rp, d, x, y, c, by simp only [prs]; exact List.mem_append_left _ m⟩
      · obtain ⟨lp, rp, d, x, y, c, m⟩ := Holds.key h.2.2.2 k hk
        exact ⟨lp, rp, d, x, y, c, by simp only [prs]; exact List.mem_append_right _ (List.mem_cons_of_mem _ m)⟩

theorem Cel.inj {w : World} {b : Nat} {lp rp lp' rp' : Option Addr} {d d' : Option Int} {k h k' h' : Int} (c : Cel w b lp rp d k h) (c' : Cel w b lp' rp' d' k' h') : lp = lp' ∧ rp = rp' ∧ d = d' ∧ k = k' ∧ h = h' := by
  have e := (show w.heap[b]? = _ from c).symm.trans c'
  simp at e
  obtain ⟨e1, e2, e3, e4, e5⟩ := e
  exact ⟨e1, e2, dv_inj e3, e4, e5⟩

/-- A block whose key a tree does not hold is none of its blocks. -/
theorem Holds.notin {w : World} {t : BT Nd} (h : Holds w t) {b : Nat} {lp rp : Option Addr} {d : Option Int} {k hh : Int} (c : Cel w b lp rp d k hh) (hk : ∀ p ∈ prs t, p.1 ≠ k) : b ∉ blks t := fun hb => by
  obtain ⟨_, _, _, _, _, c', m⟩ := h.key b hb
  obtain ⟨_, _, _, e, _⟩ := c.inj c'
  exact hk _ m e.symm

/-- Two trees that begin at one place are one. -/
theorem Holds.inj {w : World} : ∀ {t u : BT Nd}, Holds w t → Holds w u → pt t = pt u → t = u
  | .nil, .nil, _, _, _ => rfl
  | .nil, .node .., _, _, e => by simp [pt] at e
  | .node .., .nil, _, _, e => by simp [pt] at e
  | .node b o a l r, .node b' o' a' l' r', h, h', e => by
    simp [pt] at e
    subst e
    obtain ⟨e1, e2, e3, e4, e5⟩ := h.2.1.inj h'.2.1
    rw [Holds.inj h.2.2.1 h'.2.2.1 e1, Holds.inj h.2.2.2 h'.2.2.2 e2, h.1, h'.1]
    cases a; cases a'; simp_all

/-- Of two trees whose lists differ the roots' pointers differ. -/
theorem Holds.ne {w : World} {t u : BT Nd} (h : Holds w t) (h' : Holds w u) (e : prs t ≠ prs u) : pt t ≠ pt u := fun e' => e (by rw [h.inj h' e'])

/-- A node's block is none of its subtrees', and these share none. -/
theorem Holds.apart {w : World} {b o : Nat} {a : Nd} {l r : BT Nd} (h : Holds w (.node b o a l r)) (s : Srt (prs (.node b o a l r))) :
    b ∉ blks l ∧ b ∉ blks r ∧ ∀ k ∈ blks l, k ∉ blks r := by
  obtain ⟨s1, s2, s3, s4⟩ := Srt.app s
  refine ⟨h.2.2.1.notin h.2.1 (fun p hp => by have := s3 p hp; simp at this; omega), h.2.2.2.notin h.2.1 (fun p hp => by have := s4 p hp; simp at this; omega), fun k hl hr => ?_⟩
  obtain ⟨_, _, d, x, _, c, m⟩ := h.2.2.1.key k hl
  obtain ⟨_, _, d', x', _, c', m'⟩ := h.2.2.2.key k hr
  obtain ⟨_, _, _, e, _⟩ := c.inj c'
  have e1 := s3 _ m
  have e2 := s4 _ m'
  simp at e1 e2
  omega

/-- Block nb alone holds the key x. -/
def Mk (nb : Nat) (x : Int) : BT Nd → Prop
  | .nil => True
  | .node b _ a l r => (b = nb ↔ a.k = x) ∧ Mk nb x l ∧ Mk nb x r

theorem Mk.none {nb : Nat} {x : Int} : ∀ {t : BT Nd}, nb ∉ blks t → (∀ p ∈ prs t, p.1 ≠ x) → Mk nb x t
  | .nil, _, _ => trivial
  | .node b o a l r, hb, hx => by
    simp only [blks, List.mem_cons, List.mem_append, not_or] at hb
    simp only [prs, List.mem_append, List.mem_cons] at hx
    exact ⟨⟨fun e => absurd e.symm hb.1, fun e => absurd e (hx (a.k, a.d) (.inr (.inl rfl)))⟩, Mk.none hb.2.1 (fun p hp => hx p (.inl hp)), Mk.none hb.2.2 (fun p hp => hx p (.inr (.inr hp)))⟩

/-- The tree in which a key has other data. -/
def setD (x : Int) (v : Option Int) : BT Nd → BT Nd
  | .nil => .nil
  | .node b o a l r => .node b o (if a.k = x then { a with d := v } else a) (setD x v l) (setD x v r)

theorem pt_setD (x : Int) (v : Option Int) (t : BT Nd) : pt (setD x v t) = pt t := by cases t <;> rfl
theorem blks_setD (x : Int) (v : Option Int) : ∀ t : BT Nd, blks (setD x v t) = blks t
  | .nil => rfl
  | .node b o a l r => by simp only [setD, blks, blks_setD x v l, blks_setD x v r]
theorem ht_setD (x : Int) (v : Option Int) : ∀ t : BT Nd, ht (setD x v t) = ht t
  | .nil => rfl
  | .node b o a l r => by simp only [setD, ht, ht_setD x v l, ht_setD x v r]
theorem avl_setD (x : Int) (v : Option Int) : ∀ {t : BT Nd}, Avl t → Avl (setD x v t)
  | .nil, _ => trivial
  | .node b o a l r, h => by
    obtain ⟨h1, h2, h3, h4, h5⟩ := h
    refine ⟨avl_setD x v h1, avl_setD x v h2, by rw [ht_setD, ht_setD]; exact h3, by rw [ht_setD, ht_setD]; exact h4, ?_⟩
    simp only [ht, ht_setD] at h5 ⊢
    split <;> exact h5
theorem prs_setD (x : Int) (v : Option Int) : ∀ t : BT Nd, prs (setD x v t) = (prs t).map (fun p => if p.1 = x then (p.1, v) else p)
  | .nil => rfl
  | .node b o a l r => by
    simp only [setD, prs, prs_setD x v l, prs_setD x v r, List.map_append, List.map_cons]
    by_cases h : a.k = x <;> simp [h]

theorem Holds.setD {w : World} {nb : Nat} {x : Int} (v : Option Int) : ∀ {t : BT Nd}, Holds w t → Mk nb x t → Holds (w.setCell ⟨nb, 2, none⟩ (dv v)) (setD x v t)
  | .nil, _, _ => trivial
  | .node b o a l r, h, m => by
    obtain ⟨h1, h2, h3, h4⟩ := h
    obtain ⟨m1, m2, m3⟩ := m
    refine ⟨h1, ?_, Holds.setD v h3 m2, Holds.setD v h4 m3⟩
    simp only [pt_setD]
    by_cases e : a.k = x
    · have hb := m1.2 e
      subst hb
      simp only [e, if_true]
      rw [e] at h2
      exact h2.set2 v
    · have hb : b ≠ nb := fun hb => e (m1.1 hb)
      simp only [e, if_false]
      exact h2.other _ hb

theorem map_other {x : Int} {v : Option Int} {L : List (Int × Option Int)} (h : ∀ p ∈ L, p.1 ≠ x) : L.map (fun p => if p.1 = x then (p.1, v) else p) = L := by
  induction L with
  | nil => rfl
  | cons p L ih =>
    rw [List.map_cons, if_neg (h p (List.mem_cons_self ..)), ih (fun q hq => h q (List.mem_cons_of_mem _ hq))]

theorem put_setD {x : Int} {d v : Option Int} {L : List (Int × Option Int)} : (lo x L ++ (x, d) :: hi x L).map (fun p => if p.1 = x then (p.1, v) else p) = lo x L ++ (x, v) :: hi x L := by
  rw [List.map_append, List.map_cons, map_other (fun p hp => by have := (mem_lo.1 hp).2; omega), map_other (fun p hp => by have := (mem_hi.1 hp).2; omega)]
  simp

end Go.Proofs.Ytahghidbadpkeaa
