/- Plain laws of height-balanced search trees: heights, rotations, insertion and deletion of a pair, and the least number of nodes. No program in sight. -/
import Derived.Deep.Trees
namespace Go.Proofs.Ytahghidbadpkeaa
open Go.Deep

/-- What a node bears: its key, its data (none: nil), the height that it tells. -/
structure Nd where
  k : Int
  d : Option Int
  h : Int

/-- The pointer to a tree's root. -/
def pt : BT Nd → Option Addr
  | .nil => none
  | .node b _ _ _ _ => some ⟨b, 0, none⟩

def ht : BT Nd → Nat
  | .nil => 0
  | .node _ _ _ l r => 1 + max (ht l) (ht r)

/-- The height that the root tells. -/
def sh : BT Nd → Int
  | .nil => 0
  | .node _ _ a _ _ => a.h

def prs : BT Nd → List (Int × Option Int)
  | .nil => []
  | .node _ _ a l r => prs l ++ (a.k, a.d) :: prs r

def blks : BT Nd → List Nat
  | .nil => []
  | .node b _ _ l r => b :: (blks l ++ blks r)

def Avl : BT Nd → Prop
  | .nil => True
  | .node _ _ a l r => Avl l ∧ Avl r ∧ ht l ≤ ht r + 1 ∧ ht r ≤ ht l + 1 ∧ a.h = (ht (.node 0 0 a l r) : Nat)

theorem Avl.sh {t : BT Nd} (h : Avl t) : sh t = (ht t : Int) := by
  cases t with
  | nil => rfl
  | node b o a l r => exact h.2.2.2.2

/-- Keys ascend. -/
def Srt (L : List (Int × Option Int)) : Prop := L.Pairwise (fun a b => a.1 < b.1)

def lo (x : Int) (L : List (Int × Option Int)) : List (Int × Option Int) := L.filter (fun p => decide (p.1 < x))
def hi (x : Int) (L : List (Int × Option Int)) : List (Int × Option Int) := L.filter (fun p => decide (x < p.1))
/-- The data of a key; none where there is none. -/
def dat (x : Int) (L : List (Int × Option Int)) : Option Int := ((L.find? (fun p => decide (p.1 = x))).map (·.2)).getD none

theorem Srt.app {A B : List (Int × Option Int)} {p : Int × Option Int} (h : Srt (A ++ p :: B)) :
    Srt A ∧ Srt B ∧ (∀ q ∈ A, q.1 < p.1) ∧ (∀ q ∈ B, p.1 < q.1) := by
  obtain ⟨h1, h2, h3⟩ := List.pairwise_append.1 h
  obtain ⟨h4, h5⟩ := List.pairwise_cons.1 h2
  exact ⟨h1, h5, fun q hq => h3 q hq p (List.mem_cons_self ..), h4⟩

theorem Srt.mk {A B : List (Int × Option Int)} {p : Int × Option Int} (h1 : Srt A) (h2 : Srt B) (h3 : ∀ q ∈ A, q.1 < p.1) (h4 : ∀ q ∈ B, p.1 < q.1) : Srt (A ++ p :: B) :=
  List.pairwise_append.2 ⟨h1, List.pairwise_cons.2 ⟨h4, h2⟩, fun q hq r hr => by
    rcases List.mem_cons.1 hr with rfl | hr
    · exact h3 q hq
    · exact Int.lt_trans (h3 q hq) (h4 r hr)⟩

theorem lo_all {x : Int} {L : List (Int × Option Int)} (h : ∀ q ∈ L, q.1 < x) : lo x L = L := by
  unfold lo; rw [List.filter_eq_self]; intro q hq; simpa using h q hq
theorem lo_none {x : Int} {L : List (Int × Option Int)} (h : ∀ q ∈ L, x ≤ q.1) : lo x L = [] := by
  unfold lo; rw [List.filter_eq_nil_iff]; intro q hq; have := h q hq; simp; omega
theorem hi_all {x : Int} {L : List (Int × Option Int)} (h : ∀ q ∈ L, x < q.1) : hi x L = L := by
  unfold hi; rw [List.filter_eq_self]; intro q hq; simpa using h q hq
theorem hi_none {x : Int} {L : List (Int × Option Int)} (h : ∀ q ∈ L, q.1 ≤ x) : hi x L = [] := by
  unfold hi; rw [List.filter_eq_nil_iff]; intro q hq; have := h q hq; simp; omega
theorem lo_app (x : Int) (A B : List (Int × Option Int)) : lo x (A ++ B) = lo x A ++ lo x B := by simp [lo]
theorem hi_app (x : Int) (A B : List (Int × Option Int)) : hi x (A ++ B) = hi x A ++ hi x B := by simp [hi]
theorem mem_lo {x : Int} {L : List (Int × Option Int)} {p : Int × Option Int} : p ∈ lo x L ↔ p ∈ L ∧ p.1 < x := by simp [lo]
theorem mem_hi {x : Int} {L : List (Int × Option Int)} {p : Int × Option Int} : p ∈ hi x L ↔ p ∈ L ∧ x < p.1 := by simp [hi]

theorem Srt.low {x : Int} {L : List (Int × Option Int)} (h : Srt L) : Srt (lo x L) := List.Pairwise.filter _ h
theorem Srt.high {x : Int} {L : List (Int × Option Int)} (h : Srt L) : Srt (hi x L) := List.Pairwise.filter _ h
theorem Srt.put {x : Int} {d : Option Int} {L : List (Int × Option Int)} (h : Srt L) : Srt (lo x L ++ (x, d) :: hi x L) :=
  Srt.mk h.low h.high (fun _ hq => (mem_lo.1 hq).2) (fun _ hq => (mem_hi.1 hq).2)
theorem Srt.drop {x : Int} {L : List (Int × Option Int)} (h : Srt L) : Srt (lo x L ++ hi x L) :=
  List.pairwise_append.2 ⟨h.low, h.high, fun _ hq _ hr => Int.lt_trans (mem_lo.1 hq).2 (mem_hi.1 hr).2⟩

/- lo, hi and dat over a node -/
section
variable {x : Int} {A B : List (Int × Option Int)} {p : Int × Option Int} (h : Srt (A ++ p :: B))
include h
theorem lo_less (hx : x < p.1) : lo x (A ++ p :: B) = lo x A := by
  rw [lo_app, lo_none (L := p :: B), List.append_nil]
  intro q hq
  rcases List.mem_cons.1 hq with rfl | hq
  · omega
  · have := h.app.2.2.2 q hq; omega
theorem hi_less (hx : x < p.1) : hi x (A ++ p :: B) = hi x A ++ p :: B := by
  rw [hi_app, hi_all (L := p :: B)]
  intro q hq
  rcases List.mem_cons.1 hq with rfl | hq
  · omega
  · have := h.app.2.2.2 q hq; omega
theorem lo_more (hx : p.1 < x) : lo x (A ++ p :: B) = A ++ p :: lo x B := by
  rw [lo_app, lo_all (L := A) (fun q hq => by have := h.app.2.2.1 q hq; omega)]
  simp [lo, hx]
theorem hi_more (hx : p.1 < x) : hi x (A ++ p :: B) = hi x B := by
  rw [hi_app, hi_none (L := A) (fun q hq => by have := h.app.2.2.1 q hq; omega)]
  have : ¬ x < p.1 := by omega
  simp [hi, this]
theorem lo_here (hx : x = p.1) : lo x (A ++ p :: B) = A := by
  subst hx
  rw [lo_app, lo_all h.app.2.2.1, lo_none (L := p :: B), List.append_nil]
  intro q hq
  rcases List.mem_cons.1 hq with rfl | hq
  · exact Int.le_refl _
  · exact Int.le_of_lt (h.app.2.2.2 q hq)
theorem hi_here (hx : x = p.1) : hi x (A ++ p :: B) = B := by
  subst hx
  rw [hi_app, hi_none (L := A) (fun q hq => Int.le_of_lt (h.app.2.2.1 q hq))]
  have : hi p.1 B = B := hi_all h.app.2.2.2
  simp only [List.nil_append]
  show hi p.1 (p :: B) = B
  rw [← this]; simp [hi]
theorem dat_less (hx : x < p.1) : dat x (A ++ p :: B) = dat x A := by
  have h2 : (p :: B).find? (fun q => decide (q.1 = x)) = none := by
    rw [List.find?_eq_none]
    intro q hq
    rcases List.mem_cons.1 hq with rfl | hq
    · simp; omega
    · have := h.app.2.2.2 q hq; simp; omega
  simp [dat, List.find?_append, h2]
theorem dat_more (hx : p.1 < x) : dat x (A ++ p :: B) = dat x B := by
  have h2 : A.find? (fun q => decide (q.1 = x)) = none := by
    rw [List.find?_eq_none]
    intro q hq
    have := h.app.2.2.1 q hq; simp; omega
  have : ¬ p.1 = x := by omega
  simp [dat, h2, this]
theorem dat_here (hx : x = p.1) : dat x (A ++ p :: B) = p.2 := by
  have h2 : A.find? (fun q => decide (q.1 = x)) = none := by
    rw [List.find?_eq_none]
    intro q hq
    have := h.app.2.2.1 q hq; simp; omega
  unfold dat
  rw [List.find?_append, h2]
  simp [hx]
end

/- rotations -/
/-- The left side is high, and its own left side not lower than its right one. -/
theorem rot_left1 {a al : Nd} {ll lr r : BT Nd} (hl : Avl ll) (hr : Avl lr) (h : Avl r) (h1 : ht lr ≤ ht ll) (h2 : ht ll ≤ ht lr + 1) (h3 : ht ll = ht r + 1) (b bl : Nat) (ha hal : Int)
    (e1 : ha = 1 + max (sh lr) (sh r)) (e2 : hal = 1 + max ha (sh ll)) :
    Avl (.node bl 0 { al with h := hal } ll (.node b 0 { a with h := ha } lr r)) ∧
      (ht (.node bl 0 { al with h := hal } ll (.node b 0 { a with h := ha } lr r)) = ht ll + 1 ∨ ht (.node bl 0 { al with h := hal } ll (.node b 0 { a with h := ha } lr r)) = ht ll + 2) := by
  rw [hl.sh] at e2
  rw [hr.sh, h.sh] at e1
  simp only [Avl, ht, hl, hr, h, true_and]
  omega

theorem rot_left2 {a al ac : Nd} {ll cl cr r : BT Nd} (hl : Avl ll) (h1 : Avl cl) (h2 : Avl cr) (h : Avl r) (h3 : ht cl ≤ ht cr + 1) (h4 : ht cr ≤ ht cl + 1)
    (h5 : 1 + max (ht cl) (ht cr) = ht ll + 1) (h6 : ht ll = ht r) (b bl c : Nat) (ha hal hc : Int)
    (e1 : hal = 1 + max (sh cl) (sh ll)) (e2 : ha = 1 + max (sh cr) (sh r)) (e3 : hc = 1 + max ha hal) :
    Avl (.node c 0 { ac with h := hc } (.node bl 0 { al with h := hal } ll cl) (.node b 0 { a with h := ha } cr r)) ∧
      ht (.node c 0 { ac with h := hc } (.node bl 0 { al with h := hal } ll cl) (.node b 0 { a with h := ha } cr r)) = ht ll + 2 := by
  rw [hl.sh, h1.sh] at e1
  rw [h2.sh, h.sh] at e2
  simp only [Avl, ht, hl, h1, h2, h, true_and]
  omega

theorem rot_right1 {a ar : Nd} {l rl rr : BT Nd} (hl : Avl l) (h1 : Avl rl) (h2 : Avl rr) (h3 : ht rl ≤ ht rr) (h4 : ht rr ≤ ht rl + 1) (h5 : ht rr = ht l + 1) (b br : Nat) (ha har : Int)
    (e1 : ha = 1 + max (sh rl) (sh l)) (e2 : har = 1 + max ha (sh rr)) :
    Avl (.node br 0 { ar with h := har } (.node b 0 { a with h := ha } l rl) rr) ∧
      (ht (.node br 0 { ar with h := har } (.node b 0 { a with h := ha } l rl) rr) = ht rr + 1 ∨ ht (.node br 0 { ar with h := har } (.node b 0 { a with h := ha } l rl) rr) = ht rr + 2) := by
  rw [hl.sh, h1.sh] at e1
  rw [h2.sh] at e2
  simp only [Avl, ht, hl, h1, h2, true_and]
  omega

theorem rot_right2 {a ar ac : Nd} {l cl cr rr : BT Nd} (hl : Avl l) (h1 : Avl cl) (h2 : Avl cr) (h : Avl rr) (h3 : ht cl ≤ ht cr + 1) (h4 : ht cr ≤ ht cl + 1)
    (h5 : 1 + max (ht cl) (ht cr) = ht rr + 1) (h6 : ht rr = ht l) (b br c : Nat) (ha har hc : Int)
    (e1 : har = 1 + max (sh cr) (sh rr)) (e2 : ha = 1 + max (sh cl) (sh l)) (e3 : hc = 1 + max ha har) :
    Avl (.node c 0 { ac with h := hc } (.node b 0 { a with h := ha } l cl) (.node br 0 { ar with h := har } cr rr)) ∧
      ht (.node c 0 { ac with h := hc } (.node b 0 { a with h := ha } l cl) (.node br 0 { ar with h := har } cr rr)) = ht rr + 2 := by
  rw [hl.sh, h1.sh] at e2
  rw [h2.sh, h.sh] at e1
  simp only [Avl, ht, hl, h1, h2, h, true_and]
  omega

/- insertion -/
structure Ins (x : Int) (t t' : BT Nd) : Prop where
  avl : Avl t'
  hgt : ht t' = ht t ∨ ht t' = ht t + 1
  ps : prs t' = lo x (prs t) ++ (x, dat x (prs t)) :: hi x (prs t)

/-- What a side that was too high by one is turned into. -/
structure Rot (t t' : BT Nd) : Prop where
  avl : Avl t'
  hgt : ht t' = ht t ∨ ht t' + 1 = ht t
  ps : prs t' = prs t

theorem Ins.here {b o : Nat} {a : Nd} {l r : BT Nd} (b' : Nat) (ha : Avl (.node b o a l r)) (hs : Srt (prs (.node b o a l r))) : Ins a.k (.node b o a l r) (.node b' 0 a l r) := by
  refine ⟨ha, .inl rfl, ?_⟩
  simp only [prs] at hs ⊢
  rw [lo_here hs rfl, hi_here hs rfl, dat_here hs rfl]

section
variable {x : Int} {b o b' : Nat} {a : Nd} {h : Int} {l r l' r' t' : BT Nd} (ha : Avl (.node b o a l r)) (hs : Srt (prs (.node b o a l r)))
include ha hs

theorem Ins.left (hx : x < a.k) (hi : Ins x l l') (hle : ht l' ≤ ht r + 1) (e : h = 1 + max (sh l') (sh r)) : Ins x (.node b o a l r) (.node b' 0 { a with h := h } l' r) := by
  obtain ⟨h1, h2, h3, h4, _⟩ := ha
  obtain ⟨i1, i2, i3⟩ := hi
  rw [i1.sh, h2.sh] at e
  simp only [prs] at hs
  refine ⟨⟨i1, h2, by omega, by omega, by simp only [ht]; omega⟩, by simp only [ht]; omega, ?_⟩
  simp only [prs]
  rw [lo_less hs hx, hi_less hs hx, dat_less hs hx, i3]
  simp

theorem Ins.left_rot (hx : x < a.k) (hi : Ins x l l') (hgt : ht r + 1 < ht l') {h : Int} (hr : Rot (.node b' 0 { a with h := h } l' r) t') : Ins x (.node b o a l r) t' := by
  obtain ⟨h1, h2, h3, h4, _⟩ := ha
  obtain ⟨i1, i2, i3⟩ := hi
  obtain ⟨r1, r2, r3⟩ := hr
  simp only [prs] at hs
  simp only [ht] at r2
  refine ⟨r1, by simp only [ht]; omega, ?_⟩
  rw [r3]
  simp only [prs]
  rw [lo_less hs hx, hi_less hs hx, dat_less hs hx, i3]
  simp

theorem Ins.right (hx : a.k < x) (hi : Ins x r r') (hle : ht r' ≤ ht l + 1) (e : h = 1 + max (sh l) (sh r')) : Ins x (.node b o a l r) (.node b' 0 { a with h := h } l r') := by
  obtain ⟨h1, h2, h3, h4, _⟩ := ha
  obtain ⟨i1, i2, i3⟩ := hi
  rw [i1.sh, h1.sh] at e
  simp only [prs] at hs
  refine ⟨⟨h1, i1, by omega, by omega, by simp only [ht]; omega⟩, by simp only [ht]; omega, ?_⟩
  simp only [prs]
  rw [lo_more hs hx, hi_more hs hx, dat_more hs hx, i3]
  simp

theorem Ins.right_rot (hx : a.k < x) (hi : Ins x r r') (hgt : ht l + 1 < ht r') {h : Int} (hr : Rot (.node b' 0 { a with h := h } l r') t') : Ins x (.node b o a l r) t' := by
  obtain ⟨h1, h2, h3, h4, _⟩ := ha
  obtain ⟨i1, i2, i3⟩ := hi
  obtain ⟨r1, r2, r3⟩ := hr
  simp only [prs] at hs
  simp only [ht] at r2
  refine ⟨r1, by simp only [ht]; omega, ?_⟩
  rw [r3]
  simp only [prs]
  rw [lo_more hs hx, hi_more hs hx, dat_more hs hx, i3]
  simp
end

theorem lo_nil (x : Int) : lo x [] = [] := rfl
theorem hi_nil (x : Int) : hi x [] = [] := rfl
theorem dat_nil (x : Int) : dat x [] = none := rfl

/-- A new leaf on the empty left side. -/
theorem Ins.leaf_left {x : Int} {b o b' bn : Nat} {a : Nd} {r : BT Nd} (ha : Avl (.node b o a .nil r)) (hs : Srt (prs (.node b o a .nil r))) (hx : x < a.k) :
    Ins x (.node b o a .nil r) (.node b' 0 { a with h := 2 } (.node bn 0 ⟨x, none, 1⟩ .nil .nil) r) := by
  have hl : Ins x .nil (.node bn 0 ⟨x, none, 1⟩ .nil .nil) := ⟨by simp [Avl, ht], .inr (by simp [ht]), by simp [prs, lo_nil, hi_nil, dat_nil]⟩
  have h3 := ha.2.2.2.1
  have h2 := ha.2.1
  have h4 : ht r ≤ 1 := by simpa [ht] using h3
  refine Ins.left ha hs hx hl (by simp [ht]) ?_
  rw [h2.sh]; simp [sh]; omega
theorem Ins.leaf_right {x : Int} {b o b' bn : Nat} {a : Nd} {l : BT Nd} (ha : Avl (.node b o a l .nil)) (hs : Srt (prs (.node b o a l .nil))) (hx : a.k < x) :
    Ins x (.node b o a l .nil) (.node b' 0 { a with h := 2 } l (.node bn 0 ⟨x, none, 1⟩ .nil .nil)) := by
  have hl : Ins x .nil (.node bn 0 ⟨x, none, 1⟩ .nil .nil) := ⟨by simp [Avl, ht], .inr (by simp [ht]), by simp [prs, lo_nil, hi_nil, dat_nil]⟩
  have h3 := ha.2.2.1
  have h2 := ha.1
  have h4 : ht l ≤ 1 := by simpa [ht] using h3
  refine Ins.right ha hs hx hl (by simp [ht]) ?_
  rw [h2.sh]; simp [sh]; omega

theorem Ins.srt {x : Int} {t t' : BT Nd} (h : Ins x t t') (hs : Srt (prs t)) : Srt (prs t') := by
  rw [h.ps]; exact hs.put

/- deletion -/
structure Del (t t' : BT Nd) (L : List (Int × Option Int)) : Prop where
  avl : Avl t'
  hgt : ht t' = ht t ∨ ht t' + 1 = ht t
  ps : prs t' = L

section
variable {b o b' : Nat} {a a' : Nd} {l r l' r' t' : BT Nd} {L : List (Int × Option Int)} (ha : Avl (.node b o a l r))
include ha
/-- The left side has lost a node; the node's height is what it was. -/
theorem Del.left_same (hd : Del l l' L) (h : ht l = ht l' ∨ ht l = ht r) (e : a'.h = a.h) : Del (.node b o a l r) (.node b' 0 a' l' r) (L ++ (a'.k, a'.d) :: prs r) := by
  obtain ⟨h1, h2, h3, h4, h5⟩ := ha
  obtain ⟨d1, d2, d3⟩ := hd
  simp only [ht] at h5
  refine ⟨⟨d1, h2, by omega, by omega, by simp only [ht]; omega⟩, by simp only [ht]; omega, by simp only [prs]; rw [d3]⟩
theorem Del.left_less (hd : Del l l' L) (h : ht l ≠ ht l') (h' : ht r < ht l) (e : a'.h = a.h - 1) : Del (.node b o a l r) (.node b' 0 a' l' r) (L ++ (a'.k, a'.d) :: prs r) := by
  obtain ⟨h1, h2, h3, h4, h5⟩ := ha
  obtain ⟨d1, d2, d3⟩ := hd
  simp only [ht] at h5
  refine ⟨⟨d1, h2, by omega, by omega, by simp only [ht]; omega⟩, by simp only [ht]; omega, by simp only [prs]; rw [d3]⟩
theorem Del.left_rot (hd : Del l l' L) (h' : ht l < ht r) {r2 : BT Nd} (er : ht r2 = ht r) (ep : prs r2 = prs r) (hr : Rot (.node b' 0 a' l' r2) t') : Del (.node b o a l r) t' (L ++ (a'.k, a'.d) :: prs r) := by
  obtain ⟨h1, h2, h3, h4, h5⟩ := ha
  obtain ⟨d1, d2, d3⟩ := hd
  obtain ⟨r1, r2, r3⟩ := hr
  simp only [ht] at r2
  refine ⟨r1, by simp only [ht]; omega, by rw [r3]; simp only [prs]; rw [d3, ep]⟩
theorem Del.right_same (hd : Del r r' L) (h : ht r = ht r' ∨ ht r = ht l) (e : a'.h = a.h) : Del (.node b o a l r) (.node b' 0 a' l r') (prs l ++ (a'.k, a'.d) :: L) := by
  obtain ⟨h1, h2, h3, h4, h5⟩ := ha
  obtain ⟨d1, d2, d3⟩ := hd
  simp only [ht] at h5
  refine ⟨⟨h1, d1, by omega, by omega, by simp only [ht]; omega⟩, by simp only [ht]; omega, by simp only [prs]; rw [d3]⟩
theorem Del.right_less (hd : Del r r' L) (h : ht r ≠ ht r') (h' : ht l < ht r) (e : a'.h = a.h - 1) : Del (.node b o a l r) (.node b' 0 a' l r') (prs l ++ (a'.k, a'.d) :: L) := by
  obtain ⟨h1, h2, h3, h4, h5⟩ := ha
  obtain ⟨d1, d2, d3⟩ := hd
  simp only [ht] at h5
  refine ⟨⟨h1, d1, by omega, by omega, by simp only [ht]; omega⟩, by simp only [ht]; omega, by simp only [prs]; rw [d3]⟩
theorem Del.right_rot (hd : Del r r' L) (h' : ht r < ht l) {l2 : BT Nd} (er : ht l2 = ht l) (ep : prs l2 = prs l) (hr : Rot (.node b' 0 a' l2 r') t') : Del (.node b o a l r) t' (prs l ++ (a'.k, a'.d) :: L) := by
  obtain ⟨h1, h2, h3, h4, h5⟩ := ha
  obtain ⟨d1, d2, d3⟩ := hd
  obtain ⟨r1, r2, r3⟩ := hr
  simp only [ht] at r2
  refine ⟨r1, by simp only [ht]; omega, by rw [r3]; simp only [prs]; rw [d3, ep]⟩
end

/- the least number of nodes -/
def lst : Nat → Nat
  | 0 => 0
  | 1 => 1
  | n + 2 => lst n + lst (n + 1) + 1

theorem lst_mono {a b : Nat} (h : a ≤ b) : lst a ≤ lst b := by
  have step : ∀ n, lst n ≤ lst (n + 1) := by
    intro n
    cases n with
    | zero => simp [lst]
    | succ n => simp only [lst]; omega
  induction h with
  | refl => exact Nat.le_refl _
  | step _ ih => exact Nat.le_trans ih (step _)

theorem Avl.lst_le : ∀ {t : BT Nd}, Avl t → lst (ht t) ≤ (prs t).length
  | .nil, _ => by simp [lst, ht, prs]
  | .node b o a l r, h => by
    obtain ⟨h1, h2, h3, h4, _⟩ := h
    have il := Avl.lst_le h1
    have ir := Avl.lst_le h2
    simp only [ht, prs, List.length_append, List.length_cons]
    rcases Nat.lt_or_ge (ht l) (ht r) with hlt | hge
    · have e : 1 + max (ht l) (ht r) = ht l + 2 := by omega
      have er : ht r = ht l + 1 := by omega
      rw [e]; rw [er] at ir; simp only [lst]; omega
    · rcases Nat.eq_or_lt_of_le hge with heq | hgt
      · have e : 1 + max (ht l) (ht r) = ht l + 1 := by omega
        rw [e]
        cases hl : ht l with
        | zero => simp [lst]; omega
        | succ n =>
          have : lst n ≤ lst (n + 1) := lst_mono (by omega)
          rw [hl] at il; rw [heq, hl] at ir
          simp only [lst]; omega
      · have e : 1 + max (ht l) (ht r) = ht r + 2 := by omega
        have er : ht l = ht r + 1 := by omega
        rw [e]; rw [er] at il; simp only [lst]; omega

theorem lst_40 : 300000 < lst 40 := by decide +kernel
/-- A balanced tree of few nodes is low. -/
theorem Avl.low {t : BT Nd} (h : Avl t) (hn : (prs t).length ≤ 300000) : ht t < 40 := by
  rcases Nat.lt_or_ge (ht t) 40 with h1 | h1
  · exact h1
  · have := h.lst_le; have := lst_mono h1; have := lst_40; omega

end Go.Proofs.Ytahghidbadpkeaa
