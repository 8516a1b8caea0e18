/- Plain laws of height-balanced search trees: heights, rotations, insertion and deletion of a pair, and the least number of nodes. No program in sight. -/
import Derived.Deep.Trees
namespace Go.Proofs.Ytahghidbadpkeaa
open Go.Deep

/-- What a node bears: its key, its data (none: nil), the height that it tells. -/
structure Nd where
  k : Int
  d : Option Int
  h : Int

/-- The pointer to a tree's root. -/
def pt : BT Nd → Option Addr
  | .nil => none
  | .node b _ _ _ _ => some ⟨b, 0, none⟩

def ht : BT Nd → Nat
  | .nil => 0
  | .node _ _ _ l r => 1 + max (ht l) (ht r)

/-- The height that the root tells. -/
def sh : BT Nd → Int
  | .nil => 0
  | .node _ _ a _ _ => a.h

def prs : BT Nd → List (Int × Option Int)
  | .nil => []
  | .node _ _ a l r => prs l ++ (a.k, a.d) :: prs r

def blks : BT Nd → List Nat
  | .nil => []
  | .node b _ _ l r => b :: (blks l ++ blks r)

def Avl : BT Nd → Prop
  | .nil => True
  | .node _ _ a l r => Avl l ∧ Avl r ∧ ht l ≤ ht r + 1 ∧ ht r ≤ ht l + 1 ∧ a.h = (ht (.node 0 0 a l r) : Nat)

theorem Avl.sh {t : BT Nd} (h : Avl t) : sh t = (ht t : Int) := by
  cases t with
  | nil => rfl
  | node b o a l r => exact h.2.2.2.2

/-- Keys ascend. -/
def Srt (L : List (Int × Option Int)) : Prop := L.Pairwise (fun a b => a.1 < b.1)

def lo (x : Int) (L : List (Int × Option Int)) : List (Int × Option Int) := L.filter (fun p => decide (p.1 < x))
def hi (x : Int) (L : List (Int × Option Int)) : List (Int × Option Int) := L.filter (fun p => decide (x < p.1))
/-- The data of a key; none where there is none. -/
def dat (x : Int) (L : List (Int × Option Int)) : Option Int := ((L.find? (fun p => decide (p.1 = x))).map (·.2)).getD none

theorem Srt.app {A B : List (Int × Option Int)} {p : Int × Option Int} (h : Srt (A ++ p :: B)) :
    Srt A ∧ Srt B ∧ (∀ q ∈ A, q.1 < p.1) ∧ (∀ q ∈ B, p.1 < q.1) := by
  obtain ⟨h1, h2, h3⟩ := List.pairwise_append.1 h
  obtain ⟨h4, h5⟩ := List.pairwise_cons.1 h2
  exact ⟨h1, h5, fun q hq => h3 q hq p (List.mem_cons_self ..), h4⟩

theorem Srt.mk {A B : List (Int × Option Int)} {p : Int × Option Int} (h1 : Srt A) (h2 : Srt B) (h3 : ∀ q ∈ A, q.1 < p.1) (h4 : ∀ q ∈ B, p.1 < q.1) : Srt (A ++ p :: B) :=
  List.pairwise_append.2 ⟨h1, List.pairwise_cons.2 ⟨h4, h2⟩, fun q hq r hr => by
    rcases List.mem_cons.1 hr with rfl | hr
    · exact h3 q hq
    · exact Int.lt_trans (h3 q hq) (h4 r hr)⟩

theorem lo_all {x : Int} {L : List (Int × Option Int)} (h : ∀ q ∈ L, q.1 < x) : lo x L = L := by
  unfold lo; rw [List.filter_eq_self]; intro q hq; simpa using h q hq
theorem lo_none {x : Int} {L : List (Int × Option Int)} (h : ∀ q ∈ L, x ≤ q.1) : lo x L = [] := by
  unfold lo; rw [List.filter_eq_nil_iff]; intro q hq; have := h q hq; simp; omega
theorem hi_all {x : Int} {L : List (Int × Option Int)} (h : ∀ q ∈ L, x < q.1) : hi x L = L := by
  unfold hi; rw [List.filter_eq_self]; intro q hq; simpa using h q hq
theorem hi_none {x : Int} {L : List (Int × Option Int)} (h : ∀ q ∈ L, q.1 ≤ x) : hi x L = [] := by
  unfold hi; rw [List.filter_eq_nil_iff]; intro q hq; have := h q hq; simp; omega
theorem lo_app (x : Int) (A B : List (Int × Option Int)) : lo x (A ++ B) = lo x A ++ lo x B := by simp [lo]
theorem hi_app (x : Int) (A B : List (Int × Option Int)) : hi x (A ++ B) = hi x A ++ hi x B := by simp [hi]
theorem mem_lo {x : Int} {L : List (Int × Option Int)} {p : Int × Option Int} : p ∈ lo x L ↔ p ∈ L ∧ p.1 < x := by simp [lo]
theorem mem_hi {x : Int} {L : List (Int × Option Int)} {p : Int × Option Int} : p ∈ hi x L ↔ p ∈ L ∧ x < p.1 := by simp [hi]

theorem Srt.low {x : Int} {L : List (Int × Option Int)} (h : Srt L) : Srt (lo x L) := List.Pairwise.filter _ h
theorem Srt.high {x : Int} {L : List (Int × Option Int)} (h : Srt L) : Srt (hi x L) := List.Pairwise.filter _ h
theorem Srt.put {x : Int} {d : Option Int} {L : List (Int × Option Int)} (h : Srt L) : Srt (lo x L ++ (x, d) :: hi x L) :=
  Srt.mk h.low h.high (fun _ hq => (mem_lo.1 hq).2) (fun _ hq => (mem_hi.1 hq).2)
theorem Srt.drop {x : Int} {L : List (Int × Option Int)} (h : Srt L) : Srt (lo x L ++ hi x L) :=
  List.pairwise_append.2 ⟨h.low, h.high, fun _ hq _ hr => Int.lt_trans (mem_lo.1 hq).2 (mem_hi.1 hr).2⟩

/- lo, hi and dat over a node -/
section
variable {x : Int} {A B : List (Int × Option Int)} {p : Int × Option Int} (h : Srt (A ++ p :: B))
include h
theorem lo_less (hx : x < p.1) : lo x (A ++ p :: B) = lo x A := by
  rw [lo_app, lo_none (L := p :: B), List.append_nil]
  intro q hq
  rcases List.mem_cons.1 hq with rfl | hq
  · omega
  · have := h.app.2.2.2 q hq; omega
theorem hi_less (hx : x < p.1) : hi x (A ++ p :: B) = hi x A ++ p :: B := by
  rw [hi_app, hi_all (L := p :: B)]
  intro q hq
  rcases List.mem_cons.1 hq with rfl | hq
  · omega
  · have := h.app.2.2.2 q hq; omega
theorem lo_more (hx : p.1 < x) : lo x (A ++ p :: B) = A ++ p :: lo x B := by
  rw [lo_app, lo_all (L := A) (fun q hq => by have := h.app.2.2.1 q hq; omega)]
  simp [lo, hx]
theorem hi_more (hx : p.1 < x) : hi x (A ++ p :: B) = hi x B := by
  rw [hi_app, hi_none (L := A) (fun q hq => by have := h.app.2.2.1 q hq; omega)]
  have : ¬ x < p.1 := by omega
  simp [hi, this]
theorem lo_here (hx : x = p.1) : lo x (A ++ p :: B) = A := by
  subst hx
  rw [lo_app, lo_all h.app.2.2.1, lo_none (L := p :: B), List.append_nil]
  intro q hq
  rcases List.mem_cons.1 hq with rfl | hq
  · exact Int.le_refl _
  · exact Int.le_of_lt (h.app.2.2.2 q hq)
theorem hi_here (hx : x = p.1) : hi x (A ++ p :: B) = B := by
  subst hx
  rw [hi_app, hi_none (L := A) (fun q hq => Int.le_of_lt (h.app.2.2.1 q hq))]
  have : hi p.1 B = B := hi_all h.app.2.2.2
  simp only [List.nil_append]
  show hi p.1 (p :: B) = B
  rw [← this]; simp [hi]
theorem dat_less (hx : x < p.1) : dat x (A ++ p :: B) = dat x A := by
  have h2 : (p :: B).find? (fun q => decide (q.1 = x)) = none := by
    rw [List.find?_eq_none]
    intro q hq
    rcases List.mem_cons.1 hq with rfl | hq
    · simp; omega
    · have := h.app.2.2.2 q hq; simp; omega
  simp [dat, List.find?_append, h2]
theorem dat_more (hx : p.1 < x) : dat x (A ++ p :: B) = dat x B := by
  have h2 : A.find? (fun q => decide (q.1 = x)) = none := by
    rw [List.find?_eq_none]
    intro q hq
    have := h.app.2.2.1 q hq; simp; omega
  have : ¬ p.1 = x := by omega
  simp [dat, h2, this]
theorem dat_here (hx : x = p.1) : dat x (A ++ p :: B) = p.2 := by
  have h2 : A.find? (fun q => decide (q.1 = x)) = none := by
    rw [List.find?_eq_none]
    intro q hq
    have := h.app.2.2.1 q hq; simp; omega
  unfold dat
  rw [List.find?_append, h2]
  simp [hx]
end

/- the tree without its places -/
/-- The tree, its blocks forgotten: what of it does not depend on where it lies. -/
def er : BT Nd → BT Nd
  | .nil => .nil
  | .node _ _ a l r => .node 0 0 a (er l) (er r)
theorem prs_er : ∀ t : BT Nd, prs (er t) = prs t
  | .nil => rfl
  | .node b o a l r => by simp only [er, prs, prs_er l, prs_er r]
theorem ht_er : ∀ t : BT Nd, ht (er t) = ht t
  | .nil => rfl
  | .node b o a l r => by simp only [er, ht, ht_er l, ht_er r]
theorem sh_er (t : BT Nd) : sh (er t) = sh t := by cases t <;> rfl
theorem er_er : ∀ t : BT Nd, er (er t) = er t
  | .nil => rfl
  | .node b o a l r => by simp only [er, er_er l, er_er r]
theorem avl_er : ∀ {t : BT Nd}, Avl t → Avl (er t)
  | .nil, _ => trivial
  | .node b o a l r, h => by
    obtain ⟨h1, h2, h3, h4, h5⟩ := h
    refine ⟨avl_er h1, avl_er h2, by rw [ht_er, ht_er]; exact h3, by rw [ht_er, ht_er]; exact h4, ?_⟩
    simp only [ht, ht_er] at h5 ⊢
    exact h5

/-- leftToRoot, rightToRoot. -/
def ltrE (a : Nd) (r : BT Nd) : BT Nd → BT Nd
  | .nil => .nil
  | .node _ _ al ll lr => .node 0 0 { al with h := 1 + max (1 + max (sh lr) (sh r)) (sh ll) } ll (.node 0 0 { a with h := 1 + max (sh lr) (sh r) } lr r)
def rtrE (a : Nd) (l : BT Nd) : BT Nd → BT Nd
  | .nil => .nil
  | .node _ _ ar rl rr => .node 0 0 { ar with h := 1 + max (1 + max (sh rl) (sh l)) (sh rr) } (.node 0 0 { a with h := 1 + max (sh rl) (sh l) } l rl) rr
/-- aLeftIsHigh, aRightIsHigh. -/
def hiL (a : Nd) (r : BT Nd) : BT Nd → BT Nd
  | .nil => .nil
  | .node _ _ al ll lr => if sh ll < sh lr then ltrE a r (rtrE al ll lr) else ltrE a r (.node 0 0 al ll lr)
def hiR (a : Nd) (l : BT Nd) : BT Nd → BT Nd
  | .nil => .nil
  | .node _ _ ar rl rr => if sh rr < sh rl then rtrE a l (ltrE ar rr rl) else rtrE a l (.node 0 0 ar rl rr)
/-- What a node whose one side is too high is turned into. -/
def fixE : BT Nd → BT Nd
  | .nil => .nil
  | .node _ _ a l r => if ht r < ht l then hiL a r l else hiR a l r
theorem ltrE_h (a : Nd) (h : Int) (r l : BT Nd) : ltrE { a with h := h } r l = ltrE a r l := by cases l <;> rfl
theorem rtrE_h (a : Nd) (h : Int) (l r : BT Nd) : rtrE { a with h := h } l r = rtrE a l r := by cases r <;> rfl
theorem fixE_h (a : Nd) (h : Int) (l r : BT Nd) : fixE (.node 0 0 { a with h := h } l r) = fixE (.node 0 0 a l r) := by
  simp only [fixE]
  split
  · cases l with
    | nil => rfl
    | node => simp only [hiL, ltrE_h]
  · cases r with
    | nil => rfl
    | node => simp only [hiR, rtrE_h]
/-- aInsert. -/
def insE (x : Int) : BT Nd → BT Nd
  | .nil => .node 0 0 ⟨x, none, 1⟩ .nil .nil
  | .node _ _ a l r =>
    if x < a.k then
      if ht r + 1 < ht (insE x l) then fixE (.node 0 0 a (insE x l) r) else .node 0 0 { a with h := 1 + max (sh (insE x l)) (sh r) } (insE x l) r
    else if a.k < x then
      if ht l + 1 < ht (insE x r) then fixE (.node 0 0 a l (insE x r)) else .node 0 0 { a with h := 1 + max (sh l) (sh (insE x r)) } l (insE x r)
    else .node 0 0 a l r
/-- aRebalanceAfterLeftDeletion, aRebalanceAfterRightDeletion. -/
def rebLE (oh : Nat) (a : Nd) (l r : BT Nd) : BT Nd :=
  if oh = ht l ∨ oh = ht r then .node 0 0 a l r else if ht r < oh then .node 0 0 { a with h := a.h - 1 } l r else fixE (.node 0 0 a l r)
def rebRE (oh : Nat) (a : Nd) (l r : BT Nd) : BT Nd :=
  if oh = ht r ∨ oh = ht l then .node 0 0 a l r else if ht l < oh then .node 0 0 { a with h := a.h - 1 } l r else fixE (.node 0 0 a l r)
/-- A deletion, by the pairs that are left. -/
def DelE : BT Nd → List (Int × Option Int) → BT Nd → Prop
  | .nil, _, _ => False
  | .node _ _ a l r, L, e' =>
    (l = .nil ∧ L = prs r ∧ e' = r) ∨ (r = .nil ∧ L = prs l ∧ e' = l) ∨
    (∃ (a' : Nd) (l' : BT Nd) (L' : List (Int × Option Int)), DelE l L' l' ∧ a'.h = a.h ∧ ((a'.k = a.k ∧ a'.d = a.d) ∨ ht r < ht l) ∧ L = L' ++ (a'.k, a'.d) :: prs r ∧ e' = rebLE (ht l) a' l' r) ∨
    (∃ (a' : Nd) (r' : BT Nd) (L' : List (Int × Option Int)), DelE r L' r' ∧ a'.h = a.h ∧ ((a'.k = a.k ∧ a'.d = a.d) ∨ ht l ≤ ht r) ∧ L = prs l ++ (a'.k, a'.d) :: L' ∧ e' = rebRE (ht r) a' l r')
theorem DelE.len : ∀ {e : BT Nd} {L : List (Int × Option Int)} {e' : BT Nd}, DelE e L e' → L.length + 1 = (prs e).length
  | .nil, _, _, h => h.elim
  | .node _ _ a l r, L, e', h => by
    rcases h with ⟨rfl, rfl, _⟩ | ⟨rfl, rfl, _⟩ | ⟨a', l', L', h1, _, _, rfl, _⟩ | ⟨a', l', L', h1, _, _, rfl, _⟩
    · simp [prs]
    · simp [prs]
    · have := DelE.len h1
      simp only [prs, List.length_append, List.length_cons]; omega
    · have := DelE.len h1
      simp only [prs, List.length_append, List.length_cons]; omega
theorem ht_one {t : BT Nd} (h : ht t ≤ 1) (hn : prs t ≠ []) : ∃ b o a, t = .node b o a .nil .nil := by
  cases t with
  | nil => exact absurd rfl hn
  | node b o a l r =>
    simp only [ht] at h
    cases l with
    | nil =>
      cases r with
      | nil => exact ⟨b, o, a, rfl⟩
      | node => simp only [ht] at h; omega
    | node => simp only [ht] at h; omega
theorem rebLE_one (c a : Nd) (h : a.h = 2) : rebLE (ht (.node 0 0 c .nil .nil)) a .nil .nil = .node 0 0 ⟨a.k, a.d, 1⟩ .nil .nil := by
  simp [rebLE, ht, h]
theorem rebRE_one (c a : Nd) (h : a.h = 2) : rebRE (ht (.node 0 0 c .nil .nil)) a .nil .nil = .node 0 0 ⟨a.k, a.d, 1⟩ .nil .nil := by
  simp [rebRE, ht, h]
theorem DelE.uniq : ∀ {e : BT Nd} {L : List (Int × Option Int)} {e1 e2 : BT Nd}, DelE e L e1 → DelE e L e2 → er e = e → Avl e → Srt (prs e) → e1 = e2
  | .nil, _, _, _, h, _, _, _, _ => h.elim
  | .node b o a l r, L, e1, e2, h1, h2, he, ha, hs => by
    simp only [er, BT.node.injEq] at he
    obtain ⟨rfl, rfl, _, hel, her⟩ := he
    obtain ⟨al, ar, g1, g2, g3⟩ := ha
    simp only [prs] at hs
    obtain ⟨sl, sr, s3, s4⟩ := hs.app
    rcases h1 with ⟨rfl, rfl, rfl⟩ | ⟨rfl, rfl, rfl⟩ | ⟨a1, l1, L1, d1, q1, w1, rfl, rfl⟩ | ⟨a1, r1, L1, d1, q1, w1, rfl, rfl⟩
    · rcases h2 with ⟨_, _, rfl⟩ | ⟨rfl, _, rfl⟩ | ⟨a2, l2, L2, d2, _⟩ | ⟨a2, r2, L2, d2, q2, w2, e, rfl⟩
      · rfl
      · rfl
      · exact d2.elim
      · simp only [prs, List.nil_append] at e
        simp only [ht] at g2 g3
        obtain ⟨b', o', c, rfl⟩ := ht_one (t := e1) (by omega) (by rw [e]; simp)
        simp only [er, BT.node.injEq] at her
        obtain ⟨rfl, rfl, _⟩ := her
        simp only [prs, List.nil_append, List.cons.injEq, Prod.mk.injEq] at e
        obtain ⟨⟨k1, k2⟩, rfl⟩ := e
        have : r2 = .nil := by
          rcases d2 with ⟨_, _, rfl⟩ | ⟨_, _, rfl⟩ | ⟨_, _, _, d2, _⟩ | ⟨_, _, _, d2, _⟩
          · rfl
          · rfl
          · exact d2.elim
          · exact d2.elim
        subst this
        have hc : c.h = 1 := ar.2.2.2.2
        rw [rebRE_one c a2 (by rw [q2, g3]; rfl)]
        obtain ⟨ck, cd, ch⟩ := c
        simp only at hc
        subst hc
        simp only at k1 k2
        rw [k1, k2]
    · rcases h2 with ⟨rfl, _, rfl⟩ | ⟨_, _, rfl⟩ | ⟨a2, l2, L2, d2, q2, w2, e, rfl⟩ | ⟨a2, r2, L2, d2, _⟩
      · rfl
      · rfl
      · simp only [prs] at e
        simp only [ht] at g1 g3
        obtain ⟨b', o', c, rfl⟩ := ht_one (t := e1) (by omega) (by rw [e]; simp)
        simp only [er, BT.node.injEq] at hel
        obtain ⟨rfl, rfl, _⟩ := hel
        have hL : L2 = [] := by
          have := congrArg List.length e
          simp only [prs, List.nil_append, List.length_append, List.length_cons, List.length_nil] at this
          exact List.eq_nil_of_length_eq_zero (by omega)
        subst hL
        simp only [prs, List.nil_append, List.cons.injEq, Prod.mk.injEq] at e
        obtain ⟨⟨k1, k2⟩, _⟩ := e
        have : l2 = .nil := by
          rcases d2 with ⟨_, _, rfl⟩ | ⟨_, _, rfl⟩ | ⟨_, _, _, d2, _⟩ | ⟨_, _, _, d2, _⟩
          · rfl
          · rfl
          · exact d2.elim
          · exact d2.elim
        subst this
        have hc : c.h = 1 := al.2.2.2.2
        rw [rebLE_one c a2 (by rw [q2, g3]; rfl)]
        obtain ⟨ck, cd, ch⟩ := c
        simp only at hc
        subst hc
        simp only at k1 k2
        rw [k1, k2]
      · exact d2.elim
    · have n1 := d1.len
      rcases h2 with ⟨rfl, e, rfl⟩ | ⟨rfl, e, rfl⟩ | ⟨a2, l2, L2, d2, q2, w2, e, rfl⟩ | ⟨a2, r2, L2, d2, q2, w2, e, rfl⟩
      · exact d1.elim
      · simp only [prs] at e
        simp only [ht] at g1 g3
        obtain ⟨b', o', c, rfl⟩ := ht_one (t := e2) (by omega) (by rw [← e]; simp)
        simp only [er, BT.node.injEq] at hel
        obtain ⟨rfl, rfl, _⟩ := hel
        have hL : L1 = [] := by
          have := congrArg List.length e
          simp only [prs, List.nil_append, List.length_append, List.length_cons, List.length_nil] at this
          exact List.eq_nil_of_length_eq_zero (by omega)
        subst hL
        simp only [prs, List.nil_append, List.cons.injEq, Prod.mk.injEq] at e
        obtain ⟨⟨k1, k2⟩, _⟩ := e
        have : l1 = .nil := by
          rcases d1 with ⟨_, _, rfl⟩ | ⟨_, _, rfl⟩ | ⟨_, _, _, d2, _⟩ | ⟨_, _, _, d2, _⟩
          · rfl
          · rfl
          · exact d2.elim
          · exact d2.elim
        subst this
        have hc : c.h = 1 := al.2.2.2.2
        rw [rebLE_one c a1 (by rw [q1, g3]; rfl)]
        obtain ⟨ck, cd, ch⟩ := c
        simp only at hc
        subst hc
        simp only at k1 k2
        rw [← k1, ← k2]
      · have n2 := d2.len
        obtain ⟨i1, i2⟩ := List.append_inj e (by omega)
        subst i1
        simp only [List.cons.injEq, Prod.mk.injEq, and_true] at i2
        have ea : a1 = a2 := by
          obtain ⟨k1, x1, y1⟩ := a1
          obtain ⟨k2, x2, y2⟩ := a2
          simp only at i2 q1 q2
          rw [i2.1, i2.2, q1, q2]
        rw [DelE.uniq d1 d2 hel al sl, ea]
      · exfalso
        have e' : (L1 ++ [(a1.k, a1.d)]) ++ prs r = prs l ++ ((a2.k, a2.d) :: L2) := by rw [← e]; simp
        obtain ⟨i1, i2⟩ := List.append_inj e' (by simp; omega)
        rcases w1 with ⟨k1, k2⟩ | w1
        · have := s3 (a1.k, a1.d) (by rw [← i1]; simp)
          simp only at this; omega
        · rcases w2 with ⟨k1, k2⟩ | w2
          · have := s4 (a2.k, a2.d) (by rw [i2]; simp)
            simp only at this; omega
          · omega
    · have n1 := d1.len
      rcases h2 with ⟨rfl, e, rfl⟩ | ⟨rfl, e, rfl⟩ | ⟨a2, l2, L2, d2, q2, w2, e, rfl⟩ | ⟨a2, r2, L2, d2, q2, w2, e, rfl⟩
      · simp only [prs, List.nil_append] at e
        simp only [ht] at g2 g3
        obtain ⟨b', o', c, rfl⟩ := ht_one (t := e2) (by omega) (by rw [← e]; simp)
        simp only [er, BT.node.injEq] at her
        obtain ⟨rfl, rfl, _⟩ := her
        simp only [prs, List.nil_append, List.cons.injEq, Prod.mk.injEq] at e
        obtain ⟨⟨k1, k2⟩, rfl⟩ := e
        have : r1 = .nil := by
          rcases d1 with ⟨_, _, rfl⟩ | ⟨_, _, rfl⟩ | ⟨_, _, _, d2, _⟩ | ⟨_, _, _, d2, _⟩
          · rfl
          · rfl
          · exact d2.elim
          · exact d2.elim
        subst this
        have hc : c.h = 1 := ar.2.2.2.2
        rw [rebRE_one c a1 (by rw [q1, g3]; rfl)]
        obtain ⟨ck, cd, ch⟩ := c
        simp only at hc
        subst hc
        simp only at k1 k2
        rw [← k1, ← k2]
      · exact d1.elim
      · exfalso
        have n2 := d2.len
        have e' : (L2 ++ [(a2.k, a2.d)]) ++ prs r = prs l ++ ((a1.k, a1.d) :: L1) := by rw [e]; simp
        obtain ⟨i1, i2⟩ := List.append_inj e' (by simp; omega)
        rcases w2 with ⟨k1, k2⟩ | w2
        · have := s3 (a2.k, a2.d) (by rw [← i1]; simp)
          simp only at this; omega
        · rcases w1 with ⟨k1, k2⟩ | w1
          · have := s4 (a1.k, a1.d) (by rw [i2]; simp)
            simp only at this; omega
          · omega
      · have n2 := d2.len
        obtain ⟨i1, i2⟩ := List.append_inj e rfl
        simp only [List.cons.injEq, Prod.mk.injEq] at i2
        obtain ⟨i2, rfl⟩ := i2
        have ea : a1 = a2 := by
          obtain ⟨k1, x1, y1⟩ := a1
          obtain ⟨k2, x2, y2⟩ := a2
          simp only at i2 q1 q2
          rw [i2.1, i2.2, q1, q2]
        rw [DelE.uniq d1 d2 her ar sr, ea]

/- rotations -/
/-- The left side is high, and its own left side not lower than its right one. -/
theorem rot_left1 {a al : Nd} {ll lr r : BT Nd} (hl : Avl ll) (hr : Avl lr) (h : Avl r) (h1 : ht lr ≤ ht ll) (h2 : ht ll ≤ ht lr + 1) (h3 : ht ll = ht r + 1) (b bl : Nat) (ha hal : Int)
    (e1 : ha = 1 + max (sh lr) (sh r)) (e2 : hal = 1 + max ha (sh ll)) :
    Avl (.node bl 0 { al with h := hal } ll (.node b 0 { a with h := ha } lr r)) ∧
      (ht (.node bl 0 { al with h := hal } ll (.node b 0 { a with h := ha } lr r)) = ht ll + 1 ∨ ht (.node bl 0 { al with h := hal } ll (.node b 0 { a with h := ha } lr r)) = ht ll + 2) := by
  rw [hl.sh] at e2
  rw [hr.sh, h.sh] at e1
  simp only [Avl, ht, hl, hr, h, true_and]
  omega

theorem rot_left2 {a al ac : Nd} {ll cl cr r : BT Nd} (hl : Avl ll) (h1 : Avl cl) (h2 : Avl cr) (h : Avl r) (h3 : ht cl ≤ ht cr + 1) (h4 : ht cr ≤ ht cl + 1)
    (h5 : 1 + max (ht cl) (ht cr) = ht ll + 1) (h6 : ht ll = ht r) (b bl c : Nat) (ha hal hc : Int)
    (e1 : hal = 1 + max (sh cl) (sh ll)) (e2 : ha = 1 + max (sh cr) (sh r)) (e3 : hc = 1 + max ha hal) :
    Avl (.node c 0 { ac with h := hc } (.node bl 0 { al with h := hal } ll cl) (.node b 0 { a with h := ha } cr r)) ∧
      ht (.node c 0 { ac with h := hc } (.node bl 0 { al with h := hal } ll cl) (.node b 0 { a with h := ha } cr r)) = ht ll + 2 := by
  rw [hl.sh, h1.sh] at e1
  rw [h2.sh, h.sh] at e2
  simp only [Avl, ht, hl, h1, h2, h, true_and]
  omega

theorem rot_right1 {a ar : Nd} {l rl rr : BT Nd} (hl : Avl l) (h1 : Avl rl) (h2 : Avl rr) (h3 : ht rl ≤ ht rr) (h4 : ht rr ≤ ht rl + 1) (h5 : ht rr = ht l + 1) (b br : Nat) (ha har : Int)
    (e1 : ha = 1 + max (sh rl) (sh l)) (e2 : har = 1 + max ha (sh rr)) :
    Avl (.node br 0 { ar with h := har } (.node b 0 { a with h := ha } l rl) rr) ∧
      (ht (.node br 0 { ar with h := har } (.node b 0 { a with h := ha } l rl) rr) = ht rr + 1 ∨ ht (.node br 0 { ar with h := har } (.node b 0 { a with h := ha } l rl) rr) = ht rr + 2) := by
  rw [hl.sh, h1.sh] at e1
  rw [h2.sh] at e2
  simp only [Avl, ht, hl, h1, h2, true_and]
  omega

theorem rot_right2 {a ar ac : Nd} {l cl cr rr : BT Nd} (hl : Avl l) (h1 : Avl cl) (h2 : Avl cr) (h : Avl rr) (h3 : ht cl ≤ ht cr + 1) (h4 : ht cr ≤ ht cl + 1)
    (h5 : 1 + max (ht cl) (ht cr) = ht rr + 1) (h6 : ht rr = ht l) (b br c : Nat) (ha har hc : Int)
    (e1 : har = 1 + max (sh cr) (sh rr)) (e2 : ha = 1 + max (sh cl) (sh l)) (e3 : hc = 1 + max ha har) :
    Avl (.node c 0 { ac with h := hc } (.node b 0 { a with h := ha } l cl) (.node br 0 { ar with h := har } cr rr)) ∧
      ht (.node c 0 { ac with h := hc } (.node b 0 { a with h := ha } l cl) (.node br 0 { ar with h := har } cr rr)) = ht rr + 2 := by
  rw [hl.sh, h1.sh] at e2
  rw [h2.sh, h.sh] at e1
  simp only [Avl, ht, hl, h1, h2, h, true_and]
  omega

/-- What fixE makes, laid open: the simple and the double turn. -/
theorem fixE_left1 {b o bl o' : Nat} {a al : Nd} {ll lr r : BT Nd} (h : ht r < ht (.node bl o' al ll lr)) (hc : sh lr ≤ sh ll) (b' bl' : Nat) :
    er (.node bl' 0 { al with h := 1 + max (1 + max (sh lr) (sh r)) (sh ll) } ll (.node b' 0 { a with h := 1 + max (sh lr) (sh r) } lr r)) = fixE (er (.node b o a (.node bl o' al ll lr) r)) := by
  have h' : ht (er r) < ht (.node 0 0 al (er ll) (er lr)) := by simp only [ht, ht_er] at h ⊢; exact h
  simp only [er, fixE]
  rw [if_pos h']
  simp only [hiL, sh_er]
  rw [if_neg (by omega)]
  simp only [ltrE, sh_er]
theorem fixE_left2 {b o bl o' c o'' : Nat} {a al ac : Nd} {ll cl cr r : BT Nd} (h : ht r < ht (.node bl o' al ll (.node c o'' ac cl cr))) (hc : sh ll < ac.h) (b' bl' c' : Nat) :
    er (.node c' 0 { ac with h := 1 + max (1 + max (sh cr) (sh r)) (1 + max (sh cl) (sh ll)) } (.node bl' 0 { al with h := 1 + max (sh cl) (sh ll) } ll cl) (.node b' 0 { a with h := 1 + max (sh cr) (sh r) } cr r)) = fixE (er (.node b o a (.node bl o' al ll (.node c o'' ac cl cr)) r)) := by
  have h' : ht (er r) < ht (.node 0 0 al (er ll) (.node 0 0 ac (er cl) (er cr))) := by simp only [ht, ht_er] at h ⊢; exact h
  simp only [er, fixE]
  rw [if_pos h']
  simp only [hiL, sh_er]
  rw [if_pos (show sh ll < sh (.node 0 0 ac (er cl) (er cr)) from hc)]
  simp only [rtrE, ltrE, sh_er]
  rfl
theorem fixE_right1 {b o br o' : Nat} {a ar : Nd} {rr rl l : BT Nd} (h : ¬ ht (.node br o' ar rl rr) < ht l) (hc : sh rl ≤ sh rr) (b' br' : Nat) :
    er (.node br' 0 { ar with h := 1 + max (1 + max (sh rl) (sh l)) (sh rr) } (.node b' 0 { a with h := 1 + max (sh rl) (sh l) } l rl) rr) = fixE (er (.node b o a l (.node br o' ar rl rr))) := by
  have h' : ¬ ht (.node 0 0 ar (er rl) (er rr)) < ht (er l) := by simp only [ht, ht_er] at h ⊢; exact h
  simp only [er, fixE]
  rw [if_neg h']
  simp only [hiR, sh_er]
  rw [if_neg (by omega)]
  simp only [rtrE, sh_er]
theorem fixE_right2 {b o br o' c o'' : Nat} {a ar ac : Nd} {rr cr cl l : BT Nd} (h : ¬ ht (.node br o' ar (.node c o'' ac cl cr) rr) < ht l) (hc : sh rr < ac.h) (b' br' c' : Nat) :
    er (.node c' 0 { ac with h := 1 + max (1 + max (sh cl) (sh l)) (1 + max (sh cr) (sh rr)) } (.node b' 0 { a with h := 1 + max (sh cl) (sh l) } l cl) (.node br' 0 { ar with h := 1 + max (sh cr) (sh rr) } cr rr)) = fixE (er (.node b o a l (.node br o' ar (.node c o'' ac cl cr) rr))) := by
  have h' : ¬ ht (.node 0 0 ar (.node 0 0 ac (er cl) (er cr)) (er rr)) < ht (er l) := by simp only [ht, ht_er] at h ⊢; exact h
  simp only [er, fixE]
  rw [if_neg h']
  simp only [hiR, sh_er]
  rw [if_pos (show sh rr < sh (.node 0 0 ac (er cl) (er cr)) from hc)]
  simp only [rtrE, ltrE, sh_er]
  rfl

/- insertion -/
structure Ins (x : Int) (t t' : BT Nd) : Prop where
  avl : Avl t'
  hgt : ht t' = ht t ∨ ht t' = ht t + 1
  ps : prs t' = lo x (prs t) ++ (x, dat x (prs t)) :: hi x (prs t)
  e : er t' = insE x (er t)

/-- What a side that was too high by one is turned into. -/
structure Rot (t t' : BT Nd) : Prop where
  avl : Avl t'
  hgt : ht t' = ht t ∨ ht t' + 1 = ht t
  ps : prs t' = prs t
  e : er t' = fixE (er t)

theorem Ins.here {b o : Nat} {a : Nd} {l r : BT Nd} (b' : Nat) (ha : Avl (.node b o a l r)) (hs : Srt (prs (.node b o a l r))) : Ins a.k (.node b o a l r) (.node b' 0 a l r) := by
  refine ⟨ha, .inl rfl, ?_, by simp [er, insE]⟩
  simp only [prs] at hs ⊢
  rw [lo_here hs rfl, hi_here hs rfl, dat_here hs rfl]

section
variable {x : Int} {b o b' : Nat} {a : Nd} {h : Int} {l r l' r' t' : BT Nd} (ha : Avl (.node b o a l r)) (hs : Srt (prs (.node b o a l r)))
include ha hs

theorem Ins.left (hx : x < a.k) (hi : Ins x l l') (hle : ht l' ≤ ht r + 1) (e : h = 1 + max (sh l') (sh r)) : Ins x (.node b o a l r) (.node b' 0 { a with h := h } l' r) := by
  obtain ⟨h1, h2, h3, h4, _⟩ := ha
  obtain ⟨i1, i2, i3, i4⟩ := hi
  have e0 := e
  rw [i1.sh, h2.sh] at e
  simp only [prs] at hs
  refine ⟨⟨i1, h2, by omega, by omega, by simp only [ht]; omega⟩, by simp only [ht]; omega, ?_, ?_⟩
  rotate_left
  · simp only [er, insE]
    rw [if_pos hx, ← i4, if_neg (by rw [ht_er, ht_er]; omega), sh_er, sh_er, ← e0]
  simp only [prs]
  rw [lo_less hs hx, hi_less hs hx, dat_less hs hx, i3]
  simp

theorem Ins.left_rot (hx : x < a.k) (hi : Ins x l l') (hgt : ht r + 1 < ht l') {h : Int} (hr : Rot (.node b' 0 { a with h := h } l' r) t') : Ins x (.node b o a l r) t' := by
  obtain ⟨h1, h2, h3, h4, _⟩ := ha
  obtain ⟨i1, i2, i3, i4⟩ := hi
  obtain ⟨r1, r2, r3, r4⟩ := hr
  simp only [prs] at hs
  simp only [ht] at r2
  refine ⟨r1, by simp only [ht]; omega, ?_, ?_⟩
  rotate_left
  · rw [r4]
    simp only [er, insE]
    rw [if_pos hx, ← i4, if_pos (by rw [ht_er, ht_er]; omega), fixE_h]
  rw [r3]
  simp only [prs]
  rw [lo_less hs hx, hi_less hs hx, dat_less hs hx, i3]
  simp

theorem Ins.right (hx : a.k < x) (hi : Ins x r r') (hle : ht r' ≤ ht l + 1) (e : h = 1 + max (sh l) (sh r')) : Ins x (.node b o a l r) (.node b' 0 { a with h := h } l r') := by
  obtain ⟨h1, h2, h3, h4, _⟩ := ha
  obtain ⟨i1, i2, i3, i4⟩ := hi
  have e0 := e
  rw [i1.sh, h1.sh] at e
  simp only [prs] at hs
  refine ⟨⟨h1, i1, by omega, by omega, by simp only [ht]; omega⟩, by simp only [ht]; omega, ?_, ?_⟩
  rotate_left
  · simp only [er, insE]
    rw [if_neg (by omega), if_pos hx, ← i4, if_neg (by rw [ht_er, ht_er]; omega), sh_er, sh_er, ← e0]
  simp only [prs]
  rw [lo_more hs hx, hi_more hs hx, dat_more hs hx, i3]
  simp

theorem Ins.right_rot (hx : a.k < x) (hi : Ins x r r') (hgt : ht l + 1 < ht r') {h : Int} (hr : Rot (.node b' 0 { a with h := h } l r') t') : Ins x (.node b o a l r) t' := by
  obtain ⟨h1, h2, h3, h4, _⟩ := ha
  obtain ⟨i1, i2, i3, i4⟩ := hi
  obtain ⟨r1, r2, r3, r4⟩ := hr
  simp only [prs] at hs
  simp only [ht] at r2
  refine ⟨r1, by simp only [ht]; omega, ?_, ?_⟩
  rotate_left
  · rw [r4]
    simp only [er, insE]
    rw [if_neg (by omega), if_pos hx, ← i4, if_pos (by rw [ht_er, ht_er]; omega), fixE_h]
  rw [r3]
  simp only [prs]
  rw [lo_more hs hx, hi_more hs hx, dat_more hs hx, i3]
  simp
end

theorem lo_nil (x : Int) : lo x [] = [] := rfl
theorem hi_nil (x : Int) : hi x [] = [] := rfl
theorem dat_nil (x : Int) : dat x [] = none := rfl

/-- A new leaf on the empty left side. -/
theorem Ins.leaf_left {x : Int} {b o b' bn : Nat} {a : Nd} {r : BT Nd} (ha : Avl (.node b o a .nil r)) (hs : Srt (prs (.node b o a .nil r))) (hx : x < a.k) :
    Ins x (.node b o a .nil r) (.node b' 0 { a with h := 2 } (.node bn 0 ⟨x, none, 1⟩ .nil .nil) r) := by
  have hl : Ins x .nil (.node bn 0 ⟨x, none, 1⟩ .nil .nil) := ⟨by simp [Avl, ht], .inr (by simp [ht]), by simp [prs, lo_nil, hi_nil, dat_nil], rfl⟩
  have h3 := ha.2.2.2.1
  have h2 := ha.2.1
  have h4 : ht r ≤ 1 := by simpa [ht] using h3
  refine Ins.left ha hs hx hl (by simp [ht]) ?_
  rw [h2.sh]; simp [sh]; omega
theorem Ins.leaf_right {x : Int} {b o b' bn : Nat} {a : Nd} {l : BT Nd} (ha : Avl (.node b o a l .nil)) (hs : Srt (prs (.node b o a l .nil))) (hx : a.k < x) :
    Ins x (.node b o a l .nil) (.node b' 0 { a with h := 2 } l (.node bn 0 ⟨x, none, 1⟩ .nil .nil)) := by
  have hl : Ins x .nil (.node bn 0 ⟨x, none, 1⟩ .nil .nil) := ⟨by simp [Avl, ht], .inr (by simp [ht]), by simp [prs, lo_nil, hi_nil, dat_nil], rfl⟩
  have h3 := ha.2.2.1
  have h2 := ha.1
  have h4 : ht l ≤ 1 := by simpa [ht] using h3
  refine Ins.right ha hs hx hl (by simp [ht]) ?_
  rw [h2.sh]; simp [sh]; omega

theorem Ins.srt {x : Int} {t t' : BT Nd} (h : Ins x t t') (hs : Srt (prs t)) : Srt (prs t') := by
  rw [h.ps]; exact hs.put

/- deletion -/
structure Del (t t' : BT Nd) (L : List (Int × Option Int)) : Prop where
  avl : Avl t'
  hgt : ht t' = ht t ∨ ht t' + 1 = ht t
  ps : prs t' = L
  e : DelE (er t) L (er t')

section
variable {b o b' : Nat} {a a' : Nd} {l r l' r' t' : BT Nd} {L : List (Int × Option Int)} (ha : Avl (.node b o a l r))
include ha
/-- The left side has lost a node; the node's height is what it was. -/
theorem Del.left_same (hd : Del l l' L) (h : ht l = ht l' ∨ ht l = ht r) (e : a'.h = a.h) (sd : (a'.k = a.k ∧ a'.d = a.d) ∨ ht r < ht l) : Del (.node b o a l r) (.node b' 0 a' l' r) (L ++ (a'.k, a'.d) :: prs r) := by
  obtain ⟨h1, h2, h3, h4, h5⟩ := ha
  obtain ⟨d1, d2, d3, d4⟩ := hd
  simp only [ht] at h5
  refine ⟨⟨d1, h2, by omega, by omega, by simp only [ht]; omega⟩, by simp only [ht]; omega, by simp only [prs]; rw [d3], ?_⟩
  refine .inr (.inr (.inl ⟨a', er l', L, d4, e, by rw [ht_er, ht_er]; exact sd, by rw [prs_er], ?_⟩))
  simp only [er, rebLE, ht_er]
  rw [if_pos h]
theorem Del.left_less (hd : Del l l' L) (h : ht l ≠ ht l') (h' : ht r < ht l) (e : a'.h = a.h - 1) : Del (.node b o a l r) (.node b' 0 a' l' r) (L ++ (a'.k, a'.d) :: prs r) := by
  obtain ⟨h1, h2, h3, h4, h5⟩ := ha
  obtain ⟨d1, d2, d3, d4⟩ := hd
  simp only [ht] at h5
  refine ⟨⟨d1, h2, by omega, by omega, by simp only [ht]; omega⟩, by simp only [ht]; omega, by simp only [prs]; rw [d3], ?_⟩
  refine .inr (.inr (.inl ⟨{ a' with h := a.h }, er l', L, d4, rfl, by rw [ht_er, ht_er]; exact .inr h', by rw [prs_er], ?_⟩))
  simp only [er, rebLE, ht_er]
  rw [if_neg (by omega), if_pos h', ← e]
theorem Del.left_rot (hd : Del l l' L) (hne : ht l ≠ ht l') (h' : ht l < ht r) {r2 : BT Nd} (er2 : ht r2 = ht r) (ep : prs r2 = prs r) (e2 : er r2 = er r) (eh : a'.h = a.h) (sd : (a'.k = a.k ∧ a'.d = a.d) ∨ ht r < ht l) (hr : Rot (.node b' 0 a' l' r2) t') : Del (.node b o a l r) t' (L ++ (a'.k, a'.d) :: prs r) := by
  obtain ⟨h1, h2, h3, h4, h5⟩ := ha
  obtain ⟨d1, d2, d3, d4⟩ := hd
  obtain ⟨r1, r2', r3, r4⟩ := hr
  simp only [ht] at r2'
  refine ⟨r1, by simp only [ht]; omega, by rw [r3]; simp only [prs]; rw [d3, ep], ?_⟩
  refine .inr (.inr (.inl ⟨a', er l', L, d4, eh, by rw [ht_er, ht_er]; exact sd, by rw [prs_er], ?_⟩))
  rw [r4]
  simp only [er, rebLE, ht_er]
  rw [if_neg (by omega), if_neg (by omega), e2]
theorem Del.right_same (hd : Del r r' L) (h : ht r = ht r' ∨ ht r = ht l) (e : a'.h = a.h) (sd : (a'.k = a.k ∧ a'.d = a.d) ∨ ht l ≤ ht r) : Del (.node b o a l r) (.node b' 0 a' l r') (prs l ++ (a'.k, a'.d) :: L) := by
  obtain ⟨h1, h2, h3, h4, h5⟩ := ha
  obtain ⟨d1, d2, d3, d4⟩ := hd
  simp only [ht] at h5
  refine ⟨⟨h1, d1, by omega, by omega, by simp only [ht]; omega⟩, by simp only [ht]; omega, by simp only [prs]; rw [d3], ?_⟩
  refine .inr (.inr (.inr ⟨a', er r', L, d4, e, by rw [ht_er, ht_er]; exact sd, by rw [prs_er], ?_⟩))
  simp only [er, rebRE, ht_er]
  rw [if_pos h]
theorem Del.right_less (hd : Del r r' L) (h : ht r ≠ ht r') (h' : ht l < ht r) (e : a'.h = a.h - 1) : Del (.node b o a l r) (.node b' 0 a' l r') (prs l ++ (a'.k, a'.d) :: L) := by
  obtain ⟨h1, h2, h3, h4, h5⟩ := ha
  obtain ⟨d1, d2, d3, d4⟩ := hd
  simp only [ht] at h5
  refine ⟨⟨h1, d1, by omega, by omega, by simp only [ht]; omega⟩, by simp only [ht]; omega, by simp only [prs]; rw [d3], ?_⟩
  refine .inr (.inr (.inr ⟨{ a' with h := a.h }, er r', L, d4, rfl, by rw [ht_er, ht_er]; exact .inr (by omega), by rw [prs_er], ?_⟩))
  simp only [er, rebRE, ht_er]
  rw [if_neg (by omega), if_pos h', ← e]
theorem Del.right_rot (hd : Del r r' L) (hne : ht r ≠ ht r') (h' : ht r < ht l) {l2 : BT Nd} (er2 : ht l2 = ht l) (ep : prs l2 = prs l) (e2 : er l2 = er l) (eh : a'.h = a.h) (sd : (a'.k = a.k ∧ a'.d = a.d) ∨ ht l ≤ ht r) (hr : Rot (.node b' 0 a' l2 r') t') : Del (.node b o a l r) t' (prs l ++ (a'.k, a'.d) :: L) := by
  obtain ⟨h1, h2, h3, h4, h5⟩ := ha
  obtain ⟨d1, d2, d3, d4⟩ := hd
  obtain ⟨r1, r2', r3, r4⟩ := hr
  simp only [ht] at r2'
  refine ⟨r1, by simp only [ht]; omega, by rw [r3]; simp only [prs]; rw [d3, ep], ?_⟩
  refine .inr (.inr (.inr ⟨a', er r', L, d4, eh, by rw [ht_er, ht_er]; exact sd, by rw [prs_er], ?_⟩))
  rw [r4]
  simp only [er, rebRE, ht_er]
  rw [if_neg (by omega), if_neg (by omega), e2]
end

/- the least number of nodes -/
def lst : Nat → Nat
  | 0 => 0
  | 1 => 1
  | n + 2 => lst n + lst (n + 1) + 1

theorem lst_mono {a b : Nat} (h : a ≤ b) : lst a ≤ lst b := by
  have step : ∀ n, lst n ≤ lst (n + 1) := by
    intro n
    cases n with
    | zero => simp [lst]
    | succ n => simp only [lst]; omega
  induction h with
  | refl => exact Nat.le_refl _
  | step _ ih => exact Nat.le_trans ih (step _)

theorem Avl.lst_le : ∀ {t : BT Nd}, Avl t → lst (ht t) ≤ (prs t).length
  | .nil, _ => by simp [lst, ht, prs]
  | .node b o a l r, h => by
    obtain ⟨h1, h2, h3, h4, _⟩ := h
    have il := Avl.lst_le h1
    have ir := Avl.lst_le h2
    simp only [ht, prs, List.length_append, List.length_cons]
    rcases Nat.lt_or_ge (ht l) (ht r) with hlt | hge
    · have e : 1 + max (ht l) (ht r) = ht l + 2 := by omega
      have er : ht r = ht l + 1 := by omega
      rw [e]; rw [er] at ir; simp only [lst]; omega
    · rcases Nat.eq_or_lt_of_le hge with heq | hgt
      · have e : 1 + max (ht l) (ht r) = ht l + 1 := by omega
        rw [e]
        cases hl : ht l with
        | zero => simp [lst]; omega
        | succ n =>
          have : lst n ≤ lst (n + 1) := lst_mono (by omega)
          rw [hl] at il; rw [heq, hl] at ir
          simp only [lst]; omega
      · have e : 1 + max (ht l) (ht r) = ht r + 2 := by omega
        have er : ht l = ht r + 1 := by omega
        rw [e]; rw [er] at il; simp only [lst]; omega

theorem lst_40 : 300000 < lst 40 := by decide +kernel
/-- A balanced tree of few nodes is low. -/
theorem Avl.low {t : BT Nd} (h : Avl t) (hn : (prs t).length ≤ 300000) : ht t < 40 := by
  rcases Nat.lt_or_ge (ht t) 40 with h1 | h1
  · exact h1
  · have := h.lst_le; have := lst_mono h1; have := lst_40; omega

end Go.Proofs.Ytahghidbadpkeaa
