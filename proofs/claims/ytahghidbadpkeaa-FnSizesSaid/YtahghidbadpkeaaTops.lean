/- The walks of the tree's own methods: Insert, Delete, DeleteMin, DeleteMax, Copy, Size, Find. -/
import Derived.Test.YtahghidbadpkeaaDela
set_option linter.unusedVariables false
set_option linter.unusedSimpArgs false
namespace Go.Proofs.Ytahghidbadpkeaa
open Go.Deep Go.RowKit

/-- A tree's head. -/
def Hd (w : World) (tb : Nat) (p : Option Addr) (n : Int) : Prop := w.heap[tb]? = some (.cells #[.pointer p, .int .i64 n] 96 (0, 0))

section
variable {w : World} {tb : Nat} {p : Option Addr} {n : Int} (c : Hd w tb p n)
include c
theorem Hd.c0 : w.cell? ⟨tb, 0, none⟩ = some (.pointer p) := by simp [World.cell?, show w.heap[tb]? = _ from c]
theorem Hd.c1 : w.cell? ⟨tb, 1, none⟩ = some (.int .i64 n) := by simp [World.cell?, show w.heap[tb]? = _ from c]
theorem Hd.fz : ∀ o, w.frozen? ⟨tb, o, none⟩ = false := fun o => by simp [World.frozen?, show w.heap[tb]? = _ from c]
theorem Hd.lt : tb < w.heap.size := by
  rcases Nat.lt_or_ge tb w.heap.size with h' | h'
  · exact h'
  · have c' : w.heap[tb]? = _ := c
    rw [Array.getElem?_eq_none h'] at c'; cases c'
theorem Hd.set0 (q : Option Addr) : Hd (w.setCell ⟨tb, 0, none⟩ (.pointer q)) tb q n := by
  unfold Hd at *; simp [World.setCell, Array.getElem?_modify, c]
theorem Hd.set1 (m : Int) : Hd (w.setCell ⟨tb, 1, none⟩ (.int .i64 m)) tb p m := by
  unfold Hd at *; simp [World.setCell, Array.getElem?_modify, c]
theorem Hd.other {a : Addr} (v : Value) (hb : tb ≠ a.block) : Hd (w.setCell a v) tb p n := (Below.heap_setCell _ _ _ _ hb).trans c
theorem Hd.alloc (o : Obj) : Hd (w.alloc o) tb p n := (Below.heap_alloc _ _ _ (Hd.lt c)).trans c
theorem Hd.chg {S : Nat → Prop} {w' : World} (h : Chg S w w') (hs : ¬ S tb) : Hd w' tb p n := (h.block tb c.lt hs).trans c
theorem Hd.ne {b : Nat} {lp rp : Option Addr} {d : Option Int} {k h : Int} (k : Cel w b lp rp d k h) : b ≠ tb := by
  rintro rfl
  have e := (show w.heap[b]? = _ from k).symm.trans c
  simp at e
theorem Hd.notin {t : BT Nd} (h : Holds w t) : tb ∉ blks t := fun hb => by
  obtain ⟨_, _, _, _, _, k, _⟩ := h.key tb hb
  exact c.ne k rfl
end

/-- A tree that is at rest: its nodes lie in w, its keys ascend, it is balanced, every node has data, its size is told. -/
structure Good (w : World) (tb : Nat) (t : BT Nd) : Prop where
  hd : Hd w tb (pt t) ((prs t).length : Nat)
  H : Holds w t
  S : Srt (prs t)
  A : Avl t
  F : ∀ p ∈ prs t, p.2.isSome = true

theorem Good.chg {S : Nat → Prop} {w w' : World} {tb : Nat} {t : BT Nd} (g : Good w tb t) (h : Chg S w w') (h1 : ¬ S tb) (h2 : ∀ k ∈ blks t, ¬ S k) : Good w' tb t :=
  ⟨g.hd.chg h h1, g.H.chg h h2, g.S, g.A, g.F⟩
theorem Good.below {w w' : World} {tb : Nat} {t : BT Nd} (g : Good w tb t) (h : Below w.heap.size w w') : Good w' tb t :=
  g.chg (Chg.of_below h) (Nat.not_le.2 g.hd.lt) (fun k hk => Nat.not_le.2 (g.H.lt k hk))

theorem dat_mem {x : Int} {d : Option Int} : ∀ {L : List (Int × Option Int)}, Srt L → (x, d) ∈ L → dat x L = d
  | [], _, h => by cases h
  | p :: L, s, h => by
    obtain ⟨s1, s2⟩ := List.pairwise_cons.1 s
    rcases List.mem_cons.1 h with rfl | h
    · simp [dat]
    · have := s1 _ h
      simp only at this
      have ne : ¬ p.1 = x := by omega
      have ih := dat_mem s2 h
      simpa [dat, ne] using ih
theorem dat_none {x : Int} {L : List (Int × Option Int)} (h : ∀ p ∈ L, p.1 ≠ x) : dat x L = none := by
  have : L.find? (fun p => decide (p.1 = x)) = none := by
    rw [List.find?_eq_none]; intro p hp; simpa using h p hp
  simp [dat, this]
theorem len_put {x : Int} {d v : Option Int} {L : List (Int × Option Int)} (s : Srt L) (h : (x, d) ∈ L) : (lo x L ++ (x, v) :: hi x L).length = L.length := by
  obtain ⟨A, B, rfl⟩ := List.append_of_mem h
  rw [lo_here s rfl, hi_here s rfl]; simp
theorem len_put' {x : Int} {v : Option Int} {L : List (Int × Option Int)} (h : ∀ p ∈ L, p.1 ≠ x) : (lo x L ++ (x, v) :: hi x L).length = L.length + 1 := by
  induction L with
  | nil => simp [lo, hi]
  | cons p L ih =>
    have ih' := ih (fun q hq => h q (List.mem_cons_of_mem _ hq))
    have hp := h p (List.mem_cons_self ..)
    simp only [lo, hi, List.filter_cons, List.length_append, List.length_cons] at ih' ⊢
    by_cases a : p.1 < x
    · have b : ¬ x < p.1 := by omega
      simp [a, b]; omega
    · have b : x < p.1 := by omega
      simp [a, b]; omega

/-- Insert, on trees without places. -/
def insF (x v : Int) (e : BT Nd) : BT Nd := setD x (some v) (insE x e)
theorem er_setD (x : Int) (v : Option Int) : ∀ t : BT Nd, er (setD x v t) = setD x v (er t)
  | .nil => rfl
  | .node b o a l r => by simp only [setD, er, er_setD x v l, er_setD x v r]
/-- A deletion of what is there or is not. -/
def DelT (e : BT Nd) (L : List (Int × Option Int)) (e' : BT Nd) : Prop := DelE e L e' ∨ (prs e = L ∧ e' = e)

/-- What Insert leaves. -/
def InsertPostE (tb : Nat) (t : BT Nd) (x v : Int) (w : World) (e : Ending) (w' : World) : Prop :=
  ∃ t', e = .returned (dv (dat x (prs t))) ∧ Chg (fun k => k = tb) w w' ∧ Good w' tb t' ∧ prs t' = lo x (prs t) ++ (x, some v) :: hi x (prs t) ∧ er t' = insF x v (er t)

theorem full_put {x v : Int} {L : List (Int × Option Int)} (h : ∀ p ∈ L, p.2.isSome = true) : ∀ p ∈ lo x L ++ (x, some v) :: hi x L, p.2.isSome = true := by
  intro p hp
  rcases List.mem_append.1 hp with hp | hp
  · exact h p (mem_lo.1 hp).1
  · rcases List.mem_cons.1 hp with rfl | hp
    · rfl
    · exact h p (mem_hi.1 hp).1

theorem fresh_put {w : World} {tb : Nat} {x v : Int} (g : Good w tb .nil) : Good (((w.setCell ⟨tb, 1, none⟩ (.int .i64 1)).setCell ⟨tb, 0, none⟩ (.pointer (some ⟨w.heap.size, 0, none⟩))).alloc (.cells #[.pointer none, .pointer none, dv (some v), .int .i32 x, .int .i8 1] 101)) tb (.node w.heap.size 0 ⟨x, some v, 1⟩ .nil .nil) := by
  refine ⟨((g.hd.set1 1).set0 _).alloc _, ⟨rfl, ?_, trivial, trivial⟩, by simp [prs, Srt], by simp [Avl, ht], by simp [prs]⟩
  have h := Cel.new ((w.setCell ⟨tb, 1, none⟩ (.int .i64 1)).setCell ⟨tb, 0, none⟩ (.pointer (some ⟨w.heap.size, 0, none⟩))) none none (some v) x 1
  simp only [World.size_setCell] at h
  exact h

set_option maxRecDepth 100000 in
set_option maxHeartbeats 400000 in
theorem Insert_nilE {w : World} {tb : Nat} (g : Good w tb .nil) (x v : Int) (hx : x ≠ -2147483648) :
    Calls Try.prog 59 #[.pointer (some ⟨tb, 0, none⟩), .int .i32 x, .iface 3 (.int .i64 v)] w (InsertPostE tb .nil x v w) := by
  have c0 := g.hd.c0
  have c1 : w.cell? ⟨tb, 1, none⟩ = some (.int .i64 0) := g.hd.c1
  have cf := g.hd.fz
  have hx' : (x == -2147483648) = false := by simp [hx]
  have hlt := g.hd.lt
  have hne : tb ≠ w.heap.size := Nat.ne_of_lt hlt
  have G := Lib.hid g
  have F := Lib.hid (fresh_put (x := x) (v := v) g)
  clear g hx
  simp only [pt] at c0
  go_enter Try.func59, Try.ntmps59
  go_wp2_with fail
  refine (make_any x _).mono ?_
  rintro e w1 ⟨rfl, rfl⟩
  go_wp2_with fail
  go_ret
  refine ⟨.node w.heap.size 0 ⟨x, some v, 1⟩ .nil .nil, rfl, ?_, F.out, by simp [prs, lo, hi], by simp [er, insF, insE, setD]⟩
  exact ((((Chg.refl (fun k => k = tb) w).setCell ⟨tb, 1, none⟩ _ (fun _ => rfl)).setCell ⟨tb, 0, none⟩ _ (fun _ => rfl)).alloc _)

/-- Behind aInsert: the data, the root and the size are laid down. -/
theorem insert_fin {w w1 : World} {tb nb : Nat} {t t' : BT Nd} {x v : Int} {op : Option Addr} (g : Good w tb t) (hb : Below w.heap.size w w1) (H : Holds w1 t') (I : Ins x t t') (M : Mk nb x t') (fn : w.heap.size ≤ nb)
    (w2 w' : World) (h2 : w2 = w1 ∧ (prs t').length = (prs t).length ∨ w2 = w1.setCell ⟨tb, 1, none⟩ (.int .i64 ((prs t).length + 1)) ∧ (prs t').length = (prs t).length + 1)
    (hw : w' = (w2.setCell ⟨nb, 2, none⟩ (dv (some v))).setCell ⟨tb, 0, none⟩ (.pointer (pt t'))) :
    Chg (fun k => k = tb) w w' ∧ Good w' tb (setD x (some v) t') ∧ prs (setD x (some v) t') = lo x (prs t) ++ (x, some v) :: hi x (prs t) ∧ er (setD x (some v) t') = insF x v (er t) := by
  have hd1 := g.hd.chg (Chg.of_below hb) (Nat.not_le.2 g.hd.lt)
  have hne : tb ≠ nb := by have := g.hd.lt; omega
  have ep : prs (setD x (some v) t') = lo x (prs t) ++ (x, some v) :: hi x (prs t) := by rw [prs_setD, I.ps, put_setD]
  have el : (prs (setD x (some v) t')).length = (prs t').length := by rw [prs_setD, List.length_map]
  have hC1 : Chg (fun k => k = tb) w w1 := (Chg.of_below hb).mono (fun k hk h => absurd hk (Nat.not_lt.2 h))
  have h3 : Chg (fun k => k = tb) w w2 ∧ Hd w2 tb (pt t) ((prs t').length : Nat) ∧ Holds w2 t' := by
    rcases h2 with ⟨rfl, e⟩ | ⟨rfl, e⟩
    · exact ⟨hC1, by rw [e]; exact hd1, H⟩
    · refine ⟨hC1.setCell _ _ (fun _ => rfl), ?_, H.set _ _ (hd1.notin H)⟩
      rw [e]; exact hd1.set1 _
  obtain ⟨k1, k2, k3⟩ := h3
  subst hw
  have hn : ¬ nb < w.heap.size := Nat.not_lt.2 fn
  have hH := k3.setD (some v) M
  have hd2 : Hd (w2.setCell ⟨nb, 2, none⟩ (dv (some v))) tb (pt t) ((prs t').length : Nat) := k2.other _ hne
  refine ⟨(k1.setCell _ _ (fun h => absurd h hn)).setCell _ _ (fun _ => rfl), ⟨?_, hH.set _ _ (hd2.notin hH), by rw [ep]; exact g.S.put, avl_setD x (some v) I.avl, by rw [ep]; exact full_put g.F⟩, ep, by rw [er_setD, I.e]; rfl⟩
  rw [el, pt_setD]
  exact hd2.set0 _

set_option maxRecDepth 100000 in
set_option maxHeartbeats 400000 in
theorem Insert_nodeE {w : World} {tb : Nat} {t : BT Nd} (ht : t ≠ .nil) (g : Good w tb t) (hlen : (prs t).length ≤ 300000) (x v : Int) (hx : x ≠ -2147483648) :
    Calls Try.prog 59 #[.pointer (some ⟨tb, 0, none⟩), .int .i32 x, .iface 3 (.int .i64 v)] w (InsertPostE tb t x v w) := by
  have c0 := g.hd.c0
  have hx' : (x == -2147483648) = false := by simp [hx]
  have hn : (pt t).isNone = false := by cases t with
    | nil => exact absurd rfl ht
    | node => rfl
  have IH := Lib.hid (insert_any x t w ht g.H g.S g.A (by have := g.A.low hlen; omega))
  have G := Lib.hid g
  have LL := Lib.hid hlen
  clear g hx ht hlen
  go_enter Try.func59, Try.ntmps59
  go_wp2_with fail
  refine IH.out.mono ?_
  rintro e w1 ⟨t', nb, op, rfl, b1, h1, i1, m1, f1, _, o1⟩
  have hd1 := G.out.hd.chg (Chg.of_below b1) (Nat.not_le.2 G.out.hd.lt)
  obtain ⟨lp, rp, dd, kk, hh, cn, _⟩ := h1.key nb (Mk.mem m1 ⟨dat x (prs t), by rw [i1.ps]; simp⟩)
  have n2 := cn.c2
  have nf := cn.fz
  have d0 := hd1.c0
  have d1 := hd1.c1
  have df := hd1.fz
  have hne : nb ≠ tb := by have := G.out.hd.lt; omega
  have bd : 0 ≤ ((prs t).length : Int) ∧ ((prs t).length : Int) ≤ 300000 := by have := LL.out; omega
  have FIN := Lib.hid (fun w2 w' => insert_fin (v := v) (op := op) G.out b1 h1 i1 m1 f1 w2 w')
  have EP := Lib.hid i1.ps
  rcases o1 with ⟨rfl, o2⟩ | ⟨ob, lp', rp', d, h', rfl, co, o2⟩
  · have DN : Hid (InsertPostE tb t x v w (.returned .nilIface) = InsertPostE tb t x v w (.returned (dv (dat x (prs t))))) := by rw [dat_none o2]; rfl
    have LE : Hid ((prs t').length = (prs t).length + 1) := by rw [i1.ps]; exact len_put' o2
    clear b1 h1 i1 m1 f1 cn hd1 o2
    go_wp2_with fail
    go_ret
    show InsertPostE tb t x v w (.returned .nilIface) _
    rw [DN.out]
    exact ⟨_, rfl, FIN.out _ _ (.inr ⟨rfl, LE.out⟩) rfl⟩
  · have DN : Hid (InsertPostE tb t x v w (.returned (dv d)) = InsertPostE tb t x v w (.returned (dv (dat x (prs t))))) := Lib.hid (by rw [dat_mem G.out.S o2])
    have LE : Hid ((prs t').length = (prs t).length) := by rw [i1.ps]; exact len_put G.out.S o2
    have k2 : w1.cell? ⟨ob, 2, none⟩ = some (dv d) := (Chg.cel (Chg.of_below b1) co (Nat.not_le.2 co.lt)).c2
    clear b1 h1 i1 m1 f1 cn hd1 o2 co
    go_wp2_with fail
    go_ret
    show InsertPostE tb t x v w (.returned (dv d)) _
    rw [DN.out]
    exact ⟨_, rfl, FIN.out _ _ (.inl ⟨rfl, LE.out⟩) rfl⟩

/-- Insert. -/
theorem Insert_anyE {w : World} {tb : Nat} {t : BT Nd} (g : Good w tb t) (hlen : (prs t).length ≤ 300000) (x v : Int) (hx : x ≠ -2147483648) :
    Calls Try.prog 59 #[.pointer (some ⟨tb, 0, none⟩), .int .i32 x, .iface 3 (.int .i64 v)] w (InsertPostE tb t x v w) := by
  by_cases ht : t = .nil
  · subst ht; exact Insert_nilE g x v hx
  · exact Insert_nodeE ht g hlen x v hx

def InsertPost (tb : Nat) (t : BT Nd) (x v : Int) (w : World) (e : Ending) (w' : World) : Prop :=
  ∃ t', e = .returned (dv (dat x (prs t))) ∧ Chg (fun k => k = tb) w w' ∧ Good w' tb t' ∧ prs t' = lo x (prs t) ++ (x, some v) :: hi x (prs t)
theorem Insert_any {w : World} {tb : Nat} {t : BT Nd} (g : Good w tb t) (hlen : (prs t).length ≤ 300000) (x v : Int) (hx : x ≠ -2147483648) :
    Calls Try.prog 59 #[.pointer (some ⟨tb, 0, none⟩), .int .i32 x, .iface 3 (.int .i64 v)] w (InsertPost tb t x v w) :=
  (Insert_anyE g hlen x v hx).mono fun e w' ⟨t', h1, h2, h3, h4, _⟩ => ⟨t', h1, h2, h3, h4⟩

/-- What Delete leaves. -/
def DeletePostE (tb : Nat) (t : BT Nd) (L : List (Int × Option Int)) (w : World) (w' : World) : Prop :=
  ∃ t', Chg (fun k => k = tb) w w' ∧ Good w' tb t' ∧ prs t' = L ∧ DelT (er t) L (er t')

theorem delete_fin {w w1 w' : World} {tb : Nat} {t t' : BT Nd} {L : List (Int × Option Int)} (g : Good w tb t) (hb : Below w.heap.size w w1) (H : Holds w1 t') (D : Del t t' L) (S : Srt L) (F : ∀ p ∈ L, p.2.isSome = true) (hl : L.length + 1 = (prs t).length)
    (hw : w' = (w1.setCell ⟨tb, 0, none⟩ (.pointer (pt t'))).setCell ⟨tb, 1, none⟩ (.int .i64 ((prs t).length - 1))) : DeletePostE tb t L w w' := by
  have hd1 := g.hd.chg (Chg.of_below hb) (Nat.not_le.2 g.hd.lt)
  have hC1 : Chg (fun k => k = tb) w w1 := (Chg.of_below hb).mono (fun k hk h => absurd hk (Nat.not_lt.2 h))
  subst hw
  have hn := hd1.notin H
  refine ⟨t', (hC1.setCell _ _ (fun _ => rfl)).setCell _ _ (fun _ => rfl), ⟨?_, (H.set _ _ hn).set _ _ hn, by rw [D.ps]; exact S, D.avl, by rw [D.ps]; exact F⟩, D.ps, .inl D.e⟩
  have e : ((prs t').length : Int) = ((prs t).length : Int) - 1 := by rw [D.ps]; omega
  rw [e]
  exact (hd1.set0 _).set1 _

theorem drop_mem {x : Int} {L : List (Int × Option Int)} (h : ∀ p ∈ L, p.2.isSome = true) : ∀ p ∈ lo x L ++ hi x L, p.2.isSome = true := by
  intro p hp
  rcases List.mem_append.1 hp with hp | hp
  · exact h p (mem_lo.1 hp).1
  · exact h p (mem_hi.1 hp).1
theorem len_drop {x : Int} {d : Option Int} {L : List (Int × Option Int)} (s : Srt L) (h : (x, d) ∈ L) : (lo x L ++ hi x L).length + 1 = L.length := by
  obtain ⟨A, B, rfl⟩ := List.append_of_mem h
  rw [lo_here s rfl, hi_here s rfl]; simp; omega
theorem drop_none {x : Int} : ∀ {L : List (Int × Option Int)}, (∀ p ∈ L, p.1 ≠ x) → Srt L → lo x L ++ hi x L = L
  | [], _, _ => rfl
  | p :: L, h, s => by
    obtain ⟨s1, s2⟩ := List.pairwise_cons.1 s
    have ih := drop_none (fun q hq => h q (List.mem_cons_of_mem _ hq)) s2
    have hp := h p (List.mem_cons_self ..)
    by_cases a : p.1 < x
    · have b : ¬ x < p.1 := by omega
      simpa [lo, hi, a, b] using ih
    · have b : x < p.1 := by omega
      have e : lo x L = [] := lo_none (fun q hq => by have := s1 q hq; omega)
      rw [e] at ih
      have e' : lo x (p :: L) = [] := lo_none (fun q hq => by
        rcases List.mem_cons.1 hq with rfl | hq
        · omega
        · have := s1 q hq; omega)
      rw [e']
      simpa [hi, b] using ih

set_option maxRecDepth 100000 in
set_option maxHeartbeats 400000 in
/-- Delete. -/
theorem Delete_anyE {w : World} {tb : Nat} {t : BT Nd} (g : Good w tb t) (hlen : (prs t).length ≤ 300000) (x : Int) :
    Calls Try.prog 44 #[.pointer (some ⟨tb, 0, none⟩), .int .i32 x] w (fun e w' => e = .returned (dv (dat x (prs t))) ∧ DeletePostE tb t (lo x (prs t) ++ hi x (prs t)) w w') := by
  have c0 := g.hd.c0
  have IH := Lib.hid (delete_any x t w g.H g.S g.A (by have := g.A.low hlen; omega))
  have G := Lib.hid g
  have LL := Lib.hid hlen
  have NO : ∀ w1, Below w.heap.size w w1 → (∀ p ∈ prs t, p.1 ≠ x) → ((.returned .nilIface : Ending) = .returned (dv (dat x (prs t))) ∧ DeletePostE tb t (lo x (prs t) ++ hi x (prs t)) w w1) := fun w1 b1 h1 => by
    rw [dat_none h1, drop_none h1 g.S]
    exact ⟨rfl, t, (Chg.of_below b1).mono (fun k hk h => absurd hk (Nat.not_lt.2 h)), g.below b1, rfl, .inr ⟨prs_er t, rfl⟩⟩
  have NN := Lib.hid NO
  clear g hlen NO
  cases t with
  | nil =>
    simp only [pt] at c0
    go_enter Try.func44, Try.ntmps44
    go_wp2_with fail
    go_ret
    exact NN.out _ (Below.refl _ _) (fun p hp => by cases hp)
  | node b o a l r =>
    have ho : o = 0 := G.out.H.1
    subst ho
    simp only [pt] at c0
    go_enter Try.func44, Try.ntmps44
    go_wp2_with fail
    refine IH.out.mono ?_
    rintro e w1 (⟨h1, rfl, b1⟩ | ⟨t', mb, d, lp, rp, h, rfl, b1, h1, p1, d1, m1⟩)
    · have Z := Lib.hid (NN.out w1 b1 h1)
      clear b1 h1
      go_wp2_with fail
      go_ret
      exact Z.out
    · have hd1 := G.out.hd.chg (Chg.of_below b1) (Nat.not_le.2 G.out.hd.lt)
      have m2 := Chg.cel (Chg.of_below b1) m1 (Nat.not_le.2 m1.lt)
      have k2 := m2.c2
      have d0 := hd1.c0
      have d2 := hd1.c1
      have df := hd1.fz
      have hne : mb ≠ tb := fun e => G.out.hd.ne m1 e
      have bd : 0 ≤ ((prs (.node b 0 a l r)).length : Int) ∧ ((prs (.node b 0 a l r)).length : Int) ≤ 300000 := by have := LL.out; omega
      have FIN := Lib.hid (fun w' => delete_fin (w' := w') G.out b1 h1 d1 (G.out.S.drop) (drop_mem G.out.F) (len_drop G.out.S p1))
      have DN := Lib.hid (dat_mem G.out.S p1)
      clear b1 h1 p1 d1 m1 hd1 m2
      obtain ⟨n, hn⟩ : ∃ n : Int, n = ((prs (.node b 0 a l r)).length : Int) := ⟨_, rfl⟩
      rw [← hn] at d2 bd
      have HN := Lib.hid hn
      clear hn
      go_wp2_with fail
      go_ret
      refine ⟨by rw [DN.out]; rfl, FIN.out _ ?_⟩
      rw [← HN.out]
def DeletePost (tb : Nat) (t : BT Nd) (L : List (Int × Option Int)) (w : World) (w' : World) : Prop :=
  ∃ t', Chg (fun k => k = tb) w w' ∧ Good w' tb t' ∧ prs t' = L
theorem DeletePostE.plain {tb : Nat} {t : BT Nd} {L : List (Int × Option Int)} {w w' : World} (h : DeletePostE tb t L w w') : DeletePost tb t L w w' := by
  obtain ⟨t', h1, h2, h3, _⟩ := h
  exact ⟨t', h1, h2, h3⟩
theorem Delete_any {w : World} {tb : Nat} {t : BT Nd} (g : Good w tb t) (hlen : (prs t).length ≤ 300000) (x : Int) :
    Calls Try.prog 44 #[.pointer (some ⟨tb, 0, none⟩), .int .i32 x] w (fun e w' => e = .returned (dv (dat x (prs t))) ∧ DeletePost tb t (lo x (prs t) ++ hi x (prs t)) w w') :=
  (Delete_anyE g hlen x).mono fun e w' ⟨h1, h2⟩ => ⟨h1, h2.plain⟩

end Go.Proofs.Ytahghidbadpkeaa
