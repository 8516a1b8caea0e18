/- The walk of T.Difference. -/
import Derived.Test.YtahghidbadpkeaaMix
import Derived.Test.YtahghidbadpkeaaTrew
set_option linter.unusedVariables false
set_option linter.unusedSimpArgs false
namespace Go.Proofs.Ytahghidbadpkeaa
open Go.Deep Go.RowKit

abbrev Ls := List (Int × Option Int)
def dropL (k : Int) (R : Ls) : Ls := lo k R ++ hi k R
def difStep (x : Mx) (U : Ls) (R : Ls) (p : Int × Option Int) : Ls :=
  match dat p.1 U, p.2 with
  | none, _ => R
  | some _, none => R
  | some y, some d => if x.no then dropL p.1 R else match mixf x d y with
    | none => dropL p.1 R
    | some z => if z = d then R else putL p.1 z R
def difL (x : Mx) (U T : Ls) : Ls := T.foldl (difStep x U) T

/-- What Delete makes of a tree without places, by the pairs that are left. -/
def DelFun (F : BT Nd → Ls → BT Nd) : Prop := ∀ e L e', er e = e → Avl e → Srt (prs e) → DelT e L e' → e' = F e L
theorem DelT.uniq {e : BT Nd} {L : Ls} {e1 e2 : BT Nd} (h1 : DelT e L e1) (h2 : DelT e L e2) (he : er e = e) (ha : Avl e) (hs : Srt (prs e)) : e1 = e2 := by
  rcases h1 with h1 | ⟨h1, rfl⟩ <;> rcases h2 with h2 | ⟨h2, rfl⟩
  · exact h1.uniq h2 he ha hs
  · have := h1.len; rw [h2] at this; omega
  · have := h2.len; rw [h1] at this; omega
  · rfl
theorem delFun_ex : ∃ F, DelFun F := by
  haveI := Classical.propDecidable
  refine ⟨fun e L => if h : ∃ e', DelT e L e' then Classical.choose h else e, fun e L e' he ha hs hd => ?_⟩
  have h : ∃ e', DelT e L e' := ⟨e', hd⟩
  simp only [dif_pos h]
  exact hd.uniq (Classical.choose_spec h) he ha hs
theorem DelFun.use {F : BT Nd → Ls → BT Nd} (hF : DelFun F) {w : World} {tb : Nat} {t : BT Nd} {L : Ls} {e' : BT Nd} (g : Good w tb t) (h : DelT (er t) L e') : e' = F (er t) L :=
  hF _ _ _ (er_er t) (avl_er g.A) (by rw [prs_er]; exact g.S) h
def difE (F : BT Nd → Ls → BT Nd) (x : Mx) (U : Ls) (R : BT Nd) (p : Int × Option Int) : BT Nd :=
  match dat p.1 U, p.2 with
  | none, _ => R
  | some _, none => R
  | some y, some d => if x.no then F R (dropL p.1 (prs R)) else match mixf x d y with
    | none => F R (dropL p.1 (prs R))
    | some z => if z = d then R else insF p.1 z R
def difLE (F : BT Nd → Ls → BT Nd) (x : Mx) (U T : BT Nd) : BT Nd := (prs T).foldl (difE F x (prs U)) T

theorem difStep_len (x : Mx) (U R : Ls) (p : Int × Option Int) (h : Srt R) : (difStep x U R p).length ≤ R.length + 1 := by
  have h1 : (dropL p.1 R).length ≤ R.length + 1 := by
    have := putL_len p.1 0 R h
    simp only [putL, dropL, List.length_append, List.length_cons] at *
    omega
  unfold difStep
  split
  · omega
  · omega
  · split
    · exact h1
    · split
      · exact h1
      · split
        · omega
        · exact putL_len _ _ _ h

theorem difL_nil (x : Mx) (T : Ls) : difL x [] T = T := by
  have : ∀ (P R : Ls), P.foldl (difStep x []) R = R := by
    intro P
    induction P with
    | nil => exact fun R => rfl
    | cons p P ih => intro R; simp only [List.foldl_cons]; rw [ih]; rfl
  exact this T T

theorem difLE_nil (F : BT Nd → Ls → BT Nd) (x : Mx) (T U : BT Nd) (h : prs U = []) : difLE F x U T = T := by
  have : ∀ (P : Ls) (R : BT Nd), P.foldl (difE F x []) R = R := by
    intro P
    induction P with
    | nil => exact fun R => rfl
    | cons p P ih => intro R; simp only [List.foldl_cons]; rw [ih]; rfl
  unfold difLE
  rw [h]
  exact this _ T

theorem eql68a (w : World) : (binOp .eql 68 .nilFunc .nilFunc).run Try.prog w = .ok (.bool true) w := by kernel_rfl
theorem eql68b (w : World) (a : Addr) : (binOp .eql 68 (.func (Fn.func 68) #[] #[.pointer (some a)]) .nilFunc).run Try.prog w = .ok (.bool false) w := by kernel_rfl

theorem equal20 (z d : Int) (w : World) : (Op.equal 20 (.iface 3 (.int .i64 z)) (.iface 3 (.int .i64 d))).run Try.prog w = .ok (z == d) w := by
  have key : ∀ n : Nat, (Op.equalIn (n + 2) 20 (.iface 3 (.int .i64 z)) (.iface 3 (.int .i64 d))).run Try.prog w = .ok (z == d) w := by
    intro n
    have hc : Try.t3.comparable = true := by kernel_rfl
    simp [hc, Op.equalIn, run_underlying Try.underlying20, run_underlying Try.underlying3, go_sem, Result.andThen]
  exact key 9998
theorem neq20 (z d : Int) (w : World) : (binOp .neq 20 (.iface 3 (.int .i64 z)) (.iface 3 (.int .i64 d))).run Try.prog w = .ok (.bool (z != d)) w := by
  simp only [binOp]
  simp [equal20, bne]

/-- The loop's state. -/
def DfInv (F : BT Nd → Ls → BT Nd) (E0 : BT Nd) (x : Mx) (w : World) (rb ib : Nat) (T U P : Ls) (wr : World) : Prop :=
  ∃ (D : Ls) (s : List Ent) (v : Value) (tr : BT Nd), It wr w.heap.size ib 108 v s ∧ Stk s ∧ Lim 100 s ∧ topF s ∧ pend s = P ∧ D ++ P = T ∧ Good wr rb tr ∧ prs tr = D.foldl (difStep x U) T ∧ er tr = D.foldl (difE F x U) E0 ∧ (prs tr).length ≤ T.length + D.length ∧ rb ≠ ib ∧ v.ownBlock ≠ some rb ∧ w.heap.size ≤ rb ∧ Below w.heap.size w wr

def TbPost (L : Ls) (w : World) (e : Ending) (w' : World) : Prop :=
  ∃ tb' t', e = .returned (.pointer (some ⟨tb', 0, none⟩)) ∧ Below w.heap.size w w' ∧ Good w' tb' t' ∧ prs t' = L
/-- The same, and the tree's shape. -/
def TbPostE (L : Ls) (E : BT Nd) (w : World) (e : Ending) (w' : World) : Prop :=
  ∃ tb' t', e = .returned (.pointer (some ⟨tb', 0, none⟩)) ∧ Below w.heap.size w w' ∧ Good w' tb' t' ∧ prs t' = L ∧ er t' = E
theorem TbPostE.plain {L : Ls} {E : BT Nd} {w : World} {e : Ending} {w' : World} (h : TbPostE L E w e w') : TbPost L w e w' := by
  obtain ⟨tb', t', h1, h2, h3, h4, _⟩ := h
  exact ⟨tb', t', h1, h2, h3, h4⟩

theorem It.notin {w : World} {B ib : Nat} {v : Value} {s : List Ent} {t : BT Nd} (h : It w B ib 108 v s) (H : Holds w t) : ∀ k ∈ blks t, ¬ (k = ib ∨ v.ownBlock = some k) := by
  intro k hk
  obtain ⟨lp, rp, d, kk, hh, c, _⟩ := H.key k hk
  have c' : w.heap[k]? = _ := c
  rintro (rfl | hr)
  · rw [h.hd] at c'; simp at c'
  · rcases h.ow.2 with ⟨rfl, _⟩ | ⟨g, cap, cur, rfl, _, h2, _⟩
    · cases hr
    · have : g = k := Option.some.inj hr
      subst this
      rw [h2] at c'; simp at c'

structure DfR (F : BT Nd → Ls → BT Nd) (E0 : BT Nd) (x : Mx) (w : World) (rb ib : Nat) (T U P : Ls) (v : Value) (w3 : World) (D : Ls) (s : List Ent) (tr : BT Nd) (p : Int × Option Int) : Prop where
  it : It w3 w.heap.size ib 108 v s
  st : Stk s
  li : Lim 100 s
  tp : topF s
  pe : pend s = P
  all : D ++ p :: P = T
  g : Good w3 rb tr
  e : prs tr = D.foldl (difStep x U) T
  eE : er tr = D.foldl (difE F x U) E0
  len : (prs tr).length ≤ T.length + D.length
  ne : rb ≠ ib
  ne2 : v.ownBlock ≠ some rb
  le : w.heap.size ≤ rb
  b : Below w.heap.size w w3

theorem DfR.it5 {F : BT Nd → Ls → BT Nd} {E0 : BT Nd} {x : Mx} {w : World} {rb ib : Nat} {T U P : Ls} {v : Value} {w3 w5 : World} {D : Ls} {s : List Ent} {tr : BT Nd} {p : Int × Option Int} (h : DfR F E0 x w rb ib T U P v w3 D s tr p) (c : Chg (fun k => k = rb) w3 w5) : It w5 w.heap.size ib 108 v s :=
  h.it.chg c (fun e => h.ne e.symm) (fun k hk e => h.ne2 (by rw [hk, e])) (fun k e => by have := h.le; omega)

theorem DfR.cell {F : BT Nd → Ls → BT Nd} {E0 : BT Nd} {x : Mx} {w : World} {rb ib : Nat} {T U P : Ls} {v : Value} {w3 w5 : World} {D : Ls} {s : List Ent} {tr : BT Nd} {p : Int × Option Int} (h : DfR F E0 x w rb ib T U P v w3 D s tr p) (c : Chg (fun k => k = rb) w3 w5) : w5.cell? ⟨ib, 0, none⟩ = some v := by
  simp [World.cell?, (h.it5 c).hd]

theorem DfR.step {F : BT Nd → Ls → BT Nd} {E0 : BT Nd} {x : Mx} {w : World} {rb ib : Nat} {T U P : Ls} {v : Value} {w3 w5 : World} {D : Ls} {s : List Ent} {tr tr' : BT Nd} {p : Int × Option Int} (h : DfR F E0 x w rb ib T U P v w3 D s tr p) (c : Chg (fun k => k = rb) w3 w5) (g : Good w5 rb tr') (e : prs tr' = difStep x U (prs tr) p) (eE : er tr' = difE F x U (er tr) p) : DfInv F E0 x w rb w5.heap.size T U P (w5.alloc (.cells #[v] 108)) := by
  have i5 := h.it5 c
  have c6 := (Chg.refl (fun _ => False) w5).alloc (.cells #[v] 108)
  have b5 : Below w.heap.size w w5 := h.b.trans ((c.mono (S' := fun k => w.heap.size ≤ k) (fun k _ e => by have := h.le; omega)).below h.b.size (fun _ h => h))
  have hrl := g.hd.lt
  refine ⟨D ++ [p], s, v, tr', ⟨heap_alloc_new w5 _, i5.ow.alloc _, ?_, b5.size, fun e' he => (i5.H e' he).alloc _, i5.bl⟩, h.st, h.li, h.tp, h.pe, ?_, g.chg c6 (fun h => h) (fun _ _ h => h), ?_, ?_, ?_, by omega, h.ne2, h.le, b5.alloc b5.size _⟩
  · intro e'; have := (i5.ow.lt _ e').2; omega
  · rw [← h.all]; simp
  · rw [e, h.e, List.foldl_append]; rfl
  · rw [eE, h.eE, List.foldl_append]; rfl
  · have := difStep_len x U (prs tr) p h.g.S
    have := h.len
    rw [e]
    simp only [List.length_append, List.length_cons, List.length_nil]
    omega

set_option maxRecDepth 100000 in
set_option maxHeartbeats 1600000 in
theorem Difference_anyE {FF0 : BT Nd → Ls → BT Nd} (hF0 : DelFun FF0) {w : World} {tb ub xb : Nat} {t u : BT Nd} {F : Value} (x : Mx) (hF : F = fv x xb) (g : Good w tb t) (gu : Good w ub u) (hx : w.heap[xb]? = some (.cells x.cells 39 (0, 0))) (hn : (prs t).length ≤ 100000) (hk : ∀ p ∈ prs t, p.1 ≠ -2147483648) :
    Calls Try.prog 47 #[.pointer (some ⟨tb, 0, none⟩), .pointer (some ⟨ub, 0, none⟩), F] w (TbPostE (difL x (prs u) (prs t)) (difLE FF0 x (er u) (er t)) w) := by
  have FF : Hid ((F = .nilFunc ∧ x.no = true) ∨ (F = .func (Fn.func 68) #[] #[.pointer (some ⟨xb, 0, none⟩)] ∧ x.no = false)) := by
    subst hF
    unfold fv
    cases x.no
    · exact .inr ⟨rfl, rfl⟩
    · exact .inl ⟨rfl, rfl⟩
  clear hF
  by_cases htn : t = .nil
  · subst htn
    have SZ := Lib.hid (Size_any g.hd)
    clear g gu hx hk hn
    go_enter Try.func47, Try.ntmps47
    go_wp2_with fail
    refine SZ.out.mono ?_
    rintro e w1 ⟨rfl, hw⟩
    rw [hw]
    clear hw w1
    simp only [prs, List.length_nil, Int.natCast_zero]
    go_wp2_with fail
    go_ret
    refine ⟨w.heap.size, .nil, rfl, (Below.refl _ w).alloc (Nat.le_refl _) _, ⟨?_, trivial, List.Pairwise.nil, trivial, fun p hp => by cases hp⟩, rfl, rfl⟩
    exact heap_alloc_new w _
  · have hpos : 0 < (prs t).length := by
      cases t with
      | nil => exact absurd rfl htn
      | node => simp only [prs, List.length_append, List.length_cons]; omega
    have hT1 : (((prs t).length : Int) == 0) = false := by rw [beq_eq_false_iff_ne]; omega
    have SZ := Lib.hid (Size_any g.hd)
    have SZU := Lib.hid (Size_any gu.hd)
    have hlow := g.A.low (by omega)
    have G0 := Lib.hid (And.intro g (And.intro gu (And.intro hx hk)))
    by_cases hu : (((prs u).length : Int) == 0) = true
    · have HU := Lib.hid hu
      clear g gu hx hk
      go_enter Try.func47, Try.ntmps47
      go_wp2_with fail
      refine SZ.out.mono ?_
      rintro e w1 ⟨rfl, hw⟩
      rw [hw]
      clear hw w1
      go_wp2_with fail
      refine SZU.out.mono ?_
      rintro e w1 ⟨rfl, hw⟩
      rw [hw]
      clear hw w1
      go_wp2_with fail
      go_ret
      have e : prs u = [] := List.eq_nil_of_length_eq_zero (by have := HU.out; simpa using this)
      exact ⟨tb, t, rfl, Below.refl _ w, G0.out.1, by rw [e, difL_nil], (difLE_nil FF0 x _ _ (by rw [prs_er]; exact e)).symm⟩
    · have hu' : (((prs u).length : Int) == 0) = false := by simpa using hu
      have CP := Lib.hid (Copy_any g.hd)
      have W0 : Hid (Good (w.alloc (.cells #[.pointer (pt t), .int .i64 (prs t).length] 96)) w.heap.size t) := ⟨heap_alloc_new w _, g.H.alloc _, g.S, g.A, g.F⟩
      have IA := Lib.hid (Iterator_any (g.chg ((Chg.refl (fun _ => False) w).alloc (.cells #[.pointer (pt t), .int .i64 (prs t).length] 96)) (fun h => h) (fun _ _ h => h)) (by show (prs t).length ≤ _; omega))
      clear g gu hx hk hu
      go_enter Try.func47, Try.ntmps47
      go_wp2_with fail
      refine SZ.out.mono ?_
      rintro e w1 ⟨rfl, hw⟩
      rw [hw]
      clear hw w1
      go_wp2_with fail
      refine SZU.out.mono ?_
      rintro e w1 ⟨rfl, hw⟩
      rw [hw]
      clear hw w1
      go_wp2_with fail
      refine CP.out.mono ?_
      rintro e w1 ⟨rfl, rfl⟩
      go_wp2_with fail
      refine IA.out.mono ?_
      rintro e w2 ⟨sa, n, cap, rfl, hn2, o2, b2⟩
      have D0 : Hid (DfInv FF0 (er t) x w w.heap.size w2.heap.size (prs t) (prs u) (prs t) (w2.alloc (.cells #[.slice sa n cap] 108))) := by
        have hs2 := b2.size
        simp only [World.size_alloc] at hs2 b2 o2
        obtain ⟨g, gu, hx, hk⟩ := G0.out
        have gW := W0.out
        have g2 : Good w2 w.heap.size t := gW.below (by rw [World.size_alloc]; exact b2)
        have hlt := o2.lt
        refine ⟨[], lp t [], .slice sa n cap, t, ⟨heap_alloc_new w2 _, ?_, ?_, by omega, ?_, ?_⟩, stk_lp t [] trivial g.S (.inr trivial), lim_lp 100 t [] trivial (by simp; omega), topF_lp t [] trivial, by rw [pend_lp]; simp [pend], rfl, g2.chg ((Chg.refl (fun _ => False) w2).alloc _) (fun h => h) (fun _ _ h => h), rfl, rfl, by simp, by omega, ?_, Nat.le_refl _, ?_⟩
        · have := World.ownsRow.mono (base' := w.heap.size) o2 (Nat.le_succ _)
          rw [← hn2]
          exact this.alloc _
        · intro e; have := (hlt _ e).2; omega
        · exact lp_mem (P := Holds _) (fun b o a l r h => h.2.2.1) (g2.H.alloc _) (fun e he => by cases he)
        · exact lp_mem (P := fun t => ∀ k ∈ blks t, k < w.heap.size) (fun b o a l r h k hk => h k (List.mem_cons_of_mem _ (List.mem_append_left _ hk))) (fun k hk => g.H.lt k hk) (fun e he => by cases he)
        · intro e; have := (hlt _ e).1; omega
        · exact (((Below.refl _ w).alloc (Nat.le_refl _) _).trans (b2.mono (Nat.le_succ _))).alloc (by omega) _
      clear hn2 o2 b2
      go_wp2_with fail
      go_loopg [8] ((prs t).length) (fun k p wr => ∃ (ib : Nat) (P : Ls), p = .pointer (some ⟨ib, 0, none⟩) ∧ P.length = k ∧ Hid (DfInv FF0 (er t) x w w.heap.size ib (prs t) (prs u) P wr))
      case atStart => exact ⟨w2.heap.size, prs t, rfl, rfl, D0.out⟩
      case round =>
        clear D0
        obtain ⟨ib, P, rfl, rfl, hr⟩ := hrel
        obtain ⟨D, s, v, tr, i1, i2, i3, i4, i5, i6, i7, i8, i8e, i9, i10, i11, i12, i13⟩ := hr.out
        have DN := Lib.hid (Done_any i1)
        match s, i1, i2, i3, i4, i5, DN with
        | [], i1, i2, i3, i4, i5, DN =>
          have Q := Lib.hid (And.intro i5 (And.intro i6 (And.intro i7 (And.intro i8 (And.intro i8e i13)))))
          clear hr i1 i2 i3 i4 i5 i6 i7 i8 i8e i9 i10 i11 i12 i13
          go_wp2_with fail
          refine DN.out.mono ?_
          rintro e w3 ⟨rfl, hw⟩
          rw [hw]
          clear hw w3
          simp only [List.length_nil]
          go_wp2_with fail
          go_ret
          obtain ⟨i5, i6, i7, i8, i8e, i13⟩ := Q.out
          have i5' : P = [] := i5.symm
          subst i5'
          rw [List.append_nil] at i6
          subst i6
          refine ⟨w.heap.size, tr, rfl, i13, i7, i8, ?_⟩
          rw [i8e, difLE, prs_er, prs_er]
        | (.nil, f) :: s, i1, i2, i3, i4, i5, DN => exact absurd rfl i2.1
        | (.node b o a l r, true) :: s, i1, i2, i3, i4, i5, DN => cases i4
        | (.node b o a l r, false) :: s, i1, i2, i3, i4, i5, DN =>
          have hD : ∃ dd, a.d = some dd := by
            have : (a.k, a.d) ∈ prs t := by rw [← i6, ← i5]; simp [pend]
            have := G0.out.1.F _ this
            cases e : a.d with
            | none => rw [e] at this; cases this
            | some dd => exact ⟨dd, rfl⟩
          obtain ⟨dd, hdd⟩ := hD
          have hP : Hid (P = (a.k, a.d) :: (prs r ++ pend s)) := i5.symm
          have NX := Lib.hid (Next_any (by omega) i1 i2 i3)
          have FD := Lib.hid (fun (w' : World) (gg : Good w' ub u) => Find_any gg a.k)
          have Q := Lib.hid (And.intro i1 (And.intro i6 (And.intro i7 (And.intro i8 (And.intro i8e (And.intro i9 (And.intro i10 (And.intro i11 (And.intro i12 i13)))))))))
          clear hr i1 i2 i3 i4 i5 i6 i7 i8 i8e i9 i10 i11 i12 i13
          go_wp2_with fail
          refine DN.out.mono ?_
          rintro e w3 ⟨rfl, hw⟩
          rw [hw]
          clear hw w3
          have hl0 : ((((BT.node b o a l r, false) :: s : List Ent)).length == 0) = false := rfl
          rw [hl0]
          clear hl0
          go_wp2_with fail
          refine NX.out.mono ?_
          rintro e w3 ⟨rfl, s', ⟨v', j1, j2, j3⟩, j4, j5, j6, j7⟩
          rw [hdd]
          obtain ⟨sa', cap', rfl⟩ := owns_shape j1.ow
          obtain ⟨n', hn'⟩ : ∃ n', n' = s'.length := ⟨_, rfl⟩
          rw [← hn'] at j1 j3
          have HR : Hid (DfR FF0 (er t) x w w.heap.size ib (prs t) (prs u) (prs r ++ pend s) (.slice sa' n' cap') w3 D s' tr (a.k, some dd)) := by
            obtain ⟨i1, i6, i7, i8, i8e, i9, i10, i11, i12, i13⟩ := Q.out
            have b3 : Below w.heap.size w w3 := i13.trans ((j2.mono (S' := fun k => w.heap.size ≤ k) (fun k _ e => by
              rcases e with rfl | e
              · exact i1.lo
              · exact (i1.ow.lt k e).1)).below i13.size (fun _ h => h))
            refine ⟨j1, j4, j5, j7, j6, ?_, i7.chg j2 ?_ (i1.notin i7.H), i8, i8e, i9, i10, ?_, i12, b3⟩
            · rw [← i6, hP.out, hdd]
            · rintro (e | e)
              · exact i10 e
              · exact i11 e
            · rcases j3 with j3 | j3
              · rw [j3]; exact i11
              · intro e; have := j3 _ e; have := i7.hd.lt; omega
          have c0 := HR.out.cell (Chg.refl _ w3)
          have gu3 : Good w3 ub u := G0.out.2.1.below HR.out.b
          have FD3 := Lib.hid (FD.out w3 gu3)
          have hxb : Hid (w3.heap[xb]? = some (.cells x.cells 39 (0, 0))) := (HR.out.b.block xb (Array.getElem?_eq_some_iff.1 G0.out.2.2.1).1).trans G0.out.2.2.1
          have hlen : Hid ((prs tr).length ≤ 300000) := by
            have h1 := HR.out.len
            have h2 := congrArg List.length HR.out.all
            simp at h2
            show (prs tr).length ≤ 300000
            omega
          have hkey : Hid (a.k ≠ -2147483648) := by
            have := G0.out.2.2.2 (a.k, some dd) (by rw [← HR.out.all]; simp)
            exact this
          clear gu3 j1 j2 j3 j4 j5 j6 j7 hn' Q NX DN FD
          simp only [dv]
          have hPl : Hid (P.length = (prs r ++ pend s).length + 1) := by
            show P.length = _
            rw [hP.out]; rfl
          obtain ⟨P', hP'⟩ : ∃ P', P' = prs r ++ pend s := ⟨_, rfl⟩
          rw [← hP'] at HR hPl
          clear hP' hP
          go_wp2_with fail
          refine FD3.out.mono ?_
          rintro e w4 ⟨rfl, hw⟩
          rw [hw]
          clear hw w4
          obtain ⟨yo, hyo⟩ : ∃ yo, yo = dat a.k (prs u) := ⟨_, rfl⟩
          rw [← hyo]
          have HY := Lib.hid hyo
          clear hyo
          cases yo with
          | none =>
            simp only [dv]
            go_wp2_with fail
            go_roundg P'.length
            case measure => have := hPl.out; omega
            case rel =>
              refine ⟨_, P', rfl, rfl, ?_⟩
              refine HR.out.step (Chg.refl _ w3) HR.out.g ?_ ?_
              · simp only [difStep, ← HY.out]
              · simp only [difE, ← HY.out]
          | some y =>
            simp only [dv]
            rcases FF.out with ⟨rfl, hno⟩ | ⟨rfl, hno⟩
            · have DL := Lib.hid (Delete_anyE HR.out.g hlen.out a.k)
              have HNO := Lib.hid hno
              clear hno
              have hff := eql68a
              go_wp2_with fail
              refine DL.out.mono ?_
              rintro e w5 ⟨rfl, t5, c5, g5, e5, E5⟩
              have c1 := HR.out.cell c5
              have Q5 := Lib.hid (And.intro c5 (And.intro g5 (And.intro e5 E5)))
              clear c5 g5 e5 E5 c0
              go_wp2_with fail
              go_roundg P'.length
              case measure => have := hPl.out; omega
              case rel =>
                obtain ⟨c5, g5, e5, E5⟩ := Q5.out
                refine ⟨_, P', rfl, rfl, HR.out.step c5 g5 ?_ ?_⟩
                · rw [e5]; simp only [difStep, ← HY.out, HNO.out, if_true, dropL]
                · rw [hF0.use HR.out.g E5]; simp only [difE, ← HY.out, HNO.out, if_true, dropL, prs_er]
            · have CL := Lib.hid (clos_any x dd y hxb.out)
              have HNO := Lib.hid hno
              clear hno
              have hff := eql68b
              have hnq := neq20
              go_wp2_with fail
              refine CL.out.mono ?_
              rintro e w4 ⟨rfl, nd, rfl⟩
              have g4 : Good (w3.drewN nd) w.heap.size tr := HR.out.g.chg ((Chg.refl (fun _ => False) w3).drewN nd) (fun h => h) (fun _ _ h => h)
              obtain ⟨zo, hzo⟩ : ∃ zo, zo = mixf x dd y := ⟨_, rfl⟩
              rw [← hzo]
              have HZ := Lib.hid hzo
              clear hzo
              cases zo with
              | none =>
                have DL := Lib.hid (Delete_anyE g4 hlen.out a.k)
                clear g4
                simp only [dv]
                go_wp2_with fail
                refine DL.out.mono ?_
                rintro e w5 ⟨rfl, t5, c5, g5, e5, E5⟩
                have c51 : Chg (fun k => k = w.heap.size) w3 w5 := (((Chg.refl (fun k => k = w.heap.size) w3).drewN _).trans c5)
                have c1 := HR.out.cell c51
                have Q5 := Lib.hid (And.intro c51 (And.intro g5 (And.intro e5 E5)))
                clear c5 g5 e5 E5 c0 c51
                go_wp2_with fail
                go_roundg P'.length
                case measure => have := hPl.out; omega
                case rel =>
                  obtain ⟨c5, g5, e5, E5⟩ := Q5.out
                  refine ⟨_, P', rfl, rfl, HR.out.step c5 g5 ?_ ?_⟩
                  · rw [e5]; simp [difStep, ← HY.out, HNO.out, ← HZ.out, dropL]
                  · rw [hF0.use HR.out.g E5]; simp [difE, ← HY.out, HNO.out, ← HZ.out, dropL, prs_er]
              | some z =>
                by_cases hz : (z == dd) = true
                · have hzd := Lib.hid (show z = dd by simpa using hz)
                  have hz2 : (z != dd) = false := by simp [bne, hz]
                  obtain ⟨w4, hw4⟩ : ∃ w4, w4 = w3.drewN nd := ⟨_, rfl⟩
                  have c4 : Chg (fun k => k = w.heap.size) w3 w4 := by rw [hw4]; exact (Chg.refl (fun k => k = w.heap.size) w3).drewN nd
                  have c1 := HR.out.cell c4
                  have C4 := Lib.hid c4
                  rw [← hw4] at g4 ⊢
                  have G4 := Lib.hid g4
                  clear g4 hw4 c4 c0
                  simp only [dv]
                  go_wp2_with fail
                  go_roundg P'.length
                  case measure => have := hPl.out; omega
                  case rel =>
                    refine ⟨_, P', rfl, rfl, HR.out.step C4.out G4.out ?_ ?_⟩
                    · simp [difStep, ← HY.out, HNO.out, ← HZ.out, hzd.out]
                    · simp [difE, ← HY.out, HNO.out, ← HZ.out, hzd.out]
                · have hz1 : (z == dd) = false := by simpa using hz
                  have hzd := Lib.hid (show ¬ z = dd by simpa using hz1)
                  have hz2 : (z != dd) = true := by simp [bne, hz1]
                  clear hz
                  have IN := Lib.hid (Insert_anyE g4 hlen.out a.k z hkey.out)
                  clear g4
                  simp only [dv]
                  go_wp2_with fail
                  refine IN.out.mono ?_
                  rintro e w5 ⟨t5, rfl, c5, g5, e5, E5⟩
                  have c51 : Chg (fun k => k = w.heap.size) w3 w5 := (((Chg.refl (fun k => k = w.heap.size) w3).drewN _).trans c5)
                  have c1 := HR.out.cell c51
                  have Q5 := Lib.hid (And.intro c51 (And.intro g5 (And.intro e5 E5)))
                  clear c5 g5 e5 E5 c0 c51
                  go_wp2_with fail
                  go_roundg P'.length
                  case measure => have := hPl.out; omega
                  case rel =>
                    obtain ⟨c5, g5, e5, E5⟩ := Q5.out
                    refine ⟨_, P', rfl, rfl, HR.out.step c5 g5 ?_ ?_⟩
                    · rw [e5]; simp [difStep, ← HY.out, HNO.out, ← HZ.out, putL, hzd.out]
                    · rw [E5]; simp [difE, ← HY.out, HNO.out, ← HZ.out, hzd.out]

theorem Difference_any {w : World} {tb ub xb : Nat} {t u : BT Nd} {F : Value} (x : Mx) (hF : F = fv x xb) (g : Good w tb t) (gu : Good w ub u) (hx : w.heap[xb]? = some (.cells x.cells 39 (0, 0))) (hn : (prs t).length ≤ 100000) (hk : ∀ p ∈ prs t, p.1 ≠ -2147483648) :
    Calls Try.prog 47 #[.pointer (some ⟨tb, 0, none⟩), .pointer (some ⟨ub, 0, none⟩), F] w (TbPost (difL x (prs u) (prs t)) w) := by
  obtain ⟨F0, h0⟩ := delFun_ex
  exact (Difference_anyE h0 x hF g gu hx hn hk).mono fun e w' h => h.plain

end Go.Proofs.Ytahghidbadpkeaa
