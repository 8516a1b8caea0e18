/- A step of an iteration over one tree while another is turned: the state of such a loop. -/
import Derived.Test.YtahghidbadpkeaaDiff
set_option linter.unusedVariables false
set_option linter.unusedSimpArgs false
namespace Go.Proofs.Ytahghidbadpkeaa
open Go.Deep Go.RowKit

/-- un: what the other tree lacks is put, else dropped; sw: the other tree's data come first. -/
def gStep (un sw : Bool) (x : Mx) (O : Ls) (R : Ls) (p : Int × Option Int) : Ls :=
  match p.2 with
  | none => R
  | some d => match dat p.1 O with
    | none => if un then putL p.1 d R else dropL p.1 R
    | some y => if x.no then R else match mixf x (if sw then y else d) (if sw then d else y) with
      | none => dropL p.1 R
      | some z => if z = (if sw then y else d) then R else putL p.1 z R

/-- The same on trees without places. -/
def gStpE (F : BT Nd → Ls → BT Nd) (un sw : Bool) (x : Mx) (O : Ls) (R : BT Nd) (p : Int × Option Int) : BT Nd :=
  match p.2 with
  | none => R
  | some d => match dat p.1 O with
    | none => if un then insF p.1 d R else F R (dropL p.1 (prs R))
    | some y => if x.no then R else match mixf x (if sw then y else d) (if sw then d else y) with
      | none => F R (dropL p.1 (prs R))
      | some z => if z = (if sw then y else d) then R else insF p.1 z R

theorem gStep_len (un sw : Bool) (x : Mx) (O R : Ls) (p : Int × Option Int) (h : Srt R) : (gStep un sw x O R p).length ≤ R.length + 1 := by
  have h1 : (dropL p.1 R).length ≤ R.length + 1 := by
    have := putL_len p.1 0 R h
    simp only [putL, dropL, List.length_append, List.length_cons] at *
    omega
  have h2 : ∀ z, (putL p.1 z R).length ≤ R.length + 1 := fun z => putL_len _ _ _ h
  unfold gStep
  repeat' split
  all_goals first | exact h1 | exact h2 _ | omega

/-- The loop's state: T is walked, R0 is what is turned. -/
def GsInv (st : Ls → Int × Option Int → Ls) (stE : BT Nd → Int × Option Int → BT Nd) (R0 : Ls) (E0 : BT Nd) (w : World) (rb ib : Nat) (T P : Ls) (wr : World) : Prop :=
  ∃ (D : Ls) (s : List Ent) (v : Value) (tr : BT Nd), It wr w.heap.size ib 108 v s ∧ Stk s ∧ Lim 100 s ∧ topF s ∧ pend s = P ∧ D ++ P = T ∧ Good wr rb tr ∧ prs tr = D.foldl st R0 ∧ er tr = D.foldl stE E0 ∧ (prs tr).length ≤ R0.length + D.length ∧ rb ≠ ib ∧ v.ownBlock ≠ some rb ∧ w.heap.size ≤ rb ∧ Below w.heap.size w wr

structure GsR (st : Ls → Int × Option Int → Ls) (stE : BT Nd → Int × Option Int → BT Nd) (R0 : Ls) (E0 : BT Nd) (w : World) (rb ib : Nat) (T P : Ls) (v : Value) (w3 : World) (D : Ls) (s : List Ent) (tr : BT Nd) (p : Int × Option Int) : Prop where
  it : It w3 w.heap.size ib 108 v s
  sk : Stk s
  li : Lim 100 s
  tp : topF s
  pe : pend s = P
  all : D ++ p :: P = T
  g : Good w3 rb tr
  e : prs tr = D.foldl st R0
  eE : er tr = D.foldl stE E0
  len : (prs tr).length ≤ R0.length + D.length
  ne : rb ≠ ib
  ne2 : v.ownBlock ≠ some rb
  le : w.heap.size ≤ rb
  b : Below w.heap.size w w3

section
variable {st : Ls → Int × Option Int → Ls} {stE : BT Nd → Int × Option Int → BT Nd} {R0 : Ls} {E0 : BT Nd} {w : World} {rb ib : Nat} {T P : Ls} {v : Value} {w3 w5 : World} {D : Ls} {s : List Ent} {tr tr' : BT Nd} {p : Int × Option Int} (h : GsR st stE R0 E0 w rb ib T P v w3 D s tr p) (c : Chg (fun k => k = rb) w3 w5)
include h c
theorem GsR.it5 : It w5 w.heap.size ib 108 v s :=
  h.it.chg c (fun e => h.ne e.symm) (fun k hk e => h.ne2 (by rw [hk, e])) (fun k e => by have := h.le; omega)

theorem GsR.cell : w5.cell? ⟨ib, 0, none⟩ = some v := by
  simp [World.cell?, (h.it5 c).hd]

theorem GsR.step (hst : ∀ R p, Srt R → (st R p).length ≤ R.length + 1) (g : Good w5 rb tr') (e : prs tr' = st (prs tr) p) (eE : er tr' = stE (er tr) p) : GsInv st stE R0 E0 w rb w5.heap.size T P (w5.alloc (.cells #[v] 108)) := by
  have i5 := h.it5 c
  have c6 := (Chg.refl (fun _ => False) w5).alloc (.cells #[v] 108)
  have b5 : Below w.heap.size w w5 := h.b.trans ((c.mono (S' := fun k => w.heap.size ≤ k) (fun k _ e => by have := h.le; omega)).below h.b.size (fun _ h => h))
  have hrl := g.hd.lt
  refine ⟨D ++ [p], s, v, tr', ⟨heap_alloc_new w5 _, i5.ow.alloc _, ?_, b5.size, fun e' he => (i5.H e' he).alloc _, i5.bl⟩, h.sk, h.li, h.tp, h.pe, ?_, g.chg c6 (fun h => h) (fun _ _ h => h), ?_, ?_, ?_, by omega, h.ne2, h.le, b5.alloc b5.size _⟩
  · intro e'; have := (i5.ow.lt _ e').2; omega
  · rw [← h.all]; simp
  · rw [e, h.e, List.foldl_append]; rfl
  · rw [eE, h.eE, List.foldl_append]; rfl
  · have := hst (prs tr) p h.g.S
    have := h.len
    rw [e]
    simp only [List.length_append, List.length_cons, List.length_nil]
    omega
end

theorem neq20n (w : World) (d : Int) : (binOp .neq 20 .nilIface (.iface 3 (.int .i64 d))).run Try.prog w = .ok (.bool true) w := by kernel_rfl

/-- The state as the loop begins. -/
theorem gs_start {st : Ls → Int × Option Int → Ls} {stE : BT Nd → Int × Option Int → BT Nd} {w w2 : World} {tb : Nat} {t r : BT Nd} {sa : Option Addr} {n cap : Nat} (g : Good w tb t) (A : Avl t) (hlow : ht t < 40) (gr : Good (w.alloc (.cells #[.pointer (pt r), .int .i64 (prs r).length] 96)) w.heap.size r)
    (hn2 : (lp t []).length = n) (o2 : w2.ownsRow (w.heap.size + 1) 94 1 (.slice sa n cap) n (fl pl (lp t []).reverse)) (b2 : Below (w.heap.size + 1) (w.alloc (.cells #[.pointer (pt r), .int .i64 (prs r).length] 96)) w2) :
    GsInv st stE (prs r) (er r) w w.heap.size w2.heap.size (prs t) (prs t) (w2.alloc (.cells #[.slice sa n cap] 108)) := by
  have hs2 := b2.size
  simp only [World.size_alloc] at hs2
  have g2 : Good w2 w.heap.size r := gr.below (by rw [World.size_alloc]; exact b2)
  have hlt := o2.lt
  have gt : Good w2 tb t := (g.chg ((Chg.refl (fun _ => False) w).alloc (.cells #[.pointer (pt r), .int .i64 (prs r).length] 96)) (fun h => h) (fun _ _ h => h)).below (by rw [World.size_alloc]; exact b2)
  refine ⟨[], lp t [], .slice sa n cap, r, ⟨heap_alloc_new w2 _, ?_, ?_, by omega, ?_, ?_⟩, stk_lp t [] trivial g.S (.inr trivial), lim_lp 100 t [] trivial (by simp; omega), topF_lp t [] trivial, by rw [pend_lp]; simp [pend], rfl, g2.chg ((Chg.refl (fun _ => False) w2).alloc _) (fun h => h) (fun _ _ h => h), rfl, rfl, by simp, by omega, ?_, Nat.le_refl _, ?_⟩
  · have := World.ownsRow.mono (base' := w.heap.size) o2 (Nat.le_succ _)
    rw [← hn2]
    rw [← hn2] at this
    exact this.alloc _
  · intro e; have := (hlt _ e).2; omega
  · exact lp_mem (P := Holds _) (fun b o a l r h => h.2.2.1) (gt.H.alloc _) (fun e he => by cases he)
  · exact lp_mem (P := fun t => ∀ k ∈ blks t, k < w.heap.size) (fun b o a l r h k hk => h k (List.mem_cons_of_mem _ (List.mem_append_left _ hk))) (fun k hk => g.H.lt k hk) (fun e he => by cases he)
  · intro e; have := (hlt _ e).1; omega
  · exact (((Below.refl _ w).alloc (Nat.le_refl _) _).trans (b2.mono (Nat.le_succ _))).alloc (by omega) _

end Go.Proofs.Ytahghidbadpkeaa
