/- The walks of the iterator over a tree: its stack, leftmost. -/
import Derived.Test.YtahghidbadpkeaaZzwk
import Derived.Test.YtahghidbadpkeaaFlat
import Derived.Deep.OwnRows
set_option linter.unusedVariables false
set_option linter.unusedSimpArgs false
namespace Go.Proofs.Ytahghidbadpkeaa
open Go.Deep Go.RowKit

/-- An entry of the stack: a node, and whether it was told. Top first. -/
abbrev Ent := BT Nd × Bool
def child : BT Nd → Bool → BT Nd
  | .nil, _ => .nil
  | .node _ _ _ l r, v => if v then r else l
def onTop (t : BT Nd) : List Ent → Prop
  | [] => True
  | (p, v) :: _ => t = child p v
def Stk : List Ent → Prop
  | [] => True
  | (t, v) :: s => t ≠ .nil ∧ Srt (prs t) ∧ onTop t s ∧ Stk s
def pend : List Ent → List (Int × Option Int)
  | [] => []
  | (.nil, _) :: s => pend s
  | (.node _ _ a l r, v) :: s => (if v then [] else (a.k, a.d) :: prs r) ++ pend s
def lp : BT Nd → List Ent → List Ent
  | .nil, s => s
  | .node b o a l r, s => lp l ((.node b o a l r, false) :: s)
def Lim (D : Nat) : List Ent → Prop
  | [] => True
  | (t, _) :: s => s.length + ht t ≤ D ∧ Lim D s

def topF : List Ent → Prop
  | [] => True
  | (_, v) :: _ => v = false
theorem topF_lp : ∀ (t : BT Nd) (s : List Ent), topF s → topF (lp t s)
  | .nil, s, h => h
  | .node b o a l r, s, h => topF_lp l _ rfl
theorem topF_lp' {t : BT Nd} {s : List Ent} (h : t ≠ .nil) : topF (lp t s) := by
  cases t with
  | nil => exact absurd rfl h
  | node b o a l r => exact topF_lp l _ rfl

theorem pend_lp : ∀ (t : BT Nd) (s : List Ent), pend (lp t s) = prs t ++ pend s
  | .nil, s => rfl
  | .node b o a l r, s => by simp [lp, pend_lp l, pend, prs]
theorem stk_lp : ∀ (t : BT Nd) (s : List Ent), Stk s → Srt (prs t) → (t = .nil ∨ onTop t s) → Stk (lp t s)
  | .nil, s, h, _, _ => h
  | .node b o a l r, s, h, hs, ht => by
    refine stk_lp l _ ⟨by simp, hs, ?_, h⟩ (Srt.app hs).1 (.inr rfl)
    rcases ht with ht | ht
    · cases ht
    · exact ht
theorem lim_lp (D : Nat) : ∀ (t : BT Nd) (s : List Ent), Lim D s → s.length + ht t ≤ D → Lim D (lp t s)
  | .nil, s, h, _ => h
  | .node b o a l r, s, h, hd => by
    refine lim_lp D l _ ⟨hd, h⟩ ?_
    simp only [ht, List.length_cons] at hd ⊢
    omega
theorem lp_mem {t : BT Nd} {s : List Ent} {P : BT Nd → Prop} (hP : ∀ b o a l r, P (.node b o a l r) → P l) (ht : P t) (hs : ∀ e ∈ s, P e.1) : ∀ e ∈ lp t s, P e.1 := by
  induction t generalizing s with
  | nil => exact hs
  | node b o a l r il ir =>
    refine il (hP _ _ _ _ _ ht) ?_
    intro e he
    rcases List.mem_cons.1 he with rfl | he
    · exact ht
    · exact hs e he

def pl (e : Ent) : List Value := [.pointer (pt e.1)]
theorem pl_len (e : Ent) : (pl e).length = 1 := rfl
theorem info94 : (Try.prog.info? 94).map (fun i => (i.zero, i.size, i.bytes)) = some (some (.pointer none), 1, 8) := by kernel_rfl

structure It (w : World) (B ib : Nat) (ty : TypeId) (v : Value) (s : List Ent) : Prop where
  hd : w.heap[ib]? = some (.cells #[v] ty (0, 0))
  ow : w.ownsRow B 94 1 v s.length (fl pl s.reverse)
  ne : v.ownBlock ≠ some ib
  lo : B ≤ ib
  H : ∀ e ∈ s, Holds w e.1
  bl : ∀ e ∈ s, ∀ k ∈ blks e.1, k < B

theorem row_chg {w w' : World} {S : Nat → Prop} {base n : Nat} {v : Value} {xs : List Value} {e : TypeId} {s : Nat} (h : w.ownsRow base e s v n xs) (hc : Chg S w w') (hs : ∀ k, v.ownBlock = some k → ¬ S k) : w'.ownsRow base e s v n xs := by
  refine ⟨h.1, ?_⟩
  rcases h.2 with h1 | ⟨g, cap, cur, rfl, h1, h2, h3⟩
  · exact .inl h1
  · have hlt := (h.lt g rfl).2
    exact .inr ⟨g, cap, cur, rfl, h1, (hc.block g hlt (hs g rfl)).trans h2, h3⟩

theorem It.chg {w w' : World} {B ib : Nat} {ty : TypeId} {v : Value} {s : List Ent} {S : Nat → Prop} (h : It w B ib ty v s) (hc : Chg S w w') (h1 : ¬ S ib) (h2 : ∀ k, v.ownBlock = some k → ¬ S k) (h3 : ∀ k, S k → B ≤ k) : It w' B ib ty v s :=
  ⟨(hc.block ib (Array.getElem?_eq_some_iff.1 h.hd).1 h1).trans h.hd, row_chg h.ow hc h2, h.ne, h.lo, fun e he => (h.H e he).chg hc (fun k hk hS => by have := h.bl e he k hk; have := h3 k hS; omega), h.bl⟩

/-- What an iterator's step leaves. -/
def ItPost (B ib : Nat) (ty : TypeId) (v : Value) (w : World) (s' : List Ent) (w' : World) : Prop :=
  ∃ v', It w' B ib ty v' s' ∧ Chg (fun k => k = ib ∨ v.ownBlock = some k) w w' ∧ (v'.ownBlock = v.ownBlock ∨ ∀ k, v'.ownBlock = some k → w.heap.size ≤ k)

/-- One node more on the stack. -/
theorem It.push {w w3 : World} {B ib : Nat} {ty : TypeId} {v v3 : Value} {s : List Ent} {u : BT Nd} (h : It w B ib ty v s) (hu : Holds w u) (hb : ∀ k ∈ blks u, k < B) (o : Obj) (hg : (w.alloc o).grownBy w3 v.ownBlock) (ho : w3.ownsRow B 94 1 v3 (s.length + 1) (fl pl s.reverse ++ [.pointer (pt u)])) (hat : v.ownBlock = v3.ownBlock ∨ ∀ k, v3.ownBlock = some k → w.heap.size ≤ k) (f : Bool) :
    ItPost B ib ty v w ((u, f) :: s) (w3.setCell ⟨ib, 0, none⟩ v3) ∧ Chg (fun k => k = ib ∨ v.ownBlock = some k) w (w3.setCell ⟨ib, 0, none⟩ v3) := by
  have hlt := (Array.getElem?_eq_some_iff.1 h.hd).1
  have hne3 : v3.ownBlock ≠ some ib := by
    rcases hat with hat | hat
    · rw [← hat]; exact h.ne
    · intro e; have := hat ib e; omega
  have c3 : Chg (fun k => v.ownBlock = some k) w w3 := ((Chg.refl (fun k => v.ownBlock = some k) w).alloc o).grown hg (fun k hk _ => hk)
  have c4 : Chg (fun k => k = ib ∨ v.ownBlock = some k) w (w3.setCell ⟨ib, 0, none⟩ v3) := (c3.mono (S' := fun k => k = ib ∨ v.ownBlock = some k) (fun k _ hk => .inr hk)).setCell ⟨ib, 0, none⟩ v3 (fun _ => .inl rfl)
  have hS : ∀ k, k < B → ¬ (k = ib ∨ v.ownBlock = some k) := by
    rintro k hk (rfl | hk2)
    · have := h.lo; omega
    · have := (h.ow.lt k hk2).1; omega
  have hdw : w3.heap[ib]? = some (.cells #[v] ty (0, 0)) := (c3.block ib hlt h.ne).trans h.hd
  refine ⟨⟨v3, ⟨?_, ?_, hne3, h.lo, ?_, ?_⟩, c4, hat.imp Eq.symm id⟩, c4⟩
  · simp [World.setCell, Array.getElem?_modify, hdw]
  · have := row_chg ho ((Chg.refl (fun k => k = ib) w3).setCell ⟨ib, 0, none⟩ v3 (fun _ => rfl)) (fun k hk e => hne3 (by rw [hk, e]))
    simpa [fl_app, fl_one, pl] using this
  · intro e he
    rcases List.mem_cons.1 he with rfl | he
    · exact hu.chg c4 (fun k hk => hS k (hb k hk))
    · exact (h.H e he).chg c4 (fun k hk => hS k (h.bl e he k hk))
  · intro e he
    rcases List.mem_cons.1 he with rfl | he
    · exact hb
    · exact h.bl e he

theorem ItPost.trans {w w1 w2 : World} {B ib : Nat} {ty : TypeId} {v v1 : Value} {s : List Ent} (c : Chg (fun k => k = ib ∨ v.ownBlock = some k) w w1) (ha : v1.ownBlock = v.ownBlock ∨ ∀ k, v1.ownBlock = some k → w.heap.size ≤ k) (h : ItPost B ib ty v1 w1 s w2) : ItPost B ib ty v w s w2 := by
  obtain ⟨v2, h1, h2, h3⟩ := h
  refine ⟨v2, h1, ?_, ?_⟩
  · refine ⟨h2.os.trans c.os, h2.tape.trans c.tape, h2.output.trans c.output, Nat.le_trans c.size h2.size, fun k hk hs => ?_⟩
    refine (h2.block k (Nat.lt_of_lt_of_le hk c.size) ?_).trans (c.block k hk hs)
    rintro (rfl | h4)
    · exact hs (.inl rfl)
    · rcases ha with ha | ha
      · exact hs (.inr (ha ▸ h4))
      · have := ha k h4; omega
  · rcases h3 with h3 | h3
    · rw [h3]; exact ha
    · exact .inr (fun k hk => Nat.le_trans c.size (h3 k hk))

set_option maxRecDepth 100000 in
set_option maxHeartbeats 800000 in
theorem leftmost_any {w : World} {B ib : Nat} {ty : TypeId} {v : Value} {s : List Ent} {t : BT Nd} (h : It w B ib ty v s) (ht0 : Holds w t) (hb : ∀ k ∈ blks t, k < B) (hD : s.length + ht t ≤ 1000) :
    Calls Try.prog 88 #[.pointer (some ⟨ib, 0, none⟩), .pointer (pt t)] w (fun e w' => e = .returned (.tuple #[]) ∧ ItPost B ib ty v w (lp t s) w') := by
  obtain ⟨i0, hi0, hz0, hz1, hz2⟩ := info_parts info94
  have P0 : Hid (It w B ib ty v s ∧ Holds w t ∧ (∀ k ∈ blks t, k < B)) := ⟨h, ht0, hb⟩
  clear h ht0 hb
  go_enter Try.func88, Try.ntmps88
  go_wp2_with fail
  go_loopg [1] (ht t) (fun k n wr => ∃ (u : BT Nd), n = .pointer (pt u) ∧ k = ht u ∧ Hid (∃ (s' : List Ent) (v' : Value), lp u s' = lp t s ∧ s'.length + ht u ≤ 1000 ∧ It wr B ib ty v' s' ∧ Holds wr u ∧ (∀ k ∈ blks u, k < B) ∧ Chg (fun k => k = ib ∨ v.ownBlock = some k) w wr ∧ (v'.ownBlock = v.ownBlock ∨ ∀ k, v'.ownBlock = some k → w.heap.size ≤ k)))
  case atStart => exact ⟨t, rfl, rfl, s, v, rfl, hD, P0.out.1, P0.out.2.1, P0.out.2.2, Chg.refl _ w, .inl rfl⟩
  case round =>
    clear P0
    obtain ⟨u, rfl, rfl, hr⟩ := hrel
    cases u with
    | nil =>
      show _
      simp only [pt]
      go_wp2_with fail
      go_end0
      obtain ⟨s', v', e1, e2, e3, e4, e5, e6, e7⟩ := hr.out
      exact ⟨rfl, v', by rw [← e1]; exact e3, e6, e7⟩
    | node b o a l r =>
      obtain ⟨s', v', e1, e2, e3, e4, e5, e6, e7⟩ := hr.out
      have h4 := e4
      obtain ⟨rfl, hcel, hl, hrr⟩ := e4
      have ow := e3.ow
      obtain ⟨sa, cap, rfl⟩ := owns_shape ow
      have o0 : wr.cell? ⟨ib, 0, none⟩ = some (.slice sa s'.length cap) := by simp [World.cell?, e3.hd]
      have of : wr.frozen? ⟨ib, 0, none⟩ = false := by simp [World.frozen?, e3.hd]
      have c0 := hcel.c0
      have blt := hcel.lt
      have ilt := (Array.getElem?_eq_some_iff.1 e3.hd).1
      have hbB : b < B := e5 b (List.mem_cons_self ..)
      have hne := e3.ne
      have hlo := e3.lo
      have hBw : B ≤ wr.heap.size := by omega
      have hbr : some b ≠ (Value.slice sa s'.length cap).ownBlock := fun e => by have := (ow.lt b e.symm).1; omega
      have hn : s'.length < 1000 := by simp only [ht] at e2; omega
      have Q := Lib.hid (And.intro e1 (And.intro e2 (And.intro e3 (And.intro h4 (And.intro e5 (And.intro e6 e7))))))
      have OW := Lib.hid ow
      clear e1 e2 e3 h4 e5 e6 e7 hcel hl hrr ow hr
      simp only [pt]
      go_wp2_with (at_builtin; refine wpList_append_lies _ rfl _ _ 104 rfl B 94 i0 _ 1 8 Try.underlying104 hi0 hz0 hz1 hz2 rfl (by omega) (.slice sa s'.length cap) s'.length (fl pl s'.reverse) rfl (OW.out.alloc _) ⟨wr.heap.size, 0, none⟩ 1 1 [.pointer (some ⟨b, 0, none⟩)] rfl rfl ?cc1 ?cc0 (by omega) (by unfold maxLen; omega) (by omega) ?cc2 (wr.heap.size + 1) (by simp) ?cc3)
      case cc1 => exact news0 wr #[.pointer (some ⟨b, 0, none⟩)] 94
      case cc0 => intro u hu; simp only [List.mem_cons, List.not_mem_nil, or_false] at hu; subst hu; rfl
      case cc2 => simp; omega
      case cc3 =>
        intro g3 cap3 w3 hown3 hgrow3 hat3 hlt3
        have d0 : w3.cell? ⟨ib, 0, none⟩ = some (.slice sa s'.length cap) := by rw [hgrow3.cell_far _ (by simp; omega) (Ne.symm hne)]; simp [World.cell?_alloc_lt, ilt, o0]
        have df : w3.frozen? ⟨ib, 0, none⟩ = false := by rw [hgrow3.frozen_far _ (by simp; omega) (Ne.symm hne)]; rw [World.frozen?_alloc_old _ _ _ (Nat.ne_of_lt ilt)]; exact of
        have d1 : w3.cell? ⟨b, 0, none⟩ = some (.pointer (pt l)) := by rw [hgrow3.cell_far _ (by simp; omega) hbr]; simp [World.cell?_alloc_lt, blt, c0]
        have bi : b ≠ ib := by omega
        have P := Lib.hid (It.push Q.out.2.2.1 Q.out.2.2.2.1 Q.out.2.2.2.2.1 _ hgrow3 hown3 (by rcases hat3 with hat3 | hat3; exact .inl hat3; exact .inr (fun k hk => by have : g3 = k := Option.some.inj hk; omega)) false)
        clear hown3 hgrow3 hat3
        go_wp2_with fail
        go_roundg (ht l)
        case measure => show ht l < ht (.node b 0 a l r); simp only [ht]; omega
        case rel =>
          obtain ⟨e1, e2, e3, e4, e5, e6, e7⟩ := Q.out
          obtain ⟨P1, P2⟩ := P.out
          obtain ⟨v2, i2, c2, a2⟩ := ItPost.trans e6 e7 P1
          refine ⟨l, rfl, rfl, (.node b 0 a l r, false) :: s', v2, e1, ?_, i2, ?_, ?_, c2, a2⟩
          · simp only [ht, List.length_cons] at e2 ⊢; omega
          · refine e4.2.2.1.chg P2 (fun k hk => ?_)
            have hkB := e5 k (List.mem_cons_of_mem _ (List.mem_append_left _ hk))
            rintro (rfl | h2)
            · omega
            · have := (OW.out.lt k h2).1; omega
          · exact fun k hk => e5 k (List.mem_cons_of_mem _ (List.mem_append_left _ hk))

end Go.Proofs.Ytahghidbadpkeaa
