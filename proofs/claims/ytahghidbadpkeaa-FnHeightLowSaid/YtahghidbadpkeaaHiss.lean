/- The state of a history: its versions as they lie in memory. -/
import Derived.Test.YtahghidbadpkeaaHisp
set_option linter.unusedVariables false
set_option linter.unusedSimpArgs false
namespace Go.Proofs.Ytahghidbadpkeaa
open Go.Deep Go.RowKit

/-- A version: its head's block, its tree, the slice of its nodes. -/
structure Ver where
  b : Nat
  t : BT Nd
  v : Value
def hp (q : Ver) : List Value := [.pointer (some ⟨q.b, 0, none⟩)]
def hv (q : Ver) : List Value := [q.v]
theorem hp_len (q : Ver) : (hp q).length = 1 := rfl
theorem hv_len (q : Ver) : (hv q).length = 1 := rfl
/-- A slice holds a tree's nodes, in a block of its own. -/
def OwnN (w : World) (v : Value) (t : BT Nd) : Prop := ∃ B, w.ownsRow B 84 5 v (sz t) (fl Nn.cells (nlist t))

theorem own_tag {w : World} {B s n : Nat} {e : TypeId} {v : Value} {xs : List Value} (h : w.ownsRow B e s v n xs) {k : Nat} (hk : v.ownBlock = some k) : ∃ cs, w.heap[k]? = some (.cells cs e (0, 0)) := by
  rcases h.2 with ⟨rfl, _⟩ | ⟨g, cap, cur, rfl, _, h1, _⟩
  · cases hk
  · have : g = k := Option.some.inj hk
    subst this
    exact ⟨cur, h1⟩
theorem row_tag {S : Nat → Prop} {w w' : World} {B s n : Nat} {e : TypeId} {v : Value} {xs : List Value} (h : w.ownsRow B e s v n xs) (c : Chg S w w') (hS : ∀ k, S k → ∃ cs ty, w.heap[k]? = some (.cells cs ty (0, 0)) ∧ ty ≠ e) : w'.ownsRow B e s v n xs := by
  refine row_chg h c (fun k hk hs => ?_)
  obtain ⟨cs, ty, h1, h2⟩ := hS k hs
  obtain ⟨cs', h3⟩ := own_tag h hk
  have := h3.symm.trans h1
  simp at this
  exact h2 this.2.symm
theorem row_below {w w' : World} {B s n : Nat} {e : TypeId} {v : Value} {xs : List Value} (h : w.ownsRow B e s v n xs) (c : Below w.heap.size w w') : w'.ownsRow B e s v n xs :=
  row_chg h (Chg.of_below c) (fun k hk => Nat.not_le.2 (h.lt k hk).2)
theorem OwnN.below {w w' : World} {v : Value} {t : BT Nd} (h : OwnN w v t) (c : Below w.heap.size w w') : OwnN w' v t := by
  obtain ⟨B, h⟩ := h
  exact ⟨B, row_below h c⟩
theorem OwnN.tag {S : Nat → Prop} {w w' : World} {v : Value} {t : BT Nd} (h : OwnN w v t) (c : Chg S w w') (hS : ∀ k, S k → ∃ cs ty, w.heap[k]? = some (.cells cs ty (0, 0)) ∧ ty ≠ 84) : OwnN w' v t := by
  obtain ⟨B, h⟩ := h
  exact ⟨B, row_tag h c hS⟩
theorem OwnN.rd {w : World} {v : Value} {t : BT Nd} (h : OwnN w v t) : Rd Nn.cells 5 w v (nlist t) := by
  obtain ⟨B, h⟩ := h
  exact Rd.of_own Nn.len (by rw [nlist_len]; exact h)

structure HS (B : Nat) (w : World) (V : List Ver) (vt vf : Value) : Prop where
  rt : w.ownsRow B 61 1 vt V.length (fl hp V)
  rf : w.ownsRow B 26 1 vf V.length (fl hv V)
  g : ∀ q ∈ V, Good w q.b q.t ∧ OwnN w q.v q.t

theorem HS.below {B : Nat} {w w' : World} {V : List Ver} {vt vf : Value} (h : HS B w V vt vf) (c : Below w.heap.size w w') : HS B w' V vt vf :=
  ⟨row_below h.rt c, row_below h.rf c, fun q hq => ⟨(h.g q hq).1.below c, (h.g q hq).2.below c⟩⟩

/-- Behind the first append. -/
structure HM (B : Nat) (w : World) (V : List Ver) (b : Nat) (t : BT Nd) (vt vf : Value) : Prop where
  rt : w.ownsRow B 61 1 vt (V.length + 1) (fl hp V ++ [.pointer (some ⟨b, 0, none⟩)])
  rf : w.ownsRow B 26 1 vf V.length (fl hv V)
  g : ∀ q ∈ V, Good w q.b q.t ∧ OwnN w q.v q.t
  n : Good w b t

theorem HS.push1 {B : Nat} {w w' : World} {V : List Ver} {vt vf vt' : Value} {b : Nat} {t : BT Nd} (h : HS B w V vt vf) (g : Good w b t) (o : Obj) (hg : (w.alloc o).grownBy w' vt.ownBlock) (ho : w'.ownsRow B 61 1 vt' (V.length + 1) (fl hp V ++ [.pointer (some ⟨b, 0, none⟩)])) : HM B w' V b t vt' vf := by
  have c : Chg (fun k => vt.ownBlock = some k) w w' := ((Chg.refl (fun k => vt.ownBlock = some k) w).alloc o).grown hg (fun k hk _ => hk)
  have ht : ∀ k, vt.ownBlock = some k → ∃ cs ty, w.heap[k]? = some (.cells cs ty (0, 0)) ∧ ty = 61 := fun k hk => by
    obtain ⟨cs, h1⟩ := own_tag h.rt hk
    exact ⟨cs, 61, h1, rfl⟩
  have hgood : ∀ {b : Nat} {t : BT Nd}, Good w b t → Good w' b t := fun g => g.tag c (fun k hk => by
    obtain ⟨cs, ty, h1, rfl⟩ := ht k hk
    exact ⟨cs, 61, h1, by decide, by decide⟩)
  refine ⟨ho, row_tag h.rf c (fun k hk => ?_), fun q hq => ⟨hgood (h.g q hq).1, (h.g q hq).2.tag c (fun k hk => ?_)⟩, hgood g⟩
  · obtain ⟨cs, ty, h1, rfl⟩ := ht k hk
    exact ⟨cs, 61, h1, by decide⟩
  · obtain ⟨cs, ty, h1, rfl⟩ := ht k hk
    exact ⟨cs, 61, h1, by decide⟩

theorem HM.push2 {B B' : Nat} {w w7 w8 : World} {V : List Ver} {vt vf vf' vs : Value} {b : Nat} {t : BT Nd} (h : HM B w V b t vt vf) (c7 : Below w.heap.size w w7) (o : Obj) (hs : w7.ownsRow B' 84 5 vs (sz t) (fl Nn.cells (nlist t))) (hg : (w7.alloc o).grownBy w8 vf.ownBlock) (ho : w8.ownsRow B 26 1 vf' (V.length + 1) (fl hv V ++ [vs])) : HS B w8 (V ++ [⟨b, t, vs⟩]) vt vf' := by
  have f7 := row_below h.rf c7
  have t7 := row_below h.rt c7
  have c : Chg (fun k => vf.ownBlock = some k) w7 w8 := ((Chg.refl (fun k => vf.ownBlock = some k) w7).alloc o).grown hg (fun k hk _ => hk)
  have ht : ∀ k, vf.ownBlock = some k → ∃ cs ty, w7.heap[k]? = some (.cells cs ty (0, 0)) ∧ ty = 26 := fun k hk => by
    obtain ⟨cs, h1⟩ := own_tag f7 hk
    exact ⟨cs, 26, h1, rfl⟩
  have hgood : ∀ {b : Nat} {t : BT Nd}, Good w7 b t → Good w8 b t := fun g => g.tag c (fun k hk => by
    obtain ⟨cs, ty, h1, rfl⟩ := ht k hk
    exact ⟨cs, 26, h1, by decide, by decide⟩)
  have hown : ∀ {v : Value} {t : BT Nd}, OwnN w7 v t → OwnN w8 v t := fun g => g.tag c (fun k hk => by
    obtain ⟨cs, ty, h1, rfl⟩ := ht k hk
    exact ⟨cs, 26, h1, by decide⟩)
  refine ⟨?_, ?_, fun q hq => ?_⟩
  · rw [fl_app, fl_one, List.length_append]
    exact row_tag t7 c (fun k hk => by
      obtain ⟨cs, ty, h1, rfl⟩ := ht k hk
      exact ⟨cs, 26, h1, by decide⟩)
  · rw [fl_app, fl_one, List.length_append]
    exact ho
  · rcases List.mem_append.1 hq with hq | hq
    · exact ⟨hgood ((h.g q hq).1.below c7), hown ((h.g q hq).2.below c7)⟩
    · rw [List.mem_singleton] at hq
      subst hq
      exact ⟨hgood (h.n.below c7), hown ⟨B', hs⟩⟩

/-- A version's pointer, as it lies. -/
theorem HS.at {B : Nat} {w : World} {V : List Ver} {ta : Option Addr} {n cap : Nat} {vf : Value} (h : HS B w V (.slice ta n cap) vf) {i : Nat} {q : Ver} (hq : V[i]? = some q) : ∃ b, ta = some ⟨b, 0, none⟩ ∧ w.cell? ⟨b, i, none⟩ = some (.pointer (some ⟨q.b, 0, none⟩)) := by
  rcases h.rt.2 with ⟨e, hn⟩ | ⟨g, cap', cur, e, _, _⟩
  · rw [List.eq_nil_of_length_eq_zero hn] at hq; simp at hq
  · injection e with e1 e2 e3
    subst e1
    refine ⟨g, rfl, ?_⟩
    have h1 := h.rt.cells (g := g) rfl i (.pointer (some ⟨q.b, 0, none⟩)) (by
      have := fl_get hp_len hq (i := 0) (by omega)
      rw [Nat.mul_one, Nat.add_zero] at this
      rw [this]; rfl)
    have hadd : (⟨g, 0, none⟩ : Addr).add i = ⟨g, i, none⟩ := by unfold Addr.add; split <;> simp_all
    rw [hadd] at h1
    exact h1

theorem info61 : (Try.prog.info? 61).map (fun i => (i.zero, i.size, i.bytes)) = some (some (.pointer none), 1, 8) := by kernel_rfl
theorem info26 : (Try.prog.info? 26).map (fun i => (i.zero, i.size, i.bytes)) = some (some (.slice none 0 0), 1, 24) := by kernel_rfl

def setsOf (V : List Ver) : List Ls := V.map (fun q => prs q.t)
theorem pick_sets {V : List Ver} {i : Int} {k : Nat} {q : Ver} (hk : i % (V.length : Int) = (k : Int)) (hq : V[k]? = some q) : pick (setsOf V) i = prs q.t := by
  unfold pick setsOf
  rw [List.length_map, hk, List.getD_eq_getElem?_getD]
  simp [hq]

def ersOf (V : List Ver) : List (BT Nd) := V.map (fun q => er q.t)
theorem pick_ers {V : List Ver} {i : Int} {k : Nat} {q : Ver} (hk : i % (V.length : Int) = (k : Int)) (hq : V[k]? = some q) : pickE (ersOf V) i = er q.t := by
  unfold pickE ersOf
  rw [List.length_map, hk, List.getD_eq_getElem?_getD]
  simp [hq]
def HistPostE (F : BT Nd → Ls → BT Nd) (As : List Ac) (w : World) (e : Ending) (w' : World) : Prop :=
  ∃ V vt vf, e = .returned (.tuple #[vt, vf]) ∧ HS w.heap.size w' V vt vf ∧ Below w.heap.size w w' ∧ setsOf V = histL As ∧ ersOf V = histE F As

/-- What a history leaves. -/
def HistPost (As : List Ac) (w : World) (e : Ending) (w' : World) : Prop :=
  ∃ V vt vf, e = .returned (.tuple #[vt, vf]) ∧ HS w.heap.size w' V vt vf ∧ Below w.heap.size w w' ∧ setsOf V = histL As

end Go.Proofs.Ytahghidbadpkeaa
