/- The walks of impl.tree and impl.Shape. -/
import Derived.Test.YtahghidbadpkeaaShap
set_option linter.unusedVariables false
set_option linter.unusedSimpArgs false
namespace Go.Proofs.Ytahghidbadpkeaa
open Go.Deep Go.RowKit

/-- A list in which a key has data, in order. -/
def putL (x v : Int) (S : List (Int × Option Int)) : List (Int × Option Int) := lo x S ++ (x, some v) :: hi x S
/-- The list of a tree into which pairs are inserted. -/
def treeL (L : List (Int × Int)) : List (Int × Option Int) := L.foldl (fun S p => putL p.1 p.2 S) []
theorem treeL_snoc (L : List (Int × Int)) (p : Int × Int) : treeL (L ++ [p]) = putL p.1 p.2 (treeL L) := by simp [treeL]
theorem putL_len (x v : Int) (S : List (Int × Option Int)) (h : Srt S) : (putL x v S).length ≤ S.length + 1 := by
  by_cases hm : ∃ d, (x, d) ∈ S
  · obtain ⟨d, hd⟩ := hm
    unfold putL
    rw [len_put h hd]; omega
  · unfold putL
    rw [len_put' (fun p hp e => hm ⟨p.2, by rw [← e]; exact hp⟩)]; omega
theorem treeL_srt : ∀ L : List (Int × Int), Srt (treeL L) := by
  intro L
  unfold treeL
  have : ∀ (L : List (Int × Int)) (S : List (Int × Option Int)), Srt S → Srt (L.foldl (fun S p => putL p.1 p.2 S) S) := by
    intro L
    induction L with
    | nil => exact fun S h => h
    | cons p L ih => exact fun S h => ih _ (h.put)
  exact this L [] List.Pairwise.nil
theorem treeL_len (L : List (Int × Int)) : (treeL L).length ≤ L.length := by
  have : ∀ (L : List (Int × Int)) (S : List (Int × Option Int)), Srt S → (L.foldl (fun S p => putL p.1 p.2 S) S).length ≤ S.length + L.length := by
    intro L
    induction L with
    | nil => exact fun S h => by simp
    | cons p L ih =>
      intro S h
      have h1 := ih (putL p.1 p.2 S) h.put
      have h2 := putL_len p.1 p.2 S h
      simp only [List.foldl_cons, List.length_cons]
      omega
  have := this L [] List.Pairwise.nil
  simpa [treeL] using this

theorem zlist_ok : ∀ (t : BT Nd) (i : Nat), Avl t → (∀ p ∈ prs t, p.2.isSome = true) → ht t ≤ 100 → ∀ z ∈ zlist t i, z.d.isSome = true ∧ 0 ≤ z.h ∧ z.h ≤ 100
  | .nil, _, _, _, _, _, hz => by cases hz
  | .node b o a l r, i, hA, hF, hh, z, hz => by
    have hs : a.h = _ := hA.sh
    simp only [zlist, List.mem_cons, List.mem_append] at hz
    simp only [prs, List.mem_append, List.mem_cons] at hF
    have hh' := hh
    simp only [ht] at hh'
    rcases hz with rfl | hz | hz
    · exact ⟨hF (a.k, a.d) (.inr (.inl rfl)), by simp only; omega, by simp only; omega⟩
    · exact zlist_ok l _ hA.1 (fun p hp => hF p (.inl hp)) (by omega) z hz
    · exact zlist_ok r _ hA.2.1 (fun p hp => hF p (.inr (.inr hp))) (by omega) z hz

theorem shape_good {w : World} {tb : Nat} {t : BT Nd} (g : Good w tb t) (hn : sz t ≤ 300000) : Calls Try.prog 41 #[.pointer (some ⟨tb, 0, none⟩)] w (ShPost t w) :=
  shape_any g.hd g.H hn (zlist_ok t 0 g.A g.F (by have := g.A.low hn; omega))

def TrPost (L : List (Int × Int)) (w : World) (e : Ending) (w' : World) : Prop :=
  ∃ t, e = .returned (.pointer (some ⟨w.heap.size, 0, none⟩)) ∧ Below w.heap.size w w' ∧ Good w' w.heap.size t ∧ prs t = treeL L

set_option maxRecDepth 100000 in
set_option maxHeartbeats 400000 in
/-- impl.tree. -/
theorem tree_any {w : World} {v : Value} {L : List (Int × Int)} (h : Rd pc 2 w v L) (hk : ∀ p ∈ L, p.1 ≠ -2147483648) (hn : L.length ≤ 300000) : Calls Try.prog 42 #[v] w (TrPost L w) := by
  obtain ⟨sa, cap, rfl⟩ := h.shape
  have RD := Lib.hid h
  clear h
  go_enter Try.func42, Try.ntmps42
  go_wp2_with fail
  go_loopg [10] (L.length) (fun k i wr => ∃ j : Nat, j ≤ L.length ∧ k = L.length - j ∧ i = .int .i64 j ∧ Hid (∃ t, Below w.heap.size w wr ∧ Good wr w.heap.size t ∧ prs t = treeL (L.take j)))
  case atStart =>
    refine ⟨0, Nat.zero_le _, rfl, rfl, .nil, (Below.refl _ w).alloc (Nat.le_refl _) _, ⟨?_, trivial, List.Pairwise.nil, trivial, fun p hp => by cases hp⟩, rfl⟩
    exact heap_alloc_new w _
  case round =>
    obtain ⟨j, hj, rfl, rfl, ho⟩ := hrel
    by_cases hjn : j < L.length
    · obtain ⟨p, hp⟩ : ∃ p, L[j]? = some p := ⟨_, List.getElem?_eq_getElem hjn⟩
      obtain ⟨t, b1, g1, e1⟩ := ho.out
      obtain ⟨b, off, rfl, hc⟩ := (RD.out.below b1).at pc_len hp
      have k0 : wr.cell? ⟨b, off + j * 2, none⟩ = some (.int .i32 p.1) := hc 0 _ rfl
      have k1 : wr.cell? ⟨b, off + j * 2 + 1, none⟩ = some (.int .i64 p.2) := hc 1 _ rfl
      have hl : (prs t).length ≤ 300000 := by rw [e1]; have := treeL_len (L.take j); simp at this; omega
      have INS := Lib.hid (fun o => Insert_any (w := wr.alloc o) (g1.chg ((Chg.refl (fun _ => False) wr).alloc o) (fun h => h) (fun _ _ h => h)) hl p.1 p.2 (hk p (List.mem_of_getElem? hp)))
      have E1 := Lib.hid (And.intro b1 (And.intro e1 hp))
      clear b1 g1 e1 hp hc hl
      go_wp2_with fail
      refine (INS.out _).mono ?_
      rintro e w2 ⟨t', rfl, c2, g2, e2⟩
      have G2 := Lib.hid (And.intro c2 (And.intro g2 e2))
      clear c2 g2 e2
      go_wp2_with fail
      go_roundg (L.length - (j + 1))
      case measure => omega
      case rel =>
        obtain ⟨c2, g2, e2⟩ := G2.out
        obtain ⟨b1, e1, hp⟩ := E1.out
        refine ⟨j + 1, by omega, rfl, by go_num, t', ?_, g2, ?_⟩
        · exact (b1.alloc b1.size _).trans ((c2.mono (S' := fun k => w.heap.size ≤ k) (fun k _ e => by omega)).below (by have := b1.size; simp; omega) (fun _ h => h))
        · have e : L.take (j + 1) = L.take j ++ [p] := by rw [List.take_add_one, hp]; rfl
          rw [e2, e1, e, treeL_snoc]; rfl
    · have hj' : j = L.length := by omega
      subst hj'
      go_wp2_with fail
      go_ret
      obtain ⟨t, b1, g1, e1⟩ := ho.out
      exact ⟨t, rfl, b1, g1, by rw [e1, List.take_length]⟩

def ShapePost (L : List (Int × Int)) (w : World) (e : Ending) (w' : World) : Prop :=
  ∃ t v, e = .returned v ∧ Rd Nn.cells 5 w' v (nlist t) ∧ Below w.heap.size w w' ∧ prs t = treeL L ∧ Avl t

set_option maxRecDepth 100000 in
set_option maxHeartbeats 400000 in
/-- impl.Shape. -/
theorem Shape_any {w : World} {v : Value} {L : List (Int × Int)} (h : Rd pc 2 w v L) (hk : ∀ p ∈ L, p.1 ≠ -2147483648) (hn : L.length ≤ 300000) : Calls Try.prog 17 #[v] w (ShapePost L w) := by
  have T := Lib.hid (tree_any h hk hn)
  have hl := treeL_len L
  clear h hk
  go_enter Try.func17, Try.ntmps17
  go_wp2_with fail
  refine T.out.mono ?_
  rintro e w1 ⟨t, rfl, b1, g1, e1⟩
  have S := Lib.hid (shape_good g1 (by unfold sz; rw [e1]; omega))
  have Q := Lib.hid (And.intro b1 (And.intro g1 e1))
  clear b1 g1 e1
  go_wp2_with fail
  refine S.out.mono ?_
  rintro e w2 ⟨v2, rfl, o2, b2⟩
  have Q2 := Lib.hid (And.intro o2 b2)
  clear o2 b2
  go_wp2_with fail
  go_ret
  obtain ⟨b1, g1, e1⟩ := Q.out
  obtain ⟨o2, b2⟩ := Q2.out
  exact ⟨t, v2, rfl, Rd.of_own Nn.len (by rw [nlist_len]; exact o2), b1.trans (b2.mono b1.size), e1, g1.A⟩

end Go.Proofs.Ytahghidbadpkeaa
