/- Histories in plain: what acts make of sets; their keys and lengths. -/
import Derived.Test.YtahghidbadpkeaaUpda
import Derived.Test.YtahghidbadpkeaaPlaj
set_option linter.unusedVariables false
set_option linter.unusedSimpArgs false
namespace Go.Proofs.Ytahghidbadpkeaa
open Go.Deep Go.RowKit

def AllK (P : Int → Prop) (L : Ls) : Prop := ∀ p ∈ L, P p.1
section
variable {P : Int → Prop}
theorem AllK.put {L : Ls} {x v : Int} (h : AllK P L) (hx : P x) : AllK P (putL x v L) := by
  intro p hp
  rcases List.mem_append.1 hp with hp | hp
  · exact h p (mem_lo.1 hp).1
  · rcases List.mem_cons.1 hp with rfl | hp
    · exact hx
    · exact h p (mem_hi.1 hp).1
theorem AllK.drop {L : Ls} {x : Int} (h : AllK P L) : AllK P (dropL x L) := by
  intro p hp
  rcases List.mem_append.1 hp with hp | hp
  · exact h p (mem_lo.1 hp).1
  · exact h p (mem_hi.1 hp).1
theorem AllK.gStep {un sw : Bool} {x : Mx} {O R : Ls} {p : Int × Option Int} (h : AllK P R) (hp : P p.1) : AllK P (gStep un sw x O R p) := by
  have h1 : ∀ v, AllK P (putL p.1 v R) := fun v => h.put hp
  have h2 : AllK P (dropL p.1 R) := h.drop
  unfold Ytahghidbadpkeaa.gStep
  repeat' split
  all_goals first | exact h1 _ | exact h2 | exact h
theorem AllK.gFold {un sw : Bool} {x : Mx} {O : Ls} : ∀ (T R : Ls), AllK P R → AllK P T → AllK P (T.foldl (Ytahghidbadpkeaa.gStep un sw x O) R)
  | [], _, h, _ => h
  | p :: T, R, h, ht => AllK.gFold T _ (AllK.gStep h (ht p (List.mem_cons_self ..))) (fun q hq => ht q (List.mem_cons_of_mem _ hq))
theorem AllK.difStep {x : Mx} {U R : Ls} {p : Int × Option Int} (h : AllK P R) (hp : P p.1) : AllK P (difStep x U R p) := by
  have h1 : ∀ v, AllK P (putL p.1 v R) := fun v => h.put hp
  have h2 : AllK P (dropL p.1 R) := h.drop
  unfold Ytahghidbadpkeaa.difStep
  repeat' split
  all_goals first | exact h1 _ | exact h2 | exact h
theorem AllK.dFold {x : Mx} {U : Ls} : ∀ (T R : Ls), AllK P R → AllK P T → AllK P (T.foldl (Ytahghidbadpkeaa.difStep x U) R)
  | [], _, h, _ => h
  | p :: T, R, h, ht => AllK.dFold T _ (AllK.difStep h (ht p (List.mem_cons_self ..))) (fun q hq => ht q (List.mem_cons_of_mem _ hq))
theorem AllK.int {x : Mx} {T U : Ls} (h : AllK P T) (hu : AllK P U) : AllK P (intL x T U) := by
  unfold intL
  split
  · exact AllK.gFold _ _ h h
  · exact AllK.gFold _ _ hu hu
theorem AllK.uni {x : Mx} {T U : Ls} (h : AllK P T) (hu : AllK P U) : AllK P (uniL x T U) := by
  unfold uniL
  split
  · exact AllK.gFold _ _ h hu
  · exact AllK.gFold _ _ hu h
theorem AllK.dif {x : Mx} {T U : Ls} (h : AllK P T) : AllK P (difL x U T) := AllK.dFold _ _ h h
theorem AllK.tail {L : Ls} (h : AllK P L) : AllK P L.tail := fun p hp => h p (List.mem_of_mem_tail hp)
theorem AllK.last {L : Ls} (h : AllK P L) : AllK P L.dropLast := fun p hp => h p (List.dropLast_subset _ hp)
theorem AllK.upd {L : Ls} {a : Ac} (h : AllK P L) (ha : P a.key) : AllK P (updL a L) := by
  unfold updL
  repeat' split
  · exact h.put ha
  · exact h.drop
  · exact h.tail
  · exact h.last
end

/-- What an act makes of two sets. -/
def stepT (a : Ac) (T U : Ls) : Ls :=
  if a.kd % 8 = 4 then uniL a.mx T U else if a.kd % 8 = 5 then intL a.mx T U else if a.kd % 8 = 6 then difL a.mx U T else if a.kd % 8 = 7 then T else updL a T
def pick (V : List Ls) (i : Int) : Ls := V.getD (i % (V.length : Int)).toNat []
def histS (V : List Ls) (a : Ac) : List Ls := V ++ [stepT a (pick V a.ofv) (pick V a.wi)]
/-- The sets of all versions. -/
def histL (As : List Ac) : List Ls := As.foldl histS [[]]
theorem histL_snoc (As : List Ac) (a : Ac) : histL (As ++ [a]) = histS (histL As) a := by simp [histL]

theorem AllK.step {P : Int → Prop} {T U : Ls} {a : Ac} (h : AllK P T) (hu : AllK P U) (ha : P a.key) : AllK P (stepT a T U) := by
  unfold stepT
  repeat' split
  · exact AllK.uni h hu
  · exact AllK.int h hu
  · exact AllK.dif h
  · exact h
  · exact h.upd ha

theorem pick_mem {V : List Ls} {i : Int} : pick V i = [] ∨ pick V i ∈ V := by
  unfold pick
  rw [List.getD_eq_getElem?_getD]
  cases h : V[(i % (V.length : Int)).toNat]? with
  | none => exact .inl rfl
  | some L => exact .inr (List.mem_of_getElem? h)
theorem pick_all {Q : Ls → Prop} {V : List Ls} {i : Int} (h0 : Q []) (h : ∀ L ∈ V, Q L) : Q (pick V i) := by
  rcases pick_mem (V := V) (i := i) with e | e
  · rw [e]; exact h0
  · exact h _ e

theorem hist_keys {P : Int → Prop} : ∀ (As : List Ac) (V : List Ls), (∀ L ∈ V, AllK P L) → (∀ a ∈ As, P a.key) → ∀ L ∈ As.foldl histS V, AllK P L
  | [], V, h, _ => h
  | a :: As, V, h, ha => by
    refine hist_keys As _ ?_ (fun b hb => ha b (List.mem_cons_of_mem _ hb))
    intro L hL
    rcases List.mem_append.1 hL with hL | hL
    · exact h L hL
    · rw [List.mem_singleton] at hL
      subst hL
      exact AllK.step (pick_all (fun p hp => by cases hp) h) (pick_all (fun p hp => by cases hp) h) (ha a (List.mem_cons_self ..))
theorem histL_keys {P : Int → Prop} {As : List Ac} (h : ∀ a ∈ As, P a.key) : ∀ L ∈ histL As, AllK P L :=
  hist_keys As _ (fun L hL => by rw [List.mem_singleton] at hL; subst hL; exact fun p hp => by cases hp) h
theorem histL_len (As : List Ac) : (histL As).length = As.length + 1 := by
  have : ∀ (As : List Ac) (V : List Ls), (As.foldl histS V).length = V.length + As.length := by
    intro As
    induction As with
    | nil => exact fun V => rfl
    | cons a As ih => intro V; rw [List.foldl_cons, ih]; simp [histS]; omega
  rw [histL, this]; simp; omega

/-- Ascending keys out of few. -/
theorem few_keys : ∀ (L : Ls) (K : List Int), Srt L → (∀ p ∈ L, p.1 ∈ K) → L.length ≤ K.length
  | [], _, _, _ => Nat.zero_le _
  | p :: L, K, s, h => by
    obtain ⟨s1, s2⟩ := List.pairwise_cons.1 s
    have hp := h p (List.mem_cons_self ..)
    have ih := few_keys L (K.erase p.1) s2 (fun q hq => by
      have hq' := h q (List.mem_cons_of_mem _ hq)
      have : q.1 ≠ p.1 := by have := s1 q hq; omega
      exact (List.mem_erase_of_ne this).2 hq')
    rw [List.length_erase_of_mem hp] at ih
    have : 0 < K.length := List.length_pos_of_mem hp
    rw [List.length_cons]; omega

/- trees without places -/
def stepE (F : BT Nd → Ls → BT Nd) (a : Ac) (T U : BT Nd) : BT Nd :=
  if a.kd % 8 = 4 then uniE F a.mx T U else if a.kd % 8 = 5 then intE F a.mx T U else if a.kd % 8 = 6 then difLE F a.mx U T else if a.kd % 8 = 7 then T else updE F a T
def pickE (V : List (BT Nd)) (i : Int) : BT Nd := V.getD (i % (V.length : Int)).toNat .nil
def histSE (F : BT Nd → Ls → BT Nd) (V : List (BT Nd)) (a : Ac) : List (BT Nd) := V ++ [stepE F a (pickE V a.ofv) (pickE V a.wi)]
/-- The trees of all versions, without places. -/
def histE (F : BT Nd → Ls → BT Nd) (As : List Ac) : List (BT Nd) := As.foldl (histSE F) [.nil]
theorem histE_snoc (F : BT Nd → Ls → BT Nd) (As : List Ac) (a : Ac) : histE F (As ++ [a]) = histSE F (histE F As) a := by simp [histE]

end Go.Proofs.Ytahghidbadpkeaa
