/- The plain laws of intersection and union: what the loops compute is what the reference says. -/
import Derived.Test.YtahghidbadpkeaaIuni
import Derived.Test.YtahghidbadpkeaaPlai
set_option linter.unusedVariables false
set_option linter.unusedSimpArgs false
namespace Go.Proofs.Ytahghidbadpkeaa
open Go.Deep Go.RowKit

def Ful (L : Ls) : Prop := ∀ p ∈ L, p.2.isSome = true

theorem dat_cons (k : Int) (p : Int × Option Int) (L : Ls) : dat k (p :: L) = if p.1 = k then p.2 else dat k L := by
  by_cases h : p.1 = k <;> simp [dat, h]

theorem dat_ext : ∀ {L M : Ls}, Srt L → Srt M → Ful L → Ful M → (∀ k, dat k L = dat k M) → L = M
  | [], [], _, _, _, _, _ => rfl
  | [], q :: M, _, _, _, f, h => by
    have := h q.1
    rw [dat_cons, if_pos rfl] at this
    have f' := f q (List.mem_cons_self ..)
    rw [← this] at f'; cases f'
  | p :: L, [], _, _, f, _, h => by
    have := h p.1
    rw [dat_cons, if_pos rfl] at this
    have f' := f p (List.mem_cons_self ..)
    rw [this] at f'; cases f'
  | p :: L, q :: M, s1, s2, f1, f2, h => by
    obtain ⟨a1, a2⟩ := List.pairwise_cons.1 s1
    obtain ⟨b1, b2⟩ := List.pairwise_cons.1 s2
    have e1 := h p.1
    have e2 := h q.1
    rw [dat_cons, dat_cons, if_pos rfl] at e1
    rw [dat_cons, dat_cons, show (if q.1 = q.1 then q.2 else dat q.1 M) = q.2 from if_pos rfl] at e2
    have f1' := f1 p (List.mem_cons_self ..)
    have f2' := f2 q (List.mem_cons_self ..)
    have ek : q.1 = p.1 := by
      by_cases hk : q.1 = p.1
      · exact hk
      · rw [if_neg hk] at e1
        rw [if_neg (fun e => hk e.symm)] at e2
        have m1 : ∃ r ∈ M, r.1 = p.1 := by
          by_cases hm : ∃ r ∈ M, r.1 = p.1
          · exact hm
          · rw [dat_none (fun r hr e => hm ⟨r, hr, e⟩)] at e1
            rw [e1] at f1'; cases f1'
        have m2 : ∃ r ∈ L, r.1 = q.1 := by
          by_cases hm : ∃ r ∈ L, r.1 = q.1
          · exact hm
          · rw [dat_none (fun r hr e => hm ⟨r, hr, e⟩)] at e2
            rw [← e2] at f2'; cases f2'
        obtain ⟨r, hr, er⟩ := m1
        obtain ⟨r', hr', er'⟩ := m2
        have := b1 r hr
        have := a1 r' hr'
        omega
    rw [if_pos ek] at e1
    have epq : p = q := Prod.ext ek.symm e1
    subst epq
    congr 1
    refine dat_ext a2 b2 (fun r hr => f1 r (List.mem_cons_of_mem _ hr)) (fun r hr => f2 r (List.mem_cons_of_mem _ hr)) (fun k => ?_)
    have hk := h k
    rw [dat_cons, dat_cons] at hk
    by_cases e : p.1 = k
    · subst e
      rw [dat_none (fun r hr => by have := a1 r hr; omega), dat_none (fun r hr => by have := b1 r hr; omega)]
    · rw [if_neg e, if_neg e] at hk
      exact hk

theorem dat_app1 {k : Int} {A B : Ls} (h : ∀ p ∈ A, p.1 ≠ k) : dat k (A ++ B) = dat k B := by
  induction A with
  | nil => rfl
  | cons p A ih =>
    rw [List.cons_append, dat_cons, if_neg (h p (List.mem_cons_self ..))]
    exact ih (fun q hq => h q (List.mem_cons_of_mem _ hq))
theorem dat_app2 {k : Int} {A B : Ls} (h : ∀ p ∈ B, p.1 ≠ k) : dat k (A ++ B) = dat k A := by
  induction A with
  | nil => rw [List.nil_append, dat_none h]; rfl
  | cons p A ih => rw [List.cons_append, dat_cons, dat_cons, ih]
theorem dat_filter {k : Int} {f : Int × Option Int → Bool} (hf : ∀ p, p.1 = k → f p = true) : ∀ L : Ls, dat k (L.filter f) = dat k L
  | [] => rfl
  | p :: L => by
    have ih := dat_filter hf L
    by_cases e : p.1 = k
    · rw [List.filter_cons, if_pos (hf p e), dat_cons, dat_cons, if_pos e, if_pos e]
    · rw [List.filter_cons, dat_cons, if_neg e]
      split
      · rw [dat_cons, if_neg e]; exact ih
      · exact ih

theorem dat_put (k x v : Int) (L : Ls) : dat k (putL x v L) = if x = k then some v else dat k L := by
  unfold putL
  by_cases e : x = k
  · subst e
    rw [if_pos rfl, dat_app1 (fun p hp => by have := (mem_lo.1 hp).2; omega), dat_cons, if_pos rfl]
  · rw [if_neg e]
    rcases Int.lt_or_gt_of_ne e with h | h
    · rw [dat_app1 (fun p hp => by have := (mem_lo.1 hp).2; omega), dat_cons, if_neg e]
      exact dat_filter (fun p hp => by simp; omega) L
    · rw [dat_app2 (fun p hp => by
        rcases List.mem_cons.1 hp with rfl | hp
        · exact e
        · have := (mem_hi.1 hp).2; omega)]
      exact dat_filter (fun p hp => by simp; omega) L
theorem dat_drop (k x : Int) (L : Ls) : dat k (dropL x L) = if x = k then none else dat k L := by
  unfold dropL
  by_cases e : x = k
  · subst e
    rw [if_pos rfl, dat_app1 (fun p hp => by have := (mem_lo.1 hp).2; omega), dat_none (fun p hp => by have := (mem_hi.1 hp).2; omega)]
  · rw [if_neg e]
    rcases Int.lt_or_gt_of_ne e with h | h
    · rw [dat_app1 (fun p hp => by have := (mem_lo.1 hp).2; omega)]
      exact dat_filter (fun p hp => by simp; omega) L
    · rw [dat_app2 (fun p hp => by have := (mem_hi.1 hp).2; omega)]
      exact dat_filter (fun p hp => by simp; omega) L

/-- What a step makes of the data at its key. -/
def gv (un sw : Bool) (x : Mx) (o : Option Int) (d : Int) (r : Option Int) : Option Int :=
  match o with
  | none => if un then some d else none
  | some y => if x.no then r else match mixf x (if sw then y else d) (if sw then d else y) with
    | none => none
    | some z => if z = (if sw then y else d) then r else some z

section
variable (un sw : Bool) (x : Mx) (O : Ls)
theorem dat_gStep (k : Int) (R : Ls) (p : Int × Option Int) (d : Int) (hd : p.2 = some d) : dat k (gStep un sw x O R p) = if p.1 = k then gv un sw x (dat k O) d (dat k R) else dat k R := by
  by_cases e : p.1 = k
  · subst e
    rw [if_pos rfl]
    unfold gStep gv
    rw [hd]
    simp only
    cases dat p.1 O with
    | none =>
      simp only
      split
      · rw [dat_put, if_pos rfl]
      · rw [dat_drop, if_pos rfl]
    | some y =>
      simp only
      split
      · rfl
      · cases mixf x (if sw = true then y else d) (if sw = true then d else y) with
        | none => simp only; rw [dat_drop, if_pos rfl]
        | some z =>
          simp only
          generalize (if sw = true then y else d) = dd
          by_cases hz : z = dd
          · rw [if_pos hz, if_pos hz]
          · rw [if_neg hz, if_neg hz, dat_put, if_pos rfl]
  · rw [if_neg e]
    have h1 : ∀ v, dat k (putL p.1 v R) = dat k R := fun v => by rw [dat_put, if_neg e]
    have h2 : dat k (dropL p.1 R) = dat k R := by rw [dat_drop, if_neg e]
    unfold gStep
    repeat' split
    all_goals first | exact h1 _ | exact h2 | rfl

theorem srt_gStep {R : Ls} (p : Int × Option Int) (h : Srt R) : Srt (gStep un sw x O R p) := by
  have h1 : ∀ v, Srt (putL p.1 v R) := fun v => h.put
  have h2 : Srt (dropL p.1 R) := h.drop
  unfold gStep
  repeat' split
  all_goals first | exact h1 _ | exact h2 | exact h
theorem ful_gStep {R : Ls} (p : Int × Option Int) (h : Ful R) : Ful (gStep un sw x O R p) := by
  have h1 : ∀ v, Ful (putL p.1 v R) := fun v => full_put h
  have h2 : Ful (dropL p.1 R) := drop_mem h
  unfold gStep
  repeat' split
  all_goals first | exact h1 _ | exact h2 | exact h

theorem dat_fold : ∀ (k : Int) (P R : Ls), Srt P → Ful P → dat k (P.foldl (gStep un sw x O) R) = match dat k P with | none => dat k R | some d => gv un sw x (dat k O) d (dat k R)
  | k, [], R, _, _ => rfl
  | k, p :: P, R, s, f => by
    obtain ⟨s1, s2⟩ := List.pairwise_cons.1 s
    have fp := f p (List.mem_cons_self ..)
    obtain ⟨d, hd⟩ := Option.isSome_iff_exists.1 fp
    rw [List.foldl_cons, dat_fold k P _ s2 (fun q hq => f q (List.mem_cons_of_mem _ hq)), dat_gStep un sw x O k R p d hd, dat_cons]
    by_cases e : p.1 = k
    · rw [dat_none (fun q hq => by have := s1 q hq; omega), if_pos e, if_pos e, hd]
    · rw [if_neg e, if_neg e]
theorem srt_fold : ∀ (P R : Ls), Srt R → Srt (P.foldl (gStep un sw x O) R)
  | [], _, h => h
  | p :: P, R, h => srt_fold P _ (srt_gStep un sw x O p h)
theorem ful_fold : ∀ (P R : Ls), Ful R → Ful (P.foldl (gStep un sw x O) R)
  | [], _, h => h
  | p :: P, R, h => ful_fold P _ (ful_gStep un sw x O p h)
end

theorem ful_opt (S : List (Int × Int)) : Ful (opt S) := by
  intro p hp
  obtain ⟨q, _, rfl⟩ := List.mem_map.1 hp
  rfl

/- the intersection, as the reference has it -/
def istep (x : Mx) (B : List (Int × Int)) (p : Int × Int) : List (Int × Int) :=
  match atP p.1 B with
  | none => []
  | some y => if mixok x (mixn x p.2 y) then [(p.1, mixn x p.2 y)] else []
def pInter (x : Mx) (A B : List (Int × Int)) : List (Int × Int) := A.flatMap (istep x B)
theorem istep_len (x : Mx) (B : List (Int × Int)) (p : Int × Int) : (istep x B p).length ≤ 1 := by
  unfold istep
  split
  · simp
  · split <;> simp
theorem istep_key {x : Mx} {B : List (Int × Int)} {p q : Int × Int} (h : q ∈ istep x B p) : q.1 = p.1 := by
  unfold istep at h
  split at h
  · cases h
  · split at h
    · simp at h; rw [h]
    · cases h
theorem pInter_key {x : Mx} {A B : List (Int × Int)} {q : Int × Int} (h : q ∈ pInter x A B) : ∃ p ∈ A, q.1 = p.1 := by
  obtain ⟨r, hr, hq⟩ := List.mem_flatMap.1 h
  exact ⟨r, hr, istep_key hq⟩
theorem pInter_len (x : Mx) (A B : List (Int × Int)) : (pInter x A B).length ≤ A.length := by
  induction A with
  | nil => simp [pInter]
  | cons p A ih =>
    have h1 : pInter x (p :: A) B = istep x B p ++ pInter x A B := rfl
    have := istep_len x B p
    rw [h1, List.length_append, List.length_cons]; omega
theorem pInter_srt (x : Mx) {A B : List (Int × Int)} (h : PSrt A) : PSrt (pInter x A B) := by
  induction A with
  | nil => exact List.Pairwise.nil
  | cons p A ih =>
    have h1 := List.pairwise_cons.1 h
    have e : pInter x (p :: A) B = istep x B p ++ pInter x A B := rfl
    rw [e]
    refine List.pairwise_append.2 ⟨?_, ih h1.2, ?_⟩
    · unfold istep
      split
      · exact List.Pairwise.nil
      · split
        · exact List.pairwise_singleton _ _
        · exact List.Pairwise.nil
    · intro a ha q hq
      obtain ⟨r, hr, e⟩ := pInter_key hq
      rw [istep_key ha, e]; exact h1.1 r hr

theorem opt_mem2 {k : Int} {S : List (Int × Int)} (h : ∀ p ∈ S, p.1 ≠ k) : ∀ p ∈ opt S, p.1 ≠ k := by
  intro p hp
  obtain ⟨q, hq, rfl⟩ := List.mem_map.1 hp
  exact h q hq
theorem dat_inter (x : Mx) (k : Int) {B : List (Int × Int)} : ∀ {A : List (Int × Int)}, PSrt A → dat k (opt (pInter x A B)) = match atP k A, atP k B with | some d, some y => mixf x d y | _, _ => none
  | [], _ => rfl
  | p :: A, h => by
    have h1 := List.pairwise_cons.1 h
    have ih := dat_inter x k (B := B) h1.2
    have e : pInter x (p :: A) B = istep x B p ++ pInter x A B := rfl
    rw [e, opt_app]
    by_cases hk : p.1 = k
    · have hno : ∀ q ∈ opt (pInter x A B), q.1 ≠ k := opt_mem2 (fun q hq => by
        obtain ⟨r, hr, e⟩ := pInter_key hq
        have := h1.1 r hr; omega)
      rw [dat_app2 hno]
      have : atP k (p :: A) = some p.2 := by simp [atP, hk]
      rw [this]
      subst hk
      unfold istep mixf
      cases atP p.1 B with
      | none => rfl
      | some y =>
        simp only
        cases mixok x (mixn x p.2 y) <;> simp [opt, dat]
    · have hno : ∀ q ∈ opt (istep x B p), q.1 ≠ k := opt_mem2 (fun q hq => by rw [istep_key hq]; exact hk)
      rw [dat_app1 hno, ih]
      have : atP k (p :: A) = atP k A := by simp [atP, hk]
      rw [this]

/-- The function never tells the data of the first set where those of the second one are others. -/
def pFresh (x : Mx) (A B : List (Int × Int)) : Bool :=
  A.all (fun p => match atP p.1 B with
    | none => true
    | some y => !(mixok x (mixn x p.2 y) && (mixn x p.2 y == p.2) && (mixn x p.2 y != y)))

theorem atP_mem {k d : Int} : ∀ {A : List (Int × Int)}, atP k A = some d → (k, d) ∈ A
  | p :: A, h => by
    unfold atP at h
    split at h
    · rename_i e
      have e' : p.1 = k := by simpa using e
      have : p.2 = d := by simpa using h
      rw [← e', ← this]; exact List.mem_cons_self ..
    · exact List.mem_cons_of_mem _ (atP_mem h)

theorem pFresh_spec {x : Mx} {A B : List (Int × Int)} (h : pFresh x A B = true) {k d y z : Int} (hA : atP k A = some d) (hB : atP k B = some y) (hz : mixf x d y = some z) (e : z = d) : z = y := by
  have := List.all_eq_true.1 h _ (atP_mem hA)
  simp only [hB] at this
  unfold mixf at hz
  split at hz
  · rename_i hm
    have hz' : mixn x d y = z := by simpa using hz
    subst e
    rw [hz'] at hm this
    simpa [hm] using this
  · cases hz

theorem int_law (x : Mx) {A B : List (Int × Int)} (hA : PSrt A) (hB : PSrt B) (hno : x.no = false) (hf : pFresh x A B = true) : intL x (opt A) (opt B) = opt (pInter x A B) := by
  have sA := psrt_opt hA
  have sB := psrt_opt hB
  unfold intL
  split
  · refine dat_ext (srt_fold _ _ _ _ _ _ sA) (psrt_opt (pInter_srt x hA)) (ful_fold _ _ _ _ _ _ (ful_opt _)) (ful_opt _) (fun k => ?_)
    rw [dat_fold _ _ _ _ k _ _ sA (ful_opt _), dat_inter x k hA]
    simp only [dat_opt]
    cases h1 : atP k A with
    | none => rfl
    | some d =>
      cases h2 : atP k B with
      | none => simp [gv]
      | some y =>
        simp only [gv, hno]
        cases h3 : mixf x d y with
        | none => simp [h3]
        | some z =>
          simp [h3]
          intro e; exact e.symm
  · refine dat_ext (srt_fold _ _ _ _ _ _ sB) (psrt_opt (pInter_srt x hA)) (ful_fold _ _ _ _ _ _ (ful_opt _)) (ful_opt _) (fun k => ?_)
    rw [dat_fold _ _ _ _ k _ _ sB (ful_opt _), dat_inter x k hA]
    simp only [dat_opt]
    cases h2 : atP k B with
    | none => cases h1 : atP k A <;> rfl
    | some y =>
      cases h1 : atP k A with
      | none => simp [gv]
      | some d =>
        simp only [gv, hno]
        cases h3 : mixf x d y with
        | none => simp [h3]
        | some z =>
          simp [h3]
          intro e; exact (pFresh_spec hf h1 h2 h3 e).symm

/- the union, as the reference has it -/
def putIf (O : List (Int × Int)) (S : List (Int × Int)) (p : Int × Int) : List (Int × Int) := if (atP p.1 O).isSome then S else pPut p.1 p.2 S
def putAll (S : List (Int × Int)) (p : Int × Int) : List (Int × Int) := pPut p.1 p.2 S
def pUnion (x : Mx) (A B : List (Int × Int)) : List (Int × Int) := (pInter x A B).foldl putAll (B.foldl (putIf A) (A.foldl (putIf B) []))

theorem putAll_eq : putAll = putIf [] := by
  funext S p; rfl
theorem psrt_put {S : List (Int × Int)} (x v : Int) (h : PSrt S) : PSrt (pPut x v S) := by
  have := (psrt_opt h).put (x := x) (d := some v)
  have e : opt (pPut x v S) = putL x v (opt S) := opt_put x v S
  have h2 : Srt (opt (pPut x v S)) := by rw [e]; exact this
  simp only [Srt, opt, List.pairwise_map] at h2
  exact h2
theorem psrt_putIf (O : List (Int × Int)) : ∀ (P S : List (Int × Int)), PSrt S → PSrt (P.foldl (putIf O) S)
  | [], _, h => h
  | p :: P, S, h => by
    refine psrt_putIf O P _ ?_
    unfold putIf
    split
    · exact h
    · exact psrt_put _ _ h
theorem pPut_len (x v : Int) {S : List (Int × Int)} (h : PSrt S) : (pPut x v S).length ≤ S.length + 1 := by
  have := putL_len x v (opt S) (psrt_opt h)
  rw [← opt_put, opt_len, opt_len] at this
  exact this
theorem len_putIf (O : List (Int × Int)) : ∀ (P S : List (Int × Int)), PSrt S → (P.foldl (putIf O) S).length ≤ S.length + P.length
  | [], _, _ => by simp
  | p :: P, S, h => by
    have h2 : PSrt (putIf O S p) := by
      unfold putIf
      split
      · exact h
      · exact psrt_put _ _ h
    have h3 : (putIf O S p).length ≤ S.length + 1 := by
      unfold putIf
      split
      · omega
      · exact pPut_len _ _ h
    have := len_putIf O P _ h2
    rw [List.foldl_cons, List.length_cons]; omega
theorem pUnion_srt (x : Mx) (A B : List (Int × Int)) : PSrt (pUnion x A B) := by
  unfold pUnion
  rw [putAll_eq]
  exact psrt_putIf _ _ _ (psrt_putIf _ _ _ (psrt_putIf _ _ _ List.Pairwise.nil))
theorem pUnion_len (x : Mx) (A B : List (Int × Int)) : (pUnion x A B).length ≤ 2 * A.length + B.length := by
  unfold pUnion
  rw [putAll_eq]
  have h1 := len_putIf B A [] List.Pairwise.nil
  have h2 := len_putIf A B _ (psrt_putIf B A [] List.Pairwise.nil)
  have h3 := len_putIf [] (pInter x A B) _ (psrt_putIf A B _ (psrt_putIf B A [] List.Pairwise.nil))
  have h4 := pInter_len x A B
  simp at h1
  omega

theorem atP_put (k x v : Int) (S : List (Int × Int)) : atP k (pPut x v S) = if x = k then some v else atP k S := by
  rw [← dat_opt, opt_put, dat_put, dat_opt]
theorem atP_none {k : Int} : ∀ {S : List (Int × Int)}, (∀ p ∈ S, p.1 ≠ k) → atP k S = none
  | [], _ => rfl
  | p :: S, h => by
    have h1 : (p.1 == k) = false := by simpa using h p (List.mem_cons_self ..)
    simp only [atP, h1]
    exact atP_none (fun q hq => h q (List.mem_cons_of_mem _ hq))
theorem atP_putIf (O : List (Int × Int)) (k : Int) : ∀ (P S : List (Int × Int)), PSrt P → atP k (P.foldl (putIf O) S) = if (atP k O).isSome then atP k S else match atP k P with | none => atP k S | some d => some d
  | [], S, _ => by simp [atP]
  | p :: P, S, h => by
    obtain ⟨s1, s2⟩ := List.pairwise_cons.1 h
    rw [List.foldl_cons, atP_putIf O k P _ s2]
    have e1 : atP k (putIf O S p) = if (atP p.1 O).isSome then atP k S else if p.1 = k then some p.2 else atP k S := by
      unfold putIf
      split
      · rfl
      · rw [atP_put]
    rw [e1]
    by_cases e : p.1 = k
    · have e2 : atP k P = none := atP_none (fun q hq => by have := s1 q hq; omega)
      have e3 : atP k (p :: P) = some p.2 := by simp [atP, e]
      rw [e2, e3, e]
      split <;> simp
    · have e3 : atP k (p :: P) = atP k P := by simp [atP, e]
      rw [e3, if_neg e]
      split <;> split <;> simp
theorem atP_union (x : Mx) {A B : List (Int × Int)} (k : Int) (hA : PSrt A) (hB : PSrt B) : atP k (pUnion x A B) = match atP k A, atP k B with
    | none, none => none
    | some d, none => some d
    | none, some y => some y
    | some d, some y => mixf x d y := by
  have hI : atP k (pInter x A B) = _ := (dat_opt k _).symm.trans (dat_inter x k hA)
  unfold pUnion
  rw [putAll_eq, atP_putIf _ _ _ _ (pInter_srt x hA), atP_putIf _ _ _ _ hB, atP_putIf _ _ _ _ hA, hI]
  have e0 : atP k ([] : List (Int × Int)) = none := rfl
  rw [e0]
  cases h1 : atP k A with
  | none => cases h2 : atP k B <;> simp
  | some d =>
    cases h2 : atP k B with
    | none => simp
    | some y =>
      simp
      cases mixf x d y <;> rfl

theorem uni_law (x : Mx) {A B : List (Int × Int)} (hA : PSrt A) (hB : PSrt B) (hno : x.no = false) (hf : pFresh x A B = true) : uniL x (opt A) (opt B) = opt (pUnion x A B) := by
  have sA := psrt_opt hA
  have sB := psrt_opt hB
  unfold uniL
  split
  · refine dat_ext (srt_fold _ _ _ _ _ _ sA) (psrt_opt (pUnion_srt x A B)) (ful_fold _ _ _ _ _ _ (ful_opt _)) (ful_opt _) (fun k => ?_)
    rw [dat_fold _ _ _ _ k _ _ sB (ful_opt _), dat_opt k (pUnion x A B), atP_union x k hA hB]
    simp only [dat_opt]
    cases h2 : atP k B with
    | none => cases h1 : atP k A <;> rfl
    | some y =>
      cases h1 : atP k A with
      | none => simp [gv]
      | some d =>
        simp only [gv, hno]
        cases h3 : mixf x d y with
        | none => simp [h3]
        | some z =>
          simp [h3]
          intro e; exact e.symm
  · refine dat_ext (srt_fold _ _ _ _ _ _ sB) (psrt_opt (pUnion_srt x A B)) (ful_fold _ _ _ _ _ _ (ful_opt _)) (ful_opt _) (fun k => ?_)
    rw [dat_fold _ _ _ _ k _ _ sA (ful_opt _), dat_opt k (pUnion x A B), atP_union x k hA hB]
    simp only [dat_opt]
    cases h1 : atP k A with
    | none => cases h2 : atP k B <;> rfl
    | some d =>
      cases h2 : atP k B with
      | none => simp [gv]
      | some y =>
        simp only [gv, hno]
        cases h3 : mixf x d y with
        | none => simp [h3]
        | some z =>
          simp [h3]
          intro e; exact (pFresh_spec hf h1 h2 h3 e).symm

/- without the reference: sizes, order -/
theorem intL_srt (x : Mx) {T U : Ls} (hT : Srt T) (hU : Srt U) : Srt (intL x T U) := by
  unfold intL
  split
  · exact srt_fold _ _ _ _ _ _ hT
  · exact srt_fold _ _ _ _ _ _ hU
theorem uniL_srt (x : Mx) {T U : Ls} (hT : Srt T) (hU : Srt U) : Srt (uniL x T U) := by
  unfold uniL
  split
  · exact srt_fold _ _ _ _ _ _ hT
  · exact srt_fold _ _ _ _ _ _ hU
theorem gfold_len (un sw : Bool) (x : Mx) (O : Ls) : ∀ (P R : Ls), Srt R → (P.foldl (gStep un sw x O) R).length ≤ R.length + P.length
  | [], _, _ => by simp
  | p :: P, R, h => by
    have := gfold_len un sw x O P _ (srt_gStep un sw x O p h)
    have := gStep_len un sw x O R p h
    rw [List.foldl_cons, List.length_cons]; omega
theorem intL_len (x : Mx) {T U : Ls} (hT : Srt T) (hU : Srt U) : (intL x T U).length ≤ 2 * T.length + 2 * U.length := by
  unfold intL
  split
  · have := gfold_len false false x U T T hT; omega
  · have := gfold_len false true x T U U hU; omega
theorem uniL_len (x : Mx) {T U : Ls} (hT : Srt T) (hU : Srt U) : (uniL x T U).length ≤ 2 * T.length + 2 * U.length := by
  unfold uniL
  split
  · have := gfold_len true true x T U T hT; omega
  · have := gfold_len true false x U T U hU; omega

end Go.Proofs.Ytahghidbadpkeaa
