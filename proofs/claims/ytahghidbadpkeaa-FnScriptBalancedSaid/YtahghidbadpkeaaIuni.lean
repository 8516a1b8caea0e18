/- T.Intersection and T.Union, walked whole. -/
import Derived.Test.YtahghidbadpkeaaIntg
import Derived.Test.YtahghidbadpkeaaUnig
import Derived.Test.YtahghidbadpkeaaUnil
set_option linter.unusedVariables false
set_option linter.unusedSimpArgs false
namespace Go.Proofs.Ytahghidbadpkeaa
open Go.Deep Go.RowKit

def intL (x : Mx) (T U : Ls) : Ls := if T.length ≤ U.length then T.foldl (gStep false false x U) T else U.foldl (gStep false true x T) U
def uniL (x : Mx) (T U : Ls) : Ls := if U.length ≤ T.length then U.foldl (gStep true true x T) T else T.foldl (gStep true false x U) U

/-- The same on trees without places. -/
def intE (F : BT Nd → Ls → BT Nd) (x : Mx) (T U : BT Nd) : BT Nd := if (prs T).length ≤ (prs U).length then (prs T).foldl (gStpE F false false x (prs U)) T else (prs U).foldl (gStpE F false true x (prs T)) U
def uniE (F : BT Nd → Ls → BT Nd) (x : Mx) (T U : BT Nd) : BT Nd := if (prs U).length ≤ (prs T).length then (prs U).foldl (gStpE F true true x (prs T)) T else (prs T).foldl (gStpE F true false x (prs U)) U
theorem er_nil {t : BT Nd} (h : prs t = []) : t = .nil := by
  cases t with
  | nil => rfl
  | node b o a l r => simp [prs] at h
theorem intE_nil1 (F : BT Nd → Ls → BT Nd) (x : Mx) (U : BT Nd) : intE F x .nil U = .nil := by simp [intE, prs]
theorem intE_nil2 (F : BT Nd → Ls → BT Nd) (x : Mx) (T : BT Nd) : intE F x T .nil = .nil := by
  unfold intE
  split
  · rename_i h
    have : T = .nil := er_nil (List.eq_nil_of_length_eq_zero (by simpa [prs] using h))
    subst this; rfl
  · rfl
theorem uniE_nil1 (F : BT Nd → Ls → BT Nd) (x : Mx) (U : BT Nd) : uniE F x .nil U = U := by
  unfold uniE
  split
  · rename_i h
    have : U = .nil := er_nil (List.eq_nil_of_length_eq_zero (by simpa [prs] using h))
    subst this; rfl
  · rfl
theorem uniE_nil2 (F : BT Nd → Ls → BT Nd) (x : Mx) (T : BT Nd) : uniE F x T .nil = T := by simp [uniE, prs]

theorem intL_nil1 (x : Mx) (U : Ls) : intL x [] U = [] := by simp [intL]
theorem intL_nil2 (x : Mx) (T : Ls) : intL x T [] = [] := by
  unfold intL
  split
  · rename_i h
    have : T = [] := List.eq_nil_of_length_eq_zero (by simpa using h)
    subst this; rfl
  · rfl
theorem uniL_nil1 (x : Mx) (U : Ls) : uniL x [] U = U := by
  unfold uniL
  split
  · rename_i h
    have : U = [] := List.eq_nil_of_length_eq_zero (by simpa using h)
    subst this; rfl
  · rfl
theorem uniL_nil2 (x : Mx) (T : Ls) : uniL x T [] = T := by simp [uniL]

theorem fv_cases {x : Mx} {xb : Nat} {F : Value} (hF : F = fv x xb) : Hid ((F = .nilFunc ∧ x.no = true) ∨ (F = .func (Fn.func 68) #[] #[.pointer (some ⟨xb, 0, none⟩)] ∧ x.no = false)) := by
  subst hF
  unfold fv
  cases x.no
  · exact .inr ⟨rfl, rfl⟩
  · exact .inl ⟨rfl, rfl⟩

set_option maxRecDepth 100000 in
set_option maxHeartbeats 800000 in
theorem Intersection_anyE {FF0 : BT Nd → Ls → BT Nd} (hF0 : DelFun FF0) {w : World} {tb ub xb : Nat} {t u : BT Nd} {F : Value} (x : Mx) (hF : F = fv x xb) (g : Good w tb t) (gu : Good w ub u) (hx : w.heap[xb]? = some (.cells x.cells 39 (0, 0))) (hn : (prs t).length ≤ 100000) (hnu : (prs u).length ≤ 100000) (hk : ∀ p ∈ prs t, p.1 ≠ -2147483648) (hku : ∀ p ∈ prs u, p.1 ≠ -2147483648) :
    Calls Try.prog 51 #[.pointer (some ⟨tb, 0, none⟩), .pointer (some ⟨ub, 0, none⟩), F] w (TbPostE (intL x (prs t) (prs u)) (intE FF0 x (er t) (er u)) w) := by
  by_cases htn : t = .nil
  · subst htn
    have SZ := Lib.hid (Size_any g.hd)
    have FF := fv_cases hF
    clear g gu hx hk hku hn hnu hF
    go_enter Try.func51, Try.ntmps51
    go_wp2_with fail
    refine SZ.out.mono ?_
    rintro e w1 ⟨rfl, hw⟩
    rw [hw]
    clear hw w1
    simp only [prs, List.length_nil, Int.natCast_zero]
    go_wp2_with fail
    go_ret
    refine ⟨w.heap.size, .nil, rfl, (Below.refl _ w).alloc (Nat.le_refl _) _, ⟨?_, trivial, List.Pairwise.nil, trivial, fun p hp => by cases hp⟩, (intL_nil1 x _).symm, (intE_nil1 FF0 x _).symm⟩
    exact heap_alloc_new w _
  · by_cases hun : u = .nil
    · subst hun
      have hT1 : (((prs t).length : Int) == 0) = false := pos_ne htn
      have SZ := Lib.hid (Size_any g.hd)
      have SZU := Lib.hid (Size_any gu.hd)
      have FF := fv_cases hF
      clear g gu hx hk hku hn hnu hF htn
      go_enter Try.func51, Try.ntmps51
      go_wp2_with fail
      refine SZ.out.mono ?_
      rintro e w1 ⟨rfl, hw⟩
      rw [hw]
      clear hw w1
      go_wp2_with fail
      refine SZU.out.mono ?_
      rintro e w1 ⟨rfl, hw⟩
      rw [hw]
      clear hw w1
      simp only [prs, List.length_nil, Int.natCast_zero]
      go_wp2_with fail
      go_ret
      refine ⟨w.heap.size, .nil, rfl, (Below.refl _ w).alloc (Nat.le_refl _) _, ⟨?_, trivial, List.Pairwise.nil, trivial, fun p hp => by cases hp⟩, (intL_nil2 x _).symm, (intE_nil2 FF0 x _).symm⟩
      exact heap_alloc_new w _
    · by_cases hle : ((prs t).length : Int) ≤ ((prs u).length : Int)
      · have := Inter_le hF0 x hF g gu hx htn hun hle hn hnu hk
        rw [intL, if_pos (by omega), intE, prs_er t, prs_er u, if_pos (by omega)]
        rw [prs_er, prs_er] at this
        exact this
      · have := Inter_gt hF0 x hF g gu hx htn hun hle hn hnu hku
        rw [intL, if_neg (by omega), intE, prs_er t, prs_er u, if_neg (by omega)]
        rw [prs_er, prs_er] at this
        exact this

set_option maxRecDepth 100000 in
set_option maxHeartbeats 800000 in
theorem Union_anyE {FF0 : BT Nd → Ls → BT Nd} (hF0 : DelFun FF0) {w : World} {tb ub xb : Nat} {t u : BT Nd} {F : Value} (x : Mx) (hF : F = fv x xb) (g : Good w tb t) (gu : Good w ub u) (hx : w.heap[xb]? = some (.cells x.cells 39 (0, 0))) (hn : (prs t).length ≤ 100000) (hnu : (prs u).length ≤ 100000) (hk : ∀ p ∈ prs t, p.1 ≠ -2147483648) (hku : ∀ p ∈ prs u, p.1 ≠ -2147483648) :
    Calls Try.prog 52 #[.pointer (some ⟨tb, 0, none⟩), .pointer (some ⟨ub, 0, none⟩), F] w (TbPostE (uniL x (prs t) (prs u)) (uniE FF0 x (er t) (er u)) w) := by
  by_cases htn : t = .nil
  · subst htn
    have SZ := Lib.hid (Size_any g.hd)
    have FF := fv_cases hF
    have GU := Lib.hid gu
    clear g gu hx hk hku hn hnu hF
    go_enter Try.func52, Try.ntmps52
    go_wp2_with fail
    refine SZ.out.mono ?_
    rintro e w1 ⟨rfl, hw⟩
    rw [hw]
    clear hw w1
    simp only [prs, List.length_nil, Int.natCast_zero]
    go_wp2_with fail
    go_ret
    exact ⟨ub, u, rfl, Below.refl _ w, GU.out, (uniL_nil1 x _).symm, (uniE_nil1 FF0 x _).symm⟩
  · by_cases hun : u = .nil
    · subst hun
      have hT1 : (((prs t).length : Int) == 0) = false := pos_ne htn
      have SZ := Lib.hid (Size_any g.hd)
      have SZU := Lib.hid (Size_any gu.hd)
      have FF := fv_cases hF
      have GU := Lib.hid g
      clear g gu hx hk hku hn hnu hF htn
      go_enter Try.func52, Try.ntmps52
      go_wp2_with fail
      refine SZ.out.mono ?_
      rintro e w1 ⟨rfl, hw⟩
      rw [hw]
      clear hw w1
      go_wp2_with fail
      refine SZU.out.mono ?_
      rintro e w1 ⟨rfl, hw⟩
      rw [hw]
      clear hw w1
      simp only [prs, List.length_nil, Int.natCast_zero]
      go_wp2_with fail
      go_ret
      exact ⟨tb, t, rfl, Below.refl _ w, GU.out, (uniL_nil2 x _).symm, (uniE_nil2 FF0 x _).symm⟩
    · by_cases hle : ((prs u).length : Int) ≤ ((prs t).length : Int)
      · have := Union_ge hF0 x hF g gu hx htn hun hle hn hnu hku
        rw [uniL, if_pos (by omega), uniE, prs_er t, prs_er u, if_pos (by omega)]
        rw [prs_er, prs_er] at this
        exact this
      · have := Union_lt hF0 x hF g gu hx htn hun hle hn hnu hk
        rw [uniL, if_neg (by omega), uniE, prs_er t, prs_er u, if_neg (by omega)]
        rw [prs_er, prs_er] at this
        exact this

theorem Intersection_any {w : World} {tb ub xb : Nat} {t u : BT Nd} {F : Value} (x : Mx) (hF : F = fv x xb) (g : Good w tb t) (gu : Good w ub u) (hx : w.heap[xb]? = some (.cells x.cells 39 (0, 0))) (hn : (prs t).length ≤ 100000) (hnu : (prs u).length ≤ 100000) (hk : ∀ p ∈ prs t, p.1 ≠ -2147483648) (hku : ∀ p ∈ prs u, p.1 ≠ -2147483648) :
    Calls Try.prog 51 #[.pointer (some ⟨tb, 0, none⟩), .pointer (some ⟨ub, 0, none⟩), F] w (TbPost (intL x (prs t) (prs u)) w) := by
  obtain ⟨F0, h0⟩ := delFun_ex
  exact (Intersection_anyE h0 x hF g gu hx hn hnu hk hku).mono fun e w' h => h.plain
theorem Union_any {w : World} {tb ub xb : Nat} {t u : BT Nd} {F : Value} (x : Mx) (hF : F = fv x xb) (g : Good w tb t) (gu : Good w ub u) (hx : w.heap[xb]? = some (.cells x.cells 39 (0, 0))) (hn : (prs t).length ≤ 100000) (hnu : (prs u).length ≤ 100000) (hk : ∀ p ∈ prs t, p.1 ≠ -2147483648) (hku : ∀ p ∈ prs u, p.1 ≠ -2147483648) :
    Calls Try.prog 52 #[.pointer (some ⟨tb, 0, none⟩), .pointer (some ⟨ub, 0, none⟩), F] w (TbPost (uniL x (prs t) (prs u)) w) := by
  obtain ⟨F0, h0⟩ := delFun_ex
  exact (Union_anyE h0 x hF g gu hx hn hnu hk hku).mono fun e w' h => h.plain

end Go.Proofs.Ytahghidbadpkeaa
