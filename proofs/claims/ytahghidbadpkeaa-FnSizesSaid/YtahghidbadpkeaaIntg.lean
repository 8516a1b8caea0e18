/- The walk of T.Intersection. -/
import Derived.Test.YtahghidbadpkeaaIntl
set_option linter.unusedVariables false
set_option linter.unusedSimpArgs false
namespace Go.Proofs.Ytahghidbadpkeaa
open Go.Deep Go.RowKit

set_option maxRecDepth 100000 in
set_option maxHeartbeats 1600000 in
theorem Inter_gt {FF0 : BT Nd → Ls → BT Nd} (hF0 : DelFun FF0) {w : World} {tb ub xb : Nat} {t u : BT Nd} {F : Value} (x : Mx) (hF : F = fv x xb) (g : Good w tb t) (gu : Good w ub u) (hx : w.heap[xb]? = some (.cells x.cells 39 (0, 0))) (htn : t ≠ .nil) (hun : u ≠ .nil) (hle : ¬ ((prs t).length : Int) ≤ ((prs u).length : Int)) (hn : (prs t).length ≤ 100000) (hnu : (prs u).length ≤ 100000) (hk : ∀ p ∈ prs u, p.1 ≠ -2147483648) :
    Calls Try.prog 51 #[.pointer (some ⟨tb, 0, none⟩), .pointer (some ⟨ub, 0, none⟩), F] w (TbPostE ((prs u).foldl (gStep false true x (prs t)) (prs u)) ((prs (er u)).foldl (gStpE FF0 false true x (prs (er t))) (er u)) w) := by
  have FF : Hid ((F = .nilFunc ∧ x.no = true) ∨ (F = .func (Fn.func 68) #[] #[.pointer (some ⟨xb, 0, none⟩)] ∧ x.no = false)) := by
    subst hF
    unfold fv
    cases x.no
    · exact .inr ⟨rfl, rfl⟩
    · exact .inl ⟨rfl, rfl⟩
  clear hF
  have hT1 : (((prs t).length : Int) == 0) = false := pos_ne htn
  have hU1 : (((prs u).length : Int) == 0) = false := pos_ne hun
  clear htn hun
  have SZ := Lib.hid (Size_any g.hd)
  have SZU := Lib.hid (Size_any gu.hd)
  have G0 := Lib.hid (And.intro g (And.intro gu (And.intro hx hk)))
  have CP := Lib.hid (Copy_any gu.hd)
  have W0 : Hid (Good (w.alloc (.cells #[.pointer (pt u), .int .i64 (prs u).length] 96)) w.heap.size u) := ⟨heap_alloc_new w _, gu.H.alloc _, gu.S, gu.A, gu.F⟩
  have IA := Lib.hid (Iterator_any (gu.chg ((Chg.refl (fun _ => False) w).alloc (.cells #[.pointer (pt u), .int .i64 (prs u).length] 96)) (fun h => h) (fun _ _ h => h)) (by show (prs u).length ≤ _; omega))
  clear g gu hx hk
  go_enter Try.func51, Try.ntmps51
  go_wp2_with fail
  refine SZ.out.mono ?_
  rintro e w1 ⟨rfl, hw⟩
  rw [hw]
  clear hw w1
  go_wp2_with fail
  refine SZU.out.mono ?_
  rintro e w1 ⟨rfl, hw⟩
  rw [hw]
  clear hw w1
  go_wp2_with fail
  refine SZ.out.mono ?_
  rintro e w1 ⟨rfl, hw⟩
  rw [hw]
  clear hw w1
  go_wp2_with fail
  refine SZU.out.mono ?_
  rintro e w1 ⟨rfl, hw⟩
  rw [hw]
  clear hw w1
  go_wp2_with fail
  refine CP.out.mono ?_
  rintro e w1 ⟨rfl, rfl⟩
  go_wp2_with fail
  refine IA.out.mono ?_
  rintro e w2 ⟨sa, n, cap, rfl, hn2, o2, b2⟩
  have D0 : Hid (GsInv (gStep false true x (prs t)) (gStpE FF0 false true x (prs t)) (prs u) (er u) w w.heap.size w2.heap.size (prs u) (prs u) (w2.alloc (.cells #[.slice sa n cap] 108))) := by
    simp only [World.size_alloc] at b2 o2
    exact gs_start G0.out.2.1 G0.out.2.1.A (G0.out.2.1.A.low (by omega)) W0.out hn2.symm o2 b2
  clear hn2 o2 b2
  go_wp2_with fail
  go_loopg [14] ((prs u).length) (fun k p wr => ∃ (ib : Nat) (P : Ls), p = .pointer (some ⟨ib, 0, none⟩) ∧ P.length = k ∧ Hid (GsInv (gStep false true x (prs t)) (gStpE FF0 false true x (prs t)) (prs u) (er u) w w.heap.size ib (prs u) P wr))
  case atStart => exact ⟨w2.heap.size, prs u, rfl, rfl, D0.out⟩
  case round =>
    clear D0
    obtain ⟨ib, P, rfl, rfl, hr⟩ := hrel
    obtain ⟨D, s, v, tr, i1, i2, i3, i4, i5, i6, i7, i8, i8e, i9, i10, i11, i12, i13⟩ := hr.out
    have DN := Lib.hid (Done_any i1)
    match s, i1, i2, i3, i4, i5, DN with
    | [], i1, i2, i3, i4, i5, DN =>
      have Q := Lib.hid (And.intro i5 (And.intro i6 (And.intro i7 (And.intro i8 (And.intro i8e i13)))))
      clear hr i1 i2 i3 i4 i5 i6 i7 i8 i8e i9 i10 i11 i12 i13
      go_wp2_with fail
      refine DN.out.mono ?_
      rintro e w3 ⟨rfl, hw⟩
      rw [hw]
      clear hw w3
      simp only [List.length_nil]
      go_wp2_with fail
      go_ret
      obtain ⟨i5, i6, i7, i8, i8e, i13⟩ := Q.out
      have i5' : P = [] := i5.symm
      subst i5'
      rw [List.append_nil] at i6
      subst i6
      exact ⟨w.heap.size, tr, rfl, i13, i7, i8, by rw [prs_er, prs_er]; exact i8e⟩
    | (.nil, f) :: s, i1, i2, i3, i4, i5, DN => exact absurd rfl i2.1
    | (.node b o a l r, true) :: s, i1, i2, i3, i4, i5, DN => cases i4
    | (.node b o a l r, false) :: s, i1, i2, i3, i4, i5, DN =>
      have hD : ∃ dd, a.d = some dd := by
        have : (a.k, a.d) ∈ prs u := by rw [← i6, ← i5]; simp [pend]
        have := G0.out.2.1.F _ this
        cases e : a.d with
        | none => rw [e] at this; cases this
        | some dd => exact ⟨dd, rfl⟩
      obtain ⟨dd, hdd⟩ := hD
      have hP : Hid (P = (a.k, a.d) :: (prs r ++ pend s)) := i5.symm
      have NX := Lib.hid (Next_any (by omega) i1 i2 i3)
      have FD := Lib.hid (fun (w' : World) (gg : Good w' tb t) => Find_any gg a.k)
      have Q := Lib.hid (And.intro i1 (And.intro i6 (And.intro i7 (And.intro i8 (And.intro i8e (And.intro i9 (And.intro i10 (And.intro i11 (And.intro i12 i13)))))))))
      clear hr i1 i2 i3 i4 i5 i6 i7 i8 i8e i9 i10 i11 i12 i13
      go_wp2_with fail
      refine DN.out.mono ?_
      rintro e w3 ⟨rfl, hw⟩
      rw [hw]
      clear hw w3
      have hl0 : ((((BT.node b o a l r, false) :: s : List Ent)).length == 0) = false := rfl
      rw [hl0]
      clear hl0
      go_wp2_with fail
      refine NX.out.mono ?_
      rintro e w3 ⟨rfl, s', ⟨v', j1, j2, j3⟩, j4, j5, j6, j7⟩
      rw [hdd]
      obtain ⟨sa', cap', rfl⟩ := owns_shape j1.ow
      obtain ⟨n', hn'⟩ : ∃ n', n' = s'.length := ⟨_, rfl⟩
      rw [← hn'] at j1 j3
      have HR : Hid (GsR (gStep false true x (prs t)) (gStpE FF0 false true x (prs t)) (prs u) (er u) w w.heap.size ib (prs u) (prs r ++ pend s) (.slice sa' n' cap') w3 D s' tr (a.k, some dd)) := by
        obtain ⟨i1, i6, i7, i8, i8e, i9, i10, i11, i12, i13⟩ := Q.out
        have b3 : Below w.heap.size w w3 := i13.trans ((j2.mono (S' := fun k => w.heap.size ≤ k) (fun k _ e => by
          rcases e with rfl | e
          · exact i1.lo
          · exact (i1.ow.lt k e).1)).below i13.size (fun _ h => h))
        refine ⟨j1, j4, j5, j7, j6, ?_, i7.chg j2 ?_ (i1.notin i7.H), i8, i8e, i9, i10, ?_, i12, b3⟩
        · rw [← i6, hP.out, hdd]
        · rintro (e | e)
          · exact i10 e
          · exact i11 e
        · rcases j3 with j3 | j3
          · rw [j3]; exact i11
          · intro e; have := j3 _ e; have := i7.hd.lt; omega
      have c0 := HR.out.cell (Chg.refl _ w3)
      have FD3 := Lib.hid (FD.out w3 (G0.out.1.below HR.out.b))
      have hxb : Hid (w3.heap[xb]? = some (.cells x.cells 39 (0, 0))) := (HR.out.b.block xb (Array.getElem?_eq_some_iff.1 G0.out.2.2.1).1).trans G0.out.2.2.1
      have hlen : Hid ((prs tr).length ≤ 300000) := by
        have h1 := HR.out.len
        have h2 := congrArg List.length HR.out.all
        simp at h2
        show (prs tr).length ≤ 300000
        omega
      have hkey : Hid (a.k ≠ -2147483648) := by
        have := G0.out.2.2.2 (a.k, some dd) (by rw [← HR.out.all]; simp)
        exact this
      clear j1 j2 j3 j4 j5 j6 j7 hn' Q NX DN FD
      simp only [dv]
      have hPl : Hid (P.length = (prs r ++ pend s).length + 1) := by
        show P.length = _
        rw [hP.out]; rfl
      obtain ⟨P', hP'⟩ : ∃ P', P' = prs r ++ pend s := ⟨_, rfl⟩
      rw [← hP'] at HR hPl
      clear hP' hP
      go_wp2_with fail
      refine FD3.out.mono ?_
      rintro e w4 ⟨rfl, hw⟩
      rw [hw]
      clear hw w4
      obtain ⟨yo, hyo⟩ : ∃ yo, yo = dat a.k (prs t) := ⟨_, rfl⟩
      rw [← hyo]
      have HY := Lib.hid hyo
      clear hyo
      cases yo with
      | none =>
        simp only [dv]
        have DL := Lib.hid (Delete_anyE HR.out.g hlen.out a.k)
        go_wp2_with fail
        refine DL.out.mono ?_
        rintro e w5 ⟨rfl, t5, c5, g5, e5, E5⟩
        have c1 := HR.out.cell c5
        have Q5 := Lib.hid (And.intro c5 (And.intro g5 (And.intro e5 E5)))
        clear c5 g5 e5 E5 c0
        go_wp2_with fail
        go_roundg P'.length
        case measure => have := hPl.out; omega
        case rel =>
          obtain ⟨c5, g5, e5, E5⟩ := Q5.out
          refine ⟨_, P', rfl, rfl, HR.out.step c5 (gStep_len _ _ _ _) g5 ?_ ?_⟩
          · rw [e5]; simp [gStep, ← HY.out, dropL]
          · rw [hF0.use HR.out.g E5]; simp [gStpE, ← HY.out, dropL, prs_er]
      | some y =>
        simp only [dv]
        rcases FF.out with ⟨rfl, hno⟩ | ⟨rfl, hno⟩
        · have HNO := Lib.hid hno
          clear hno
          have hff := eql68a
          go_wp2_with fail
          go_roundg P'.length
          case measure => have := hPl.out; omega
          case rel =>
            refine ⟨_, P', rfl, rfl, HR.out.step (Chg.refl _ w3) (gStep_len _ _ _ _) HR.out.g ?_ ?_⟩
            · simp [gStep, ← HY.out, HNO.out]
            · simp [gStpE, ← HY.out, HNO.out]
        · have CL := Lib.hid (clos_any x y dd hxb.out)
          have HNO := Lib.hid hno
          clear hno
          have hff := eql68b
          have hnq := neq20
          have hnn := neq20n
          go_wp2_with fail
          refine CL.out.mono ?_
          rintro e w4 ⟨rfl, nd, rfl⟩
          have g4 : Good (w3.drewN nd) w.heap.size tr := HR.out.g.chg ((Chg.refl (fun _ => False) w3).drewN nd) (fun h => h) (fun _ _ h => h)
          obtain ⟨zo, hzo⟩ : ∃ zo, zo = mixf x y dd := ⟨_, rfl⟩
          rw [← hzo]
          have HZ := Lib.hid hzo
          clear hzo
          cases zo with
          | none =>
            have DL := Lib.hid (Delete_anyE g4 hlen.out a.k)
            clear g4
            simp only [dv]
            go_wp2_with fail
            refine DL.out.mono ?_
            rintro e w5 ⟨rfl, t5, c5, g5, e5, E5⟩
            have c51 : Chg (fun k => k = w.heap.size) w3 w5 := (((Chg.refl (fun k => k = w.heap.size) w3).drewN _).trans c5)
            have c1 := HR.out.cell c51
            have Q5 := Lib.hid (And.intro c51 (And.intro g5 (And.intro e5 E5)))
            clear c5 g5 e5 E5 c0 c51
            go_wp2_with fail
            go_roundg P'.length
            case measure => have := hPl.out; omega
            case rel =>
              obtain ⟨c5, g5, e5, E5⟩ := Q5.out
              refine ⟨_, P', rfl, rfl, HR.out.step c5 (gStep_len _ _ _ _) g5 ?_ ?_⟩
              · rw [e5]; simp [gStep, ← HY.out, HNO.out, ← HZ.out, dropL]
              · rw [hF0.use HR.out.g E5]; simp [gStpE, ← HY.out, HNO.out, ← HZ.out, dropL, prs_er]
          | some z =>
            by_cases hz : (z == y) = true
            · have hzd := Lib.hid (show z = y by simpa using hz)
              have hz2 : (z != y) = false := by simp [bne, hz]
              obtain ⟨w4, hw4⟩ : ∃ w4, w4 = w3.drewN nd := ⟨_, rfl⟩
              have c4 : Chg (fun k => k = w.heap.size) w3 w4 := by rw [hw4]; exact (Chg.refl (fun k => k = w.heap.size) w3).drewN nd
              have c1 := HR.out.cell c4
              have C4 := Lib.hid c4
              rw [← hw4] at g4 ⊢
              have G4 := Lib.hid g4
              clear g4 hw4 c4 c0
              simp only [dv]
              go_wp2_with fail
              go_roundg P'.length
              case measure => have := hPl.out; omega
              case rel =>
                refine ⟨_, P', rfl, rfl, HR.out.step C4.out (gStep_len _ _ _ _) G4.out ?_ ?_⟩
                · simp [gStep, ← HY.out, HNO.out, ← HZ.out, hzd.out]
                · simp [gStpE, ← HY.out, HNO.out, ← HZ.out, hzd.out]
            · have hz1 : (z == y) = false := by simpa using hz
              have hzd := Lib.hid (show ¬ z = y by simpa using hz1)
              have hz2 : (z != y) = true := by simp [bne, hz1]
              clear hz
              have IN := Lib.hid (Insert_anyE g4 hlen.out a.k z hkey.out)
              clear g4
              simp only [dv]
              go_wp2_with fail
              refine IN.out.mono ?_
              rintro e w5 ⟨t5, rfl, c5, g5, e5, E5⟩
              have c51 : Chg (fun k => k = w.heap.size) w3 w5 := (((Chg.refl (fun k => k = w.heap.size) w3).drewN _).trans c5)
              have c1 := HR.out.cell c51
              have Q5 := Lib.hid (And.intro c51 (And.intro g5 (And.intro e5 E5)))
              clear c5 g5 e5 E5 c0 c51
              go_wp2_with fail
              go_roundg P'.length
              case measure => have := hPl.out; omega
              case rel =>
                obtain ⟨c5, g5, e5, E5⟩ := Q5.out
                refine ⟨_, P', rfl, rfl, HR.out.step c5 (gStep_len _ _ _ _) g5 ?_ ?_⟩
                · rw [e5]; simp [gStep, ← HY.out, HNO.out, ← HZ.out, putL, hzd.out]
                · rw [E5]; simp [gStpE, ← HY.out, HNO.out, ← HZ.out, hzd.out]

end Go.Proofs.Ytahghidbadpkeaa
