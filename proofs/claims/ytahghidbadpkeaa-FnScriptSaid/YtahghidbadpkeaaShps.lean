/- The walks of impl.Shapes, ShapesFirst and Sizes. -/
import Derived.Test.YtahghidbadpkeaaHist
set_option linter.unusedVariables false
set_option linter.unusedSimpArgs false
namespace Go.Proofs.Ytahghidbadpkeaa
open Go.Deep Go.RowKit

/-- A slice of slices that shows the nodes of versions. -/
structure NS (w : World) (U : List Ver) (vo : Value) : Prop where
  f : ∃ B, w.ownsRow B 26 1 vo U.length (fl hv U)
  g : ∀ q ∈ U, OwnN w q.v q.t
theorem NS.below {w w' : World} {U : List Ver} {vo : Value} (h : NS w U vo) (c : Below w.heap.size w w') : NS w' U vo := by
  obtain ⟨⟨B, f⟩, g⟩ := h
  exact ⟨⟨B, row_below f c⟩, fun q hq => (g q hq).below c⟩
theorem NS.shape {w : World} {U : List Ver} {vo : Value} (h : NS w U vo) : ∃ a cap, vo = .slice a U.length cap := by
  obtain ⟨B, f⟩ := h.f
  exact owns_shape f
theorem NS.at {w : World} {U : List Ver} {ta : Option Addr} {n cap : Nat} (h : NS w U (.slice ta n cap)) {i : Nat} {q : Ver} (hq : U[i]? = some q) : ∃ b sa c, ta = some ⟨b, 0, none⟩ ∧ w.cell? ⟨b, i, none⟩ = some (.slice sa (sz q.t) c) ∧ q.v = .slice sa (sz q.t) c := by
  obtain ⟨B, f⟩ := h.f
  obtain ⟨B', g⟩ := h.g q (List.mem_of_getElem? hq)
  obtain ⟨sa, c, hv0⟩ := owns_shape g
  rcases f.2 with ⟨e, hn⟩ | ⟨g, cap', cur, e, _, _⟩
  · rw [List.eq_nil_of_length_eq_zero hn] at hq; simp at hq
  · injection e with e1 e2 e3
    subst e1
    refine ⟨g, sa, c, rfl, ?_, hv0⟩
    have h1 := f.cells (g := g) rfl i q.v (by
      have := fl_get hv_len hq (i := 0) (by omega)
      rw [Nat.mul_one, Nat.add_zero] at this
      rw [this]; rfl)
    have hadd : (⟨g, 0, none⟩ : Addr).add i = ⟨g, i, none⟩ := by unfold Addr.add; split <;> simp_all
    rw [hadd] at h1
    rw [← hv0]; exact h1

/-- The trees of versions: at rest, in order, full. -/
def Rest (U : List Ver) : Prop := ∀ q ∈ U, Avl q.t ∧ Srt (prs q.t) ∧ Ful (prs q.t)
def treesOf (V : List Ver) : List (BT Nd) := V.map Ver.t
theorem sets_trees (V : List Ver) : setsOf V = (treesOf V).map prs := by simp [setsOf, treesOf]

def ShsPost (As : List Ac) (w : World) (e : Ending) (w' : World) : Prop :=
  ∃ U vo, e = .returned vo ∧ NS w' U vo ∧ Below w.heap.size w w' ∧ setsOf U = histL As ∧ Rest U

def ShsPostE (F : BT Nd → Ls → BT Nd) (As : List Ac) (w : World) (e : Ending) (w' : World) : Prop :=
  ∃ U vo, e = .returned vo ∧ NS w' U vo ∧ Below w.heap.size w w' ∧ setsOf U = histL As ∧ Rest U ∧ ersOf U = histE F As
theorem ShsPostE.plain {F : BT Nd → Ls → BT Nd} {As : List Ac} {w : World} {e : Ending} {w' : World} (h : ShsPostE F As w e w') : ShsPost As w e w' := by
  obtain ⟨U, vo, h1, h2, h3, h4, h5, _⟩ := h
  exact ⟨U, vo, h1, h2, h3, h4, h5⟩
theorem ers_trees (V : List Ver) : ersOf V = (treesOf V).map er := by simp [ersOf, treesOf]

theorem HS.rest {B : Nat} {w : World} {V : List Ver} {vt vf : Value} (h : HS B w V vt vf) : Rest V := fun q hq => ⟨(h.g q hq).1.A, (h.g q hq).1.S, (h.g q hq).1.F⟩

/-- One more slice. -/
theorem NS.push {B B' : Nat} {w6 w7 w8 : World} {U : List Ver} {vo vs : Value} {b : Nat} {t : BT Nd} (h : w6.ownsRow B 26 1 vo U.length (fl hv U)) (hg6 : ∀ q ∈ U, OwnN w6 q.v q.t) (c7 : Below w6.heap.size w6 w7) (o : Obj) (hs : w7.ownsRow B' 84 5 vs (sz t) (fl Nn.cells (nlist t))) (hg : (w7.alloc o).grownBy w8 vo.ownBlock) :
    (∀ q ∈ U ++ [⟨b, t, vs⟩], OwnN w8 q.v q.t) ∧ (∀ (tb : Nat) (t : BT Nd), Good w6 tb t → Good w8 tb t) ∧ (∀ {B s n : Nat} {v : Value} {xs : List Value}, w6.ownsRow B 61 s v n xs → w8.ownsRow B 61 s v n xs) := by
  have f7 := row_below h c7
  have c : Chg (fun k => vo.ownBlock = some k) w7 w8 := ((Chg.refl (fun k => vo.ownBlock = some k) w7).alloc o).grown hg (fun k hk _ => hk)
  have ht : ∀ k, vo.ownBlock = some k → ∃ cs ty, w7.heap[k]? = some (.cells cs ty (0, 0)) ∧ ty = 26 := fun k hk => by
    obtain ⟨cs, h1⟩ := own_tag f7 hk
    exact ⟨cs, 26, h1, rfl⟩
  have hown : ∀ {v : Value} {t : BT Nd}, OwnN w7 v t → OwnN w8 v t := fun g => g.tag c (fun k hk => by
    obtain ⟨cs, ty, h1, rfl⟩ := ht k hk
    exact ⟨cs, 26, h1, by decide⟩)
  refine ⟨fun q hq => ?_, fun tb t g => (g.below c7).tag c (fun k hk => ?_), fun r => row_tag (row_below r c7) c (fun k hk => ?_)⟩
  · rcases List.mem_append.1 hq with hq | hq
    · exact hown ((hg6 q hq).below c7)
    · rw [List.mem_singleton] at hq
      subst hq
      exact hown ⟨B', hs⟩
  · obtain ⟨cs, ty, h1, rfl⟩ := ht k hk
    exact ⟨cs, 26, h1, by decide, by decide⟩
  · obtain ⟨cs, ty, h1, rfl⟩ := ht k hk
    exact ⟨cs, 26, h1, by decide⟩

theorem trees_at {B : Nat} {w : World} {V : List Ver} {ta : Option Addr} {n cap : Nat} (h : w.ownsRow B 61 1 (.slice ta n cap) V.length (fl hp V)) {i : Nat} {q : Ver} (hq : V[i]? = some q) : ∃ b, ta = some ⟨b, 0, none⟩ ∧ w.cell? ⟨b, i, none⟩ = some (.pointer (some ⟨q.b, 0, none⟩)) := by
  rcases h.2 with ⟨e, hn⟩ | ⟨g, cap', cur, e, _, _⟩
  · rw [List.eq_nil_of_length_eq_zero hn] at hq; simp at hq
  · injection e with e1 e2 e3
    subst e1
    refine ⟨g, rfl, ?_⟩
    have h1 := h.cells (g := g) rfl i (.pointer (some ⟨q.b, 0, none⟩)) (by
      have := fl_get hp_len hq (i := 0) (by omega)
      rw [Nat.mul_one, Nat.add_zero] at this
      rw [this]; rfl)
    have hadd : (⟨g, 0, none⟩ : Addr).add i = ⟨g, i, none⟩ := by unfold Addr.add; split <;> simp_all
    rw [hadd] at h1
    exact h1

theorem len_hist {As : List Ac} {V : List Ver} (h : setsOf V = histL As) : V.length = As.length + 1 := by
  have := congrArg List.length h
  rw [histL_len] at this
  simpa [setsOf] using this
theorem few_hist {As : List Ac} {V : List Ver} (h : setsOf V = histL As) (hr : Rest V) (hn : As.length ≤ 1000) {q : Ver} (hq : q ∈ V) : sz q.t ≤ 1000 := by
  have h1 := histL_keys (P := fun k => k ∈ As.map Ac.key) (As := As) (fun a ha => List.mem_map_of_mem ha) (prs q.t) (by rw [← h]; exact List.mem_map_of_mem (f := fun q : Ver => prs q.t) hq)
  have := few_keys _ _ (hr q hq).2.1 h1
  rw [List.length_map] at this
  show (prs q.t).length ≤ 1000
  omega

set_option maxRecDepth 100000 in
set_option maxHeartbeats 1600000 in
theorem Shapes_anyE {FF0 : BT Nd → Ls → BT Nd} (hF0 : DelFun FF0) {w : World} {v : Value} {As : List Ac} (h : Rd ac 11 w v As) (hn : As.length ≤ 1000) (hk : ∀ a ∈ As, a.key ≠ -2147483648) : Calls Try.prog 31 #[v] w (ShsPostE FF0 As w) := by
  obtain ⟨sa, cap, rfl⟩ := h.shape
  obtain ⟨i2, hi2, hf0, hf1, hf2⟩ := info_parts info26
  have HI := Lib.hid (history_anyE hF0 h hn hk)
  clear h hk
  go_enter Try.func31, Try.ntmps31
  go_wp2_with fail
  refine HI.out.mono ?_
  rintro e w1 ⟨V, vt, vf, rfl, hs, hb, hV, hE⟩
  have hVl := len_hist hV
  obtain ⟨ta, tcap, rfl⟩ := owns_shape hs.rt
  obtain ⟨fa, fcap, rfl⟩ := owns_shape hs.rf
  obtain ⟨n, hnV⟩ : ∃ n, n = V.length := ⟨_, rfl⟩
  rw [← hnV] at hVl
  simp only [← hnV]
  have hn1 : n ≤ 1001 := by omega
  clear hVl
  have SZ := Lib.hid (fun (q : Ver) (hq : q ∈ V) => few_hist hV hs.rest hn hq)
  have HH := Lib.hid (And.intro hs (And.intro hb (And.intro hV hnV)))
  have HE := Lib.hid hE
  clear hs hb hV hnV hE HI
  go_wp2_with fail
  go_loopg [5, 16] (n) (fun k out i wr => ∃ j : Nat, j ≤ n ∧ k = n - j ∧ i = .int .i64 j ∧ ∃ oa ocap, out = .slice oa j ocap ∧ Hid (∃ U : List Ver, U.length = j ∧ treesOf U = treesOf (V.take j) ∧ wr.ownsRow w1.heap.size 26 1 (.slice oa j ocap) j (fl hv U) ∧ (∀ q ∈ U, OwnN wr q.v q.t) ∧ (∀ q ∈ V, Good wr q.b q.t) ∧ wr.ownsRow w.heap.size 61 1 (.slice ta n tcap) n (fl hp V) ∧ Below w1.heap.size w1 wr))
  case atStart =>
    refine ⟨0, Nat.zero_le _, rfl, rfl, _, _, rfl, [], rfl, rfl, ?_, (fun q hq => by cases hq), fun q hq => (HH.out.1.g q hq).1.below ((Below.refl _ w1).alloc (Nat.le_refl _) _), ?_, (Below.refl _ w1).alloc (Nat.le_refl _) _⟩
    · exact ⟨rfl, .inr ⟨w1.heap.size, 0, #[], rfl, Nat.le_refl _, heap_alloc_new w1 _, Nat.le_refl _, by simp [maxLen], rfl, rfl⟩⟩
    · have := row_below HH.out.1.rt ((Below.refl w1.heap.size w1).alloc (Nat.le_refl _) (.cells #[] 26))
      rw [← HH.out.2.2.2] at this
      exact this
  case round =>
    obtain ⟨j, hj, rfl, rfl, oa, ocap, rfl, ho⟩ := hrel
    by_cases hjn : j < n
    · obtain ⟨⟨tb, t, tv⟩, hq⟩ : ∃ q, V[j]? = some q := ⟨_, List.getElem?_eq_getElem (by have := HH.out.2.2.2; omega)⟩
      have HO : Hid (∃ U : List Ver, U.length = j ∧ treesOf U = treesOf (V.take j) ∧ wr.ownsRow w1.heap.size 26 1 (.slice oa j ocap) j (fl hv U) ∧ (∀ q ∈ U, OwnN wr q.v q.t) ∧ (∀ q ∈ V, Good wr q.b q.t) ∧ wr.ownsRow w.heap.size 61 1 (.slice ta n tcap) n (fl hp V) ∧ Below w1.heap.size w1 wr) := ho.out
      obtain ⟨U, u1, u2, u3, u4, u5, u6, u7⟩ := HO.out
      obtain ⟨tg, rfl, c1⟩ := trees_at (by rw [← HH.out.2.2.2]; exact u6) hq
      have SHP := Lib.hid (shape_good (u5 _ (List.mem_of_getElem? hq)) (by have := SZ.out _ (List.mem_of_getElem? hq); show sz t ≤ 300000; simp only at this; omega))
      have LT : Hid (sz t ≤ 1000) := SZ.out _ (List.mem_of_getElem? hq)
      have UU := Lib.hid (And.intro u1 (And.intro u2 (And.intro u3 (And.intro u4 (And.intro u5 (And.intro u6 (And.intro u7 hq)))))))
      clear u1 u2 u3 u4 u5 u6 u7 hq HO ho
      go_wp2_with fail
      refine SHP.out.mono ?_
      rintro e w7 ⟨vS, rfl, oS, bS⟩
      obtain ⟨sS, cS, rfl⟩ := owns_shape oS
      have OS := Lib.hid (And.intro oS bS)
      have OW : Hid ((w7.alloc (.cells #[.slice sS (sz t) cS] 26)).ownsRow w1.heap.size 26 1 (.slice oa j ocap) j (fl hv U)) := (row_below UU.out.2.2.1 bS).alloc _
      have SZ7 : Hid (w1.heap.size ≤ w7.heap.size) := Nat.le_trans UU.out.2.2.2.2.2.2.1.size bS.size
      clear oS bS SHP
      go_wp2_with (at_builtin; refine wpList_append_lies _ rfl _ _ 46 rfl w1.heap.size 26 i2 _ 1 24 Try.underlying46 hi2 hf0 hf1 hf2 rfl (by omega) (.slice oa j ocap) j (fl hv U) rfl OW.out ⟨w7.heap.size, 0, none⟩ 1 1 [.slice sS (sz t) cS] rfl rfl ?b1 (fun u hu => by rw [List.mem_singleton] at hu; subst hu; rfl) (by omega) (by unfold maxLen; omega) (by omega) ?b2 (w7.heap.size + 1) (by simp) ?b3)
      case b1 => exact news0 w7 #[.slice sS (sz t) cS] 26
      case b2 => have := SZ7.out; simp; omega
      case b3 =>
        intro g4 cap4 w8 hown4 hgrow4 hat4 hlt4
        have R := Lib.hid (And.intro hown4 hgrow4)
        clear hown4 hgrow4 hat4 hlt4
        go_wp2_with fail
        go_roundg (n - (j + 1))
        case measure => omega
        case rel =>
          obtain ⟨u1, u2, u3, u4, u5, u6, u7, hq⟩ := UU.out
          obtain ⟨hown4, hgrow4⟩ := R.out
          obtain ⟨p1, p2, p3⟩ := NS.push (b := tb) (by rw [u1]; exact u3) u4 OS.out.2 _ OS.out.1 hgrow4
          refine ⟨j + 1, by omega, rfl, by go_num, _, _, rfl, U ++ [⟨tb, t, .slice sS (sz t) cS⟩], by simp [u1], ?_, ?_, p1, fun q hq => p2 _ _ (u5 q hq), p3 u6, ?_⟩
          · have e : V.take (j + 1) = V.take j ++ [⟨tb, t, tv⟩] := by rw [List.take_add_one, hq]; rfl
            rw [e, treesOf, treesOf, List.map_append, List.map_append]
            show treesOf U ++ _ = treesOf (V.take j) ++ _
            rw [u2]; rfl
          · rw [fl_app, fl_one]; exact hown4
          · exact ((u7.trans (OS.out.2.mono u7.size)).alloc SZ7.out _).grown hgrow4 (by simp; have := SZ7.out; omega) (fun k hk => (u3.lt k hk).1)
    · have hj' : j = n := by omega
      subst hj'
      have hHH := HH.out
      go_wp2_with fail
      go_ret
      obtain ⟨U, u1, u2, u3, u4, u5, u6, u7⟩ := ho.out
      obtain ⟨hs, hb, hV, hnV⟩ := hHH
      have hE := HE.out
      have e : treesOf U = treesOf V := by rw [u2, hnV, List.take_length]
      refine ⟨U, _, rfl, ⟨⟨_, by rw [u1]; exact u3⟩, u4⟩, hb.trans (u7.mono hb.size), by rw [sets_trees, e, ← sets_trees]; exact hV, fun q hq => ?_, by rw [ers_trees, e, ← ers_trees]; exact hE⟩
      have hm : q.t ∈ treesOf V := by rw [← e]; exact List.mem_map_of_mem hq
      obtain ⟨q', hq', eq'⟩ := List.mem_map.1 hm
      rw [← eq']
      exact hs.rest q' hq'

set_option maxRecDepth 100000 in
set_option maxHeartbeats 800000 in
theorem ShapesFirst_anyE {FF0 : BT Nd → Ls → BT Nd} (hF0 : DelFun FF0) {w : World} {v : Value} {As : List Ac} (h : Rd ac 11 w v As) (hn : As.length ≤ 1000) (hk : ∀ a ∈ As, a.key ≠ -2147483648) : Calls Try.prog 36 #[v] w (ShsPostE FF0 As w) := by
  obtain ⟨sa, cap, rfl⟩ := h.shape
  have HI := Lib.hid (history_anyE hF0 h hn hk)
  clear h hk
  go_enter Try.func36, Try.ntmps36
  go_wp2_with fail
  refine HI.out.mono ?_
  rintro e w1 ⟨V, vt, vf, rfl, hs, hb, hV, hE⟩
  obtain ⟨ta, tcap, rfl⟩ := owns_shape hs.rt
  obtain ⟨fa, fcap, rfl⟩ := owns_shape hs.rf
  have HH := Lib.hid (And.intro hs (And.intro hb (And.intro hV hE)))
  clear hs hb hV hE HI
  go_wp2_with fail
  go_ret
  obtain ⟨hs, hb, hV, hE⟩ := HH.out
  exact ⟨V, _, rfl, ⟨⟨_, hs.rf⟩, fun q hq => (hs.g q hq).2⟩, hb, hV, hs.rest, hE⟩

theorem Shapes_any {w : World} {v : Value} {As : List Ac} (h : Rd ac 11 w v As) (hn : As.length ≤ 1000) (hk : ∀ a ∈ As, a.key ≠ -2147483648) : Calls Try.prog 31 #[v] w (ShsPost As w) := by
  obtain ⟨F0, h0⟩ := delFun_ex
  exact (Shapes_anyE h0 h hn hk).mono fun e w' h => h.plain
theorem ShapesFirst_any {w : World} {v : Value} {As : List Ac} (h : Rd ac 11 w v As) (hn : As.length ≤ 1000) (hk : ∀ a ∈ As, a.key ≠ -2147483648) : Calls Try.prog 36 #[v] w (ShsPost As w) := by
  obtain ⟨F0, h0⟩ := delFun_ex
  exact (ShapesFirst_anyE h0 h hn hk).mono fun e w' h => h.plain

end Go.Proofs.Ytahghidbadpkeaa
