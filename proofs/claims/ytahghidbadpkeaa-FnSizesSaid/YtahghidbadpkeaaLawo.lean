/- The walks of impl.Sizes and FnSizes. -/
import Derived.Test.YtahghidbadpkeaaShps
import Derived.Test.YtahghidbadpkeaaHas
set_option linter.unusedVariables false
set_option linter.unusedSimpArgs false
namespace Go.Proofs.Ytahghidbadpkeaa
open Go.Deep Go.RowKit

def zc (k : Int) : List Value := [.int .i64 k]
theorem zc_len (k : Int) : (zc k).length = 1 := rfl
theorem info3z : (Try.prog.info? 3).map (fun i => (i.zero, i.size, i.bytes)) = some (some (.int .i64 0), 1, 8) := by kernel_rfl
def lens (L : List Ls) : List Int := L.map (fun l => (l.length : Int))

def SizPost (As : List Ac) (w : World) (e : Ending) (w' : World) : Prop :=
  ∃ v1 v2, e = .returned (.tuple #[v1, v2]) ∧ Rd zc 1 w' v1 (lens (histL As)) ∧ Rd zc 1 w' v2 (lens (histL As)) ∧ Below w.heap.size w w'

/-- Behind an append of a number to a slice of numbers all else is as it was. -/
theorem num_step {w7 w8 : World} {vo : Value} {B n : Nat} {xs : List Value} (h : w7.ownsRow B 3 1 vo n xs) (o : Obj) (hg : (w7.alloc o).grownBy w8 vo.ownBlock) :
    (∀ (tb : Nat) (t : BT Nd), Good w7 tb t → Good w8 tb t) ∧ (∀ {B s n : Nat} {v : Value} {xs : List Value}, w7.ownsRow B 61 s v n xs → w8.ownsRow B 61 s v n xs) := by
  have c : Chg (fun k => vo.ownBlock = some k) w7 w8 := ((Chg.refl (fun k => vo.ownBlock = some k) w7).alloc o).grown hg (fun k hk _ => hk)
  have ht : ∀ k, vo.ownBlock = some k → ∃ cs ty, w7.heap[k]? = some (.cells cs ty (0, 0)) ∧ ty = 3 := fun k hk => by
    obtain ⟨cs, h1⟩ := own_tag h hk
    exact ⟨cs, 3, h1, rfl⟩
  refine ⟨fun tb t g => g.tag c (fun k hk => ?_), fun r => row_tag r c (fun k hk => ?_)⟩
  · obtain ⟨cs, ty, h1, rfl⟩ := ht k hk
    exact ⟨cs, 3, h1, by decide, by decide⟩
  · obtain ⟨cs, ty, h1, rfl⟩ := ht k hk
    exact ⟨cs, 3, h1, by decide⟩

set_option maxRecDepth 100000 in
set_option maxHeartbeats 1600000 in
theorem Sizes_any {w : World} {v : Value} {As : List Ac} (h : Rd ac 11 w v As) (hn : As.length ≤ 1000) (hk : ∀ a ∈ As, a.key ≠ -2147483648) : Calls Try.prog 38 #[v] w (SizPost As w) := by
  obtain ⟨sa, cap, rfl⟩ := h.shape
  obtain ⟨i3, hi3, hz0, hz1, hz2⟩ := info_parts info3z
  have HI := Lib.hid (history_any h hn hk)
  clear h hk
  go_enter Try.func38, Try.ntmps38
  go_wp2_with fail
  refine HI.out.mono ?_
  rintro e w1 ⟨V, vt, vf, rfl, hs, hb, hV⟩
  have hVl := len_hist hV
  obtain ⟨ta, tcap, rfl⟩ := owns_shape hs.rt
  obtain ⟨fa, fcap, rfl⟩ := owns_shape hs.rf
  obtain ⟨n, hnV⟩ : ∃ n, n = V.length := ⟨_, rfl⟩
  rw [← hnV] at hVl
  simp only [← hnV]
  have hn1 : n ≤ 1001 := by omega
  have SZ := Lib.hid (fun (q : Ver) (hq : q ∈ V) => few_hist hV hs.rest hn hq)
  have HH := Lib.hid (And.intro hs (And.intro hb (And.intro hV (And.intro hnV hVl))))
  clear hs hb hV hnV HI hVl
  go_wp2_with fail
  go_loopg [6, 7, 21] (n) (fun k o1 o2 i wr => ∃ j : Nat, j ≤ n ∧ k = n - j ∧ i = .int .i64 j ∧ ∃ oa ocap pa pcap, o1 = .slice oa j ocap ∧ o2 = .slice pa j pcap ∧ Hid (wr.ownsRow w1.heap.size 3 1 (.slice oa j ocap) j (fl zc ((lens (histL As)).take j)) ∧ wr.ownsRow w1.heap.size 3 1 (.slice pa j pcap) j (fl zc ((lens (histL As)).take j)) ∧ (.slice oa j ocap : Value).ownBlock ≠ (.slice pa j pcap : Value).ownBlock ∧ (∀ q ∈ V, Good wr q.b q.t) ∧ wr.ownsRow w.heap.size 61 1 (.slice ta n tcap) n (fl hp V) ∧ Below w1.heap.size w1 wr))
  case atStart =>
    have b2 : Below w1.heap.size w1 ((w1.alloc (.cells #[] 3)).alloc (.cells #[] 3)) := ((Below.refl _ w1).alloc (Nat.le_refl _) _).alloc (by simp) _
    refine ⟨0, Nat.zero_le _, rfl, rfl, _, _, _, _, rfl, rfl, ?_, ?_, ?_, fun q hq => (HH.out.1.g q hq).1.below b2, ?_, b2⟩
    · exact ⟨rfl, .inr ⟨w1.heap.size, 0, #[], rfl, Nat.le_refl _, (Below.heap_alloc _ _ _ (by simp)).trans (heap_alloc_new w1 _), Nat.le_refl _, by simp [maxLen], rfl, rfl⟩⟩
    · refine ⟨rfl, .inr ⟨w1.heap.size + 1, 0, #[], rfl, by omega, ?_, Nat.le_refl _, by simp [maxLen], rfl, rfl⟩⟩
      have := heap_alloc_new (w1.alloc (.cells #[] 3)) (.cells #[] 3)
      rw [World.size_alloc] at this
      exact this
    · simp [Value.ownBlock]
    · have := row_below HH.out.1.rt b2
      rw [← HH.out.2.2.2.1] at this
      exact this
  case round =>
    obtain ⟨j, hj, rfl, rfl, oa, ocap, pa, pcap, rfl, rfl, ho⟩ := hrel
    by_cases hjn : j < n
    · obtain ⟨⟨tb, t, tv⟩, hq⟩ : ∃ q, V[j]? = some q := ⟨_, List.getElem?_eq_getElem (by have := HH.out.2.2.2.1; omega)⟩
      have HO := Lib.hid ho.out
      obtain ⟨u1, u2, u3, u4, u5, u6⟩ := HO.out
      obtain ⟨tg, rfl, c1⟩ := trees_at (by rw [← HH.out.2.2.2.1]; exact u5) hq
      have gt := u4 _ (List.mem_of_getElem? hq)
      have hz := SZ.out _ (List.mem_of_getElem? hq)
      simp only at gt hz
      have ZS := Lib.hid (ZZShape_any gt.hd gt.H (by omega))
      have GT := Lib.hid gt
      have SZT := Lib.hid (fun (W : World) (gg : Good W tb t) => Size_any gg.hd)
      have LN : Hid ((lens (histL As)).take (j + 1) = (lens (histL As)).take j ++ [((prs t).length : Int)]) := by
        have e : (lens (histL As))[j]? = some ((prs t).length : Int) := by
          rw [← HH.out.2.2.1]
          simp [lens, setsOf, hq]
        show List.take _ _ = _
        rw [List.take_add_one, e]; rfl
      have UU := Lib.hid (And.intro u1 (And.intro u2 (And.intro u3 (And.intro u4 (And.intro u5 u6)))))
      clear u1 u2 u3 u4 u5 u6 hq HO ho gt hz
      obtain ⟨m, hm⟩ : ∃ m : Int, m = ((prs t).length : Int) := ⟨_, rfl⟩
      rw [← hm] at ZS SZT LN
      clear hm
      go_wp2_with fail
      refine ZS.out.mono ?_
      rintro e w7 ⟨vS, rfl, oS, bS⟩
      obtain ⟨sS, cS, rfl⟩ := owns_shape oS
      have OS : Hid (w7.ownsRow w1.heap.size 3 1 (.slice oa j ocap) j (fl zc ((lens (histL As)).take j)) ∧ w7.ownsRow w1.heap.size 3 1 (.slice pa j pcap) j (fl zc ((lens (histL As)).take j)) ∧ (∀ q ∈ V, Good w7 q.b q.t) ∧ w7.ownsRow w.heap.size 61 1 (.slice (some ⟨tg, 0, none⟩) n tcap) n (fl hp V) ∧ Below w1.heap.size w1 w7 ∧ Good w7 tb t) :=
        ⟨row_below UU.out.1 bS, row_below UU.out.2.1 bS, fun q hq => (UU.out.2.2.2.1 q hq).below bS, row_below UU.out.2.2.2.2.1 bS, UU.out.2.2.2.2.2.trans (bS.mono UU.out.2.2.2.2.2.size), GT.out.below bS⟩
      have OW : Hid ((w7.alloc (.cells #[.int .i64 m] 3)).ownsRow w1.heap.size 3 1 (.slice oa j ocap) j (fl zc ((lens (histL As)).take j))) := OS.out.1.alloc _
      have SZ7 : Hid (w1.heap.size ≤ w7.heap.size) := OS.out.2.2.2.2.1.size
      clear oS bS ZS
      go_wp2_with (at_builtin; refine wpList_append_lies _ rfl _ _ 56 rfl w1.heap.size 3 i3 _ 1 8 Try.underlying56 hi3 hz0 hz1 hz2 rfl (by omega) (.slice oa j ocap) j (fl zc ((lens (histL As)).take j)) rfl OW.out ⟨w7.heap.size, 0, none⟩ 1 1 [.int .i64 m] rfl rfl ?b1 (fun u hu => by rw [List.mem_singleton] at hu; subst hu; rfl) (by omega) (by unfold maxLen; omega) (by omega) ?b2 (w7.heap.size + 1) (by simp) ?b3)
      case b1 => exact news0 w7 #[.int .i64 m] 3
      case b2 => have := SZ7.out; simp; omega
      case b3 =>
        intro g4 cap4 w8 hown4 hgrow4 hat4 hlt4
        obtain ⟨n1, n2⟩ := num_step OS.out.1 _ hgrow4
        have R8 : Hid (w8.ownsRow w1.heap.size 3 1 (.slice (some ⟨g4, 0, none⟩) (j + 1) cap4) (j + 1) (fl zc ((lens (histL As)).take j) ++ [.int .i64 m]) ∧ w8.ownsRow w1.heap.size 3 1 (.slice pa j pcap) j (fl zc ((lens (histL As)).take j)) ∧ (∀ q ∈ V, Good w8 q.b q.t) ∧ w8.ownsRow w.heap.size 61 1 (.slice (some ⟨tg, 0, none⟩) n tcap) n (fl hp V) ∧ Below w1.heap.size w1 w8 ∧ Good w8 tb t ∧ (.slice (some ⟨g4, 0, none⟩) (j + 1) cap4 : Value).ownBlock ≠ (.slice pa j pcap : Value).ownBlock) := by
          refine ⟨hown4, (OS.out.2.1.alloc _).kept hgrow4 (.inr (fun e => UU.out.2.2.1 e.symm)), fun q hq => n1 _ _ (OS.out.2.2.1 q hq), n2 OS.out.2.2.2.1, (OS.out.2.2.2.2.1.alloc SZ7.out _).grown hgrow4 (by simp; have := SZ7.out; omega) (fun k hk => (OS.out.1.lt k hk).1), n1 _ _ OS.out.2.2.2.2.2, fun e => ?_⟩
          rcases hat4 with h4 | h4
          · exact UU.out.2.2.1 (h4.trans e)
          · have := (OS.out.2.1.lt g4 e.symm).2
            omega
        have SZC := Lib.hid (SZT.out w8 R8.out.2.2.2.2.2.1)
        have OW2 : Hid ((w8.alloc (.cells #[.int .i64 m] 3)).ownsRow w1.heap.size 3 1 (.slice pa j pcap) j (fl zc ((lens (histL As)).take j))) := R8.out.2.1.alloc _
        have SZ8 : Hid (w1.heap.size ≤ w8.heap.size) := R8.out.2.2.2.2.1.size
        clear hown4 hgrow4 hat4 hlt4 n1 n2 OW SZT
        go_wp2_with fail
        refine SZC.out.mono ?_
        rintro e w9 ⟨rfl, hw⟩
        rw [hw]
        clear hw w9
        go_wp2_with (at_builtin; refine wpList_append_lies _ rfl _ _ 56 rfl w1.heap.size 3 i3 _ 1 8 Try.underlying56 hi3 hz0 hz1 hz2 rfl (by omega) (.slice pa j pcap) j (fl zc ((lens (histL As)).take j)) rfl OW2.out ⟨w8.heap.size, 0, none⟩ 1 1 [.int .i64 m] rfl rfl ?d1 (fun u hu => by rw [List.mem_singleton] at hu; subst hu; rfl) (by omega) (by unfold maxLen; omega) (by omega) ?d2 (w8.heap.size + 1) (by simp) ?d3)
        case d1 => exact news0 w8 #[.int .i64 m] 3
        case d2 => have := SZ8.out; simp; omega
        case d3 =>
          intro g5 cap5 w10 hown5 hgrow5 hat5 hlt5
          have R := Lib.hid (And.intro hown5 (And.intro hgrow5 hat5))
          clear hown5 hgrow5 hat5 hlt5
          go_wp2_with fail
          go_roundg (n - (j + 1))
          case measure => omega
          case rel =>
            obtain ⟨hown5, hgrow5, hat5⟩ := R.out
            obtain ⟨n1, n2⟩ := num_step R8.out.2.1 _ hgrow5
            refine ⟨j + 1, by omega, rfl, by go_num, _, _, _, _, rfl, rfl, ?_, ?_, ?_, fun q hq => n1 _ _ (R8.out.2.2.1 q hq), n2 R8.out.2.2.2.1, ?_⟩
            · rw [LN.out, fl_app, fl_one]
              exact (R8.out.1.alloc _).kept hgrow5 (.inr R8.out.2.2.2.2.2.2)
            · rw [LN.out, fl_app, fl_one]; exact hown5
            · intro e
              rcases hat5 with h5 | h5
              · exact R8.out.2.2.2.2.2.2 (e.trans h5.symm)
              · have e' : g4 = g5 := by simpa [Value.ownBlock] using e
                have := (R8.out.1.lt g4 rfl).2
                omega
            · exact (R8.out.2.2.2.2.1.alloc SZ8.out _).grown hgrow5 (by simp; have := SZ8.out; omega) (fun k hk => (R8.out.2.1.lt k hk).1)
    · have hj' : j = n := by omega
      subst hj'
      have hHH := HH.out
      go_wp2_with fail
      go_ret2
      obtain ⟨u1, u2, u3, u4, u5, u6⟩ := ho.out
      obtain ⟨hs, hb, hV, hnV, hVl⟩ := hHH
      have el : (lens (histL As)).length = j := by rw [lens, List.length_map, histL_len]; exact hVl.symm
      rw [List.take_of_length_le (by omega)] at u1 u2
      rw [← el] at u1 u2
      have r1 := Rd.of_own zc_len u1
      have r2 := Rd.of_own zc_len u2
      rw [el] at r1 r2
      exact ⟨_, _, rfl, r1, r2, hb.trans (u6.mono hb.size)⟩

set_option maxRecDepth 100000 in
set_option maxHeartbeats 1600000 in
theorem FnSizes_core {w : World} {v : Value} {As : List Ac} (h : Rd ac 11 w v As) (hn : As.length ≤ 1000) (hk : ∀ a ∈ As, a.key ≠ -2147483648) (hka : actedB As = true) : Calls Try.prog 13 #[v] w (fun e w' => e = .returned (.bool true) ∧ Below w.heap.size w w') := by
  obtain ⟨sa, cap, rfl⟩ := h.shape
  have AC := Lib.hid (hka ▸ acted_any h (by omega))
  have SH := Lib.hid (fun (W : World) (hb : Below w.heap.size w W) => Shapes_any (h.below hb) hn hk)
  have SI := Lib.hid (fun (W : World) (hb : Below w.heap.size w W) => Sizes_any (h.below hb) hn hk)
  clear h hk hka
  go_enter Try.func13, Try.ntmps13
  go_wp2_with fail
  refine AC.out.mono ?_
  rintro e w1 ⟨rfl, b1⟩
  have B1 := Lib.hid b1
  clear b1
  go_wp2_with fail
  refine (SI.out _ B1.out).mono ?_
  rintro e w9 ⟨v1, v2, rfl, r1, r2, bb⟩
  obtain ⟨s1, d1, rfl⟩ := r1.shape
  obtain ⟨s2, d2, rfl⟩ := r2.shape
  have el : (lens (histL As)).length = As.length + 1 := by rw [lens, List.length_map, histL_len]
  obtain ⟨N, hN⟩ : ∃ N, N = (lens (histL As)).length := ⟨_, rfl⟩
  rw [← hN] at el
  simp only [← hN] at r1 r2 ⊢
  have B9 := Lib.hid (B1.out.trans (bb.mono B1.out.size))
  have RR := Lib.hid (And.intro r1 (And.intro r2 (And.intro hN el)))
  clear r1 r2 bb hN el SI
  go_wp2_with fail
  refine (SH.out _ B9.out).mono ?_
  rintro e w2 ⟨U, vo, rfl, hs, hb, hV, hr⟩
  have hUl := len_hist hV
  obtain ⟨ta, tcap, rfl⟩ := hs.shape
  obtain ⟨n, hnU⟩ : ∃ n, n = U.length := ⟨_, rfl⟩
  rw [← hnU] at hUl
  simp only [← hnU] at hs ⊢
  have hn1 : n ≤ 1001 := by omega
  have SZ := Lib.hid (fun (q : Ver) (hq : q ∈ U) => few_hist hV hr hn hq)
  have HH := Lib.hid (And.intro hs (And.intro hr (And.intro hV (And.intro hnU hUl))))
  have B2 := Lib.hid (B9.out.trans (hb.mono B9.out.size))
  have hb2 := Lib.hid hb
  clear hs hb hV hr hnU hUl SH
  have hNn : N = n := by have := HH.out.2.2.2.2; have := RR.out.2.2.2; omega
  subst hNn
  have RK := Lib.hid (And.intro (RR.out.1.below hb2.out) (And.intro (RR.out.2.1.below hb2.out) RR.out.2.2.1))
  clear RR
  go_wp2_with fail
  go_loopg [36] (N) (fun k i wr => ∃ j : Nat, j ≤ N ∧ k = N - j ∧ i = .int .i64 j ∧ Hid (Below w.heap.size w wr ∧ Below w2.heap.size w2 wr))
  case atStart => exact ⟨0, Nat.zero_le _, rfl, rfl, B2.out, Below.refl _ _⟩
  case round =>
    obtain ⟨j, hj, rfl, rfl, ho⟩ := hrel
    by_cases hjn : j < N
    · obtain ⟨⟨qb, t, qv⟩, hq⟩ : ∃ q, U[j]? = some q := ⟨_, List.getElem?_eq_getElem (by have := HH.out.2.2.2.1; omega)⟩
      have hs2 := HH.out.1.below ho.out.2
      obtain ⟨tg, sS, cS, rfl, c1, hqv⟩ := hs2.at hq
      simp only at hqv c1
      have hz := SZ.out _ (List.mem_of_getElem? hq)
      simp only at hz
      have hlj : (lens (histL As))[j]? = some ((sz t : Nat) : Int) := by
        rw [← HH.out.2.2.1]
        simp [lens, setsOf, hq, sz]
      obtain ⟨b1, o1, rfl, k1⟩ := (RK.out.1.below ho.out.2).at zc_len hlj
      obtain ⟨b2, o2, rfl, k2⟩ := (RK.out.2.1.below ho.out.2).at zc_len hlj
      have k10 := k1 0 _ rfl
      have k20 := k2 0 _ rfl
      rw [Nat.mul_one, Nat.add_zero] at k10 k20
      clear hs2 hq hqv hlj k1 k2
      obtain ⟨m, hm⟩ : ∃ m, m = sz t := ⟨_, rfl⟩
      rw [← hm] at c1 k10 k20 hz
      clear hm
      go_wp2_with fail
      go_roundg (N - (j + 1))
      case measure => omega
      case rel => exact ⟨j + 1, by omega, rfl, by go_num, ho.out⟩
    · have hj' : j = N := by omega
      subst hj'
      go_wp2_with fail
      refine works_any.mono ?_
      rintro e w3 ⟨rfl, b3⟩
      have B3 := Lib.hid (ho.out.1.trans (b3.mono ho.out.1.size))
      clear b3
      go_wp2_with fail
      go_ret
      exact ⟨rfl, B3.out⟩

set_option maxRecDepth 100000 in
set_option maxHeartbeats 800000 in
theorem FnSizes_any {w : World} {v : Value} {As : List Ac} (h : Rd ac 11 w v As) : Calls Try.prog 13 #[v] w (fun e w' => e = .returned (.bool true) ∧ Below w.heap.size w w') := by
  obtain ⟨sa, cap, rfl⟩ := h.shape
  have RD := Lib.hid h
  clear h
  by_cases h1 : (As.length : Int) > 2147483647
  · go_enter Try.func13, Try.ntmps13
    go_wp2_with fail
    go_ret
    exact ⟨rfl, Below.refl _ w⟩
  have AC := Lib.hid (acted_any RD.out (by omega))
  by_cases hk : actedB As = true
  · have hka : keysB As = true ∧ (As.length : Int) ≤ 1000 := by simpa [actedB] using hk
    exact FnSizes_core RD.out (by omega) (keysB_spec hka.1) hk
  · have hk' : actedB As = false := by simpa using hk
    clear hk
    go_enter Try.func13, Try.ntmps13
    go_wp2_with fail
    refine AC.out.mono ?_
    rintro e w1 ⟨rfl, b1⟩
    rw [hk']
    have B1 := Lib.hid b1
    clear b1
    go_wp2_with fail
    refine works_any.mono ?_
    rintro e w2 ⟨rfl, b2⟩
    have B2 := Lib.hid (B1.out.trans (b2.mono B1.out.size))
    clear b2
    go_wp2_with fail
    go_ret
    exact ⟨rfl, B2.out⟩

end Go.Proofs.Ytahghidbadpkeaa
