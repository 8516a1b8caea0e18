/- The walk of impl.history. -/
import Derived.Test.YtahghidbadpkeaaHiss
set_option linter.unusedVariables false
set_option linter.unusedSimpArgs false
namespace Go.Proofs.Ytahghidbadpkeaa
open Go.Deep Go.RowKit

theorem start_hs {w w1 : World} {vS : Value} {B : Nat} (oS : w1.ownsRow B 84 5 vS (sz .nil) (fl Nn.cells (nlist .nil))) (bS : Below (w.heap.size + 2) ((w.alloc (.cells #[.pointer none, .int .i64 0] 96)).alloc (.cells #[.pointer (some ⟨w.heap.size, 0, none⟩)] 61)) w1) :
    HS w.heap.size (w1.alloc (.cells #[vS] 26)) [⟨w.heap.size, .nil, vS⟩] (.slice (some ⟨w.heap.size + 1, 0, none⟩) 1 1) (.slice (some ⟨w1.heap.size, 0, none⟩) 1 1) ∧ Below w.heap.size w (w1.alloc (.cells #[vS] 26)) := by
  have hs := bS.size
  simp only [World.size_alloc] at hs
  have h0 : w1.heap[w.heap.size]? = some (.cells #[.pointer none, .int .i64 0] 96 (0, 0)) := (bS.block _ (by omega)).trans ((Below.heap_alloc _ _ _ (by simp)).trans (heap_alloc_new w _))
  have h1 : w1.heap[w.heap.size + 1]? = some (.cells #[.pointer (some ⟨w.heap.size, 0, none⟩)] 61 (0, 0)) := by
    refine (bS.block _ (by omega)).trans ?_
    have := heap_alloc_new (w.alloc (.cells #[.pointer none, .int .i64 0] 96)) (.cells #[.pointer (some ⟨w.heap.size, 0, none⟩)] 61)
    rw [World.size_alloc] at this
    exact this
  have g : Good w1 w.heap.size .nil := ⟨h0, trivial, List.Pairwise.nil, trivial, fun p hp => by cases hp⟩
  refine ⟨⟨?_, ?_, ?_⟩, ?_⟩
  · exact ⟨rfl, .inr ⟨w.heap.size + 1, 1, #[.pointer (some ⟨w.heap.size, 0, none⟩)], rfl, by omega, (Below.heap_alloc _ _ _ (by omega)).trans h1, Nat.le_refl _, by simp [maxLen], rfl, rfl⟩⟩
  · exact ⟨rfl, .inr ⟨w1.heap.size, 1, #[vS], rfl, by omega, heap_alloc_new w1 _, Nat.le_refl _, by simp [maxLen], rfl, rfl⟩⟩
  · intro q hq
    rw [List.mem_singleton] at hq
    subst hq
    exact ⟨g.below ((Below.refl _ w1).alloc (Nat.le_refl _) _), OwnN.below ⟨B, oS⟩ ((Below.refl _ w1).alloc (Nat.le_refl _) _)⟩
  · exact ((((Below.refl _ w).alloc (Nat.le_refl _) _).alloc (by simp) _).trans (bS.mono (by omega))).alloc (by omega) _

theorem alloc_at2 {W wC : World} {o : Obj} (h : W.alloc o = wC) : wC.heap[W.heap.size]? = some o ∧ Below W.heap.size W wC := by
  subst h
  exact ⟨heap_alloc_new W o, (Below.refl _ W).alloc (Nat.le_refl _) o⟩
theorem hd_load {w : World} {tb : Nat} {t : BT Nd} (g : Good w tb t) : w.cell? ⟨tb, 0, none⟩ = some (.pointer (pt t)) ∧ w.cell? ⟨tb, 1, none⟩ = some (.int .i64 ((prs t).length : Nat)) := ⟨g.hd.c0, g.hd.c1⟩

/-- The end of a round, in plain. -/
theorem hist_end {As : List Ac} {j : Nat} {a : Ac} (ha : As[j]? = some a) {V : List Ver} (hV : setsOf V = histL (As.take j)) {q1 q2 : Nat} {p1 p2 : Ver} (h1 : V[q1]? = some p1) (h2 : V[q2]? = some p2) (e1 : a.ofv % (V.length : Int) = (q1 : Int)) (e2 : a.wi % (V.length : Int) = (q2 : Int)) {b : Nat} {t : BT Nd} {v : Value} (ht : prs t = stepT a (prs p1.t) (prs p2.t)) :
    setsOf (V ++ [⟨b, t, v⟩]) = histL (As.take (j + 1)) := by
  have e : As.take (j + 1) = As.take j ++ [a] := by rw [List.take_add_one, ha]; rfl
  rw [e, histL_snoc, ← hV, histS, pick_sets e1 h1, pick_sets e2 h2, setsOf, setsOf, List.map_append]
  simp [ht]

theorem hist_endE {F : BT Nd → Ls → BT Nd} {As : List Ac} {j : Nat} {a : Ac} (ha : As[j]? = some a) {V : List Ver} (hV : ersOf V = histE F (As.take j)) {q1 q2 : Nat} {p1 p2 : Ver} (h1 : V[q1]? = some p1) (h2 : V[q2]? = some p2) (e1 : a.ofv % (V.length : Int) = (q1 : Int)) (e2 : a.wi % (V.length : Int) = (q2 : Int)) {b : Nat} {t : BT Nd} {v : Value} (ht : er t = stepE F a (er p1.t) (er p2.t)) :
    ersOf (V ++ [⟨b, t, v⟩]) = histE F (As.take (j + 1)) := by
  have e : As.take (j + 1) = As.take j ++ [a] := by rw [List.take_add_one, ha]; rfl
  rw [e, histE_snoc, ← hV, histSE, pick_ers e1 h1, pick_ers e2 h2, ersOf, ersOf, List.map_append]
  simp [ht]

set_option maxRecDepth 100000 in
set_option maxHeartbeats 6000000 in
theorem history_anyE {FF0 : BT Nd → Ls → BT Nd} (hF0 : DelFun FF0) {w : World} {v : Value} {As : List Ac} (h : Rd ac 11 w v As) (hn : As.length ≤ 1000) (hk : ∀ a ∈ As, a.key ≠ -2147483648) : Calls Try.prog 53 #[v] w (HistPostE FF0 As w) := by
  obtain ⟨sa, cap, rfl⟩ := h.shape
  obtain ⟨i6, hi6, hp0, hp1, hp2⟩ := info_parts info61
  obtain ⟨i2, hi2, hf0, hf1, hf2⟩ := info_parts info26
  have RD := Lib.hid h
  have KS : Hid (∀ j, ∀ L ∈ histL (As.take j), AllK (fun k => k ∈ As.map Ac.key ∧ k ≠ -2147483648) L) := fun j => histL_keys (fun a ha => ⟨List.mem_map_of_mem (List.mem_of_mem_take ha), hk a (List.mem_of_mem_take ha)⟩)
  have KK := Lib.hid hk
  have FW : Hid (∀ L : Ls, Srt L → AllK (fun k => k ∈ As.map Ac.key ∧ k ≠ -2147483648) L → L.length ≤ 1000) := fun L s k => by
    have := few_keys L (As.map Ac.key) s (fun p hp => (k p hp).1)
    rw [List.length_map] at this
    omega
  clear h hk
  have SH0 := Lib.hid (fun (W : World) (g : Good W w.heap.size .nil) => shape_good g (by simp [sz, prs]))
  go_enter Try.func53, Try.ntmps53
  go_wp2_with fail
  refine (SH0.out _ ⟨(Below.heap_alloc _ _ _ (by simp)).trans (heap_alloc_new w _), trivial, List.Pairwise.nil, trivial, fun p hp => by cases hp⟩).mono ?_
  rintro e w1 ⟨vS, rfl, oS, bS⟩
  obtain ⟨sS, cS, rfl⟩ := owns_shape oS
  have ST : Hid (HS w.heap.size (w1.alloc (.cells #[.slice sS (sz .nil) cS] 26)) [⟨w.heap.size, .nil, .slice sS (sz .nil) cS⟩] (.slice (some ⟨w.heap.size + 1, 0, none⟩) 1 1) (.slice (some ⟨w1.heap.size, 0, none⟩) 1 1) ∧ Below w.heap.size w (w1.alloc (.cells #[.slice sS (sz .nil) cS] 26))) := by
    simp only [World.size_alloc] at bS
    exact start_hs oS bS
  clear oS bS SH0
  go_wp2_with fail
  go_loopg [4, 5, 21] (As.length) (fun k vt vf i wr => ∃ j : Nat, j ≤ As.length ∧ k = As.length - j ∧ i = .int .i64 j ∧ ∃ n ta tcap fa fcap, vt = .slice ta n tcap ∧ vf = .slice fa n fcap ∧ 0 < n ∧ n ≤ 1001 ∧ Hid (∃ V, HS w.heap.size wr V (.slice ta n tcap) (.slice fa n fcap) ∧ Below w.heap.size w wr ∧ V.length = n ∧ n = j + 1 ∧ setsOf V = histL (As.take j) ∧ ersOf V = histE FF0 (As.take j)))
  case atStart => exact ⟨0, Nat.zero_le _, rfl, rfl, 1, _, _, _, _, rfl, rfl, by omega, by omega, _, ST.out.1, ST.out.2, rfl, rfl, rfl, rfl⟩
  case round =>
    obtain ⟨j, hj, rfl, rfl, n, ta, tcap, fa, fcap, rfl, rfl, hn0, hn1, ho⟩ := hrel
    clear ST
    by_cases hjn : j < As.length
    · obtain ⟨a, ha⟩ : ∃ a, As[j]? = some a := ⟨_, List.getElem?_eq_getElem hjn⟩
      obtain ⟨V, hs, hb, hVn, hnj, hV, hE⟩ := ho.out
      obtain ⟨b, off, rfl, k0, k1, k2, k3, k4, k5, k6, k7, k8, k9, k10⟩ := (RD.out.below hb).act ha
      have hnz : (0 : Int) < (n : Int) := by omega
      obtain ⟨q1, hq1⟩ : ∃ q : Nat, a.ofv % (n : Int) = (q : Int) := ⟨(a.ofv % (n : Int)).toNat, (Int.toNat_of_nonneg (Int.emod_nonneg _ (by omega))).symm⟩
      obtain ⟨q2, hq2⟩ : ∃ q : Nat, a.wi % (n : Int) = (q : Int) := ⟨(a.wi % (n : Int)).toNat, (Int.toNat_of_nonneg (Int.emod_nonneg _ (by omega))).symm⟩
      have hl1 : q1 < n := by have := Int.emod_lt_of_pos a.ofv hnz; omega
      have hl2 : q2 < n := by have := Int.emod_lt_of_pos a.wi hnz; omega
      obtain ⟨⟨tb, t, tv⟩, hp1'⟩ : ∃ p, V[q1]? = some p := ⟨_, List.getElem?_eq_getElem (by omega)⟩
      obtain ⟨⟨ub, u, uv⟩, hp2'⟩ : ∃ p, V[q2]? = some p := ⟨_, List.getElem?_eq_getElem (by omega)⟩
      obtain ⟨tg, rfl, c1⟩ := hs.at hp1'
      obtain ⟨tg', etg, c2⟩ := hs.at hp2'
      have etg' : tg' = tg := by injection etg with e; injection e with e; exact e.symm
      subst etg'
      clear etg
      have gt : Good wr tb t := (hs.g _ (List.mem_of_getElem? hp1')).1
      have gu : Good wr ub u := (hs.g _ (List.mem_of_getElem? hp2')).1
      have kt := KS.out j (prs t) (by rw [← hV]; exact List.mem_map_of_mem (f := fun q : Ver => prs q.t) (List.mem_of_getElem? hp1'))
      have ku := KS.out j (prs u) (by rw [← hV]; exact List.mem_map_of_mem (f := fun q : Ver => prs q.t) (List.mem_of_getElem? hp2'))
      have GG : Hid (Good wr tb t ∧ Good wr ub u ∧ (prs t).length ≤ 1000 ∧ (prs u).length ≤ 1000 ∧ (∀ p ∈ prs t, p.1 ≠ -2147483648) ∧ (∀ p ∈ prs u, p.1 ≠ -2147483648) ∧ a.key ≠ -2147483648) :=
        ⟨gt, gu, FW.out _ gt.S kt, FW.out _ gu.S ku, fun p hp => (kt p hp).2, fun p hp => (ku p hp).2, KK.out a (List.mem_of_getElem? ha)⟩
      have FIN : Hid (∀ {b : Nat} {t' : BT Nd} {v : Value}, prs t' = stepT a (prs t) (prs u) → setsOf (V ++ [⟨b, t', v⟩]) = histL (As.take (j + 1))) := fun ht => hist_end ha hV hp1' hp2' (by rw [hVn]; exact hq1) (by rw [hVn]; exact hq2) ht
      have FINE : Hid (∀ {b : Nat} {t' : BT Nd} {v : Value}, er t' = stepE FF0 a (er t) (er u) → ersOf (V ++ [⟨b, t', v⟩]) = histE FF0 (As.take (j + 1))) := fun ht => hist_endE ha hE hp1' hp2' (by rw [hVn]; exact hq1) (by rw [hVn]; exact hq2) ht
      have FL : Hid (∀ {t' : BT Nd}, prs t' = stepT a (prs t) (prs u) → Srt (prs t') → (prs t').length ≤ 1000) := fun {t'} ht hsrt => FW.out _ hsrt (KS.out (j + 1) _ (by
        rw [← FIN.out (b := 0) (v := .nilIface) ht]
        exact List.mem_map_of_mem (f := fun q : Ver => prs q.t) (List.mem_append_right V (List.mem_singleton.2 rfl))))
      have HH := Lib.hid (And.intro hs (And.intro hb (And.intro hVn hnj)))
      have IX1 : Hid (∀ W : World, Calls Try.prog 69 #[.int .i64 a.ofv, .int .i64 (n : Int)] W (fun e w' => e = .returned (.int .i64 (q1 : Int)) ∧ w' = W)) := fun W => hq1 ▸ index_any hnz (by omega)
      have IX2 : Hid (∀ W : World, Calls Try.prog 69 #[.int .i64 a.wi, .int .i64 (n : Int)] W (fun e w' => e = .returned (.int .i64 (q2 : Int)) ∧ w' = W)) := fun W => hq2 ▸ index_any hnz (by omega)
      have STP : Hid (∀ q, a.kd % 8 = q → ∀ T U, stepT a T U = if q = 4 then uniL a.mx T U else if q = 5 then intL a.mx T U else if q = 6 then difL a.mx U T else if q = 7 then T else updL a T) := fun q hq T U => by rw [stepT, hq]
      have STPE : Hid (∀ q, a.kd % 8 = q → ∀ T U, stepE FF0 a T U = if q = 4 then uniE FF0 a.mx T U else if q = 5 then intE FF0 a.mx T U else if q = 6 then difLE FF0 a.mx U T else if q = 7 then T else updE FF0 a T) := fun q hq T U => by rw [stepE, hq]
      have CA : Hid (∀ W : World, Calls Try.prog 48 #[.agg a.mx.cells] W (fun e w' => e = .returned (fv a.mx W.heap.size) ∧ W.alloc (.cells a.mx.cells 39) = w')) := fun W => call_any a.mx
      have hqa := and7 a.kd
      have hq8 : 0 ≤ a.kd % 8 ∧ a.kd % 8 < 8 := ⟨by omega, by omega⟩
      clear hs hb hVn hnj hV hE ha hp1' hp2' gt gu kt ku hq1 hq2 ho
      obtain ⟨kd, ofv, wi, key, dt, no, ca, cb, cc, cm, cr⟩ := a
      simp only [Mx.cells, Ac.cells] at *
      have CA : Hid (∀ W : World, Calls Try.prog 48 #[.agg #[.bool no, .int .i64 ca, .int .i64 cb, .int .i64 cc, .int .i64 cm, .int .i64 cr]] W (fun e w' => e = .returned (fv ⟨no, ca, cb, cc, cm, cr⟩ W.heap.size) ∧ W.alloc (.cells #[.bool no, .int .i64 ca, .int .i64 cb, .int .i64 cc, .int .i64 cm, .int .i64 cr] 39) = w')) := CA.out
      have w1b : Below wr.heap.size wr (wr.alloc (.cells #[.int .i64 kd, .int .i64 ofv, .int .i64 wi, .int .i32 key, .int .i64 dt, .bool no, .int .i64 ca, .int .i64 cb, .int .i64 cc, .int .i64 cm, .int .i64 cr] 76)) := (Below.refl _ wr).alloc (Nat.le_refl _) _
      have d1 : (wr.alloc (.cells #[.int .i64 kd, .int .i64 ofv, .int .i64 wi, .int .i32 key, .int .i64 dt, .bool no, .int .i64 ca, .int .i64 cb, .int .i64 cc, .int .i64 cm, .int .i64 cr] 76)).cell? ⟨tg', q1, none⟩ = some (.pointer (some ⟨tb, 0, none⟩)) := (World.cell?_of_block (w1b.block tg' (World.block_lt_of_cell? wr _ c1))).trans c1
      have d2 : (wr.alloc (.cells #[.int .i64 kd, .int .i64 ofv, .int .i64 wi, .int .i32 key, .int .i64 dt, .bool no, .int .i64 ca, .int .i64 cb, .int .i64 cc, .int .i64 cm, .int .i64 cr] 76)).cell? ⟨tg', q2, none⟩ = some (.pointer (some ⟨ub, 0, none⟩)) := (World.cell?_of_block (w1b.block tg' (World.block_lt_of_cell? wr _ c2))).trans c2
      have GB := Lib.hid w1b
      clear w1b
      go_wp2_with fail
      refine (IX1.out _).mono ?_
      rintro e w2 ⟨rfl, hw⟩
      rw [hw]
      clear hw w2
      go_wp2_with fail
      refine (IX2.out _).mono ?_
      rintro e w2 ⟨rfl, hw⟩
      rw [hw]
      clear hw w2 c1 c2
      have h8 : kd % 8 = 4 ∨ kd % 8 = 5 ∨ kd % 8 = 6 ∨ kd % 8 = 7 ∨ kd % 8 < 4 := by omega
      rcases h8 with hq | hq | hq | hq | hq
      · have hA : bits .and .i64 kd 7 = 4 := by rw [and7, hq]
        have SP := Lib.hid (STP.out 4 hq)
        have SPE := Lib.hid (STPE.out 4 hq)
        clear hq hqa hq8 STP STPE IX1 IX2
        go_wp2_with fail
        refine (CA.out _).mono ?_
        rintro e w4 ⟨rfl, hcc⟩
        obtain ⟨x4, b4⟩ := alloc_at2 hcc
        simp only [World.size_alloc] at x4 b4
        have B4 : Hid (Below wr.heap.size wr w4) := GB.out.trans (b4.mono (Nat.le_succ _))
        have UN : Hid (Calls Try.prog 52 #[.pointer (some ⟨tb, 0, none⟩), .pointer (some ⟨ub, 0, none⟩), fv ⟨no, ca, cb, cc, cm, cr⟩ (wr.heap.size + 1)] w4 (TbPostE (uniL ⟨no, ca, cb, cc, cm, cr⟩ (prs t) (prs u)) (uniE FF0 ⟨no, ca, cb, cc, cm, cr⟩ (er t) (er u)) w4)) :=
          Union_anyE hF0 ⟨no, ca, cb, cc, cm, cr⟩ rfl (GG.out.1.below B4.out) (GG.out.2.1.below B4.out) x4 (by have := GG.out.2.2.1; omega) (by have := GG.out.2.2.2.1; omega) GG.out.2.2.2.2.1 GG.out.2.2.2.2.2.1
        clear x4 b4 hcc
        simp only [World.size_alloc]
        go_wp2_with fail
        refine UN.out.mono ?_
        rintro e w5 ⟨tb', t', rfl, bD, gD, eD, ED⟩
        have B5 : Hid (Below wr.heap.size wr w5) := B4.out.trans (bD.mono B4.out.size)
        have G5 : Hid (Good w5 tb' t' ∧ prs t' = stepT ⟨kd, ofv, wi, key, dt, ⟨no, ca, cb, cc, cm, cr⟩⟩ (prs t) (prs u)) := ⟨gD, by rw [eD, SP.out]; rfl⟩
        have GE : Hid (er t' = stepE FF0 ⟨kd, ofv, wi, key, dt, ⟨no, ca, cb, cc, cm, cr⟩⟩ (er t) (er u)) := by
          show er t' = stepE FF0 ⟨kd, ofv, wi, key, dt, ⟨no, ca, cb, cc, cm, cr⟩⟩ (er t) (er u)
          rw [ED, SPE.out]; rfl
        clear bD gD eD ED UN
        have OW1 : Hid ((w5.alloc (.cells #[.pointer (some ⟨tb', 0, none⟩)] 61)).ownsRow w.heap.size 61 1 (.slice (some ⟨tg', 0, none⟩) n tcap) n (fl hp V)) := by
          have := (row_below HH.out.1.rt B5.out).alloc (.cells #[.pointer (some ⟨tb', 0, none⟩)] 61)
          rw [HH.out.2.2.1] at this
          exact this
        have SZ5 : Hid (w.heap.size ≤ w5.heap.size) := Nat.le_trans HH.out.2.1.size B5.out.size
        go_wp2_with (at_builtin; refine wpList_append_lies _ rfl _ _ 77 rfl w.heap.size 61 i6 _ 1 8 Try.underlying77 hi6 hp0 hp1 hp2 rfl (by omega) (.slice (some ⟨tg', 0, none⟩) n tcap) n (fl hp V) rfl OW1.out ⟨w5.heap.size, 0, none⟩ 1 1 [.pointer (some ⟨tb', 0, none⟩)] rfl rfl ?a1 (fun u hu => by rw [List.mem_singleton] at hu; subst hu; rfl) (by omega) (by unfold maxLen; omega) (by omega) ?a2 (w5.heap.size + 1) (by simp) ?a3)
        case a1 => exact news0 w5 #[.pointer (some ⟨tb', 0, none⟩)] 61
        case a2 => have := SZ5.out; simp; omega
        case a3 =>
          intro g3 cap3 w6 hown3 hgrow3 hat3 hlt3
          have HM6 : Hid (HM w.heap.size w6 V tb' t' (.slice (some ⟨g3, 0, none⟩) (n + 1) cap3) (.slice fa n fcap)) := by
            have h5 := HH.out.1.below B5.out
            rw [← HH.out.2.2.1] at hown3
            have := h5.push1 G5.out.1 _ hgrow3 hown3
            rw [HH.out.2.2.1] at this
            exact this
          have B6 : Hid (Below w.heap.size w w6) := ((HH.out.2.1.trans (B5.out.mono HH.out.2.1.size)).alloc SZ5.out _).grown hgrow3 (by simp; have := SZ5.out; omega) (fun k hk => (OW1.out.lt k hk).1)
          have SHP := Lib.hid (shape_good HM6.out.n (by show (prs t').length ≤ 300000; have := FL.out G5.out.2 G5.out.1.S; omega))
          have LT : Hid (sz t' ≤ 1000) := FL.out G5.out.2 G5.out.1.S
          clear hown3 hgrow3 hat3 hlt3 OW1
          go_wp2_with fail
          refine SHP.out.mono ?_
          rintro e w7 ⟨vS, rfl, oS, bS⟩
          obtain ⟨sS, cS, rfl⟩ := owns_shape oS
          have OS := Lib.hid (And.intro oS bS)
          have OW2 : Hid ((w7.alloc (.cells #[.slice sS (sz t') cS] 26)).ownsRow w.heap.size 26 1 (.slice fa n fcap) n (fl hv V)) := by
            have := (row_below HM6.out.rf OS.out.2).alloc (.cells #[.slice sS (sz t') cS] 26)
            rw [HH.out.2.2.1] at this
            exact this
          have SZ7 : Hid (w.heap.size ≤ w7.heap.size) := Nat.le_trans B6.out.size OS.out.2.size
          clear oS bS SHP
          go_wp2_with (at_builtin; refine wpList_append_lies _ rfl _ _ 46 rfl w.heap.size 26 i2 _ 1 24 Try.underlying46 hi2 hf0 hf1 hf2 rfl (by omega) (.slice fa n fcap) n (fl hv V) rfl OW2.out ⟨w7.heap.size, 0, none⟩ 1 1 [.slice sS (sz t') cS] rfl rfl ?b1 (fun u hu => by rw [List.mem_singleton] at hu; subst hu; rfl) (by omega) (by unfold maxLen; omega) (by omega) ?b2 (w7.heap.size + 1) (by simp) ?b3)
          case b1 => exact news0 w7 #[.slice sS (sz t') cS] 26
          case b2 => have := SZ7.out; simp; omega
          case b3 =>
            intro g4 cap4 w8 hown4 hgrow4 hat4 hlt4
            have HS8 : Hid (HS w.heap.size w8 (V ++ [⟨tb', t', .slice sS (sz t') cS⟩]) (.slice (some ⟨g3, 0, none⟩) (n + 1) cap3) (.slice (some ⟨g4, 0, none⟩) (n + 1) cap4)) := by
              rw [← HH.out.2.2.1] at hown4
              have := HM6.out.push2 OS.out.2 _ OS.out.1 hgrow4 hown4
              rw [HH.out.2.2.1] at this
              exact this
            have B8 : Hid (Below w.heap.size w w8) := ((B6.out.trans (OS.out.2.mono B6.out.size)).alloc SZ7.out _).grown hgrow4 (by simp; have := SZ7.out; omega) (fun k hk => (OW2.out.lt k hk).1)
            clear hown4 hgrow4 hat4 hlt4 OW2
            go_wp2_with fail
            go_roundg (As.length - (j + 1))
            case measure => omega
            case rel => exact ⟨j + 1, by omega, rfl, by go_num, n + 1, _, _, _, _, rfl, rfl, by omega, by have := HH.out.2.2.2; omega, _, HS8.out, B8.out, by rw [List.length_append, HH.out.2.2.1]; rfl, by rw [HH.out.2.2.2], FIN.out G5.out.2, FINE.out GE.out⟩
      · have hA : bits .and .i64 kd 7 = 5 := by rw [and7, hq]
        have SP := Lib.hid (STP.out 5 hq)
        have SPE := Lib.hid (STPE.out 5 hq)
        clear hq hqa hq8 STP STPE IX1 IX2
        go_wp2_with fail
        refine (CA.out _).mono ?_
        rintro e w4 ⟨rfl, hcc⟩
        obtain ⟨x4, b4⟩ := alloc_at2 hcc
        simp only [World.size_alloc] at x4 b4
        have B4 : Hid (Below wr.heap.size wr w4) := GB.out.trans (b4.mono (Nat.le_succ _))
        have UN : Hid (Calls Try.prog 51 #[.pointer (some ⟨tb, 0, none⟩), .pointer (some ⟨ub, 0, none⟩), fv ⟨no, ca, cb, cc, cm, cr⟩ (wr.heap.size + 1)] w4 (TbPostE (intL ⟨no, ca, cb, cc, cm, cr⟩ (prs t) (prs u)) (intE FF0 ⟨no, ca, cb, cc, cm, cr⟩ (er t) (er u)) w4)) :=
          Intersection_anyE hF0 ⟨no, ca, cb, cc, cm, cr⟩ rfl (GG.out.1.below B4.out) (GG.out.2.1.below B4.out) x4 (by have := GG.out.2.2.1; omega) (by have := GG.out.2.2.2.1; omega) GG.out.2.2.2.2.1 GG.out.2.2.2.2.2.1
        clear x4 b4 hcc
        simp only [World.size_alloc]
        go_wp2_with fail
        refine UN.out.mono ?_
        rintro e w5 ⟨tb', t', rfl, bD, gD, eD, ED⟩
        have B5 : Hid (Below wr.heap.size wr w5) := B4.out.trans (bD.mono B4.out.size)
        have G5 : Hid (Good w5 tb' t' ∧ prs t' = stepT ⟨kd, ofv, wi, key, dt, ⟨no, ca, cb, cc, cm, cr⟩⟩ (prs t) (prs u)) := ⟨gD, by rw [eD, SP.out]; rfl⟩
        have GE : Hid (er t' = stepE FF0 ⟨kd, ofv, wi, key, dt, ⟨no, ca, cb, cc, cm, cr⟩⟩ (er t) (er u)) := by
          show er t' = stepE FF0 ⟨kd, ofv, wi, key, dt, ⟨no, ca, cb, cc, cm, cr⟩⟩ (er t) (er u)
          rw [ED, SPE.out]; rfl
        clear bD gD eD ED UN
        have OW1 : Hid ((w5.alloc (.cells #[.pointer (some ⟨tb', 0, none⟩)] 61)).ownsRow w.heap.size 61 1 (.slice (some ⟨tg', 0, none⟩) n tcap) n (fl hp V)) := by
          have := (row_below HH.out.1.rt B5.out).alloc (.cells #[.pointer (some ⟨tb', 0, none⟩)] 61)
          rw [HH.out.2.2.1] at this
          exact this
        have SZ5 : Hid (w.heap.size ≤ w5.heap.size) := Nat.le_trans HH.out.2.1.size B5.out.size
        go_wp2_with (at_builtin; refine wpList_append_lies _ rfl _ _ 77 rfl w.heap.size 61 i6 _ 1 8 Try.underlying77 hi6 hp0 hp1 hp2 rfl (by omega) (.slice (some ⟨tg', 0, none⟩) n tcap) n (fl hp V) rfl OW1.out ⟨w5.heap.size, 0, none⟩ 1 1 [.pointer (some ⟨tb', 0, none⟩)] rfl rfl ?a1 (fun u hu => by rw [List.mem_singleton] at hu; subst hu; rfl) (by omega) (by unfold maxLen; omega) (by omega) ?a2 (w5.heap.size + 1) (by simp) ?a3)
        case a1 => exact news0 w5 #[.pointer (some ⟨tb', 0, none⟩)] 61
        case a2 => have := SZ5.out; simp; omega
        case a3 =>
          intro g3 cap3 w6 hown3 hgrow3 hat3 hlt3
          have HM6 : Hid (HM w.heap.size w6 V tb' t' (.slice (some ⟨g3, 0, none⟩) (n + 1) cap3) (.slice fa n fcap)) := by
            have h5 := HH.out.1.below B5.out
            rw [← HH.out.2.2.1] at hown3
            have := h5.push1 G5.out.1 _ hgrow3 hown3
            rw [HH.out.2.2.1] at this
            exact this
          have B6 : Hid (Below w.heap.size w w6) := ((HH.out.2.1.trans (B5.out.mono HH.out.2.1.size)).alloc SZ5.out _).grown hgrow3 (by simp; have := SZ5.out; omega) (fun k hk => (OW1.out.lt k hk).1)
          have SHP := Lib.hid (shape_good HM6.out.n (by show (prs t').length ≤ 300000; have := FL.out G5.out.2 G5.out.1.S; omega))
          have LT : Hid (sz t' ≤ 1000) := FL.out G5.out.2 G5.out.1.S
          clear hown3 hgrow3 hat3 hlt3 OW1
          go_wp2_with fail
          refine SHP.out.mono ?_
          rintro e w7 ⟨vS, rfl, oS, bS⟩
          obtain ⟨sS, cS, rfl⟩ := owns_shape oS
          have OS := Lib.hid (And.intro oS bS)
          have OW2 : Hid ((w7.alloc (.cells #[.slice sS (sz t') cS] 26)).ownsRow w.heap.size 26 1 (.slice fa n fcap) n (fl hv V)) := by
            have := (row_below HM6.out.rf OS.out.2).alloc (.cells #[.slice sS (sz t') cS] 26)
            rw [HH.out.2.2.1] at this
            exact this
          have SZ7 : Hid (w.heap.size ≤ w7.heap.size) := Nat.le_trans B6.out.size OS.out.2.size
          clear oS bS SHP
          go_wp2_with (at_builtin; refine wpList_append_lies _ rfl _ _ 46 rfl w.heap.size 26 i2 _ 1 24 Try.underlying46 hi2 hf0 hf1 hf2 rfl (by omega) (.slice fa n fcap) n (fl hv V) rfl OW2.out ⟨w7.heap.size, 0, none⟩ 1 1 [.slice sS (sz t') cS] rfl rfl ?b1 (fun u hu => by rw [List.mem_singleton] at hu; subst hu; rfl) (by omega) (by unfold maxLen; omega) (by omega) ?b2 (w7.heap.size + 1) (by simp) ?b3)
          case b1 => exact news0 w7 #[.slice sS (sz t') cS] 26
          case b2 => have := SZ7.out; simp; omega
          case b3 =>
            intro g4 cap4 w8 hown4 hgrow4 hat4 hlt4
            have HS8 : Hid (HS w.heap.size w8 (V ++ [⟨tb', t', .slice sS (sz t') cS⟩]) (.slice (some ⟨g3, 0, none⟩) (n + 1) cap3) (.slice (some ⟨g4, 0, none⟩) (n + 1) cap4)) := by
              rw [← HH.out.2.2.1] at hown4
              have := HM6.out.push2 OS.out.2 _ OS.out.1 hgrow4 hown4
              rw [HH.out.2.2.1] at this
              exact this
            have B8 : Hid (Below w.heap.size w w8) := ((B6.out.trans (OS.out.2.mono B6.out.size)).alloc SZ7.out _).grown hgrow4 (by simp; have := SZ7.out; omega) (fun k hk => (OW2.out.lt k hk).1)
            clear hown4 hgrow4 hat4 hlt4 OW2
            go_wp2_with fail
            go_roundg (As.length - (j + 1))
            case measure => omega
            case rel => exact ⟨j + 1, by omega, rfl, by go_num, n + 1, _, _, _, _, rfl, rfl, by omega, by have := HH.out.2.2.2; omega, _, HS8.out, B8.out, by rw [List.length_append, HH.out.2.2.1]; rfl, by rw [HH.out.2.2.2], FIN.out G5.out.2, FINE.out GE.out⟩
      · have hA : bits .and .i64 kd 7 = 6 := by rw [and7, hq]
        have SP := Lib.hid (STP.out 6 hq)
        have SPE := Lib.hid (STPE.out 6 hq)
        clear hq hqa hq8 STP STPE IX1 IX2
        go_wp2_with fail
        refine (CA.out _).mono ?_
        rintro e w4 ⟨rfl, hcc⟩
        obtain ⟨x4, b4⟩ := alloc_at2 hcc
        simp only [World.size_alloc] at x4 b4
        have B4 : Hid (Below wr.heap.size wr w4) := GB.out.trans (b4.mono (Nat.le_succ _))
        have UN : Hid (Calls Try.prog 47 #[.pointer (some ⟨tb, 0, none⟩), .pointer (some ⟨ub, 0, none⟩), fv ⟨no, ca, cb, cc, cm, cr⟩ (wr.heap.size + 1)] w4 (TbPostE (difL ⟨no, ca, cb, cc, cm, cr⟩ (prs u) (prs t)) (difLE FF0 ⟨no, ca, cb, cc, cm, cr⟩ (er u) (er t)) w4)) :=
          Difference_anyE hF0 ⟨no, ca, cb, cc, cm, cr⟩ rfl (GG.out.1.below B4.out) (GG.out.2.1.below B4.out) x4 (by have := GG.out.2.2.1; omega) GG.out.2.2.2.2.1
        clear x4 b4 hcc
        simp only [World.size_alloc]
        go_wp2_with fail
        refine UN.out.mono ?_
        rintro e w5 ⟨tb', t', rfl, bD, gD, eD, ED⟩
        have B5 : Hid (Below wr.heap.size wr w5) := B4.out.trans (bD.mono B4.out.size)
        have G5 : Hid (Good w5 tb' t' ∧ prs t' = stepT ⟨kd, ofv, wi, key, dt, ⟨no, ca, cb, cc, cm, cr⟩⟩ (prs t) (prs u)) := ⟨gD, by rw [eD, SP.out]; rfl⟩
        have GE : Hid (er t' = stepE FF0 ⟨kd, ofv, wi, key, dt, ⟨no, ca, cb, cc, cm, cr⟩⟩ (er t) (er u)) := by
          show er t' = stepE FF0 ⟨kd, ofv, wi, key, dt, ⟨no, ca, cb, cc, cm, cr⟩⟩ (er t) (er u)
          rw [ED, SPE.out]; rfl
        clear bD gD eD ED UN
        have OW1 : Hid ((w5.alloc (.cells #[.pointer (some ⟨tb', 0, none⟩)] 61)).ownsRow w.heap.size 61 1 (.slice (some ⟨tg', 0, none⟩) n tcap) n (fl hp V)) := by
          have := (row_below HH.out.1.rt B5.out).alloc (.cells #[.pointer (some ⟨tb', 0, none⟩)] 61)
          rw [HH.out.2.2.1] at this
          exact this
        have SZ5 : Hid (w.heap.size ≤ w5.heap.size) := Nat.le_trans HH.out.2.1.size B5.out.size
        go_wp2_with (at_builtin; refine wpList_append_lies _ rfl _ _ 77 rfl w.heap.size 61 i6 _ 1 8 Try.underlying77 hi6 hp0 hp1 hp2 rfl (by omega) (.slice (some ⟨tg', 0, none⟩) n tcap) n (fl hp V) rfl OW1.out ⟨w5.heap.size, 0, none⟩ 1 1 [.pointer (some ⟨tb', 0, none⟩)] rfl rfl ?a1 (fun u hu => by rw [List.mem_singleton] at hu; subst hu; rfl) (by omega) (by unfold maxLen; omega) (by omega) ?a2 (w5.heap.size + 1) (by simp) ?a3)
        case a1 => exact news0 w5 #[.pointer (some ⟨tb', 0, none⟩)] 61
        case a2 => have := SZ5.out; simp; omega
        case a3 =>
          intro g3 cap3 w6 hown3 hgrow3 hat3 hlt3
          have HM6 : Hid (HM w.heap.size w6 V tb' t' (.slice (some ⟨g3, 0, none⟩) (n + 1) cap3) (.slice fa n fcap)) := by
            have h5 := HH.out.1.below B5.out
            rw [← HH.out.2.2.1] at hown3
            have := h5.push1 G5.out.1 _ hgrow3 hown3
            rw [HH.out.2.2.1] at this
            exact this
          have B6 : Hid (Below w.heap.size w w6) := ((HH.out.2.1.trans (B5.out.mono HH.out.2.1.size)).alloc SZ5.out _).grown hgrow3 (by simp; have := SZ5.out; omega) (fun k hk => (OW1.out.lt k hk).1)
          have SHP := Lib.hid (shape_good HM6.out.n (by show (prs t').length ≤ 300000; have := FL.out G5.out.2 G5.out.1.S; omega))
          have LT : Hid (sz t' ≤ 1000) := FL.out G5.out.2 G5.out.1.S
          clear hown3 hgrow3 hat3 hlt3 OW1
          go_wp2_with fail
          refine SHP.out.mono ?_
          rintro e w7 ⟨vS, rfl, oS, bS⟩
          obtain ⟨sS, cS, rfl⟩ := owns_shape oS
          have OS := Lib.hid (And.intro oS bS)
          have OW2 : Hid ((w7.alloc (.cells #[.slice sS (sz t') cS] 26)).ownsRow w.heap.size 26 1 (.slice fa n fcap) n (fl hv V)) := by
            have := (row_below HM6.out.rf OS.out.2).alloc (.cells #[.slice sS (sz t') cS] 26)
            rw [HH.out.2.2.1] at this
            exact this
          have SZ7 : Hid (w.heap.size ≤ w7.heap.size) := Nat.le_trans B6.out.size OS.out.2.size
          clear oS bS SHP
          go_wp2_with (at_builtin; refine wpList_append_lies _ rfl _ _ 46 rfl w.heap.size 26 i2 _ 1 24 Try.underlying46 hi2 hf0 hf1 hf2 rfl (by omega) (.slice fa n fcap) n (fl hv V) rfl OW2.out ⟨w7.heap.size, 0, none⟩ 1 1 [.slice sS (sz t') cS] rfl rfl ?b1 (fun u hu => by rw [List.mem_singleton] at hu; subst hu; rfl) (by omega) (by unfold maxLen; omega) (by omega) ?b2 (w7.heap.size + 1) (by simp) ?b3)
          case b1 => exact news0 w7 #[.slice sS (sz t') cS] 26
          case b2 => have := SZ7.out; simp; omega
          case b3 =>
            intro g4 cap4 w8 hown4 hgrow4 hat4 hlt4
            have HS8 : Hid (HS w.heap.size w8 (V ++ [⟨tb', t', .slice sS (sz t') cS⟩]) (.slice (some ⟨g3, 0, none⟩) (n + 1) cap3) (.slice (some ⟨g4, 0, none⟩) (n + 1) cap4)) := by
              rw [← HH.out.2.2.1] at hown4
              have := HM6.out.push2 OS.out.2 _ OS.out.1 hgrow4 hown4
              rw [HH.out.2.2.1] at this
              exact this
            have B8 : Hid (Below w.heap.size w w8) := ((B6.out.trans (OS.out.2.mono B6.out.size)).alloc SZ7.out _).grown hgrow4 (by simp; have := SZ7.out; omega) (fun k hk => (OW2.out.lt k hk).1)
            clear hown4 hgrow4 hat4 hlt4 OW2
            go_wp2_with fail
            go_roundg (As.length - (j + 1))
            case measure => omega
            case rel => exact ⟨j + 1, by omega, rfl, by go_num, n + 1, _, _, _, _, rfl, rfl, by omega, by have := HH.out.2.2.2; omega, _, HS8.out, B8.out, by rw [List.length_append, HH.out.2.2.1]; rfl, by rw [HH.out.2.2.2], FIN.out G5.out.2, FINE.out GE.out⟩
      · have hA : bits .and .i64 kd 7 = 7 := by rw [and7, hq]
        have SP := Lib.hid (STP.out 7 hq)
        have SPE := Lib.hid (STPE.out 7 hq)
        clear hq hqa hq8 STP STPE IX1 IX2
        have CP := Lib.hid (Copy_any (GG.out.1.below GB.out).hd)
        go_wp2_with fail
        refine CP.out.mono ?_
        rintro e w5 ⟨rfl, hcc⟩
        obtain ⟨x5, b5⟩ := alloc_at2 hcc
        have B5 : Hid (Below wr.heap.size wr w5) := GB.out.trans (b5.mono GB.out.size)
        obtain ⟨tb', htb⟩ : ∃ tb', tb' = (wr.alloc (.cells #[.int .i64 kd, .int .i64 ofv, .int .i64 wi, .int .i32 key, .int .i64 dt, .bool no, .int .i64 ca, .int .i64 cb, .int .i64 cc, .int .i64 cm, .int .i64 cr] 76)).heap.size := ⟨_, rfl⟩
        simp only [← htb] at x5 ⊢
        obtain ⟨t', ht'⟩ : ∃ t', t' = t := ⟨_, rfl⟩
        have G5 : Hid (Good w5 tb' t' ∧ prs t' = stepT ⟨kd, ofv, wi, key, dt, ⟨no, ca, cb, cc, cm, cr⟩⟩ (prs t) (prs u)) := by
          have g5 := GG.out.1.below B5.out
          rw [ht']
          exact ⟨⟨x5, g5.H, g5.S, g5.A, g5.F⟩, by rw [SP.out]; rfl⟩
        have GE : Hid (er t' = stepE FF0 ⟨kd, ofv, wi, key, dt, ⟨no, ca, cb, cc, cm, cr⟩⟩ (er t) (er u)) := by
          show er t' = stepE FF0 ⟨kd, ofv, wi, key, dt, ⟨no, ca, cb, cc, cm, cr⟩⟩ (er t) (er u)
          rw [SPE.out, ht']; rfl
        clear x5 b5 hcc CP htb ht'
        have OW1 : Hid ((w5.alloc (.cells #[.pointer (some ⟨tb', 0, none⟩)] 61)).ownsRow w.heap.size 61 1 (.slice (some ⟨tg', 0, none⟩) n tcap) n (fl hp V)) := by
          have := (row_below HH.out.1.rt B5.out).alloc (.cells #[.pointer (some ⟨tb', 0, none⟩)] 61)
          rw [HH.out.2.2.1] at this
          exact this
        have SZ5 : Hid (w.heap.size ≤ w5.heap.size) := Nat.le_trans HH.out.2.1.size B5.out.size
        go_wp2_with (at_builtin; refine wpList_append_lies _ rfl _ _ 77 rfl w.heap.size 61 i6 _ 1 8 Try.underlying77 hi6 hp0 hp1 hp2 rfl (by omega) (.slice (some ⟨tg', 0, none⟩) n tcap) n (fl hp V) rfl OW1.out ⟨w5.heap.size, 0, none⟩ 1 1 [.pointer (some ⟨tb', 0, none⟩)] rfl rfl ?a1 (fun u hu => by rw [List.mem_singleton] at hu; subst hu; rfl) (by omega) (by unfold maxLen; omega) (by omega) ?a2 (w5.heap.size + 1) (by simp) ?a3)
        case a1 => exact news0 w5 #[.pointer (some ⟨tb', 0, none⟩)] 61
        case a2 => have := SZ5.out; simp; omega
        case a3 =>
          intro g3 cap3 w6 hown3 hgrow3 hat3 hlt3
          have HM6 : Hid (HM w.heap.size w6 V tb' t' (.slice (some ⟨g3, 0, none⟩) (n + 1) cap3) (.slice fa n fcap)) := by
            have h5 := HH.out.1.below B5.out
            rw [← HH.out.2.2.1] at hown3
            have := h5.push1 G5.out.1 _ hgrow3 hown3
            rw [HH.out.2.2.1] at this
            exact this
          have B6 : Hid (Below w.heap.size w w6) := ((HH.out.2.1.trans (B5.out.mono HH.out.2.1.size)).alloc SZ5.out _).grown hgrow3 (by simp; have := SZ5.out; omega) (fun k hk => (OW1.out.lt k hk).1)
          have SHP := Lib.hid (shape_good HM6.out.n (by show (prs t').length ≤ 300000; have := FL.out G5.out.2 G5.out.1.S; omega))
          have LT : Hid (sz t' ≤ 1000) := FL.out G5.out.2 G5.out.1.S
          clear hown3 hgrow3 hat3 hlt3 OW1
          go_wp2_with fail
          refine SHP.out.mono ?_
          rintro e w7 ⟨vS, rfl, oS, bS⟩
          obtain ⟨sS, cS, rfl⟩ := owns_shape oS
          have OS := Lib.hid (And.intro oS bS)
          have OW2 : Hid ((w7.alloc (.cells #[.slice sS (sz t') cS] 26)).ownsRow w.heap.size 26 1 (.slice fa n fcap) n (fl hv V)) := by
            have := (row_below HM6.out.rf OS.out.2).alloc (.cells #[.slice sS (sz t') cS] 26)
            rw [HH.out.2.2.1] at this
            exact this
          have SZ7 : Hid (w.heap.size ≤ w7.heap.size) := Nat.le_trans B6.out.size OS.out.2.size
          clear oS bS SHP
          go_wp2_with (at_builtin; refine wpList_append_lies _ rfl _ _ 46 rfl w.heap.size 26 i2 _ 1 24 Try.underlying46 hi2 hf0 hf1 hf2 rfl (by omega) (.slice fa n fcap) n (fl hv V) rfl OW2.out ⟨w7.heap.size, 0, none⟩ 1 1 [.slice sS (sz t') cS] rfl rfl ?b1 (fun u hu => by rw [List.mem_singleton] at hu; subst hu; rfl) (by omega) (by unfold maxLen; omega) (by omega) ?b2 (w7.heap.size + 1) (by simp) ?b3)
          case b1 => exact news0 w7 #[.slice sS (sz t') cS] 26
          case b2 => have := SZ7.out; simp; omega
          case b3 =>
            intro g4 cap4 w8 hown4 hgrow4 hat4 hlt4
            have HS8 : Hid (HS w.heap.size w8 (V ++ [⟨tb', t', .slice sS (sz t') cS⟩]) (.slice (some ⟨g3, 0, none⟩) (n + 1) cap3) (.slice (some ⟨g4, 0, none⟩) (n + 1) cap4)) := by
              rw [← HH.out.2.2.1] at hown4
              have := HM6.out.push2 OS.out.2 _ OS.out.1 hgrow4 hown4
              rw [HH.out.2.2.1] at this
              exact this
            have B8 : Hid (Below w.heap.size w w8) := ((B6.out.trans (OS.out.2.mono B6.out.size)).alloc SZ7.out _).grown hgrow4 (by simp; have := SZ7.out; omega) (fun k hk => (OW2.out.lt k hk).1)
            clear hown4 hgrow4 hat4 hlt4 OW2
            go_wp2_with fail
            go_roundg (As.length - (j + 1))
            case measure => omega
            case rel => exact ⟨j + 1, by omega, rfl, by go_num, n + 1, _, _, _, _, rfl, rfl, by omega, by have := HH.out.2.2.2; omega, _, HS8.out, B8.out, by rw [List.length_append, HH.out.2.2.1]; rfl, by rw [HH.out.2.2.2], FIN.out G5.out.2, FINE.out GE.out⟩
      · obtain ⟨q, hqq⟩ : ∃ q, q = kd % 8 := ⟨_, rfl⟩
        have hA : bits .and .i64 kd 7 = q := by rw [and7, hqq]
        have SP := Lib.hid (STP.out q hqq.symm)
        have SPE := Lib.hid (STPE.out q hqq.symm)
        have n4 : (q == 4) = false := by simp; omega
        have n5 : (q == 5) = false := by simp; omega
        have n6 : (q == 6) = false := by simp; omega
        have n7 : (q == 7) = false := by simp; omega
        have NQ : Hid (q ≠ 4 ∧ q ≠ 5 ∧ q ≠ 6 ∧ q ≠ 7) := ⟨by omega, by omega, by omega, by omega⟩
        clear hq hqa hq8 STP STPE IX1 IX2 hqq
        obtain ⟨h0, h1⟩ := hd_load (GG.out.1.below GB.out)
        have UP : Hid (∀ W, (W.heap[wr.heap.size + 1]? = some (.cells #[.pointer (pt t), .int .i64 ((prs t).length : Nat)] 96 (0, 0))) → Below wr.heap.size wr W → Calls Try.prog 70 #[.pointer (some ⟨wr.heap.size + 1, 0, none⟩), .agg #[.int .i64 kd, .int .i64 ofv, .int .i64 wi, .int .i32 key, .int .i64 dt, .bool no, .int .i64 ca, .int .i64 cb, .int .i64 cc, .int .i64 cm, .int .i64 cr]] W (UpPostE (wr.heap.size + 1) (updL ⟨kd, ofv, wi, key, dt, ⟨no, ca, cb, cc, cm, cr⟩⟩ (prs t)) (updE FF0 ⟨kd, ofv, wi, key, dt, ⟨no, ca, cb, cc, cm, cr⟩⟩ (er t)) W)) := fun W x b => by
          have g5 := GG.out.1.below b
          exact update_anyE hF0 ⟨kd, ofv, wi, key, dt, ⟨no, ca, cb, cc, cm, cr⟩⟩ ⟨x, g5.H, g5.S, g5.A, g5.F⟩ (by have := GG.out.2.2.1; omega) GG.out.2.2.2.2.2.2
        have XH : Hid (((wr.alloc (.cells #[.int .i64 kd, .int .i64 ofv, .int .i64 wi, .int .i32 key, .int .i64 dt, .bool no, .int .i64 ca, .int .i64 cb, .int .i64 cc, .int .i64 cm, .int .i64 cr] 76)).alloc (.cells #[.pointer (pt t), .int .i64 ((prs t).length : Nat)] 96)).heap[wr.heap.size + 1]? = some (.cells #[.pointer (pt t), .int .i64 ((prs t).length : Nat)] 96 (0, 0))) := by
          have := heap_alloc_new (wr.alloc (.cells #[.int .i64 kd, .int .i64 ofv, .int .i64 wi, .int .i32 key, .int .i64 dt, .bool no, .int .i64 ca, .int .i64 cb, .int .i64 cc, .int .i64 cm, .int .i64 cr] 76)) (.cells #[.pointer (pt t), .int .i64 ((prs t).length : Nat)] 96)
          rw [World.size_alloc] at this
          exact this
        have BH : Hid (Below wr.heap.size wr ((wr.alloc (.cells #[.int .i64 kd, .int .i64 ofv, .int .i64 wi, .int .i32 key, .int .i64 dt, .bool no, .int .i64 ca, .int .i64 cb, .int .i64 cc, .int .i64 cm, .int .i64 cr] 76)).alloc (.cells #[.pointer (pt t), .int .i64 ((prs t).length : Nat)] 96))) := GB.out.alloc (by simp) _
        have SH := Lib.hid (show ((wr.alloc (.cells #[.int .i64 kd, .int .i64 ofv, .int .i64 wi, .int .i32 key, .int .i64 dt, .bool no, .int .i64 ca, .int .i64 cb, .int .i64 cc, .int .i64 cm, .int .i64 cr] 76)).alloc (.cells #[.pointer (pt t), .int .i64 ((prs t).length : Nat)] 96)).heap.size = wr.heap.size + 2 by simp)
        go_wp2_with fail
        refine (UP.out _ XH.out BH.out).mono ?_
        rintro e w5 ⟨vU, rfl, t', cU, gU, eU, EU⟩
        have B5 : Hid (Below wr.heap.size wr w5) := BH.out.trans ((cU.mono (S' := fun k => wr.heap.size ≤ k) (fun k _ h => by have := SH.out; rcases h with rfl | h <;> omega)).below (by have := SH.out; omega) (fun _ h => h))
        obtain ⟨tb', htb⟩ : ∃ tb', tb' = wr.heap.size + 1 := ⟨_, rfl⟩
        rw [← htb] at gU
        simp only [← htb]
        have G5 : Hid (Good w5 tb' t' ∧ prs t' = stepT ⟨kd, ofv, wi, key, dt, ⟨no, ca, cb, cc, cm, cr⟩⟩ (prs t) (prs u)) := ⟨gU, by rw [eU, SP.out, if_neg NQ.out.1, if_neg NQ.out.2.1, if_neg NQ.out.2.2.1, if_neg NQ.out.2.2.2]⟩
        have GE : Hid (er t' = stepE FF0 ⟨kd, ofv, wi, key, dt, ⟨no, ca, cb, cc, cm, cr⟩⟩ (er t) (er u)) := by
          show er t' = stepE FF0 ⟨kd, ofv, wi, key, dt, ⟨no, ca, cb, cc, cm, cr⟩⟩ (er t) (er u)
          rw [EU, SPE.out, if_neg NQ.out.1, if_neg NQ.out.2.1, if_neg NQ.out.2.2.1, if_neg NQ.out.2.2.2]
        clear cU gU eU EU UP htb
        have OW1 : Hid ((w5.alloc (.cells #[.pointer (some ⟨tb', 0, none⟩)] 61)).ownsRow w.heap.size 61 1 (.slice (some ⟨tg', 0, none⟩) n tcap) n (fl hp V)) := by
          have := (row_below HH.out.1.rt B5.out).alloc (.cells #[.pointer (some ⟨tb', 0, none⟩)] 61)
          rw [HH.out.2.2.1] at this
          exact this
        have SZ5 : Hid (w.heap.size ≤ w5.heap.size) := Nat.le_trans HH.out.2.1.size B5.out.size
        go_wp2_with (at_builtin; refine wpList_append_lies _ rfl _ _ 77 rfl w.heap.size 61 i6 _ 1 8 Try.underlying77 hi6 hp0 hp1 hp2 rfl (by omega) (.slice (some ⟨tg', 0, none⟩) n tcap) n (fl hp V) rfl OW1.out ⟨w5.heap.size, 0, none⟩ 1 1 [.pointer (some ⟨tb', 0, none⟩)] rfl rfl ?a1 (fun u hu => by rw [List.mem_singleton] at hu; subst hu; rfl) (by omega) (by unfold maxLen; omega) (by omega) ?a2 (w5.heap.size + 1) (by simp) ?a3)
        case a1 => exact news0 w5 #[.pointer (some ⟨tb', 0, none⟩)] 61
        case a2 => have := SZ5.out; simp; omega
        case a3 =>
          intro g3 cap3 w6 hown3 hgrow3 hat3 hlt3
          have HM6 : Hid (HM w.heap.size w6 V tb' t' (.slice (some ⟨g3, 0, none⟩) (n + 1) cap3) (.slice fa n fcap)) := by
            have h5 := HH.out.1.below B5.out
            rw [← HH.out.2.2.1] at hown3
            have := h5.push1 G5.out.1 _ hgrow3 hown3
            rw [HH.out.2.2.1] at this
            exact this
          have B6 : Hid (Below w.heap.size w w6) := ((HH.out.2.1.trans (B5.out.mono HH.out.2.1.size)).alloc SZ5.out _).grown hgrow3 (by simp; have := SZ5.out; omega) (fun k hk => (OW1.out.lt k hk).1)
          have SHP := Lib.hid (shape_good HM6.out.n (by show (prs t').length ≤ 300000; have := FL.out G5.out.2 G5.out.1.S; omega))
          have LT : Hid (sz t' ≤ 1000) := FL.out G5.out.2 G5.out.1.S
          clear hown3 hgrow3 hat3 hlt3 OW1
          go_wp2_with fail
          refine SHP.out.mono ?_
          rintro e w7 ⟨vS, rfl, oS, bS⟩
          obtain ⟨sS, cS, rfl⟩ := owns_shape oS
          have OS := Lib.hid (And.intro oS bS)
          have OW2 : Hid ((w7.alloc (.cells #[.slice sS (sz t') cS] 26)).ownsRow w.heap.size 26 1 (.slice fa n fcap) n (fl hv V)) := by
            have := (row_below HM6.out.rf OS.out.2).alloc (.cells #[.slice sS (sz t') cS] 26)
            rw [HH.out.2.2.1] at this
            exact this
          have SZ7 : Hid (w.heap.size ≤ w7.heap.size) := Nat.le_trans B6.out.size OS.out.2.size
          clear oS bS SHP
          go_wp2_with (at_builtin; refine wpList_append_lies _ rfl _ _ 46 rfl w.heap.size 26 i2 _ 1 24 Try.underlying46 hi2 hf0 hf1 hf2 rfl (by omega) (.slice fa n fcap) n (fl hv V) rfl OW2.out ⟨w7.heap.size, 0, none⟩ 1 1 [.slice sS (sz t') cS] rfl rfl ?b1 (fun u hu => by rw [List.mem_singleton] at hu; subst hu; rfl) (by omega) (by unfold maxLen; omega) (by omega) ?b2 (w7.heap.size + 1) (by simp) ?b3)
          case b1 => exact news0 w7 #[.slice sS (sz t') cS] 26
          case b2 => have := SZ7.out; simp; omega
          case b3 =>
            intro g4 cap4 w8 hown4 hgrow4 hat4 hlt4
            have HS8 : Hid (HS w.heap.size w8 (V ++ [⟨tb', t', .slice sS (sz t') cS⟩]) (.slice (some ⟨g3, 0, none⟩) (n + 1) cap3) (.slice (some ⟨g4, 0, none⟩) (n + 1) cap4)) := by
              rw [← HH.out.2.2.1] at hown4
              have := HM6.out.push2 OS.out.2 _ OS.out.1 hgrow4 hown4
              rw [HH.out.2.2.1] at this
              exact this
            have B8 : Hid (Below w.heap.size w w8) := ((B6.out.trans (OS.out.2.mono B6.out.size)).alloc SZ7.out _).grown hgrow4 (by simp; have := SZ7.out; omega) (fun k hk => (OW2.out.lt k hk).1)
            clear hown4 hgrow4 hat4 hlt4 OW2
            go_wp2_with fail
            go_roundg (As.length - (j + 1))
            case measure => omega
            case rel => exact ⟨j + 1, by omega, rfl, by go_num, n + 1, _, _, _, _, rfl, rfl, by omega, by have := HH.out.2.2.2; omega, _, HS8.out, B8.out, by rw [List.length_append, HH.out.2.2.1]; rfl, by rw [HH.out.2.2.2], FIN.out G5.out.2, FINE.out GE.out⟩
    · have hj' : j = As.length := by omega
      subst hj'
      rw [List.take_length] at ho
      go_wp2_with fail
      go_ret2
      obtain ⟨V, h1, h2, h3, h4, h5, h6⟩ := ho.out
      exact ⟨V, _, _, rfl, h1, h2, h5, h6⟩

theorem history_any {w : World} {v : Value} {As : List Ac} (h : Rd ac 11 w v As) (hn : As.length ≤ 1000) (hk : ∀ a ∈ As, a.key ≠ -2147483648) : Calls Try.prog 53 #[v] w (HistPost As w) := by
  obtain ⟨F0, h0⟩ := delFun_ex
  exact (history_anyE h0 h hn hk).mono fun e w' ⟨V, vt, vf, h1, h2, h3, h4, _⟩ => ⟨V, vt, vf, h1, h2, h3, h4⟩

end Go.Proofs.Ytahghidbadpkeaa
