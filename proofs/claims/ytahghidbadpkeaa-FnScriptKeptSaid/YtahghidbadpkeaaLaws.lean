/- The walks of spec.SameShape and FnScriptKept. -/
import Derived.Test.YtahghidbadpkeaaShps
import Derived.Test.YtahghidbadpkeaaHas
set_option linter.unusedVariables false
set_option linter.unusedSimpArgs false
namespace Go.Proofs.Ytahghidbadpkeaa
open Go.Deep Go.RowKit

theorem sz_er (t : BT Nd) : sz (er t) = sz t := by rw [sz, sz, prs_er]
theorem zi_er (t : BT Nd) (i : Nat) : zi (er t) i = zi t i := by cases t <;> rfl
theorem zlist_er : ∀ (t : BT Nd) (i : Nat), zlist (er t) i = zlist t i
  | .nil, _ => rfl
  | .node b o a l r, i => by simp only [er, zlist, zi_er, sz_er, zlist_er l, zlist_er r]
/-- What is shown of a tree does not depend on where it lies. -/
theorem nlist_er (t : BT Nd) : nlist (er t) = nlist t := by rw [nlist, nlist, zlist_er]
theorem nlist_same {t u : BT Nd} (h : er t = er u) : nlist t = nlist u ∧ sz t = sz u := ⟨by rw [← nlist_er t, h, nlist_er], by rw [← sz_er t, h, sz_er]⟩

set_option maxRecDepth 100000 in
set_option maxHeartbeats 800000 in
theorem SameShape_any {w : World} {v v' : Value} {L : List Nn} (h : Rd Nn.cells 5 w v L) (h' : Rd Nn.cells 5 w v' L) (hn : L.length ≤ 300000) : Calls Try.prog 37 #[v, v'] w (fun e w' => e = .returned (.bool true) ∧ Below w.heap.size w w') := by
  obtain ⟨sa, cap, rfl⟩ := h.shape
  obtain ⟨ta, tcap, rfl⟩ := h'.shape
  have RD := Lib.hid (And.intro h h')
  clear h h'
  go_enter Try.func37, Try.ntmps37
  go_wp2_with fail
  go_loopg [14] (L.length) (fun k i wr => ∃ j : Nat, j ≤ L.length ∧ k = L.length - j ∧ i = .int .i64 j ∧ Hid (Below w.heap.size w wr))
  case atStart => exact ⟨0, Nat.zero_le _, rfl, rfl, Below.refl _ w⟩
  case round =>
    obtain ⟨j, hj, rfl, rfl, ho⟩ := hrel
    by_cases hjn : j < L.length
    · obtain ⟨p, hp⟩ : ∃ p, L[j]? = some p := ⟨_, List.getElem?_eq_getElem hjn⟩
      obtain ⟨b, off, rfl, hc⟩ := (RD.out.1.below ho.out).at Nn.len hp
      obtain ⟨b', off', rfl, hc'⟩ := (RD.out.2.below ho.out).at Nn.len hp
      obtain ⟨pk, px, ph, pl, pr⟩ := p
      have k0 : wr.cell? ⟨b, off + j * 5, none⟩ = some (.int .i32 pk) := hc 0 _ rfl
      have k1 : wr.cell? ⟨b, off + j * 5 + 1, none⟩ = some (.int .i64 px) := hc 1 _ rfl
      have k2 : wr.cell? ⟨b, off + j * 5 + 2, none⟩ = some (.int .i64 ph) := hc 2 _ rfl
      have k3 : wr.cell? ⟨b, off + j * 5 + 3, none⟩ = some (.int .i64 pl) := hc 3 _ rfl
      have k4 : wr.cell? ⟨b, off + j * 5 + 4, none⟩ = some (.int .i64 pr) := hc 4 _ rfl
      have k0' : wr.cell? ⟨b', off' + j * 5, none⟩ = some (.int .i32 pk) := hc' 0 _ rfl
      have k1' : wr.cell? ⟨b', off' + j * 5 + 1, none⟩ = some (.int .i64 px) := hc' 1 _ rfl
      have k2' : wr.cell? ⟨b', off' + j * 5 + 2, none⟩ = some (.int .i64 ph) := hc' 2 _ rfl
      have k3' : wr.cell? ⟨b', off' + j * 5 + 3, none⟩ = some (.int .i64 pl) := hc' 3 _ rfl
      have k4' : wr.cell? ⟨b', off' + j * 5 + 4, none⟩ = some (.int .i64 pr) := hc' 4 _ rfl
      have hlt := World.block_lt_of_cell? wr _ k0'
      have hj0 : (0 : Int) ≤ (j : Int) := Int.natCast_nonneg _
      have hj1 : (j : Int) < (L.length : Int) := by omega
      clear hc hc' hp
      go_wp2_with fail
      go_quiet (fail)
      go_wp2_with fail
      go_roundg (L.length - (j + 1))
      case measure => omega
      case rel => exact ⟨j + 1, by omega, rfl, by go_num, (ho.out.alloc ho.out.size _).trans ⟨rfl, rfl, rfl, Nat.le_refl _, fun _ _ => rfl⟩⟩
    · go_wp2_with fail
      go_ret
      exact ⟨rfl, ho.out⟩

set_option maxRecDepth 100000 in
set_option maxHeartbeats 1600000 in
theorem FnScriptKept_core {w : World} {v : Value} {As : List Ac} (h : Rd ac 11 w v As) (hn : As.length ≤ 1000) (hk : ∀ a ∈ As, a.key ≠ -2147483648) (hka : actedB As = true) : Calls Try.prog 12 #[v] w (fun e w' => e = .returned (.bool true) ∧ Below w.heap.size w w') := by
  obtain ⟨sa, cap, rfl⟩ := h.shape
  obtain ⟨F0, hF0⟩ := delFun_ex
  have AC := Lib.hid (hka ▸ acted_any h (by omega))
  have SF := Lib.hid (fun (W : World) (hb : Below w.heap.size w W) => ShapesFirst_anyE hF0 (h.below hb) hn hk)
  have SH := Lib.hid (fun (W : World) (hb : Below w.heap.size w W) => Shapes_anyE hF0 (h.below hb) hn hk)
  clear h hk hka
  go_enter Try.func12, Try.ntmps12
  go_wp2_with fail
  refine AC.out.mono ?_
  rintro e w1 ⟨rfl, b1⟩
  have B1 := Lib.hid b1
  clear b1
  go_wp2_with fail
  refine (SF.out _ B1.out).mono ?_
  rintro e w2 ⟨U, vo, rfl, hs, hb, hV, hr, hE⟩
  have hUl := len_hist hV
  obtain ⟨ta, tcap, rfl⟩ := hs.shape
  obtain ⟨n, hnU⟩ : ∃ n, n = U.length := ⟨_, rfl⟩
  rw [← hnU] at hUl
  simp only [← hnU] at hs ⊢
  have hn1 : n ≤ 1001 := by omega
  have SZ := Lib.hid (fun (q : Ver) (hq : q ∈ U) => few_hist hV hr hn hq)
  have HH := Lib.hid (And.intro hs (And.intro hE (And.intro hnU hUl)))
  have B2 := Lib.hid (B1.out.trans (hb.mono B1.out.size))
  clear hs hb hV hr hE hnU hUl SF
  go_wp2_with fail
  refine (SH.out _ B2.out).mono ?_
  rintro e w3 ⟨U', vo', rfl, hs, hb, hV, hr, hE⟩
  have hUl := len_hist hV
  obtain ⟨ua, ucap, rfl⟩ := hs.shape
  have hUn : U'.length = n := by rw [hUl]; exact HH.out.2.2.2.symm
  rw [hUn] at hs ⊢
  have H3 := Lib.hid (And.intro hs (And.intro hE hUn))
  have H2 := Lib.hid (HH.out.1.below hb)
  have B3 := Lib.hid (B2.out.trans (hb.mono B2.out.size))
  clear hs hb hV hr hE hUn hUl SH
  have hN : Hid ((n : Int) = (As.length : Int) + 1) := by have := HH.out.2.2.2; show (n : Int) = (As.length : Int) + 1; omega
  go_wp2_with fail
  go_loopg [25] (n) (fun k i wr => ∃ j : Nat, j ≤ n ∧ k = n - j ∧ i = .int .i64 j ∧ Hid (Below w.heap.size w wr ∧ Below w3.heap.size w3 wr))
  case atStart => exact ⟨0, Nat.zero_le _, rfl, rfl, B3.out, Below.refl _ _⟩
  case round =>
    obtain ⟨j, hj, rfl, rfl, ho⟩ := hrel
    by_cases hjn : j < n
    · obtain ⟨⟨qb, t, qv⟩, hq⟩ : ∃ q, U[j]? = some q := ⟨_, List.getElem?_eq_getElem (by have := HH.out.2.2.1; omega)⟩
      obtain ⟨⟨qb', t', qv'⟩, hq'⟩ : ∃ q, U'[j]? = some q := ⟨_, List.getElem?_eq_getElem (by have := H3.out.2.2; omega)⟩
      have hs2 := H2.out.below ho.out.2
      have hs3 := H3.out.1.below ho.out.2
      obtain ⟨tg, sS, cS, rfl, c1, hqv⟩ := hs2.at hq
      obtain ⟨tg2, sP, cP, rfl, c2, hqv'⟩ := hs3.at hq'
      simp only at hqv c1 hqv' c2
      have ee : er t = er t' := by
        have e1 : (ersOf U)[j]? = some (er t) := by simp [ersOf, hq]
        have e2 : (ersOf U')[j]? = some (er t') := by simp [ersOf, hq']
        rw [HH.out.2.1] at e1
        rw [H3.out.2.1] at e2
        exact Option.some.inj (e1.symm.trans e2)
      have hz := SZ.out _ (List.mem_of_getElem? hq)
      simp only at hz
      have RS : Hid (Rd Nn.cells 5 wr (.slice sS (sz t) cS) (nlist t)) := by
        have := (hs2.g _ (List.mem_of_getElem? hq)).rd
        simp only at this
        rw [hqv] at this
        exact this
      rw [← (nlist_same ee).2] at c2 hqv'
      have RP : Hid (Rd Nn.cells 5 wr (.slice sP (sz t) cP) (nlist t)) := by
        have := (hs3.g _ (List.mem_of_getElem? hq')).rd
        simp only at this
        rw [hqv', ← (nlist_same ee).1] at this
        exact this
      have SP := Lib.hid (SameShape_any RS.out RP.out (by rw [nlist_len]; omega))
      clear hs2 hs3 hq hq' hqv hqv' ee RS RP hz
      go_wp2_with fail
      refine SP.out.mono ?_
      rintro e w4 ⟨rfl, b4⟩
      have B4 : Hid (Below w.heap.size w w4 ∧ Below w3.heap.size w3 w4) := ⟨ho.out.1.trans (b4.mono ho.out.1.size), ho.out.2.trans (b4.mono ho.out.2.size)⟩
      clear b4 SP
      go_wp2_with fail
      go_roundg (n - (j + 1))
      case measure => omega
      case rel => exact ⟨j + 1, by omega, rfl, by go_num, B4.out⟩
    · have hj' : j = n := by omega
      subst hj'
      go_wp2_with fail
      refine works_any.mono ?_
      rintro e w4 ⟨rfl, b4⟩
      have B4 := Lib.hid (ho.out.1.trans (b4.mono ho.out.1.size))
      clear b4
      have hq : ((j : Int) == (As.length : Int) + 1) = true := by have := hN.out; rw [this]; simp
      go_wp2_with fail
      go_ret
      exact ⟨rfl, B4.out⟩

set_option maxRecDepth 100000 in
set_option maxHeartbeats 800000 in
theorem FnScriptKept_any {w : World} {v : Value} {As : List Ac} (h : Rd ac 11 w v As) : Calls Try.prog 12 #[v] w (fun e w' => e = .returned (.bool true) ∧ Below w.heap.size w w') := by
  obtain ⟨sa, cap, rfl⟩ := h.shape
  have RD := Lib.hid h
  clear h
  by_cases h1 : (As.length : Int) > 2147483647
  · go_enter Try.func12, Try.ntmps12
    go_wp2_with fail
    go_ret
    exact ⟨rfl, Below.refl _ w⟩
  have AC := Lib.hid (acted_any RD.out (by omega))
  by_cases hk : actedB As = true
  · have hka : keysB As = true ∧ (As.length : Int) ≤ 1000 := by simpa [actedB] using hk
    exact FnScriptKept_core RD.out (by omega) (keysB_spec hka.1) hk
  · have hk' : actedB As = false := by simpa using hk
    clear hk
    go_enter Try.func12, Try.ntmps12
    go_wp2_with fail
    refine AC.out.mono ?_
    rintro e w1 ⟨rfl, b1⟩
    rw [hk']
    have B1 := Lib.hid b1
    clear b1
    go_wp2_with fail
    refine works_any.mono ?_
    rintro e w2 ⟨rfl, b2⟩
    have B2 := Lib.hid (B1.out.trans (b2.mono B1.out.size))
    clear b2
    go_wp2_with fail
    go_ret
    exact ⟨rfl, B2.out⟩

end Go.Proofs.Ytahghidbadpkeaa
