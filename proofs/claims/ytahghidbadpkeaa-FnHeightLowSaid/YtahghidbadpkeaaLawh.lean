/- The walks of spec.LeastNodes and FnHeightLow. -/
import Derived.Test.YtahghidbadpkeaaShps
import Derived.Test.YtahghidbadpkeaaHas
set_option linter.unusedVariables false
set_option linter.unusedSimpArgs false
namespace Go.Proofs.Ytahghidbadpkeaa
open Go.Deep Go.RowKit

theorem lst_42 : lst 42 < 1000000000 := by decide +kernel

set_option maxRecDepth 100000 in
set_option maxHeartbeats 400000 in
theorem LeastNodes_any {w : World} {h : Nat} (hh : h ≤ 40) : Calls Try.prog 33 #[.int .i64 (h : Int)] w (fun e w' => e = .returned (.int .i64 (lst h : Nat)) ∧ w' = w) := by
  go_enter Try.func33, Try.ntmps33
  go_wp2_with fail
  go_loopg [3, 4, 6] h (fun k a b i wr => wr = w ∧ ∃ j x y : Nat, j ≤ h ∧ k = h - j ∧ i = .int .i64 j ∧ a = .int .i64 x ∧ b = .int .i64 y ∧ x < 1000000000 ∧ y < 1000000000 ∧ Hid (x = lst j ∧ y = lst (j + 1)))
  case atStart => exact ⟨rfl, 0, 0, 1, Nat.zero_le _, rfl, rfl, rfl, rfl, by omega, by omega, rfl, rfl⟩
  case round =>
    obtain ⟨rfl, j, x, y, hj, rfl, rfl, rfl, rfl, hx, hy, ho⟩ := hrel
    by_cases hjn : j < h
    · have E : Hid (x + y + 1 = lst (j + 2)) := by
        show x + y + 1 = lst j + lst (j + 1) + 1
        rw [ho.out.1, ho.out.2]
      have hb : x + y + 1 < 1000000000 := by
        rw [E.out]
        exact Nat.lt_of_le_of_lt (lst_mono (by omega)) lst_42
      go_wp2_with fail
      go_roundg (h - (j + 1))
      case measure => omega
      case rel => exact ⟨rfl, j + 1, y, x + y + 1, by omega, rfl, by go_num, rfl, by go_num, hy, hb, ho.out.2, E.out⟩
    · have hj' : j = h := by omega
      subst hj'
      go_wp2_with fail
      go_ret
      exact ⟨by rw [← ho.out.1]; rfl, rfl⟩

set_option maxRecDepth 100000 in
set_option maxHeartbeats 1600000 in
theorem FnHeightLow_core {w : World} {v : Value} {As : List Ac} (h : Rd ac 11 w v As) (hn : As.length ≤ 1000) (hk : ∀ a ∈ As, a.key ≠ -2147483648) (hka : actedB As = true) : Calls Try.prog 9 #[v] w (fun e w' => e = .returned (.bool true) ∧ Below w.heap.size w w') := by
  obtain ⟨sa, cap, rfl⟩ := h.shape
  have AC := Lib.hid (hka ▸ acted_any h (by omega))
  have SH := Lib.hid (fun (W : World) (hb : Below w.heap.size w W) => Shapes_any (h.below hb) hn hk)
  clear h hk hka
  go_enter Try.func9, Try.ntmps9
  go_wp2_with fail
  refine AC.out.mono ?_
  rintro e w1 ⟨rfl, b1⟩
  have B1 := Lib.hid b1
  clear b1
  go_wp2_with fail
  refine (SH.out _ B1.out).mono ?_
  rintro e w2 ⟨U, vo, rfl, hs, hb, hV, hr⟩
  have hUl := len_hist hV
  obtain ⟨ta, tcap, rfl⟩ := hs.shape
  obtain ⟨n, hnU⟩ : ∃ n, n = U.length := ⟨_, rfl⟩
  rw [← hnU] at hUl
  simp only [← hnU] at hs ⊢
  have hn1 : n ≤ 1001 := by omega
  have SZ := Lib.hid (fun (q : Ver) (hq : q ∈ U) => few_hist hV hr hn hq)
  have HH := Lib.hid (And.intro hs (And.intro hr (And.intro hV (And.intro hnU hUl))))
  have B2 := Lib.hid (B1.out.trans (hb.mono B1.out.size))
  clear hs hb hV hr hnU hUl SH
  go_wp2_with fail
  go_loopg [19] (n) (fun k i wr => ∃ j : Nat, j ≤ n ∧ k = n - j ∧ i = .int .i64 j ∧ Hid (Below w.heap.size w wr ∧ Below w2.heap.size w2 wr))
  case atStart => exact ⟨0, Nat.zero_le _, rfl, rfl, B2.out, Below.refl _ _⟩
  case round =>
    obtain ⟨j, hj, rfl, rfl, ho⟩ := hrel
    by_cases hjn : j < n
    · obtain ⟨⟨qb, t, qv⟩, hq⟩ : ∃ q, U[j]? = some q := ⟨_, List.getElem?_eq_getElem (by have := HH.out.2.2.2.1; omega)⟩
      have hs2 := HH.out.1.below ho.out.2
      obtain ⟨tg, sS, cS, rfl, c1, hqv⟩ := hs2.at hq
      simp only at hqv c1
      have hm := List.mem_of_getElem? hq
      have h3 := HH.out.2.1 _ hm
      have hz := SZ.out _ hm
      simp only at h3 hz
      have RS : Hid (Rd Nn.cells 5 wr (.slice sS (sz t) cS) (nlist t)) := by
        have := (hs2.g _ hm).rd
        simp only at this
        rw [hqv] at this
        exact this
      have SP := Lib.hid (Shape_spec RS.out h3.1 (by omega))
      have hlow : ht t ≤ 40 := Nat.le_of_lt (h3.1.low (by show sz t ≤ 300000; omega))
      have LN := Lib.hid (fun (W : World) => LeastNodes_any (w := W) hlow)
      have hle : lst (ht t) ≤ sz t := h3.1.lst_le
      clear hs2 hq hqv hm h3
      obtain ⟨m, hm⟩ : ∃ m, m = sz t := ⟨_, rfl⟩
      rw [← hm] at c1 SP hle hz
      obtain ⟨l, hl⟩ : ∃ l, l = lst (ht t) := ⟨_, rfl⟩
      rw [← hl] at LN hle
      clear RS hl hm
      have hcmp : ¬ ((m : Int) < (l : Int)) := by omega
      go_wp2_with fail
      refine SP.out.mono ?_
      rintro e w3 ⟨v3, rfl, r3, b3⟩
      obtain ⟨s3, c3, rfl⟩ := r3.shape
      have B3 : Hid (Below w.heap.size w w3 ∧ Below w2.heap.size w2 w3) := ⟨ho.out.1.trans (b3.mono ho.out.1.size), ho.out.2.trans (b3.mono ho.out.2.size)⟩
      clear r3 b3 SP
      go_wp2_with fail
      refine (LN.out _).mono ?_
      rintro e w4 ⟨rfl, hw⟩
      rw [hw]
      clear hw w4
      go_wp2_with fail
      go_roundg (n - (j + 1))
      case measure => omega
      case rel => exact ⟨j + 1, by omega, rfl, by go_num, B3.out⟩
    · have hj' : j = n := by omega
      subst hj'
      go_wp2_with fail
      refine works_any.mono ?_
      rintro e w3 ⟨rfl, b3⟩
      have B3 := Lib.hid (ho.out.1.trans (b3.mono ho.out.1.size))
      clear b3
      go_wp2_with fail
      go_ret
      exact ⟨rfl, B3.out⟩

set_option maxRecDepth 100000 in
set_option maxHeartbeats 800000 in
theorem FnHeightLow_any {w : World} {v : Value} {As : List Ac} (h : Rd ac 11 w v As) : Calls Try.prog 9 #[v] w (fun e w' => e = .returned (.bool true) ∧ Below w.heap.size w w') := by
  obtain ⟨sa, cap, rfl⟩ := h.shape
  have RD := Lib.hid h
  clear h
  by_cases h1 : (As.length : Int) > 2147483647
  · go_enter Try.func9, Try.ntmps9
    go_wp2_with fail
    go_ret
    exact ⟨rfl, Below.refl _ w⟩
  have AC := Lib.hid (acted_any RD.out (by omega))
  by_cases hk : actedB As = true
  · have hka : keysB As = true ∧ (As.length : Int) ≤ 1000 := by simpa [actedB] using hk
    exact FnHeightLow_core RD.out (by omega) (keysB_spec hka.1) hk
  · have hk' : actedB As = false := by simpa using hk
    clear hk
    go_enter Try.func9, Try.ntmps9
    go_wp2_with fail
    refine AC.out.mono ?_
    rintro e w1 ⟨rfl, b1⟩
    rw [hk']
    have B1 := Lib.hid b1
    clear b1
    go_wp2_with fail
    refine works_any.mono ?_
    rintro e w2 ⟨rfl, b2⟩
    have B2 := Lib.hid (B1.out.trans (b2.mono B1.out.size))
    clear b2
    go_wp2_with fail
    go_ret
    exact ⟨rfl, B2.out⟩

end Go.Proofs.Ytahghidbadpkeaa
