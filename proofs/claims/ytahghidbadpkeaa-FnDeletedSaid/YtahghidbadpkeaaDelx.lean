/- The walk of FnDeleted. -/
import Derived.Test.YtahghidbadpkeaaDele
set_option linter.unusedVariables false
set_option linter.unusedSimpArgs false
namespace Go.Proofs.Ytahghidbadpkeaa
open Go.Deep Go.RowKit

theorem owns_cap {w : World} {base : Nat} {e : TypeId} {s : Nat} {a : Option Addr} {n cap : Nat} {xs : List Value} (h : w.ownsRow base e s (.slice a n cap) n xs) : n ≤ cap := by
  rcases h.2 with ⟨h1, h2⟩ | ⟨g, c, cur, h1, _, _, h2, _⟩
  · injection h1 with e1 e2 e3; omega
  · injection h1 with e1 e2 e3; omega

set_option maxRecDepth 100000 in
set_option maxHeartbeats 400000 in
/-- spec.Tree, and that its slice lies within its capacity. -/
theorem Tree_cap {w : World} {v : Value} {L : List (Int × Int)} (h : Rd pc 2 w v L) (hn : L.length ≤ 300000) : Calls Try.prog 18 #[v] w (fun e w' => ∃ a n c, e = .returned (.slice a n c) ∧ n ≤ c ∧ Rd pc 2 w' (.slice a n c) (pTree L) ∧ Below w.heap.size w w') := by
  obtain ⟨sa, cap, rfl⟩ := h.shape
  have RD := Lib.hid h
  clear h
  go_enter Try.func18, Try.ntmps18
  go_wp2_with fail
  go_loopg [3, 8] (L.length) (fun k out i wr => ∃ j : Nat, j ≤ L.length ∧ k = L.length - j ∧ i = .int .i64 j ∧ ∃ oa on ocap, out = .slice oa on ocap ∧ Hid (on ≤ ocap ∧ Rd pc 2 wr (.slice oa on ocap) (pTree (L.take j)) ∧ Below w.heap.size w wr))
  case atStart => exact ⟨0, Nat.zero_le _, rfl, rfl, none, 0, 0, rfl, Nat.le_refl _, ⟨none, 0, rfl, .inl rfl⟩, Below.refl _ w⟩
  case round =>
    obtain ⟨j, hj, rfl, rfl, oa, on, ocap, rfl, ho⟩ := hrel
    by_cases hjn : j < L.length
    · obtain ⟨p, hp⟩ : ∃ p, L[j]? = some p := ⟨_, List.getElem?_eq_getElem hjn⟩
      obtain ⟨b, off, rfl, hc⟩ := (RD.out.below ho.out.2.2).at pc_len hp
      have k0 : wr.cell? ⟨b, off + j * 2, none⟩ = some (.int .i32 p.1) := hc 0 _ rfl
      have k1 : wr.cell? ⟨b, off + j * 2 + 1, none⟩ = some (.int .i64 p.2) := hc 1 _ rfl
      have hl : (pTree (L.take j)).length ≤ 300000 := by have := pTree_len (L.take j); simp at this; omega
      have PU := Lib.hid (fun o => Put_any (w := wr.alloc o) p.1 p.2 (ho.out.2.1.below ((Below.refl _ wr).alloc (Nat.le_refl _) o)) hl)
      have HP := Lib.hid hp
      clear hc hp hl
      go_wp2_with fail
      refine (PU.out _).mono ?_
      rintro e w2 ⟨v2, rfl, o2, b2⟩
      obtain ⟨sa2, cap2, rfl⟩ := owns_shape o2
      have Q := Lib.hid (And.intro o2 b2)
      clear o2 b2
      go_wp2_with fail
      go_roundg (L.length - (j + 1))
      case measure => omega
      case rel =>
        obtain ⟨o2, b2⟩ := Q.out
        have e : L.take (j + 1) = L.take j ++ [p] := by rw [List.take_add_one, HP.out]; rfl
        refine ⟨j + 1, by omega, rfl, by go_num, _, _, _, rfl, owns_cap o2, ?_, (ho.out.2.2.alloc ho.out.2.2.size _).trans (b2.mono (by have := ho.out.2.2.size; simp; omega))⟩
        rw [e, pTree_snoc]; exact Rd.of_own pc_len o2
    · have hj' : j = L.length := by omega
      subst hj'
      rw [List.take_length] at ho
      go_wp2_with fail
      go_ret
      exact ⟨_, _, _, rfl, ho.out.1, ho.out.2.1, ho.out.2.2⟩

set_option maxRecDepth 100000 in
set_option maxHeartbeats 800000 in
theorem FnDeleted_core {w w1 : World} {v kv bv : Value} {L : List (Int × Int)} {K : List Int} {B : List Bool} (h : Rd pc 2 w v L) (hK : Rd kc 1 w kv K) (hB : Rd bc 1 w bv B) (hk : ∀ p ∈ L, p.1 ≠ -2147483648) (hn : L.length ≤ 1000) (hn2 : K.length ≤ 1000) (hn3 : B.length ≤ 1000)
    (hky : Calls Try.prog 14 #[v] w (fun e w' => e = .returned (.bool true) ∧ Below w.heap.size w w')) :
    Calls Try.prog 5 #[v, kv, bv] w (fun e w' => e = .returned (.bool true) ∧ Below w.heap.size w w') := by
  obtain ⟨sa, cap, rfl⟩ := h.shape
  obtain ⟨ka, kcap, rfl⟩ := hK.shape
  obtain ⟨ba, bcap, rfl⟩ := hB.shape
  have RD := Lib.hid (And.intro h (And.intro hK (And.intro hB hk)))
  have KY := Lib.hid hky
  have SS := Lib.hid (pTree_srt L)
  have SL := Lib.hid (pTree_len L)
  clear h hK hB hk hky
  go_enter Try.func5, Try.ntmps5
  go_wp2_with fail
  refine KY.out.mono ?_
  rintro e w1 ⟨rfl, b1⟩
  have B1 := Lib.hid b1
  clear b1
  go_wp2_with fail
  refine (Tree_cap (RD.out.1.below B1.out) (by omega)).mono ?_
  rintro e w2 ⟨ta, tn, tc, rfl, c2, r2, b2⟩
  have B2 := Lib.hid (And.intro c2 (And.intro r2 (B1.out.trans (b2.mono B1.out.size))))
  clear c2 r2 b2
  go_wp2_with fail
  go_loopg [7, 48] (K.length) (fun k out i wr => ∃ j : Nat, j ≤ K.length ∧ k = K.length - j ∧ i = .int .i64 j ∧ ∃ oa on ocap, out = .slice oa on ocap ∧ Hid (on ≤ ocap ∧ Rd pc 2 wr (.slice oa on ocap) (delP (pTree L) (K.take j)) ∧ Below w.heap.size w wr))
  case atStart => exact ⟨0, Nat.zero_le _, rfl, rfl, _, _, _, rfl, B2.out⟩
  case round =>
    obtain ⟨j, hj, rfl, rfl, oa, on, ocap, rfl, ho⟩ := hrel
    by_cases hjn : j < K.length
    · obtain ⟨x, hp⟩ : ∃ x, K[j]? = some x := ⟨_, List.getElem?_eq_getElem hjn⟩
      obtain ⟨b, off, rfl, hc⟩ := (RD.out.2.1.below ho.out.2.2).at kc_len hp
      have k0 : wr.cell? ⟨b, off + j, none⟩ = some (.int .i32 x) := by have := hc 0 _ rfl; rw [Nat.mul_one] at this; exact this
      have hl : (delP (pTree L) (K.take j)).length ≤ 300000 := by have := (delP_ok (K.take j) SS.out).2; have := SL.out; omega
      have DR := Lib.hid (Drop_any (w := wr) x ho.out.2.1 hl)
      have HP := Lib.hid hp
      clear hc hp hl
      go_wp2_with fail
      refine DR.out.mono ?_
      rintro e w2 ⟨v2, rfl, o2, b2⟩
      obtain ⟨sa2, cap2, rfl⟩ := owns_shape o2
      have Q := Lib.hid (And.intro o2 b2)
      clear o2 b2
      go_wp2_with fail
      go_roundg (K.length - (j + 1))
      case measure => omega
      case rel =>
        obtain ⟨o2, b2⟩ := Q.out
        have e : K.take (j + 1) = K.take j ++ [x] := by rw [List.take_add_one, HP.out]; rfl
        refine ⟨j + 1, by omega, rfl, by go_num, _, _, _, rfl, owns_cap o2, ?_, ho.out.2.2.trans (b2.mono ho.out.2.2.size)⟩
        rw [e, delP_snoc]; exact Rd.of_own pc_len o2
    · have hj' : j = K.length := by omega
      subst hj'
      rw [List.take_length] at ho
      go_wp2_with fail
      go_loopg [7, 58] (B.length) (fun k out i wr => ∃ j : Nat, j ≤ B.length ∧ k = B.length - j ∧ i = .int .i64 j ∧ ∃ oa on ocap, out = .slice oa on ocap ∧ Hid (on ≤ ocap ∧ Rd pc 2 wr (.slice oa on ocap) (endP (delP (pTree L) K) (B.take j)) ∧ Below w.heap.size w wr))
      case atStart => exact ⟨0, Nat.zero_le _, rfl, rfl, _, _, _, rfl, ho.out⟩
      case round =>
        clear ho hjn
        obtain ⟨j, hj, rfl, rfl, oa, on, ocap, rfl, ho⟩ := hrel
        by_cases hjn : j < B.length
        · obtain ⟨x, hp⟩ : ∃ x, B[j]? = some x := ⟨_, List.getElem?_eq_getElem hjn⟩
          obtain ⟨b, off, rfl, hc⟩ := (RD.out.2.2.1.below ho.out.2.2).at bc_len hp
          have k0 : wr.cell? ⟨b, off + j, none⟩ = some (.bool x) := by have := hc 0 _ rfl; rw [Nat.mul_one] at this; exact this
          have e : Hid (B.take (j + 1) = B.take j ++ [x]) := by show _ = _; rw [List.take_add_one, hp]; rfl
          have hoc := ho.out.1
          have hon : on = (endP (delP (pTree L) K) (B.take j)).length := by
            obtain ⟨a', c', e', _⟩ := ho.out.2.1
            injection e' with e1 e2 e3
          have hol : on ≤ 1000 := by have := (delP_ok K SS.out); have h2 := (endP_ok (B.take j) this.1).2; have := SL.out; omega
          clear hc hp
          by_cases hz : on = 0
          · have HZ := Lib.hid (List.eq_nil_of_length_eq_zero (hon.symm.trans hz))
            have HON := Lib.hid hon
            clear hon
            subst hz
            go_wp2_with fail
            go_roundg (B.length - (j + 1))
            case measure => omega
            case rel =>
              refine ⟨j + 1, by omega, rfl, by go_num, _, _, _, rfl, hoc, ?_, ho.out.2.2⟩
              have h2 := ho.out.2.1
              rw [HZ.out] at h2
              rw [e.out, endP_snoc, HZ.out]
              cases x <;> exact h2
          · obtain ⟨b2, off2, rfl⟩ : ∃ b2 off2, oa = some ⟨b2, off2, none⟩ := by
              obtain ⟨a', c', e', h3⟩ := ho.out.2.1
              injection e' with e1 e2 e3
              subst e1
              rcases h3 with h3 | ⟨b2, off2, h3, _⟩
              · rw [h3] at hon; exact absurd hon hz
              · exact ⟨b2, off2, h3⟩
            have HON := Lib.hid hon
            clear hon
            cases x with
            | true =>
              go_wp2_with fail
              go_roundg (B.length - (j + 1))
              case measure => omega
              case rel =>
                refine ⟨j + 1, by omega, rfl, by go_num, _, _, _, rfl, by omega, ?_, ho.out.2.2⟩
                rw [e.out, endP_snoc]
                exact ho.out.2.1.last
            | false =>
              by_cases hc1 : ocap = 1
              · subst hc1
                have hon1 : on = 1 := by omega
                subst hon1
                go_wp2_with fail
                go_roundg (B.length - (j + 1))
                case measure => omega
                case rel =>
                  refine ⟨j + 1, by omega, rfl, by go_num, _, _, _, rfl, by omega, ?_, ho.out.2.2⟩
                  rw [e.out, endP_snoc]
                  have hnil : endS (endP (delP (pTree L) K) (B.take j)) false = [] := List.eq_nil_of_length_eq_zero (by simp [endS, ← HON.out])
                  rw [hnil]
                  exact ⟨_, _, rfl, .inl rfl⟩
              · have hc2 : ocap - 1 ≠ 0 := by omega
                go_wp2_with fail
                go_roundg (B.length - (j + 1))
                case measure => omega
                case rel =>
                  refine ⟨j + 1, by omega, rfl, by go_num, _, _, _, rfl, by omega, ?_, ho.out.2.2⟩
                  rw [e.out, endP_snoc]
                  exact ho.out.2.1.rest pc_len
        · have hj' : j = B.length := by omega
          subst hj'
          rw [List.take_length] at ho
          have R0 := Lib.hid ho.out.2.1
          have BB := Lib.hid ho.out.2.2
          go_wp2_with fail
          refine works_any.mono ?_
          rintro e w3 ⟨rfl, b3⟩
          have B3 := Lib.hid (BB.out.trans (b3.mono BB.out.size))
          have R3 := Lib.hid (R0.out.below b3)
          clear b3
          go_wp2_with fail
          refine (Deleted_any (RD.out.1.below B3.out) (RD.out.2.1.below B3.out) (RD.out.2.2.1.below B3.out) RD.out.2.2.2 (by omega) (by omega) (by omega)).mono ?_
          rintro e w4 ⟨t, v4, rfl, r4, b4, e4, a4⟩
          obtain ⟨sa4, cap4, rfl⟩ := r4.shape
          have hps : pOf t = endP (delP (pTree L) K) B := by
            rw [pOf, e4, opt, List.map_map]
            exact (List.map_congr_left (g := id) (fun p _ => rfl)).trans (List.map_id _)
          have hk2 := delP_ok K SS.out
          have hk3 := endP_ok B hk2.1
          have hsz : sz t ≤ 300000 := by rw [sz, e4, opt_len]; have := SL.out; omega
          have HA := Lib.hid (Has_any r4 (by rw [hps]; exact R3.out.below b4) a4 hsz (by rw [hps]; exact hk3.1))
          have B4 := Lib.hid (B3.out.trans (b4.mono B3.out.size))
          clear r4 b4 e4 a4 hps hk2 hk3 hsz
          go_wp2_with fail
          refine HA.out.mono ?_
          rintro e w5 ⟨rfl, b5⟩
          have B5 := Lib.hid (B4.out.trans (b5.mono B4.out.size))
          clear b5
          go_wp2_with fail
          go_ret
          exact ⟨rfl, B5.out⟩

set_option maxRecDepth 100000 in
set_option maxHeartbeats 400000 in
theorem FnDeleted_any {w : World} {v kv bv : Value} {L : List (Int × Int)} {K : List Int} {B : List Bool} (h : Rd pc 2 w v L) (hK : Rd kc 1 w kv K) (hB : Rd bc 1 w bv B) :
    Calls Try.prog 5 #[v, kv, bv] w (fun e w' => e = .returned (.bool true) ∧ Below w.heap.size w w') := by
  obtain ⟨sa, cap, rfl⟩ := h.shape
  obtain ⟨ka, kcap, rfl⟩ := hK.shape
  obtain ⟨ba, bcap, rfl⟩ := hB.shape
  have RD := Lib.hid (And.intro h (And.intro hK hB))
  clear h hK hB
  by_cases h1 : (L.length : Int) > 2147483647
  · go_enter Try.func5, Try.ntmps5
    go_wp2_with fail
    go_ret
    exact ⟨rfl, Below.refl _ w⟩
  by_cases h2 : (K.length : Int) > 2147483647
  · go_enter Try.func5, Try.ntmps5
    go_wp2_with fail
    go_ret
    exact ⟨rfl, Below.refl _ w⟩
  by_cases h3 : (B.length : Int) > 2147483647
  · go_enter Try.func5, Try.ntmps5
    go_wp2_with fail
    go_ret
    exact ⟨rfl, Below.refl _ w⟩
  have KY := Lib.hid (keyed_any RD.out.1 (by omega))
  by_cases hk : keyedB L = true
  · have K0 := Lib.hid (keyedB_spec hk)
    rw [hk] at KY
    clear hk
    by_cases g1 : (L.length : Int) > 1000
    · go_enter Try.func5, Try.ntmps5
      go_wp2_with fail
      refine KY.out.mono ?_
      rintro e w1 ⟨rfl, b1⟩
      have B1 := Lib.hid b1
      clear b1
      go_wp2_with fail
      refine works_any.mono ?_
      rintro e w2 ⟨rfl, b2⟩
      have B2 := Lib.hid (B1.out.trans (b2.mono B1.out.size))
      clear b2
      go_wp2_with fail
      go_ret
      exact ⟨rfl, B2.out⟩
    by_cases g2 : (K.length : Int) > 1000
    · go_enter Try.func5, Try.ntmps5
      go_wp2_with fail
      refine KY.out.mono ?_
      rintro e w1 ⟨rfl, b1⟩
      have B1 := Lib.hid b1
      clear b1
      go_wp2_with fail
      refine works_any.mono ?_
      rintro e w2 ⟨rfl, b2⟩
      have B2 := Lib.hid (B1.out.trans (b2.mono B1.out.size))
      clear b2
      go_wp2_with fail
      go_ret
      exact ⟨rfl, B2.out⟩
    by_cases g3 : (B.length : Int) > 1000
    · go_enter Try.func5, Try.ntmps5
      go_wp2_with fail
      refine KY.out.mono ?_
      rintro e w1 ⟨rfl, b1⟩
      have B1 := Lib.hid b1
      clear b1
      go_wp2_with fail
      refine works_any.mono ?_
      rintro e w2 ⟨rfl, b2⟩
      have B2 := Lib.hid (B1.out.trans (b2.mono B1.out.size))
      clear b2
      go_wp2_with fail
      go_ret
      exact ⟨rfl, B2.out⟩
    exact FnDeleted_core (w1 := w) RD.out.1 RD.out.2.1 RD.out.2.2 K0.out (by omega) (by omega) (by omega) KY.out
  · have hk' : keyedB L = false := by simpa using hk
    rw [hk'] at KY
    clear hk hk'
    go_enter Try.func5, Try.ntmps5
    go_wp2_with fail
    refine KY.out.mono ?_
    rintro e w1 ⟨rfl, b1⟩
    have B1 := Lib.hid b1
    clear b1
    go_wp2_with fail
    refine works_any.mono ?_
    rintro e w2 ⟨rfl, b2⟩
    have B2 := Lib.hid (B1.out.trans (b2.mono B1.out.size))
    clear b2
    go_wp2_with fail
    go_ret
    exact ⟨rfl, B2.out⟩

end Go.Proofs.Ytahghidbadpkeaa
