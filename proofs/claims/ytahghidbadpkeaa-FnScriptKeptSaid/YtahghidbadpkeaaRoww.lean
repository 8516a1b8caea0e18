/- The walks of spec.Index and FnRow. -/
import Derived.Test.YtahghidbadpkeaaHas
set_option linter.unusedVariables false
set_option linter.unusedSimpArgs false
namespace Go.Proofs.Ytahghidbadpkeaa
open Go.Deep Go.RowKit

theorem tmod_fix {i n : Int} (hn : 0 < n) : (if i.tmod n < 0 then i.tmod n + n else i.tmod n) = i % n := by
  have h1 := Int.emod_nonneg i (by omega : n ≠ 0)
  have h2 := Int.emod_lt_of_pos i hn
  rw [Int.tmod_eq_emod]
  by_cases h : 0 ≤ i ∨ n ∣ i
  · simp only [h, if_true]
    rw [if_neg (by omega)]
    omega
  · simp only [h, if_false]
    have h3 : i % n ≠ 0 := fun e => h (.inr (Int.dvd_of_emod_eq_zero e))
    rw [if_pos (by omega)]
    omega
theorem tmod_lt {i n : Int} (hn : 0 < n) : - n ≤ i.tmod n ∧ i.tmod n < n := by
  have h1 := Int.emod_nonneg i (by omega : n ≠ 0)
  have h2 := Int.emod_lt_of_pos i hn
  have h3 := tmod_fix (i := i) hn
  split at h3 <;> omega

set_option maxRecDepth 100000 in
set_option maxHeartbeats 400000 in
theorem Index_any {w : World} {i n : Int} (hn : 0 < n) (h2 : n ≤ 1000000) : Calls Try.prog 19 #[.int .i64 i, .int .i64 n] w (fun e w' => e = .returned (.int .i64 (i % n)) ∧ w' = w) := by
  have hf := Lib.hid (tmod_fix (i := i) hn)
  obtain ⟨b1, b2⟩ := tmod_lt (i := i) hn
  have hz : (n == 0) = false := by simp; omega
  have hw : IntKind.i64.wrap (i.tmod n) = i.tmod n := IntWalk.i64_in _ ⟨by omega, by omega⟩
  have hw2 : IntKind.i64.wrap (i.tmod n + n) = i.tmod n + n := IntWalk.i64_in _ ⟨by omega, by omega⟩
  by_cases hneg : i.tmod n < 0
  · go_enter Try.func19, Try.ntmps19
    go_wp2_with fail
    go_ret
    have := hf.out
    rw [if_pos hneg] at this
    exact ⟨by rw [← this]; rfl, rfl⟩
  · go_enter Try.func19, Try.ntmps19
    go_wp2_with fail
    go_ret
    have := hf.out
    rw [if_neg (by omega)] at this
    exact ⟨by rw [← this]; rfl, rfl⟩

def RowInv (w wr : World) (j : Nat) (v : Value) : Prop := ∃ L : List (Int × Int), L.length = j ∧ (∀ p ∈ L, p.1 ≠ -2147483648) ∧ wr.ownsRow w.heap.size 31 2 v j (fl pc L) ∧ Below w.heap.size w wr
theorem RowInv.lies {w wr : World} {j : Nat} {v : Value} (h : RowInv w wr j v) : ∃ xs, wr.ownsRow w.heap.size 31 2 v j xs ∧ w.heap.size ≤ wr.heap.size ∧ ∀ (k : Int) (o : Obj) (w2 : World) (v2 : Value), k ≠ -2147483648 → (wr.alloc o).grownBy w2 v.ownBlock → w2.ownsRow w.heap.size 31 2 v2 (j + 1) (xs ++ pc (k, j)) → RowInv w w2 (j + 1) v2 := by
  obtain ⟨L, h1, h2, h3, h4⟩ := h
  refine ⟨_, h3, h4.size, fun k o w2 v2 hk hg ho => ⟨L ++ [(k, (j : Int))], by simp [h1], ?_, by rw [fl_app, fl_one]; exact ho, (h4.alloc h4.size _).grown hg (by have := h4.size; simp; omega) (fun k hk => (h3.lt k hk).1)⟩⟩
  intro p hp
  rcases List.mem_append.1 hp with hp | hp
  · exact h2 p hp
  · rw [List.mem_singleton] at hp; subst hp; exact hk

set_option maxRecDepth 100000 in
set_option maxHeartbeats 800000 in
theorem FnRow_any {w : World} {n way : Int} : Calls Try.prog 4 #[.int .i64 n, .int .i64 way] w (fun e w' => e = .returned (.bool true) ∧ Below w.heap.size w w') := by
  by_cases h0 : n < 0
  · go_enter Try.func4, Try.ntmps4
    go_wp2_with fail
    refine works_any.mono ?_
    rintro e w2 ⟨rfl, b2⟩
    have B2 := Lib.hid b2
    clear b2
    go_wp2_with fail
    go_ret
    exact ⟨rfl, B2.out⟩
  by_cases h1 : n > 600
  · go_enter Try.func4, Try.ntmps4
    go_wp2_with fail
    refine works_any.mono ?_
    rintro e w2 ⟨rfl, b2⟩
    have B2 := Lib.hid b2
    clear b2
    go_wp2_with fail
    go_ret
    exact ⟨rfl, B2.out⟩
  obtain ⟨N, rfl⟩ := Int.eq_ofNat_of_zero_le (Int.not_lt.1 h0)
  clear h0
  obtain ⟨i0, hi0, hz0, hz1, hz2⟩ := info_parts info31
  go_enter Try.func4, Try.ntmps4
  go_wp2_with fail
  go_loopg [5, 17] N (fun k out i wr => ∃ j : Nat, j ≤ N ∧ k = N - j ∧ i = .int .i64 j ∧ ∃ oa ocap, out = .slice oa j ocap ∧ Hid (RowInv w wr j (.slice oa j ocap)))
  case atStart =>
    refine ⟨0, Nat.zero_le _, rfl, rfl, _, _, rfl, [], rfl, (fun p hp => by cases hp), ?_, (Below.refl _ w).alloc (Nat.le_refl _) _⟩
    exact ⟨by simp [fl], .inr ⟨w.heap.size, 0, #[], rfl, Nat.le_refl _, heap_alloc_new w _, Nat.le_refl _, by simp [maxLen], rfl, by simp [fl]⟩⟩
  case round =>
    obtain ⟨j, hj, rfl, rfl, oa, ocap, rfl, ho⟩ := hrel
    by_cases hjn : j < N
    · obtain ⟨xs, ho1, ho2, ho3⟩ := ho.out.lies
      have O1 := Lib.hid (And.intro ho1 ho3)
      have hb1 := Int.emod_nonneg way (by omega : (3 : Int) ≠ 0)
      have hb2 := Int.emod_lt_of_pos way (by omega : (0 : Int) < 3)
      have hw1 : IntKind.i32.wrap (j : Int) = j := IntWalk.i32_in _ ⟨by omega, by omega⟩
      have hw2 : IntKind.i32.wrap (-(j : Int)) = -(j : Int) := IntWalk.i32_in _ ⟨by omega, by omega⟩
      have hw3 : IntKind.i64.wrap (j : Int) = j := IntWalk.i64_in _ ⟨by omega, by omega⟩
      clear ho1 ho3
      go_wp2_with fail
      refine (Index_any (by omega) (by omega)).mono ?_
      rintro e w1 ⟨rfl, hw⟩
      rw [hw]
      clear hw w1
      obtain ⟨m, hm⟩ : ∃ m, m = way % 3 := ⟨_, rfl⟩
      rw [← hm] at hb1 hb2 ⊢
      clear hm
      have hm3 : m = 1 ∨ m = 2 ∨ m = 0 := by omega
      rcases hm3 with rfl | rfl | rfl
      · go_wp2_with (at_builtin; refine wpList_append_lies _ rfl _ _ 22 rfl w.heap.size 31 i0 _ 2 16 Try.underlying22 hi0 hz0 hz1 hz2 rfl (by omega) (.slice oa j ocap) j xs rfl (O1.out.1.alloc _) ⟨wr.heap.size, 0, none⟩ 1 1 (pc (-(j : Int), (j : Int))) rfl rfl ?an1 (pc_one _) (by omega) (by unfold maxLen; omega) (by omega) ?an2 (wr.heap.size + 1) (by simp) ?an3)
        case an1 => exact news0 wr #[.int .i32 (-(j : Int)), .int .i64 j] 31
        case an2 => simp; omega
        case an3 =>
          intro g3 cap3 w3 hown3 hgrow3 hat3 hlt3
          have R := Lib.hid (O1.out.2 (-(j : Int)) _ w3 _ (by omega) hgrow3 hown3)
          clear hown3 hgrow3 hat3
          go_wp2_with fail
          go_roundg (N - (j + 1))
          case measure => omega
          case rel => exact ⟨j + 1, by omega, rfl, by go_num, _, _, rfl, R.out⟩
      · by_cases hp : ((j : Int) % 2 == 1) = true
        · have hw4 : IntKind.i64.wrap ((j : Int).tmod 2) = (j : Int).tmod 2 := IntWalk.i64_in _ ⟨by have := tmod_lt (i := (j : Int)) (n := 2) (by omega); omega, by have := tmod_lt (i := (j : Int)) (n := 2) (by omega); omega⟩
          go_wp2_with (at_builtin; refine wpList_append_lies _ rfl _ _ 22 rfl w.heap.size 31 i0 _ 2 16 Try.underlying22 hi0 hz0 hz1 hz2 rfl (by omega) (.slice oa j ocap) j xs rfl (O1.out.1.alloc _) ⟨wr.heap.size, 0, none⟩ 1 1 (pc (-(j : Int), (j : Int))) rfl rfl ?am1 (pc_one _) (by omega) (by unfold maxLen; omega) (by omega) ?am2 (wr.heap.size + 1) (by simp) ?am3)
          case am1 => exact news0 wr #[.int .i32 (-(j : Int)), .int .i64 j] 31
          case am2 => simp; omega
          case am3 =>
            intro g3 cap3 w3 hown3 hgrow3 hat3 hlt3
            have R := Lib.hid (O1.out.2 (-(j : Int)) _ w3 _ (by omega) hgrow3 hown3)
            clear hown3 hgrow3 hat3
            go_wp2_with fail
            go_roundg (N - (j + 1))
            case measure => omega
            case rel => exact ⟨j + 1, by omega, rfl, by go_num, _, _, rfl, R.out⟩
        · have hp' : ((j : Int) % 2 == 1) = false := by simpa using hp
          clear hp
          go_wp2_with (at_builtin; refine wpList_append_lies _ rfl _ _ 22 rfl w.heap.size 31 i0 _ 2 16 Try.underlying22 hi0 hz0 hz1 hz2 rfl (by omega) (.slice oa j ocap) j xs rfl (O1.out.1.alloc _) ⟨wr.heap.size, 0, none⟩ 1 1 (pc ((j : Int), (j : Int))) rfl rfl ?aq1 (pc_one _) (by omega) (by unfold maxLen; omega) (by omega) ?aq2 (wr.heap.size + 1) (by simp) ?aq3)
          case aq1 => exact news0 wr #[.int .i32 ((j : Int)), .int .i64 j] 31
          case aq2 => simp; omega
          case aq3 =>
            intro g3 cap3 w3 hown3 hgrow3 hat3 hlt3
            have R := Lib.hid (O1.out.2 ((j : Int)) _ w3 _ (by omega) hgrow3 hown3)
            clear hown3 hgrow3 hat3
            go_wp2_with fail
            go_roundg (N - (j + 1))
            case measure => omega
            case rel => exact ⟨j + 1, by omega, rfl, by go_num, _, _, rfl, R.out⟩
      · go_wp2_with (at_builtin; refine wpList_append_lies _ rfl _ _ 22 rfl w.heap.size 31 i0 _ 2 16 Try.underlying22 hi0 hz0 hz1 hz2 rfl (by omega) (.slice oa j ocap) j xs rfl (O1.out.1.alloc _) ⟨wr.heap.size, 0, none⟩ 1 1 (pc ((j : Int), (j : Int))) rfl rfl ?ap1 (pc_one _) (by omega) (by unfold maxLen; omega) (by omega) ?ap2 (wr.heap.size + 1) (by simp) ?ap3)
        case ap1 => exact news0 wr #[.int .i32 ((j : Int)), .int .i64 j] 31
        case ap2 => simp; omega
        case ap3 =>
          intro g3 cap3 w3 hown3 hgrow3 hat3 hlt3
          have R := Lib.hid (O1.out.2 ((j : Int)) _ w3 _ (by omega) hgrow3 hown3)
          clear hown3 hgrow3 hat3
          go_wp2_with fail
          go_roundg (N - (j + 1))
          case measure => omega
          case rel => exact ⟨j + 1, by omega, rfl, by go_num, _, _, rfl, R.out⟩
    · have hj' : j = N := by omega
      subst hj'
      obtain ⟨L, hl, hk, ho1, ho2⟩ := ho.out
      have r0 : Rd pc 2 wr (.slice oa j ocap) L := Rd.of_own pc_len (by rw [hl]; exact ho1)
      have R0 := Lib.hid (And.intro r0 (And.intro hk ho2))
      have B0 := Lib.hid hl
      clear r0 hk ho1 ho2 hl
      go_wp2_with fail
      refine works_any.mono ?_
      rintro e w2 ⟨rfl, b2⟩
      have B2 := Lib.hid b2
      clear b2
      go_wp2_with fail
      refine (Shape_any (R0.out.1.below B2.out) R0.out.2.1 (by rw [B0.out]; omega)).mono ?_
      rintro e w3 ⟨t, v3, rfl, r3, b3, e3, a3⟩
      obtain ⟨sa3, cap3, rfl⟩ := r3.shape
      have hz : sz t ≤ 300000 := by have := sz_tree e3; rw [B0.out] at this; omega
      have pe : pOf t = pTree L := pOf_tree e3
      have B3 := Lib.hid (B2.out.trans (b3.mono B2.out.size))
      have G3 := Lib.hid (And.intro r3 (And.intro a3 (And.intro hz pe)))
      clear r3 b3 e3 a3 hz pe
      go_wp2_with fail
      refine (Tree_any (R0.out.1.below B3.out) (by rw [B0.out]; omega)).mono ?_
      rintro e w4 ⟨v4, rfl, r4, b4⟩
      obtain ⟨sa4, cap4, rfl⟩ := r4.shape
      obtain ⟨g1, g2, g3, g4⟩ := G3.out
      have HA := Lib.hid (Has_any (g1.below b4) (by rw [g4]; exact r4) g2 g3 (by rw [g4]; exact pTree_srt _))
      have B4 := Lib.hid (B3.out.trans (b4.mono B3.out.size))
      clear r4 b4 g1 g2 g3 g4
      go_wp2_with fail
      refine HA.out.mono ?_
      rintro e w5 ⟨rfl, b5⟩
      have B5 := Lib.hid (B4.out.trans (b5.mono B4.out.size))
      clear b5
      go_wp2_with fail
      go_ret
      exact ⟨rfl, R0.out.2.2.trans (B5.out.mono R0.out.2.2.size)⟩

end Go.Proofs.Ytahghidbadpkeaa
