/- The walks of spec.IsOrdered and spec.Same at lists that are in order, and the same. -/
import Derived.Test.YtahghidbadpkeaaSpea
set_option linter.unusedVariables false
set_option linter.unusedSimpArgs false
namespace Go.Proofs.Ytahghidbadpkeaa
open Go.Deep Go.RowKit

set_option maxRecDepth 100000 in
set_option maxHeartbeats 400000 in
theorem Same_any {w : World} {v v' : Value} {L : List (Int × Int)} (h : Rd pc 2 w v L) (h' : Rd pc 2 w v' L) (hn : L.length ≤ 140737488355328) : Calls Try.prog 40 #[v, v'] w (fun e w' => e = .returned (.bool true) ∧ Below w.heap.size w w') := by
  obtain ⟨sa, cap, rfl⟩ := h.shape
  obtain ⟨ta, tcap, rfl⟩ := h'.shape
  have RD := Lib.hid (And.intro h h')
  clear h h'
  go_enter Try.func40, Try.ntmps40
  go_wp2_with fail
  go_loopg [14] (L.length) (fun k i wr => ∃ j : Nat, j ≤ L.length ∧ k = L.length - j ∧ i = .int .i64 j ∧ Hid (Below w.heap.size w wr))
  case atStart => exact ⟨0, Nat.zero_le _, rfl, rfl, Below.refl _ w⟩
  case round =>
    obtain ⟨j, hj, rfl, rfl, ho⟩ := hrel
    by_cases hjn : j < L.length
    · obtain ⟨p, hp⟩ : ∃ p, L[j]? = some p := ⟨_, List.getElem?_eq_getElem hjn⟩
      obtain ⟨b, off, rfl, hc⟩ := (RD.out.1.below ho.out).at pc_len hp
      obtain ⟨b', off', rfl, hc'⟩ := (RD.out.2.below ho.out).at pc_len hp
      have k0 : wr.cell? ⟨b, off + j * 2, none⟩ = some (.int .i32 p.1) := hc 0 _ rfl
      have k1 : wr.cell? ⟨b, off + j * 2 + 1, none⟩ = some (.int .i64 p.2) := hc 1 _ rfl
      have k0' : wr.cell? ⟨b', off' + j * 2, none⟩ = some (.int .i32 p.1) := hc' 0 _ rfl
      have k1' : wr.cell? ⟨b', off' + j * 2 + 1, none⟩ = some (.int .i64 p.2) := hc' 1 _ rfl
      have hlt := World.block_lt_of_cell? wr _ k0'
      have hj0 : (0 : Int) ≤ (j : Int) := Int.natCast_nonneg _
      have hj1 : (j : Int) < (L.length : Int) := by omega
      clear hc hc' hp
      go_wp2_with fail
      go_quiet (fail)
      go_wp2_with fail
      go_roundg (L.length - (j + 1))
      case measure => omega
      case rel => exact ⟨j + 1, by omega, rfl, by go_num, (ho.out.alloc ho.out.size _).trans ⟨rfl, rfl, rfl, Nat.le_refl _, fun _ _ => rfl⟩⟩
    · go_wp2_with fail
      go_ret
      exact ⟨rfl, ho.out⟩

/-- Keys ascend. -/
def PSrt (L : List (Int × Int)) : Prop := L.Pairwise (fun a b => a.1 < b.1)
theorem PSrt.step {L : List (Int × Int)} (h : PSrt L) {j : Nat} {p q : Int × Int} (hp : L[j]? = some p) (hq : L[j + 1]? = some q) : p.1 < q.1 := by
  obtain ⟨h1, rfl⟩ := List.getElem?_eq_some_iff.1 hp
  obtain ⟨h2, rfl⟩ := List.getElem?_eq_some_iff.1 hq
  exact List.pairwise_iff_getElem.1 h j (j + 1) h1 h2 (by omega)

set_option maxRecDepth 100000 in
set_option maxHeartbeats 400000 in
theorem IsOrdered_any {w : World} {v : Value} {L : List (Int × Int)} (h : Rd pc 2 w v L) (hs : PSrt L) (hn : L.length ≤ 140737488355328) : Calls Try.prog 39 #[v] w (fun e w' => e = .returned (.bool true) ∧ Below w.heap.size w w') := by
  obtain ⟨sa, cap, rfl⟩ := h.shape
  have RD := Lib.hid h
  clear h
  go_enter Try.func39, Try.ntmps39
  go_wp2_with fail
  go_loopg [3] (L.length) (fun k i wr => ∃ j : Nat, (j < L.length ∨ j = 0) ∧ k = L.length - j ∧ i = .int .i64 ((j : Int) + 1) ∧ Hid (Below w.heap.size w wr))
  case atStart => exact ⟨0, .inr rfl, rfl, rfl, Below.refl _ w⟩
  case round =>
    obtain ⟨j, hj, rfl, rfl, ho⟩ := hrel
    by_cases hjn : j + 1 < L.length
    · obtain ⟨p, hp⟩ : ∃ p, L[j]? = some p := ⟨_, List.getElem?_eq_getElem (by omega)⟩
      obtain ⟨q, hq⟩ : ∃ q, L[j + 1]? = some q := ⟨_, List.getElem?_eq_getElem hjn⟩
      obtain ⟨b, off, rfl, hc⟩ := (RD.out.below ho.out).at pc_len hp
      obtain ⟨b', off', e, hc'⟩ := (RD.out.below ho.out).at pc_len hq
      cases e
      have k0 : wr.cell? ⟨b, off + j * 2, none⟩ = some (.int .i32 p.1) := hc 0 _ rfl
      have k1 : wr.cell? ⟨b, off + (j + 1) * 2, none⟩ = some (.int .i32 q.1) := hc' 0 _ rfl
      have hlt := hs.step hp hq
      have hj0 : (0 : Int) ≤ (j : Int) := Int.natCast_nonneg _
      have hj1 : (j : Int) < (L.length : Int) := by omega
      have hj2 : (j : Int) + 1 < (L.length : Int) := by omega
      clear hc hc' hp hq
      go_wp2_with fail
      go_quiet (fail)
      go_wp2_with fail
      go_roundg (L.length - (j + 1))
      case measure => omega
      case rel => exact ⟨j + 1, .inl (by omega), rfl, by go_num, ho.out.trans ⟨rfl, rfl, rfl, Nat.le_refl _, fun _ _ => rfl⟩⟩
    · go_wp2_with fail
      go_ret
      exact ⟨rfl, ho.out⟩

end Go.Proofs.Ytahghidbadpkeaa
