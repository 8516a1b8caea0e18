/- Acts: how they lie in memory; the walks of acted, impl.index, impl.found, impl.update. -/
import Derived.Test.YtahghidbadpkeaaIuni
import Derived.Test.YtahghidbadpkeaaSpdi
import Derived.Test.YtahghidbadpkeaaRoww
set_option linter.unusedVariables false
set_option linter.unusedSimpArgs false
namespace Go.Proofs.Ytahghidbadpkeaa
open Go.Deep Go.RowKit

/-- An act. -/
structure Ac where
  kd : Int
  ofv : Int
  wi : Int
  key : Int
  dt : Int
  mx : Mx
def ac (a : Ac) : List Value := [.int .i64 a.kd, .int .i64 a.ofv, .int .i64 a.wi, .int .i32 a.key, .int .i64 a.dt, .bool a.mx.no, .int .i64 a.mx.a, .int .i64 a.mx.b, .int .i64 a.mx.c, .int .i64 a.mx.m, .int .i64 a.mx.r]
theorem ac_len (a : Ac) : (ac a).length = 11 := rfl
def Ac.cells (a : Ac) : Array Value := #[.int .i64 a.kd, .int .i64 a.ofv, .int .i64 a.wi, .int .i32 a.key, .int .i64 a.dt, .bool a.mx.no, .int .i64 a.mx.a, .int .i64 a.mx.b, .int .i64 a.mx.c, .int .i64 a.mx.m, .int .i64 a.mx.r]

/-- A block that holds an act. -/
def AcAt (w : World) (b off : Nat) (a : Ac) : Prop :=
  w.cell? ⟨b, off, none⟩ = some (.int .i64 a.kd) ∧ w.cell? ⟨b, off + 1, none⟩ = some (.int .i64 a.ofv) ∧ w.cell? ⟨b, off + 2, none⟩ = some (.int .i64 a.wi) ∧ w.cell? ⟨b, off + 3, none⟩ = some (.int .i32 a.key) ∧ w.cell? ⟨b, off + 4, none⟩ = some (.int .i64 a.dt) ∧
  w.cell? ⟨b, off + 5, none⟩ = some (.bool a.mx.no) ∧ w.cell? ⟨b, off + 6, none⟩ = some (.int .i64 a.mx.a) ∧ w.cell? ⟨b, off + 7, none⟩ = some (.int .i64 a.mx.b) ∧ w.cell? ⟨b, off + 8, none⟩ = some (.int .i64 a.mx.c) ∧ w.cell? ⟨b, off + 9, none⟩ = some (.int .i64 a.mx.m) ∧ w.cell? ⟨b, off + 10, none⟩ = some (.int .i64 a.mx.r)

theorem AcAt.of_block {w : World} {b : Nat} {a : Ac} (h : w.heap[b]? = some (.cells a.cells 76 (0, 0))) : AcAt w b 0 a := by
  refine ⟨?_, ?_, ?_, ?_, ?_, ?_, ?_, ?_, ?_, ?_, ?_⟩ <;> simp [World.cell?, h, Ac.cells]

theorem Rd.act {w : World} {sa : Option Addr} {n cap : Nat} {L : List Ac} (h : Rd ac 11 w (.slice sa n cap) L) {j : Nat} {a : Ac} (hj : L[j]? = some a) :
    ∃ b off, sa = some ⟨b, off, none⟩ ∧ AcAt w b (off + j * 11) a := by
  obtain ⟨b, off, rfl, hc⟩ := h.at ac_len hj
  exact ⟨b, off, rfl, hc 0 _ rfl, hc 1 _ rfl, hc 2 _ rfl, hc 3 _ rfl, hc 4 _ rfl, hc 5 _ rfl, hc 6 _ rfl, hc 7 _ rfl, hc 8 _ rfl, hc 9 _ rfl, hc 10 _ rfl⟩

def keysB (L : List Ac) : Bool := L.all (fun a => !(a.key == -2147483648))
theorem keysB_spec {L : List Ac} (h : keysB L = true) : ∀ a ∈ L, a.key ≠ -2147483648 := by
  intro a ha
  have := List.all_eq_true.1 h a ha
  simpa using this
def actedB (L : List Ac) : Bool := keysB L && decide ((L.length : Int) ≤ 1000)

set_option maxRecDepth 100000 in
set_option maxHeartbeats 800000 in
theorem acted_any {w : World} {v : Value} {L : List Ac} (h : Rd ac 11 w v L) (hn : L.length ≤ 140737488355328) : Calls Try.prog 30 #[v] w (fun e w' => e = .returned (.bool (actedB L)) ∧ Below w.heap.size w w') := by
  obtain ⟨sa, cap, rfl⟩ := h.shape
  have RD := Lib.hid h
  clear h
  go_enter Try.func30, Try.ntmps30
  go_wp2_with fail
  go_loopg [7] (L.length) (fun k i wr => ∃ j : Nat, j ≤ L.length ∧ k = L.length - j ∧ i = .int .i64 j ∧ Hid (Below w.heap.size w wr ∧ keysB L = keysB (L.drop j)))
  case atStart => exact ⟨0, Nat.zero_le _, rfl, rfl, Below.refl _ w, rfl⟩
  case round =>
    obtain ⟨j, hj, rfl, rfl, ho⟩ := hrel
    by_cases hjn : j < L.length
    · obtain ⟨p, hp⟩ : ∃ p, L[j]? = some p := ⟨_, List.getElem?_eq_getElem hjn⟩
      obtain ⟨b, off, rfl, k0, k1, k2, k3, k4, k5, k6, k7, k8, k9, k10⟩ := (RD.out.below ho.out.1).act hp
      have ed : Hid (keysB (L.drop j) = (!(p.key == -2147483648) && keysB (L.drop (j + 1)))) := by
        have e : L.drop j = p :: L.drop (j + 1) := by
          rw [List.drop_eq_getElem_cons hjn]; congr 1
          rw [List.getElem?_eq_getElem hjn] at hp; exact Option.some.inj hp
        show keysB (L.drop j) = _
        rw [e]; rfl
      clear hp
      by_cases h0 : (p.key == -2147483648) = true
      · go_wp2_with fail
        go_ret
        exact ⟨by rw [actedB, ho.out.2, ed.out, h0]; rfl, ho.out.1.alloc ho.out.1.size _⟩
      · have h0' : (p.key == -2147483648) = false := by simpa using h0
        clear h0
        go_wp2_with fail
        go_roundg (L.length - (j + 1))
        case measure => omega
        case rel => exact ⟨j + 1, by omega, rfl, by go_num, ho.out.1.alloc ho.out.1.size _, by rw [ho.out.2, ed.out, h0']; rfl⟩
    · have hj' : j = L.length := by omega
      subst hj'
      have hk : Hid (keysB L = true) := by show keysB L = true; rw [ho.out.2, List.drop_length]; rfl
      go_wp2_with fail
      go_ret
      exact ⟨by rw [actedB, hk.out]; rfl, ho.out.1⟩

theorem and7 (k : Int) : bits .and .i64 k 7 = k % 8 := by
  have h3 : (BitVec.ofInt 64 k &&& BitVec.ofInt 64 7).toNat = (k % 18446744073709551616).toNat % 2 ^ 3 := by
    rw [BitVec.toNat_and, show (BitVec.ofInt 64 7).toNat = 2 ^ 3 - 1 from rfl, Nat.and_two_pow_sub_one_eq_mod]
    simp [BitVec.toNat_ofInt]
  show IntKind.i64.wrap ((BitVec.ofInt 64 k &&& BitVec.ofInt 64 7).toNat : Int) = _
  rw [h3, IntWalk.i64_in _ ⟨by omega, by omega⟩]
  omega
theorem and3 (k : Int) : bits .and .i64 k 3 = k % 4 := by
  have h3 : (BitVec.ofInt 64 k &&& BitVec.ofInt 64 3).toNat = (k % 18446744073709551616).toNat % 2 ^ 2 := by
    rw [BitVec.toNat_and, show (BitVec.ofInt 64 3).toNat = 2 ^ 2 - 1 from rfl, Nat.and_two_pow_sub_one_eq_mod]
    simp [BitVec.toNat_ofInt]
  show IntKind.i64.wrap ((BitVec.ofInt 64 k &&& BitVec.ofInt 64 3).toNat : Int) = _
  rw [h3, IntWalk.i64_in _ ⟨by omega, by omega⟩]
  omega

set_option maxRecDepth 100000 in
set_option maxHeartbeats 400000 in
/-- impl.index. -/
theorem index_any {w : World} {i n : Int} (hn : 0 < n) (h2 : n ≤ 1000000) : Calls Try.prog 69 #[.int .i64 i, .int .i64 n] w (fun e w' => e = .returned (.int .i64 (i % n)) ∧ w' = w) := by
  obtain ⟨b1, b2⟩ := tmod_lt (i := i) hn
  have hz : (n == 0) = false := by simp; omega
  have hw : IntKind.i64.wrap (i.tmod n) = i.tmod n := IntWalk.i64_in _ ⟨by omega, by omega⟩
  have hw2 : IntKind.i64.wrap (i.tmod n + n) = i.tmod n + n := IntWalk.i64_in _ ⟨by omega, by omega⟩
  have hp : 0 ≤ i.tmod n + n := by omega
  have e2 : (i.tmod n + n) % n = i % n := by
    have h4 := tmod_fix (i := i) hn
    by_cases hneg : i.tmod n < 0
    · rw [if_pos hneg] at h4
      rw [h4, Int.emod_emod]
    · rw [if_neg hneg] at h4
      rw [h4, Int.add_emod_right, Int.emod_emod]
  have h5 : 0 ≤ i % n := Int.emod_nonneg _ (by omega)
  have h6 : i % n < n := Int.emod_lt_of_pos _ hn
  have e : (i.tmod n + n).tmod n = i % n := by rw [Int.tmod_eq_emod_of_nonneg hp, e2]
  have hw3 : IntKind.i64.wrap ((i.tmod n + n).tmod n) = i % n := by
    rw [e]
    exact IntWalk.i64_in _ ⟨by omega, by omega⟩
  have E2 := Lib.hid e2
  clear e e2
  go_enter Try.func69, Try.ntmps69
  go_wp2_with fail
  go_ret
  refine ⟨?_, rfl⟩
  show Ending.returned (.int .i64 ((i.tmod n + n) % n)) = _
  rw [E2.out]

theorem found_zero (wr : World) : (wr.alloc (.cells #[.int .i32 0, .int .i64 0, .bool false] 71)).heap[wr.heap.size]? = some (.cells #[.int .i32 0, .int .i64 0, .bool false] 71 (0, 0)) := heap_alloc_new _ _

set_option maxRecDepth 100000 in
set_option maxHeartbeats 800000 in
/-- impl.found. -/
theorem found_any {w : World} (x : Int) (d : Option Int) : Calls Try.prog 84 #[.int .i32 x, dv d] w (fun e w' => e = .returned (fnd x d) ∧ Below w.heap.size w w') := by
  have hta := run_ta
  cases d with
  | none =>
    simp only [dv]
    go_enter Try.func84, Try.ntmps84
    go_wp2_with fail
    (try simp only [Exit.inBlock, Exit.then])
    refine bodyPost_ret (results_cell_row (P := Try.prog) rfl _ _ w.heap.size 71 #[.int .i32 x, .int .i64 0, .bool false] (0, 0) _ rfl (heap_alloc_new w _) Try.underlying71 rfl (by kernel_rfl)) rfl ?_
    exact ⟨rfl, (Below.refl _ w).alloc (Nat.le_refl _) _⟩
  | some n =>
    simp only [dv]
    go_enter Try.func84, Try.ntmps84
    go_wp2_with fail
    (try simp only [Exit.inBlock, Exit.then])
    refine bodyPost_ret (results_cell_row (P := Try.prog) rfl _ _ w.heap.size 71 #[.int .i32 x, .int .i64 n, .bool true] (0, 0) _ rfl (heap_alloc_new w _) Try.underlying71 rfl (by kernel_rfl)) rfl ?_
    exact ⟨rfl, (Below.refl _ w).alloc (Nat.le_refl _) _⟩

end Go.Proofs.Ytahghidbadpkeaa
