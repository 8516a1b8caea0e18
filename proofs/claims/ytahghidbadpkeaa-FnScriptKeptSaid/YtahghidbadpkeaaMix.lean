/- The walks of impl.call and its closure, spec.Mixed, spec.At. -/
import Derived.Test.YtahghidbadpkeaaItrt
import Derived.Test.YtahghidbadpkeaaShap
set_option linter.unusedVariables false
set_option linter.unusedSimpArgs false
namespace Go.Proofs.Ytahghidbadpkeaa
open Go.Deep Go.RowKit

/-- A Mix. -/
structure Mx where
  no : Bool
  a : Int
  b : Int
  c : Int
  m : Int
  r : Int
def Mx.cells (x : Mx) : Array Value := #[.bool x.no, .int .i64 x.a, .int .i64 x.b, .int .i64 x.c, .int .i64 x.m, .int .i64 x.r]

/-- What a Mix makes of two data. -/
def mixn (x : Mx) (d y : Int) : Int := wrap64 (wrap64 (wrap64 (x.a * d) + wrap64 (x.b * y)) + x.c)
/-- It tells of them. -/
def mixok (x : Mx) (n : Int) : Bool := x.m == 0 || n.tmod x.m != x.r
def mixf (x : Mx) (d y : Int) : Option Int := if mixok x (mixn x d y) then some (mixn x d y) else none
/-- The function value of a Mix, its box at block xb. -/
def fv (x : Mx) (xb : Nat) : Value := if x.no then .nilFunc else .func (Fn.func 68) #[] #[.pointer (some ⟨xb, 0, none⟩)]

set_option maxRecDepth 100000 in
set_option maxHeartbeats 800000 in
theorem call_any {w : World} (x : Mx) : Calls Try.prog 48 #[.agg x.cells] w (fun e w' => e = .returned (fv x w.heap.size) ∧ w.alloc (.cells x.cells 39) = w') := by
  obtain ⟨no, a, b, c, m, r⟩ := x
  simp only [Mx.cells]
  cases no with
  | true =>
    go_enter Try.func48, Try.ntmps48
    go_wp2_with fail
    go_ret
    exact ⟨rfl, rfl⟩
  | false =>
    go_enter Try.func48, Try.ntmps48
    go_wp2_with fail
    go_ret
    exact ⟨rfl, rfl⟩

set_option maxRecDepth 100000 in
set_option maxHeartbeats 800000 in
theorem Mixed_any {w : World} (x : Mx) (d y : Int) : Calls Try.prog 50 #[.agg x.cells, .int .i64 d, .int .i64 y] w (fun e w' => e = .returned (.tuple #[.int .i64 (mixn x d y), .bool (mixok x (mixn x d y))]) ∧ Below w.heap.size w w') := by
  obtain ⟨no, a, b, c, m, r⟩ := x
  simp only [Mx.cells]
  by_cases hm : (m == 0) = true
  · go_enter Try.func50, Try.ntmps50
    go_wp2_with fail
    go_quiet (fail)
    go_wp2_with fail
    go_ret2
    refine ⟨?_, ((Below.refl _ w).alloc (Nat.le_refl _) _).trans ⟨rfl, rfl, rfl, Nat.le_refl _, fun _ _ => rfl⟩⟩
    have e : mixok ⟨no, a, b, c, m, r⟩ (mixn ⟨no, a, b, c, m, r⟩ d y) = true := by simp only [mixok, hm, Bool.true_or]
    rw [e]
    rfl
  · have hm' : (m == 0) = false := by simpa using hm
    have hm2 : ¬ m = 0 := by simpa using hm
    clear hm
    go_enter Try.func50, Try.ntmps50
    go_wp2_with fail
    go_quiet (fail)
    go_wp2_with fail
    go_ret2
    refine ⟨?_, ((Below.refl _ w).alloc (Nat.le_refl _) _).trans ⟨rfl, rfl, rfl, Nat.le_refl _, fun _ _ => rfl⟩⟩
    have e : mixok ⟨no, a, b, c, m, r⟩ (mixn ⟨no, a, b, c, m, r⟩ d y) = ((mixn ⟨no, a, b, c, m, r⟩ d y).tmod m != r) := by simp only [mixok, hm', Bool.false_or]
    rw [e]
    rfl

set_option maxRecDepth 100000 in
set_option maxHeartbeats 800000 in
/-- The closure. -/
theorem clos_any {w : World} {xb : Nat} (x : Mx) (d y : Int) (h : w.heap[xb]? = some (.cells x.cells 39 (0, 0))) : Calls Try.prog 68 #[.iface 3 (.int .i64 d), .iface 3 (.int .i64 y), .pointer (some ⟨xb, 0, none⟩)] w (fun e w' => e = .returned (dv (mixf x d y)) ∧ ∃ n, w' = w.drewN n) := by
  obtain ⟨no, a, b, c, m, r⟩ := x
  have hta := run_ta
  have k1 : w.cell? ⟨xb, 1, none⟩ = some (.int .i64 a) := by simp [World.cell?, h, Mx.cells]
  have k2 : w.cell? ⟨xb, 2, none⟩ = some (.int .i64 b) := by simp [World.cell?, h, Mx.cells]
  have k3 : w.cell? ⟨xb, 3, none⟩ = some (.int .i64 c) := by simp [World.cell?, h, Mx.cells]
  have k4 : w.cell? ⟨xb, 4, none⟩ = some (.int .i64 m) := by simp [World.cell?, h, Mx.cells]
  have k5 : w.cell? ⟨xb, 5, none⟩ = some (.int .i64 r) := by simp [World.cell?, h, Mx.cells]
  clear h
  have hN : Hid (mixn ⟨no, a, b, c, m, r⟩ d y = wrap64 (wrap64 (wrap64 (a * d) + wrap64 (b * y)) + c)) := by
    show mixn _ _ _ = _
    rfl
  go_enter Try.func68, Try.ntmps68
  go_wp2_with fail
  go_quiet (fail)
  obtain ⟨N, hNN⟩ : ∃ N, N = wrap64 (wrap64 (wrap64 (a * d) + wrap64 (b * y)) + c) := ⟨_, rfl⟩
  rw [← hNN]
  have HN := Lib.hid (hN.out.trans hNN.symm)
  clear hNN hN
  by_cases hm : (m == 0) = true
  · have hm3 : (m != 0) = false := by simp [bne, hm]
    go_wp2_with fail
    go_quiet (fail)
    go_wp2_with fail
    go_ret
    refine ⟨?_, by first | exact ⟨_, rfl⟩ | exact ⟨_, World.drewN_drewN ..⟩⟩
    have e : mixf ⟨no, a, b, c, m, r⟩ d y = some N := by
      rw [mixf, HN.out, if_pos (by simp only [mixok, hm, Bool.true_or])]
    rw [e]
    rfl
  · have hm' : (m == 0) = false := by simpa using hm
    have hm2 : ¬ m = 0 := by simpa using hm
    have hm3 : (m != 0) = true := by simp [bne, hm']
    clear hm
    by_cases hr : (N.tmod m == r) = true
    · go_wp2_with fail
      go_quiet (fail)
      go_wp2_with fail
      go_ret
      refine ⟨?_, by first | exact ⟨_, rfl⟩ | exact ⟨_, World.drewN_drewN ..⟩⟩
      have e : mixf ⟨no, a, b, c, m, r⟩ d y = none := by
        rw [mixf, HN.out, if_neg (by simp [mixok, hm', bne, hr])]
      rw [e]
      rfl
    · have hr' : (N.tmod m == r) = false := by simpa using hr
      clear hr
      go_wp2_with fail
      go_quiet (fail)
      go_wp2_with fail
      go_ret
      refine ⟨?_, by first | exact ⟨_, rfl⟩ | exact ⟨_, World.drewN_drewN ..⟩⟩
      have e : mixf ⟨no, a, b, c, m, r⟩ d y = some N := by
        rw [mixf, HN.out, if_pos (by simp [mixok, hm', bne, hr'])]
      rw [e]
      rfl

end Go.Proofs.Ytahghidbadpkeaa
