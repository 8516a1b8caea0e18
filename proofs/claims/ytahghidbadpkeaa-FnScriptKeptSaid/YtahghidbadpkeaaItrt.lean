/- The walks of Iterator, Done and Next. -/
import Derived.Test.YtahghidbadpkeaaItrs
import Derived.BigQuiet
set_option linter.unusedVariables false
set_option linter.unusedSimpArgs false
namespace Go.Proofs.Ytahghidbadpkeaa
open Go.Deep Go.RowKit

set_option maxRecDepth 100000 in
set_option maxHeartbeats 800000 in
theorem Iterator_any {w : World} {tb : Nat} {t : BT Nd} (g : Good w tb t) (hn : sz t ≤ 300000) : Calls Try.prog 64 #[.pointer (some ⟨tb, 0, none⟩)] w (IsPost t w) := by
  have c0 := g.hd.c0
  have tlt := g.hd.lt
  have hlow := g.A.low hn
  have IA := Lib.hid (iter_any (g.H.alloc (.cells #[.slice none 0 0] 108)) g.A (by omega))
  clear g hlow
  go_enter Try.func64, Try.ntmps64
  go_wp2_with fail
  refine IA.out.mono ?_
  rintro e w2 ⟨sa, n, cap, rfl, hn, o2, b2⟩
  have b20 : w2.heap[w.heap.size]? = some (.cells #[.slice none 0 0] 108) := (b2.block _ (by simp)).trans (heap_alloc_new w _)
  have p2 : w2.cell? ⟨w.heap.size, 0, none⟩ = some (.slice none 0 0) := by simp [World.cell?, b20]
  have f2 : w2.frozen? ⟨w.heap.size, 0, none⟩ = false := by simp [World.frozen?, b20]
  have Q := Lib.hid (And.intro o2 (And.intro b2 (And.intro b20 hn)))
  clear o2 b2 b20 hn
  go_wp2_with fail
  (try simp only [Exit.inBlock, Exit.then])
  have b3 : (w2.setCell ⟨w.heap.size, 0, none⟩ (.slice sa n cap)).heap[w.heap.size]? = some (.cells #[.slice sa n cap] 108) := by simp [World.setCell, Array.getElem?_modify, Q.out.2.2.1]
  refine bodyPost_ret (results_cell_row (P := Try.prog) rfl _ _ w.heap.size 108 #[.slice sa n cap] (0, 0) _ rfl b3 Try.underlying108 rfl (by kernel_rfl)) rfl ?_
  obtain ⟨o2, b2, b20, hn⟩ := Q.out
  rw [World.size_alloc] at o2 b2
  have cs := (Chg.refl (fun k => k = w.heap.size) w2).setCell ⟨w.heap.size, 0, none⟩ (.slice sa n cap) (fun _ => rfl)
  refine ⟨sa, n, cap, rfl, hn, World.ownsRow.mono (row_chg o2 cs (fun k hk e => by have := (o2.lt k hk).1; omega)) (Nat.le_succ _), ?_⟩
  exact (((Below.refl _ w).alloc (Nat.le_refl _) _).trans (b2.mono (Nat.le_succ _))).setCell (p := ⟨w.heap.size, 0, none⟩) (Nat.le_refl _) _

set_option maxRecDepth 100000 in
set_option maxHeartbeats 800000 in
theorem Done_any {w : World} {B ib : Nat} {v : Value} {s : List Ent} (h : It w B ib 108 v s) : Calls Try.prog 65 #[.pointer (some ⟨ib, 0, none⟩)] w (fun e w' => e = .returned (.bool (s.length == 0)) ∧ w' = w) := by
  obtain ⟨sa, cap, rfl⟩ := owns_shape h.ow
  have o0 : w.cell? ⟨ib, 0, none⟩ = some (.slice sa s.length cap) := by simp [World.cell?, h.hd]
  clear h
  go_enter Try.func65, Try.ntmps65
  go_wp2_with fail
  go_ret
  refine ⟨?_, rfl⟩
  show Ending.returned (.bool ((s.length : Int) == 0)) = _
  have : ((s.length : Int) == 0) = (s.length == 0) := by
    cases s with
    | nil => rfl
    | cons e s => simp only [List.length_cons]; rw [Bool.eq_iff_iff]; simp; omega
  rw [this]

def Nx2Post (B ib : Nat) (v : Value) (D : Nat) (a : Nd) (P : List (Int × Option Int)) (w : World) (e : Ending) (w' : World) : Prop :=
  e = .returned (.tuple #[.int .i32 a.k, dv a.d]) ∧ ∃ s', ItPost B ib 108 v w s' w' ∧ Stk s' ∧ Lim D s' ∧ pend s' = P ∧ topF s'

set_option maxRecDepth 100000 in
set_option maxHeartbeats 800000 in
theorem Next_any {w : World} {B ib : Nat} {v : Value} {s : List Ent} {b o D : Nat} {a : Nd} {l r : BT Nd} (hD : D ≤ 1000) (h : It w B ib 108 v ((.node b o a l r, false) :: s)) (hs : Stk ((.node b o a l r, false) :: s)) (hL : Lim D ((.node b o a l r, false) :: s)) :
    Calls Try.prog 66 #[.pointer (some ⟨ib, 0, none⟩)] w (Nx2Post B ib v D a (prs r ++ pend s) w) := by
  have N := Lib.hid (next_any hD h hs hL)
  have h0 := h.H _ (List.mem_cons_self ..)
  obtain ⟨rfl, hcel, _, _⟩ := h0
  have bB : b < B := h.bl _ (List.mem_cons_self ..) b (List.mem_cons_self ..)
  have C := Lib.hid (fun w2 (c : Chg (fun k => k = ib ∨ v.ownBlock = some k) w w2) => c.cel hcel (by
    rintro (e | e)
    · have := h.lo; omega
    · have := (h.ow.lt b e).1; omega))
  clear h hs hL hcel
  obtain ⟨k, d, hh⟩ := a
  go_enter Try.func66, Try.ntmps66
  go_wp2_with fail
  refine N.out.mono ?_
  rintro e w2 ⟨rfl, s', ⟨v', i', c', a'⟩, q1, q2, q3⟩
  have cc := C.out w2 c'
  have k2 := cc.c2
  have k3 := cc.c3
  have Q := Lib.hid (And.intro i' (And.intro c' (And.intro a' (And.intro q1 (And.intro q2 q3)))))
  clear i' c' a' q1 q2 q3 cc
  try simp only at k2 k3
  go_wp2_with fail
  go_quiet (fail)
  go_wp2_with fail
  go_ret2
  obtain ⟨i', c', a', q1, q2, q3⟩ := Q.out
  exact ⟨rfl, s', ⟨v', i'.chg ((Chg.refl (fun _ => False) w2).drewN _) (fun h => h) (fun _ _ h => h) (fun _ h => h.elim), c'.drewN _, a'⟩, q1, q2, q3⟩

end Go.Proofs.Ytahghidbadpkeaa
