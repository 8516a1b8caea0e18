/- The walks of node.iterator, Iterator, Done and Next. -/
import Derived.Test.YtahghidbadpkeaaNext
import Derived.Deep.Onto
set_option linter.unusedVariables false
set_option linter.unusedSimpArgs false
namespace Go.Proofs.Ytahghidbadpkeaa
open Go.Deep Go.RowKit

theorem mk94 (n : Nat) (hn : n ≤ 1000) (w : World) : (Instr.makeSlice 104 (.int .i64 0) (.int .i64 (n : Int))).run Try.prog w = .ok (.slice (some ⟨w.heap.size, 0, none⟩) 0 n) (w.alloc (.cells (madeCells #[.pointer none] n) 94)) := by
  obtain ⟨i0, hi0, hz0, hz1, hz2⟩ := info_parts info94
  have := run_make (P := Try.prog) (w := w) 104 94 i0 _ Try.underlying104 hi0 hz0 .i64 .i64 0 n (by omega) (by omega) (by rw [hz2]; omega) (by omega)
  rw [hz1] at this
  simpa [Value.cells] using this

def IsPost (t : BT Nd) (w : World) (e : Ending) (w' : World) : Prop :=
  ∃ sa n cap, e = .returned (.agg #[.slice sa n cap]) ∧ n = (lp t []).length ∧ w'.ownsRow w.heap.size 94 1 (.slice sa n cap) n (fl pl (lp t []).reverse) ∧ Below w.heap.size w w'

set_option maxRecDepth 100000 in
set_option maxHeartbeats 800000 in
theorem iter_any {w : World} {t : BT Nd} (h : Holds w t) (ha : Avl t) (hh : ht t ≤ 100) : Calls Try.prog 80 #[.pointer (pt t)] w (IsPost t w) := by
  cases t with
  | nil =>
    clear h ha
    simp only [pt]
    go_enter Try.func80, Try.ntmps80
    go_wp2_with fail
    (try simp only [Exit.inBlock, Exit.then])
    refine bodyPost_ret (results_cell_row (P := Try.prog) rfl _ _ w.heap.size 106 #[.slice none 0 0] (0, 0) _ rfl (heap_alloc_new w _) Try.underlying106 rfl (by kernel_rfl)) rfl ?_
    exact ⟨none, 0, 0, rfl, rfl, World.ownsRow_nil _ _ _ _, (Below.refl _ w).alloc (Nat.le_refl _) _⟩
  | node b o a l r =>
    obtain ⟨rfl, hcel, hl, hr⟩ := id h
    have HT := Lib.hid (fun w' (hw : Holds w' (.node b 0 a l r)) => height_any (.node b 0 a l r) w' hw)
    have hsh := Avl.sh ha
    have hw1 : IntKind.i64.wrap (ht (.node b 0 a l r) : Int) = (ht (.node b 0 a l r) : Int) := IntWalk.i64_in _ ⟨by omega, by omega⟩
    have hmk := mk94 (ht (.node b 0 a l r)) (by omega)
    have H0 := Lib.hid (And.intro h hsh)
    have LM := Lib.hid (fun (W : World) (B ib : Nat) (ty : TypeId) (v : Value) (hi : It W B ib ty v []) (hw : Holds W (.node b 0 a l r)) (hb : ∀ k ∈ blks (.node b 0 a l r), k < B) => leftmost_any hi hw hb (by simp; omega))
    clear h ha hl hr hcel hsh
    generalize hHT : ht (.node b 0 a l r) = HTT at *
    simp only [pt]
    go_enter Try.func80, Try.ntmps80
    go_wp2_with fail
    refine (HT.out _ (H0.out.1.alloc _)).mono ?_
    rintro e w1 ⟨rfl, hw⟩
    rw [hw, H0.out.2]
    clear hw w1
    go_wp2_with fail
    have IT0 : It (((w.alloc (.cells #[.slice none 0 0] 106)).alloc (.cells (madeCells #[.pointer none] HTT) 94)).alloc (.cells #[.slice (some ⟨w.heap.size + 1, 0, none⟩) 0 HTT] 106)) (w.heap.size + 1) (w.heap.size + 1 + 1) 106 (.slice (some ⟨w.heap.size + 1, 0, none⟩) 0 HTT) [] := by
      refine ⟨?_, ?_, ?_, by omega, fun e he => by simp at he, fun e he => by simp at he⟩
      · have := heap_alloc_new ((w.alloc (.cells #[.slice none 0 0] 106)).alloc (.cells (madeCells #[.pointer none] HTT) 94)) (.cells #[.slice (some ⟨w.heap.size + 1, 0, none⟩) 0 HTT] 106)
        simpa using this
      · have h1 := heap_alloc_new (w.alloc (.cells #[.slice none 0 0] 106)) (.cells (madeCells #[.pointer none] HTT) 94)
        have h2 : ((((w.alloc (.cells #[.slice none 0 0] 106)).alloc (.cells (madeCells #[.pointer none] HTT) 94)).alloc (.cells #[.slice (some ⟨w.heap.size + 1, 0, none⟩) 0 HTT] 106)).heap)[w.heap.size + 1]? = some (.cells (madeCells #[.pointer none] HTT) 94) := by
          refine (Below.heap_alloc _ _ _ (by simp)).trans ?_
          simpa using h1
        exact ⟨by simp [fl], .inr ⟨w.heap.size + 1, HTT, _, rfl, by omega, h2, Nat.zero_le _, by simp [maxLen]; omega, by simp [madeCells], by simp [fl]⟩⟩
      · simp [Value.ownBlock]
    have LM2 := Lib.hid (LM.out _ (w.heap.size + 1) _ _ _ IT0 (((H0.out.1.alloc _).alloc _).alloc _) (fun k hk => Nat.lt_succ_of_lt (H0.out.1.lt k hk)))
    clear IT0
    refine LM2.out.mono ?_
    rintro e w2 ⟨rfl, v2, i2, c2, _⟩
    obtain ⟨sa, cap, rfl⟩ := owns_shape i2.ow
    have o2 : w2.cell? ⟨w.heap.size + 1 + 1, 0, none⟩ = some (.slice sa (lp (.node b 0 a l r) []).length cap) := by simp [World.cell?, i2.hd]
    have b2 : w2.heap[w.heap.size]? = some (.cells #[.slice none 0 0] 106) := by
      refine (c2.block w.heap.size (by simp; omega) ?_).trans ?_
      · rintro (e | e)
        · omega
        · have := Option.some.inj e; simp at this
      · refine (Below.heap_alloc _ _ _ (by simp; omega)).trans ?_
        refine (Below.heap_alloc _ _ _ (by simp)).trans ?_
        exact heap_alloc_new w _
    have p2 : w2.cell? ⟨w.heap.size, 0, none⟩ = some (.slice none 0 0) := by simp [World.cell?, b2]
    have f2 : w2.frozen? ⟨w.heap.size, 0, none⟩ = false := by simp [World.frozen?, b2]
    have Q := Lib.hid (And.intro i2 (And.intro c2 b2))
    clear i2 c2 b2 LM2 LM
    obtain ⟨N, hN⟩ : ∃ N, N = (lp (.node b 0 a l r) []).length := ⟨_, rfl⟩
    rw [← hN] at o2 Q
    have HN := Lib.hid hN
    clear hN
    go_wp2_with fail
    (try simp only [Exit.inBlock, Exit.then])
    have b3 : (w2.setCell ⟨w.heap.size, 0, none⟩ (.slice sa N cap)).heap[w.heap.size]? = some (.cells #[.slice sa N cap] 106) := by simp [World.setCell, Array.getElem?_modify, Q.out.2.2]
    refine bodyPost_ret (results_cell_row (P := Try.prog) rfl _ _ w.heap.size 106 #[.slice sa N cap] (0, 0) _ rfl b3 Try.underlying106 rfl (by kernel_rfl)) rfl ?_
    obtain ⟨i2, c2, b2⟩ := Q.out
    have cs := (Chg.refl (fun k => k = w.heap.size) w2).setCell ⟨w.heap.size, 0, none⟩ (.slice sa N cap) (fun _ => rfl)
    have ow := i2.ow
    rw [← HN.out] at ow
    have hlt := i2.ow.lt
    refine ⟨sa, N, cap, rfl, HN.out, World.ownsRow.mono (row_chg ow cs (fun k hk e => by have := (ow.lt k hk).1; omega)) (Nat.le_succ _), ?_⟩
    have B0 : Below w.heap.size w (((w.alloc (.cells #[.slice none 0 0] 106)).alloc (.cells (madeCells #[.pointer none] HTT) 94)).alloc (.cells #[.slice (some ⟨w.heap.size + 1, 0, none⟩) 0 HTT] 106)) :=
      (((Below.refl _ w).alloc (Nat.le_refl _) _).alloc (by simp) _).alloc (by simp; omega) _
    have C2 := (c2.mono (S' := fun k => w.heap.size ≤ k) (fun k _ hk => by
      rcases hk with rfl | hk
      · omega
      · have := Option.some.inj hk; simp at this; omega)).below (B := w.heap.size) (by simp; omega) (fun _ h => h)
    exact (B0.trans C2).setCell (p := ⟨w.heap.size, 0, none⟩) (Nat.le_refl _) _

end Go.Proofs.Ytahghidbadpkeaa
