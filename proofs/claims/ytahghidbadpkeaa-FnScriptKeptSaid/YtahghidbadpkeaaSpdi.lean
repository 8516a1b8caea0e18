/- The walks of spec.At and spec.Difference. -/
import Derived.Test.YtahghidbadpkeaaMix
import Derived.Test.YtahghidbadpkeaaDiff
import Derived.Test.YtahghidbadpkeaaDele
set_option linter.unusedVariables false
set_option linter.unusedSimpArgs false
namespace Go.Proofs.Ytahghidbadpkeaa
open Go.Deep Go.RowKit

def atP (x : Int) : List (Int × Int) → Option Int
  | [] => none
  | p :: L => if p.1 == x then some p.2 else atP x L
def fnd (x : Int) (o : Option Int) : Value := .agg #[.int .i32 x, .int .i64 (o.getD 0), .bool o.isSome]

theorem found_block {wr : World} {g : Nat} {u0 u1 u2 : Value} (h : wr.heap[g]? = some (.cells #[u0, u1, u2] 71 (0, 0))) (a d o : Value) : (((wr.setCell ⟨g, 0, none⟩ a).setCell ⟨g, 1, none⟩ d).setCell ⟨g, 2, none⟩ o).heap[g]? = some (.cells #[a, d, o] 71 (0, 0)) := by
  simp [World.setCell, Array.getElem?_modify, h]
theorem found_below {w wr : World} (h : Below w.heap.size w wr) (a d o : Value) : Below w.heap.size w (((wr.setCell ⟨w.heap.size, 0, none⟩ a).setCell ⟨w.heap.size, 1, none⟩ d).setCell ⟨w.heap.size, 2, none⟩ o) :=
  ((h.setCell (p := ⟨w.heap.size, 0, none⟩) (Nat.le_refl _) _).setCell (p := ⟨w.heap.size, 1, none⟩) (Nat.le_refl _) _).setCell (p := ⟨w.heap.size, 2, none⟩) (Nat.le_refl _) _

set_option maxRecDepth 100000 in
set_option maxHeartbeats 800000 in
theorem At_any {w : World} {v : Value} {L : List (Int × Int)} (x : Int) (h : Rd pc 2 w v L) (hn : L.length ≤ 300000) : Calls Try.prog 49 #[v, .int .i32 x] w (fun e w' => e = .returned (fnd x (atP x L)) ∧ Below w.heap.size w w') := by
  obtain ⟨sa, cap, rfl⟩ := h.shape
  have RD := Lib.hid h
  clear h
  go_enter Try.func49, Try.ntmps49
  go_wp2_with fail
  go_loopg [9] (L.length) (fun k i wr => ∃ j : Nat, j ≤ L.length ∧ k = L.length - j ∧ i = .int .i64 j ∧ Hid (wr.heap[w.heap.size]? = some (.cells #[.int .i32 0, .int .i64 0, .bool false] 71 (0, 0)) ∧ Below w.heap.size w wr ∧ atP x L = atP x (L.drop j)))
  case atStart => exact ⟨0, Nat.zero_le _, rfl, rfl, heap_alloc_new w _, (Below.refl _ w).alloc (Nat.le_refl _) _, rfl⟩
  case round =>
    obtain ⟨j, hj, rfl, rfl, ho⟩ := hrel
    have hb0 := ho.out.1
    have hblt := (Array.getElem?_eq_some_iff.1 hb0).1
    have z0 : wr.cell? ⟨w.heap.size, 0, none⟩ = some (.int .i32 0) := by simp [World.cell?, hb0]
    have z1 : wr.cell? ⟨w.heap.size, 1, none⟩ = some (.int .i64 0) := by simp [World.cell?, hb0]
    have z2 : wr.cell? ⟨w.heap.size, 2, none⟩ = some (.bool false) := by simp [World.cell?, hb0]
    have f0 : wr.frozen? ⟨w.heap.size, 0, none⟩ = false := by simp [World.frozen?, hb0]
    have f1 : wr.frozen? ⟨w.heap.size, 1, none⟩ = false := by simp [World.frozen?, hb0]
    have f2 : wr.frozen? ⟨w.heap.size, 2, none⟩ = false := by simp [World.frozen?, hb0]
    clear hb0
    by_cases hjn : j < L.length
    · obtain ⟨p, hp⟩ : ∃ p, L[j]? = some p := ⟨_, List.getElem?_eq_getElem hjn⟩
      obtain ⟨b, off, rfl, hc⟩ := (RD.out.below ho.out.2.1).at pc_len hp
      have k0 : wr.cell? ⟨b, off + j * 2, none⟩ = some (.int .i32 p.1) := hc 0 _ rfl
      have k1 : wr.cell? ⟨b, off + j * 2 + 1, none⟩ = some (.int .i64 p.2) := hc 1 _ rfl
      have ed : Hid (atP x (L.drop j) = if p.1 == x then some p.2 else atP x (L.drop (j + 1))) := by
        have e : L.drop j = p :: L.drop (j + 1) := by
          rw [List.drop_eq_getElem_cons hjn]; congr 1
          rw [List.getElem?_eq_getElem hjn] at hp; exact Option.some.inj hp
        show atP x (L.drop j) = _
        rw [e]; rfl
      clear hc hp
      by_cases h0 : (p.1 == x) = true
      · have H0 := Lib.hid h0
        go_wp2_with fail
        (try simp only [Exit.inBlock, Exit.then])
        refine bodyPost_ret (results_cell_row (P := Try.prog) rfl _ _ w.heap.size 71 #[.int .i32 x, .int .i64 p.2, .bool true] (0, 0) _ rfl ((Below.heap_alloc _ _ _ (by simp; omega)).trans (found_block ho.out.1 _ _ _)) Try.underlying71 rfl (by kernel_rfl)) rfl ?_
        refine ⟨?_, (found_below ho.out.2.1 _ _ _).alloc (by have := ho.out.2.1.size; simp; omega) _⟩
        rw [ho.out.2.2, ed.out, H0.out]; rfl
      · have h0' : (p.1 == x) = false := by simpa using h0
        clear h0
        go_wp2_with fail
        go_roundg (L.length - (j + 1))
        case measure => omega
        case rel => exact ⟨j + 1, by omega, rfl, by go_num, (Below.heap_alloc _ _ _ hblt).trans ho.out.1, ho.out.2.1.alloc ho.out.2.1.size _, by rw [ho.out.2.2, ed.out, h0']; rfl⟩
    · have hj' : j = L.length := by omega
      subst hj'
      go_wp2_with fail
      (try simp only [Exit.inBlock, Exit.then])
      refine bodyPost_ret (results_cell_row (P := Try.prog) rfl _ _ w.heap.size 71 #[.int .i32 x, .int .i64 0, .bool false] (0, 0) _ rfl (found_block ho.out.1 _ _ _) Try.underlying71 rfl (by kernel_rfl)) rfl ?_
      refine ⟨?_, found_below ho.out.2.1 _ _ _⟩
      rw [ho.out.2.2, List.drop_length]; rfl

def dstep (x : Mx) (B : List (Int × Int)) (p : Int × Int) : List (Int × Int) :=
  match atP p.1 B with
  | none => [p]
  | some y => if mixok x (mixn x p.2 y) && !x.no then [(p.1, mixn x p.2 y)] else []
/-- The difference, as the reference has it. -/
def pDiff (x : Mx) (A B : List (Int × Int)) : List (Int × Int) := A.flatMap (dstep x B)
theorem dstep_len (x : Mx) (B : List (Int × Int)) (p : Int × Int) : (dstep x B p).length ≤ 1 := by
  unfold dstep
  split
  · simp
  · split <;> simp

set_option maxRecDepth 100000 in
set_option maxHeartbeats 1600000 in
theorem Diff_spec {w : World} {v bv : Value} {A B : List (Int × Int)} (x : Mx) (h : Rd pc 2 w v A) (hB : Rd pc 2 w bv B) (hn : A.length ≤ 300000) (hn2 : B.length ≤ 300000) : Calls Try.prog 24 #[v, bv, .agg x.cells] w (fun e w' => ∃ v', e = .returned v' ∧ Rd pc 2 w' v' (pDiff x A B) ∧ Below w.heap.size w w') := by
  obtain ⟨sa, cap, rfl⟩ := h.shape
  obtain ⟨ba, bcap, rfl⟩ := hB.shape
  obtain ⟨i0, hi0, hz0, hz1, hz2⟩ := info_parts info31
  have RD := Lib.hid (And.intro h hB)
  have AT := Lib.hid (fun (W : World) (k : Int) (hb : Below w.heap.size w W) => At_any k (hB.below hb) hn2)
  have MX := Lib.hid (fun (W : World) (d y : Int) => Mixed_any (w := W) x d y)
  clear h hB
  obtain ⟨no, ca, cb, cc, cm, cr⟩ := x
  simp only [Mx.cells] at *
  go_enter Try.func24, Try.ntmps24
  go_wp2_with fail
  go_loopg [7, 15] (A.length) (fun k out i wr => ∃ j : Nat, j ≤ A.length ∧ k = A.length - j ∧ i = .int .i64 j ∧ ∃ oa on ocap, out = .slice oa on ocap ∧ on ≤ j ∧ Hid (on = (pDiff ⟨no, ca, cb, cc, cm, cr⟩ (A.take j) B).length ∧ wr.ownsRow (w.heap.size + 1) 31 2 (.slice oa on ocap) on (fl pc (pDiff ⟨no, ca, cb, cc, cm, cr⟩ (A.take j) B)) ∧ wr.heap[w.heap.size]? = some (.cells #[.bool no, .int .i64 ca, .int .i64 cb, .int .i64 cc, .int .i64 cm, .int .i64 cr] 39 (0, 0)) ∧ Below w.heap.size w wr))
  case atStart => exact ⟨0, Nat.zero_le _, rfl, rfl, none, 0, 0, rfl, Nat.zero_le _, rfl, World.ownsRow_nil _ _ _ _, heap_alloc_new w _, (Below.refl _ w).alloc (Nat.le_refl _) _⟩
  case round =>
    obtain ⟨j, hj, rfl, rfl, oa, on, ocap, rfl, hon, ho⟩ := hrel
    by_cases hjn : j < A.length
    · obtain ⟨p, hp⟩ : ∃ p, A[j]? = some p := ⟨_, List.getElem?_eq_getElem hjn⟩
      obtain ⟨b, off, rfl, hc⟩ := (RD.out.1.below ho.out.2.2.2).at pc_len hp
      have k0 : wr.cell? ⟨b, off + j * 2, none⟩ = some (.int .i32 p.1) := hc 0 _ rfl
      have k1 : wr.cell? ⟨b, off + j * 2 + 1, none⟩ = some (.int .i64 p.2) := hc 1 _ rfl
      have FS : Hid (pDiff ⟨no, ca, cb, cc, cm, cr⟩ (A.take (j + 1)) B = pDiff ⟨no, ca, cb, cc, cm, cr⟩ (A.take j) B ++ dstep ⟨no, ca, cb, cc, cm, cr⟩ B p) := by
        show pDiff _ _ _ = _
        rw [List.take_add_one, hp, pDiff, pDiff, List.flatMap_append]; simp
      clear hc hp
      go_wp2_with fail
      refine (AT.out _ _ (ho.out.2.2.2.alloc ho.out.2.2.2.size _)).mono ?_
      rintro e w2 ⟨rfl, b2⟩
      have hs2 := b2.size
      rw [World.size_alloc] at hs2
      have hsr := ho.out.2.2.2.size
      have hbw := (Array.getElem?_eq_some_iff.1 ho.out.2.2.1).1
      have pb : w2.heap[wr.heap.size]? = some (.cells #[.int .i32 p.1, .int .i64 p.2] 31 (0, 0)) := (b2.block _ (by simp)).trans (heap_alloc_new wr _)
      have q0 : w2.cell? ⟨wr.heap.size, 0, none⟩ = some (.int .i32 p.1) := by simp [World.cell?, pb]
      have q1 : w2.cell? ⟨wr.heap.size, 1, none⟩ = some (.int .i64 p.2) := by simp [World.cell?, pb]
      have mb : w2.heap[w.heap.size]? = some (.cells #[.bool no, .int .i64 ca, .int .i64 cb, .int .i64 cc, .int .i64 cm, .int .i64 cr] 39 (0, 0)) := (b2.block _ (by simp; omega)).trans ((Below.heap_alloc _ _ _ hbw).trans ho.out.2.2.1)
      have m0 : w2.cell? ⟨w.heap.size, 0, none⟩ = some (.bool no) := by simp [World.cell?, mb]
      have m1 : w2.cell? ⟨w.heap.size, 1, none⟩ = some (.int .i64 ca) := by simp [World.cell?, mb]
      have m2 : w2.cell? ⟨w.heap.size, 2, none⟩ = some (.int .i64 cb) := by simp [World.cell?, mb]
      have m3 : w2.cell? ⟨w.heap.size, 3, none⟩ = some (.int .i64 cc) := by simp [World.cell?, mb]
      have m4 : w2.cell? ⟨w.heap.size, 4, none⟩ = some (.int .i64 cm) := by simp [World.cell?, mb]
      have m5 : w2.cell? ⟨w.heap.size, 5, none⟩ = some (.int .i64 cr) := by simp [World.cell?, mb]
      have own2 : w2.ownsRow (w.heap.size + 1) 31 2 (.slice oa on ocap) on (fl pc (pDiff ⟨no, ca, cb, cc, cm, cr⟩ (A.take j) B)) :=
        row_chg (ho.out.2.1.alloc (.cells #[.int .i32 p.1, .int .i64 p.2] 31)) (Chg.of_below b2) (fun k hk hS => by have := (ho.out.2.1.lt k hk).2; simp at hS; omega)
      have bel2 : Below w.heap.size w w2 := (ho.out.2.2.2.alloc hsr _).trans (b2.mono (by simp; omega))
      have Q2 := Lib.hid (And.intro own2 (And.intro mb bel2))
      have QP := Lib.hid (And.intro pb b2)
      clear b2 pb mb own2 bel2
      obtain ⟨yo, hyo⟩ : ∃ yo, yo = atP p.1 B := ⟨_, rfl⟩
      rw [← hyo]
      have HY := Lib.hid hyo
      clear hyo
      have hw2 : w.heap.size < w2.heap.size := by omega
      have hp2 : wr.heap.size < w2.heap.size := by omega
      cases yo with
      | none =>
        simp only [fnd, Option.getD, Option.isSome]
        go_wp2_with (at_builtin; refine wpList_append_lies _ rfl _ _ 22 rfl (w.heap.size + 1) 31 i0 _ 2 16 Try.underlying22 hi0 hz0 hz1 hz2 rfl (by omega) (.slice oa on ocap) on (fl pc (pDiff ⟨no, ca, cb, cc, cm, cr⟩ (A.take j) B)) rfl ((Q2.out.1.alloc _).alloc _) ⟨(w2.heap.size + 1), 0, none⟩ 1 1 (pc p) rfl rfl ?an1 (pc_one _) (by omega) (by unfold maxLen; omega) (by omega) ?an2 ((w2.heap.size + 1) + 1) (by simp) ?an3)
        case an1 => exact news1 w2 _ #[.int .i32 p.1, .int .i64 p.2] 31
        case an2 => simp; omega
        case an3 =>
          intro g3 cap3 w6 hown3 hgrow3 hat3 hlt3
          have R := Lib.hid (And.intro hown3 (And.intro hgrow3 hat3))
          clear hown3 hgrow3 hat3
          go_wp2_with fail
          go_roundg (A.length - (j + 1))
          case measure => omega
          case rel =>
            obtain ⟨r1, r2, r3⟩ := R.out
            have e := FS.out
            rw [show dstep ⟨no, ca, cb, cc, cm, cr⟩ B p = [p] by simp only [dstep, ← HY.out]] at e
            refine ⟨j + 1, by omega, rfl, by go_num, _, _, _, rfl, by omega, ?_, ?_, ?_, ?_⟩
            · rw [e, ho.out.1]; simp
            · rw [e, fl_app, fl_one]; exact r1
            · refine (r2.block w.heap.size (by simp; omega) (fun e => by have := (ho.out.2.1.lt _ e.symm).1; omega)).trans ?_
              exact (Below.heap_alloc _ _ _ (by simp; omega)).trans ((Below.heap_alloc _ _ _ (by omega)).trans Q2.out.2.1)
            · exact ((Q2.out.2.2.alloc (by omega) _).alloc (by simp; omega) _).grown r2 (by simp; omega) (fun k hk => Nat.le_of_succ_le (ho.out.2.1.lt k hk).1)
      | some y =>
        simp only [fnd, Option.getD, Option.isSome]
        have MX2 := Lib.hid (MX.out (w2.alloc (.cells #[.int .i32 p.1, .int .i64 y, .bool true] 71)) p.2 y)
        go_wp2_with fail
        refine MX2.out.mono ?_
        rintro e w4 ⟨rfl, b4⟩
        have hs4 := b4.size
        rw [World.size_alloc] at hs4
        have bb : ∀ k, k < w2.heap.size → w4.heap[k]? = w2.heap[k]? := fun k hk => (b4.block k (by simp; omega)).trans (Below.heap_alloc _ _ _ hk)
        have pb4 := (bb _ hp2).trans QP.out.1
        have mb4 := (bb _ hw2).trans Q2.out.2.1
        have q0 : w4.cell? ⟨wr.heap.size, 0, none⟩ = some (.int .i32 p.1) := by simp [World.cell?, pb4]
        have q1 : w4.cell? ⟨wr.heap.size, 1, none⟩ = some (.int .i64 p.2) := by simp [World.cell?, pb4]
        have m0 : w4.cell? ⟨w.heap.size, 0, none⟩ = some (.bool no) := by simp [World.cell?, mb4]
        have own4 : w4.ownsRow (w.heap.size + 1) 31 2 (.slice oa on ocap) on (fl pc (pDiff ⟨no, ca, cb, cc, cm, cr⟩ (A.take j) B)) :=
          row_chg (Q2.out.1.alloc (.cells #[.int .i32 p.1, .int .i64 y, .bool true] 71)) (Chg.of_below b4) (fun k hk hS => by have := (Q2.out.1.lt k hk).2; simp at hS; omega)
        have bel4 : Below w.heap.size w w4 := (Q2.out.2.2.alloc (by omega) _).trans (b4.mono (by simp; omega))
        have Q4 := Lib.hid (And.intro own4 (And.intro mb4 bel4))
        clear b4 bb pb4 mb4 own4 bel4
        obtain ⟨mn, hmn⟩ : ∃ mn, mn = mixn ⟨no, ca, cb, cc, cm, cr⟩ p.2 y := ⟨_, rfl⟩
        rw [← hmn]
        obtain ⟨mb, hmb⟩ : ∃ mb, mb = mixok ⟨no, ca, cb, cc, cm, cr⟩ mn := ⟨_, rfl⟩
        rw [← hmb]
        have HM := Lib.hid hmn
        have HB := Lib.hid hmb
        clear hmn hmb
        cases mb with
        | false =>
          go_wp2_with fail
          go_roundg (A.length - (j + 1))
          case measure => omega
          case rel =>
            have e := FS.out
            rw [show dstep ⟨no, ca, cb, cc, cm, cr⟩ B p = [] by simp [dstep, ← HY.out, ← HM.out, ← HB.out]] at e
            exact ⟨j + 1, by omega, rfl, by go_num, _, _, _, rfl, by omega, by rw [e, ho.out.1]; simp, by rw [e, List.append_nil]; exact Q4.out.1, Q4.out.2.1, Q4.out.2.2⟩
        | true =>
          cases no with
          | true =>
            go_wp2_with fail
            go_roundg (A.length - (j + 1))
            case measure => omega
            case rel =>
              have e := FS.out
              rw [show dstep ⟨true, ca, cb, cc, cm, cr⟩ B p = [] by simp [dstep, ← HY.out, ← HM.out, ← HB.out]] at e
              exact ⟨j + 1, by omega, rfl, by go_num, _, _, _, rfl, by omega, by rw [e, ho.out.1]; simp, by rw [e, List.append_nil]; exact Q4.out.1, Q4.out.2.1, Q4.out.2.2⟩
          | false =>
            go_wp2_with (at_builtin; refine wpList_append_lies _ rfl _ _ 22 rfl (w.heap.size + 1) 31 i0 _ 2 16 Try.underlying22 hi0 hz0 hz1 hz2 rfl (by omega) (.slice oa on ocap) on (fl pc (pDiff ⟨false, ca, cb, cc, cm, cr⟩ (A.take j) B)) rfl (Q4.out.1.alloc _) ⟨w4.heap.size, 0, none⟩ 1 1 (pc (p.1, mn)) rfl rfl ?as1 (pc_one _) (by omega) (by unfold maxLen; omega) (by omega) ?as2 (w4.heap.size + 1) (by simp) ?as3)
            case as1 => exact news0 w4 #[.int .i32 p.1, .int .i64 mn] 31
            case as2 => simp; omega
            case as3 =>
              intro g3 cap3 w6 hown3 hgrow3 hat3 hlt3
              have R := Lib.hid (And.intro hown3 (And.intro hgrow3 hat3))
              clear hown3 hgrow3 hat3
              go_wp2_with fail
              go_roundg (A.length - (j + 1))
              case measure => omega
              case rel =>
                obtain ⟨r1, r2, r3⟩ := R.out
                have e := FS.out
                rw [show dstep ⟨false, ca, cb, cc, cm, cr⟩ B p = [(p.1, mn)] by simp [dstep, ← HY.out, ← HM.out, ← HB.out]] at e
                refine ⟨j + 1, by omega, rfl, by go_num, _, _, _, rfl, by omega, ?_, ?_, ?_, ?_⟩
                · rw [e, ho.out.1]; simp
                · rw [e, fl_app, fl_one]; exact r1
                · refine (r2.block w.heap.size (by simp; omega) (fun e => by have := (ho.out.2.1.lt _ e.symm).1; omega)).trans ?_
                  exact (Below.heap_alloc _ _ _ (by omega)).trans Q4.out.2.1
                · exact (Q4.out.2.2.alloc (by omega) _).grown r2 (by simp; omega) (fun k hk => Nat.le_of_succ_le (ho.out.2.1.lt k hk).1)
    · have hj' : j = A.length := by omega
      subst hj'
      rw [List.take_length] at ho
      go_wp2_with fail
      go_ret
      refine ⟨_, rfl, ?_, ho.out.2.2.2⟩
      exact Rd.of_own pc_len (by rw [← ho.out.1]; exact ho.out.2.1)

end Go.Proofs.Ytahghidbadpkeaa
