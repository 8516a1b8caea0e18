/- The reference's side of a history, and the walk of FnScript: ten texts as one. -/
import Derived.Test.YtahghidbadpkeaaPlaj
import Derived.Test.YtahghidbadpkeaaImpd
import Derived.Test.YtahghidbadpkeaaActs
import Derived.Test.YtahghidbadpkeaaHiss
import Derived.Deep.RegionWith
import Derived.BigQuiet
import Derived.StillTailTactics
import Derived.Test.YtahghidbadpkeaaShps
import Derived.Test.YtahghidbadpkeaaHas

/- The walk of spec.Intersection. -/
set_option linter.unusedVariables false
set_option linter.unusedSimpArgs false
namespace Go.Proofs.Ytahghidbadpkeaa
open Go.Deep Go.RowKit

set_option maxRecDepth 100000 in
set_option maxHeartbeats 1600000 in
theorem Inter_spec {w : World} {v bv : Value} {A B : List (Int × Int)} (x : Mx) (h : Rd pc 2 w v A) (hB : Rd pc 2 w bv B) (hn : A.length ≤ 300000) (hn2 : B.length ≤ 300000) : Calls Try.prog 27 #[v, bv, .agg x.cells] w (fun e w' => ∃ v', e = .returned v' ∧ Rd pc 2 w' v' (pInter x A B) ∧ Below w.heap.size w w') := by
  obtain ⟨sa, cap, rfl⟩ := h.shape
  obtain ⟨ba, bcap, rfl⟩ := hB.shape
  obtain ⟨i0, hi0, hz0, hz1, hz2⟩ := info_parts info31
  have RD := Lib.hid (And.intro h hB)
  have AT := Lib.hid (fun (W : World) (k : Int) (hb : Below w.heap.size w W) => At_any k (hB.below hb) hn2)
  have MX := Lib.hid (fun (W : World) (d y : Int) => Mixed_any (w := W) x d y)
  clear h hB
  obtain ⟨no, ca, cb, cc, cm, cr⟩ := x
  simp only [Mx.cells] at *
  go_enter Try.func27, Try.ntmps27
  go_wp2_with fail
  go_loopg [7, 15] (A.length) (fun k out i wr => ∃ j : Nat, j ≤ A.length ∧ k = A.length - j ∧ i = .int .i64 j ∧ ∃ oa on ocap, out = .slice oa on ocap ∧ on ≤ j ∧ Hid (on = (pInter ⟨no, ca, cb, cc, cm, cr⟩ (A.take j) B).length ∧ wr.ownsRow (w.heap.size + 1) 31 2 (.slice oa on ocap) on (fl pc (pInter ⟨no, ca, cb, cc, cm, cr⟩ (A.take j) B)) ∧ wr.heap[w.heap.size]? = some (.cells #[.bool no, .int .i64 ca, .int .i64 cb, .int .i64 cc, .int .i64 cm, .int .i64 cr] 39 (0, 0)) ∧ Below w.heap.size w wr))
  case atStart => exact ⟨0, Nat.zero_le _, rfl, rfl, none, 0, 0, rfl, Nat.zero_le _, rfl, World.ownsRow_nil _ _ _ _, heap_alloc_new w _, (Below.refl _ w).alloc (Nat.le_refl _) _⟩
  case round =>
    obtain ⟨j, hj, rfl, rfl, oa, on, ocap, rfl, hon, ho⟩ := hrel
    by_cases hjn : j < A.length
    · obtain ⟨p, hp⟩ : ∃ p, A[j]? = some p := ⟨_, List.getElem?_eq_getElem hjn⟩
      obtain ⟨b, off, rfl, hc⟩ := (RD.out.1.below ho.out.2.2.2).at pc_len hp
      have k0 : wr.cell? ⟨b, off + j * 2, none⟩ = some (.int .i32 p.1) := hc 0 _ rfl
      have k1 : wr.cell? ⟨b, off + j * 2 + 1, none⟩ = some (.int .i64 p.2) := hc 1 _ rfl
      have FS : Hid (pInter ⟨no, ca, cb, cc, cm, cr⟩ (A.take (j + 1)) B = pInter ⟨no, ca, cb, cc, cm, cr⟩ (A.take j) B ++ istep ⟨no, ca, cb, cc, cm, cr⟩ B p) := by
        show pInter _ _ _ = _
        rw [List.take_add_one, hp, pInter, pInter, List.flatMap_append]; simp
      clear hc hp
      go_wp2_with fail
      refine (AT.out _ _ (ho.out.2.2.2.alloc ho.out.2.2.2.size _)).mono ?_
      rintro e w2 ⟨rfl, b2⟩
      have hs2 := b2.size
      rw [World.size_alloc] at hs2
      have hsr := ho.out.2.2.2.size
      have hbw := (Array.getElem?_eq_some_iff.1 ho.out.2.2.1).1
      have pb : w2.heap[wr.heap.size]? = some (.cells #[.int .i32 p.1, .int .i64 p.2] 31 (0, 0)) := (b2.block _ (by simp)).trans (heap_alloc_new wr _)
      have q0 : w2.cell? ⟨wr.heap.size, 0, none⟩ = some (.int .i32 p.1) := by simp [World.cell?, pb]
      have q1 : w2.cell? ⟨wr.heap.size, 1, none⟩ = some (.int .i64 p.2) := by simp [World.cell?, pb]
      have mb : w2.heap[w.heap.size]? = some (.cells #[.bool no, .int .i64 ca, .int .i64 cb, .int .i64 cc, .int .i64 cm, .int .i64 cr] 39 (0, 0)) := (b2.block _ (by simp; omega)).trans ((Below.heap_alloc _ _ _ hbw).trans ho.out.2.2.1)
      have m0 : w2.cell? ⟨w.heap.size, 0, none⟩ = some (.bool no) := by simp [World.cell?, mb]
      have m1 : w2.cell? ⟨w.heap.size, 1, none⟩ = some (.int .i64 ca) := by simp [World.cell?, mb]
      have m2 : w2.cell? ⟨w.heap.size, 2, none⟩ = some (.int .i64 cb) := by simp [World.cell?, mb]
      have m3 : w2.cell? ⟨w.heap.size, 3, none⟩ = some (.int .i64 cc) := by simp [World.cell?, mb]
      have m4 : w2.cell? ⟨w.heap.size, 4, none⟩ = some (.int .i64 cm) := by simp [World.cell?, mb]
      have m5 : w2.cell? ⟨w.heap.size, 5, none⟩ = some (.int .i64 cr) := by simp [World.cell?, mb]
      have own2 : w2.ownsRow (w.heap.size + 1) 31 2 (.slice oa on ocap) on (fl pc (pInter ⟨no, ca, cb, cc, cm, cr⟩ (A.take j) B)) :=
        row_chg (ho.out.2.1.alloc (.cells #[.int .i32 p.1, .int .i64 p.2] 31)) (Chg.of_below b2) (fun k hk hS => by have := (ho.out.2.1.lt k hk).2; simp at hS; omega)
      have bel2 : Below w.heap.size w w2 := (ho.out.2.2.2.alloc hsr _).trans (b2.mono (by simp; omega))
      have Q2 := Lib.hid (And.intro own2 (And.intro mb bel2))
      have QP := Lib.hid (And.intro pb b2)
      clear b2 pb mb own2 bel2
      obtain ⟨yo, hyo⟩ : ∃ yo, yo = atP p.1 B := ⟨_, rfl⟩
      rw [← hyo]
      have HY := Lib.hid hyo
      clear hyo
      have hw2 : w.heap.size < w2.heap.size := by omega
      have hp2 : wr.heap.size < w2.heap.size := by omega
      cases yo with
      | none =>
        simp only [fnd, Option.getD, Option.isSome]
        go_wp2_with fail
        go_roundg (A.length - (j + 1))
        case measure => omega
        case rel =>
          have e := FS.out
          rw [show istep ⟨no, ca, cb, cc, cm, cr⟩ B p = [] by simp only [istep, ← HY.out]] at e
          refine ⟨j + 1, by omega, rfl, by go_num, _, _, _, rfl, by omega, by rw [e, ho.out.1]; simp, by rw [e, List.append_nil]; exact Q2.out.1.alloc _, ?_, ?_⟩
          · exact (Below.heap_alloc _ _ _ (by omega)).trans Q2.out.2.1
          · exact Q2.out.2.2.alloc (by omega) _
      | some y =>
        simp only [fnd, Option.getD, Option.isSome]
        have MX2 := Lib.hid (MX.out (w2.alloc (.cells #[.int .i32 p.1, .int .i64 y, .bool true] 71)) p.2 y)
        go_wp2_with fail
        refine MX2.out.mono ?_
        rintro e w4 ⟨rfl, b4⟩
        have hs4 := b4.size
        rw [World.size_alloc] at hs4
        have bb : ∀ k, k < w2.heap.size → w4.heap[k]? = w2.heap[k]? := fun k hk => (b4.block k (by simp; omega)).trans (Below.heap_alloc _ _ _ hk)
        have pb4 := (bb _ hp2).trans QP.out.1
        have mb4 := (bb _ hw2).trans Q2.out.2.1
        have q0 : w4.cell? ⟨wr.heap.size, 0, none⟩ = some (.int .i32 p.1) := by simp [World.cell?, pb4]
        have q1 : w4.cell? ⟨wr.heap.size, 1, none⟩ = some (.int .i64 p.2) := by simp [World.cell?, pb4]
        have m0 : w4.cell? ⟨w.heap.size, 0, none⟩ = some (.bool no) := by simp [World.cell?, mb4]
        have own4 : w4.ownsRow (w.heap.size + 1) 31 2 (.slice oa on ocap) on (fl pc (pInter ⟨no, ca, cb, cc, cm, cr⟩ (A.take j) B)) :=
          row_chg (Q2.out.1.alloc (.cells #[.int .i32 p.1, .int .i64 y, .bool true] 71)) (Chg.of_below b4) (fun k hk hS => by have := (Q2.out.1.lt k hk).2; simp at hS; omega)
        have bel4 : Below w.heap.size w w4 := (Q2.out.2.2.alloc (by omega) _).trans (b4.mono (by simp; omega))
        have Q4 := Lib.hid (And.intro own4 (And.intro mb4 bel4))
        clear b4 bb pb4 mb4 own4 bel4
        obtain ⟨mn, hmn⟩ : ∃ mn, mn = mixn ⟨no, ca, cb, cc, cm, cr⟩ p.2 y := ⟨_, rfl⟩
        rw [← hmn]
        obtain ⟨mb, hmb⟩ : ∃ mb, mb = mixok ⟨no, ca, cb, cc, cm, cr⟩ mn := ⟨_, rfl⟩
        rw [← hmb]
        have HM := Lib.hid hmn
        have HB := Lib.hid hmb
        clear hmn hmb
        cases mb with
        | false =>
          go_wp2_with fail
          go_roundg (A.length - (j + 1))
          case measure => omega
          case rel =>
            have e := FS.out
            rw [show istep ⟨no, ca, cb, cc, cm, cr⟩ B p = [] by simp [istep, ← HY.out, ← HM.out, ← HB.out]] at e
            exact ⟨j + 1, by omega, rfl, by go_num, _, _, _, rfl, by omega, by rw [e, ho.out.1]; simp, by rw [e, List.append_nil]; exact Q4.out.1, Q4.out.2.1, Q4.out.2.2⟩
        | true =>
          go_wp2_with (at_builtin; refine wpList_append_lies _ rfl _ _ 22 rfl (w.heap.size + 1) 31 i0 _ 2 16 Try.underlying22 hi0 hz0 hz1 hz2 rfl (by omega) (.slice oa on ocap) on (fl pc (pInter ⟨no, ca, cb, cc, cm, cr⟩ (A.take j) B)) rfl (Q4.out.1.alloc _) ⟨w4.heap.size, 0, none⟩ 1 1 (pc (p.1, mn)) rfl rfl ?as1 (pc_one _) (by omega) (by unfold maxLen; omega) (by omega) ?as2 (w4.heap.size + 1) (by simp) ?as3)
          case as1 => exact news0 w4 #[.int .i32 p.1, .int .i64 mn] 31
          case as2 => simp; omega
          case as3 =>
            intro g3 cap3 w6 hown3 hgrow3 hat3 hlt3
            have R := Lib.hid (And.intro hown3 (And.intro hgrow3 hat3))
            clear hown3 hgrow3 hat3
            go_wp2_with fail
            go_roundg (A.length - (j + 1))
            case measure => omega
            case rel =>
              obtain ⟨r1, r2, r3⟩ := R.out
              have e := FS.out
              rw [show istep ⟨no, ca, cb, cc, cm, cr⟩ B p = [(p.1, mn)] by simp [istep, ← HY.out, ← HM.out, ← HB.out]] at e
              refine ⟨j + 1, by omega, rfl, by go_num, _, _, _, rfl, by omega, ?_, ?_, ?_, ?_⟩
              · rw [e, ho.out.1]; simp
              · rw [e, fl_app, fl_one]; exact r1
              · refine (r2.block w.heap.size (by simp; omega) (fun e => by have := (ho.out.2.1.lt _ e.symm).1; omega)).trans ?_
                exact (Below.heap_alloc _ _ _ (by omega)).trans Q4.out.2.1
              · exact (Q4.out.2.2.alloc (by omega) _).grown r2 (by simp; omega) (fun k hk => Nat.le_of_succ_le (ho.out.2.1.lt k hk).1)
    · have hj' : j = A.length := by omega
      subst hj'
      rw [List.take_length] at ho
      go_wp2_with fail
      go_ret
      refine ⟨_, rfl, ?_, ho.out.2.2.2⟩
      exact Rd.of_own pc_len (by rw [← ho.out.1]; exact ho.out.2.1)

end Go.Proofs.Ytahghidbadpkeaa

/- The walk of fresh. -/
set_option linter.unusedVariables false
set_option linter.unusedSimpArgs false
namespace Go.Proofs.Ytahghidbadpkeaa
open Go.Deep Go.RowKit

def frB (x : Mx) (B : List (Int × Int)) (p : Int × Int) : Bool :=
  match atP p.1 B with
    | none => true
    | some y => !(mixok x (mixn x p.2 y) && (mixn x p.2 y == p.2) && (mixn x p.2 y != y))
theorem pFresh_cons (x : Mx) (B : List (Int × Int)) (p : Int × Int) (A : List (Int × Int)) : pFresh x (p :: A) B = (frB x B p && pFresh x A B) := rfl

set_option maxRecDepth 100000 in
set_option maxHeartbeats 1600000 in
theorem fresh_any {w : World} {v bv : Value} {A B : List (Int × Int)} (x : Mx) (h : Rd pc 2 w v A) (hB : Rd pc 2 w bv B) (hn : A.length ≤ 300000) (hn2 : B.length ≤ 300000) : Calls Try.prog 26 #[v, bv, .agg x.cells] w (fun e w' => e = .returned (.bool (pFresh x A B)) ∧ Below w.heap.size w w') := by
  obtain ⟨sa, cap, rfl⟩ := h.shape
  obtain ⟨ba, bcap, rfl⟩ := hB.shape
  have RD := Lib.hid (And.intro h hB)
  have AT := Lib.hid (fun (W : World) (k : Int) (hb : Below w.heap.size w W) => At_any k (hB.below hb) hn2)
  have MX := Lib.hid (fun (W : World) (d y : Int) => Mixed_any (w := W) x d y)
  clear h hB
  obtain ⟨no, ca, cb, cc, cm, cr⟩ := x
  simp only [Mx.cells] at *
  go_enter Try.func26, Try.ntmps26
  go_wp2_with fail
  go_loopg [14] (A.length) (fun k i wr => ∃ j : Nat, j ≤ A.length ∧ k = A.length - j ∧ i = .int .i64 j ∧ Hid (pFresh ⟨no, ca, cb, cc, cm, cr⟩ A B = pFresh ⟨no, ca, cb, cc, cm, cr⟩ (A.drop j) B ∧ wr.heap[w.heap.size]? = some (.cells #[.bool no, .int .i64 ca, .int .i64 cb, .int .i64 cc, .int .i64 cm, .int .i64 cr] 39 (0, 0)) ∧ Below w.heap.size w wr))
  case atStart => exact ⟨0, Nat.zero_le _, rfl, rfl, rfl, heap_alloc_new w _, (Below.refl _ w).alloc (Nat.le_refl _) _⟩
  case round =>
    obtain ⟨j, hj, rfl, rfl, ho⟩ := hrel
    by_cases hjn : j < A.length
    · obtain ⟨p, hp⟩ : ∃ p, A[j]? = some p := ⟨_, List.getElem?_eq_getElem hjn⟩
      obtain ⟨b, off, rfl, hc⟩ := (RD.out.1.below ho.out.2.2).at pc_len hp
      have k0 : wr.cell? ⟨b, off + j * 2, none⟩ = some (.int .i32 p.1) := hc 0 _ rfl
      have k1 : wr.cell? ⟨b, off + j * 2 + 1, none⟩ = some (.int .i64 p.2) := hc 1 _ rfl
      have FS : Hid (pFresh ⟨no, ca, cb, cc, cm, cr⟩ (A.drop j) B = (frB ⟨no, ca, cb, cc, cm, cr⟩ B p && pFresh ⟨no, ca, cb, cc, cm, cr⟩ (A.drop (j + 1)) B)) := by
        have e : A.drop j = p :: A.drop (j + 1) := by
          rw [List.drop_eq_getElem_cons hjn]; congr 1
          rw [List.getElem?_eq_getElem hjn] at hp; exact Option.some.inj hp
        show pFresh _ (A.drop j) B = _
        rw [e]; rfl
      clear hc hp
      go_wp2_with fail
      refine (AT.out _ _ (ho.out.2.2.alloc ho.out.2.2.size _)).mono ?_
      rintro e w2 ⟨rfl, b2⟩
      have hs2 := b2.size
      rw [World.size_alloc] at hs2
      have hsr := ho.out.2.2.size
      have hbw := (Array.getElem?_eq_some_iff.1 ho.out.2.1).1
      have pb : w2.heap[wr.heap.size]? = some (.cells #[.int .i32 p.1, .int .i64 p.2] 31 (0, 0)) := (b2.block _ (by simp)).trans (heap_alloc_new wr _)
      have q0 : w2.cell? ⟨wr.heap.size, 0, none⟩ = some (.int .i32 p.1) := by simp [World.cell?, pb]
      have q1 : w2.cell? ⟨wr.heap.size, 1, none⟩ = some (.int .i64 p.2) := by simp [World.cell?, pb]
      have mb : w2.heap[w.heap.size]? = some (.cells #[.bool no, .int .i64 ca, .int .i64 cb, .int .i64 cc, .int .i64 cm, .int .i64 cr] 39 (0, 0)) := (b2.block _ (by simp; omega)).trans ((Below.heap_alloc _ _ _ hbw).trans ho.out.2.1)
      have m0 : w2.cell? ⟨w.heap.size, 0, none⟩ = some (.bool no) := by simp [World.cell?, mb]
      have m1 : w2.cell? ⟨w.heap.size, 1, none⟩ = some (.int .i64 ca) := by simp [World.cell?, mb]
      have m2 : w2.cell? ⟨w.heap.size, 2, none⟩ = some (.int .i64 cb) := by simp [World.cell?, mb]
      have m3 : w2.cell? ⟨w.heap.size, 3, none⟩ = some (.int .i64 cc) := by simp [World.cell?, mb]
      have m4 : w2.cell? ⟨w.heap.size, 4, none⟩ = some (.int .i64 cm) := by simp [World.cell?, mb]
      have m5 : w2.cell? ⟨w.heap.size, 5, none⟩ = some (.int .i64 cr) := by simp [World.cell?, mb]
      have bel2 : Below w.heap.size w w2 := (ho.out.2.2.alloc hsr _).trans (b2.mono (by simp; omega))
      have Q2 := Lib.hid (And.intro mb bel2)
      have QP := Lib.hid (And.intro pb b2)
      clear b2 pb mb bel2
      obtain ⟨yo, hyo⟩ : ∃ yo, yo = atP p.1 B := ⟨_, rfl⟩
      rw [← hyo]
      have HY := Lib.hid hyo
      clear hyo
      have hw2 : w.heap.size < w2.heap.size := by omega
      have hp2 : wr.heap.size < w2.heap.size := by omega
      obtain ⟨yv, hyv⟩ : ∃ yv, yv = yo.getD 0 := ⟨_, rfl⟩
      obtain ⟨yb, hyb⟩ : ∃ yb, yb = yo.isSome := ⟨_, rfl⟩
      have HYV := Lib.hid (And.intro hyv hyb)
      simp only [fnd]
      rw [← hyv, ← hyb]
      clear hyv hyb
      have MX2 := Lib.hid (MX.out (w2.alloc (.cells #[.int .i32 p.1, .int .i64 yv, .bool yb] 71)) p.2 yv)
      go_wp2_with fail
      refine MX2.out.mono ?_
      rintro e w4 ⟨rfl, b4⟩
      have hs4 := b4.size
      rw [World.size_alloc] at hs4
      have bb : ∀ k, k < w2.heap.size → w4.heap[k]? = w2.heap[k]? := fun k hk => (b4.block k (by simp; omega)).trans (Below.heap_alloc _ _ _ hk)
      have pb4 := (bb _ hp2).trans QP.out.1
      have mb4 := (bb _ hw2).trans Q2.out.1
      have fb4 : w4.heap[w2.heap.size]? = some (.cells #[.int .i32 p.1, .int .i64 yv, .bool yb] 71 (0, 0)) := (b4.block _ (by simp)).trans (heap_alloc_new w2 _)
      have q0 : w4.cell? ⟨wr.heap.size, 0, none⟩ = some (.int .i32 p.1) := by simp [World.cell?, pb4]
      have q1 : w4.cell? ⟨wr.heap.size, 1, none⟩ = some (.int .i64 p.2) := by simp [World.cell?, pb4]
      have f1 : w4.cell? ⟨w2.heap.size, 1, none⟩ = some (.int .i64 yv) := by simp [World.cell?, fb4]
      have f2 : w4.cell? ⟨w2.heap.size, 2, none⟩ = some (.bool yb) := by simp [World.cell?, fb4]
      have bel4 : Below w.heap.size w w4 := (Q2.out.2.alloc (by omega) _).trans (b4.mono (by simp; omega))
      have Q4 := Lib.hid (And.intro mb4 bel4)
      clear b4 bb pb4 mb4 bel4 fb4
      obtain ⟨mn, hmn⟩ : ∃ mn, mn = mixn ⟨no, ca, cb, cc, cm, cr⟩ p.2 yv := ⟨_, rfl⟩
      rw [← hmn]
      obtain ⟨mb, hmb⟩ : ∃ mb, mb = mixok ⟨no, ca, cb, cc, cm, cr⟩ mn := ⟨_, rfl⟩
      rw [← hmb]
      have HM := Lib.hid hmn
      have HB := Lib.hid hmb
      clear hmn hmb
      have NX : Hid (frB ⟨no, ca, cb, cc, cm, cr⟩ B p = !(yb && mb && (mn == p.2) && (mn != yv))) := by
        show frB _ _ _ = _
        have h1 := HYV.out.1
        have h2 := HYV.out.2
        have h3 := HB.out
        have h4 := HM.out
        have h5 := HY.out
        unfold frB
        rw [← h5]
        cases yo with
        | none => simp at h2; rw [h2]; rfl
        | some y =>
          simp at h1 h2
          subst h1
          rw [h2]
          simp only [← h4, ← h3, Bool.true_and]
      by_cases hyb : yb = true
      · subst hyb
        by_cases hmb : mb = true
        · subst hmb
          by_cases h5 : (mn == p.2) = true
          · by_cases h6 : (mn != yv) = true
            · have N := Lib.hid (show frB ⟨no, ca, cb, cc, cm, cr⟩ B p = false by rw [NX.out, h5, h6]; rfl)
              clear NX HM HB HY HYV MX2
              go_wp2_with fail
              go_ret
              exact ⟨by rw [ho.out.1, FS.out, N.out]; rfl, Q4.out.2⟩
            · have h6' : (mn != yv) = false := by simpa using h6
              have N := Lib.hid (show frB ⟨no, ca, cb, cc, cm, cr⟩ B p = true by rw [NX.out, h5, h6']; rfl)
              clear NX HM HB HY HYV h6 MX2
              go_wp2_with fail
              go_roundg (A.length - (j + 1))
              case measure => omega
              case rel => exact ⟨j + 1, by omega, rfl, by go_num, by rw [ho.out.1, FS.out, N.out]; rfl, Q4.out.1, Q4.out.2⟩
          · have h5' : (mn == p.2) = false := by simpa using h5
            have N := Lib.hid (show frB ⟨no, ca, cb, cc, cm, cr⟩ B p = true by rw [NX.out, h5']; rfl)
            clear NX HM HB HY HYV h5 MX2
            go_wp2_with fail
            go_roundg (A.length - (j + 1))
            case measure => omega
            case rel => exact ⟨j + 1, by omega, rfl, by go_num, by rw [ho.out.1, FS.out, N.out]; rfl, Q4.out.1, Q4.out.2⟩
        · have hmb' : mb = false := by simpa using hmb
          subst hmb'
          have N := Lib.hid (show frB ⟨no, ca, cb, cc, cm, cr⟩ B p = true by rw [NX.out]; rfl)
          clear NX HM HB HY HYV hmb MX2
          go_wp2_with fail
          go_roundg (A.length - (j + 1))
          case measure => omega
          case rel => exact ⟨j + 1, by omega, rfl, by go_num, by rw [ho.out.1, FS.out, N.out]; rfl, Q4.out.1, Q4.out.2⟩
      · have hyb' : yb = false := by simpa using hyb
        subst hyb'
        have N := Lib.hid (show frB ⟨no, ca, cb, cc, cm, cr⟩ B p = true by rw [NX.out]; rfl)
        clear NX HM HB HY HYV hyb MX2
        go_wp2_with fail
        go_roundg (A.length - (j + 1))
        case measure => omega
        case rel => exact ⟨j + 1, by omega, rfl, by go_num, by rw [ho.out.1, FS.out, N.out]; rfl, Q4.out.1, Q4.out.2⟩
    · have hj' : j = A.length := by omega
      subst hj'
      go_wp2_with fail
      go_ret
      exact ⟨by rw [ho.out.1, List.drop_length]; rfl, ho.out.2.2⟩

end Go.Proofs.Ytahghidbadpkeaa

/- The walk of spec.Union. -/
set_option linter.unusedVariables false
set_option linter.unusedSimpArgs false
namespace Go.Proofs.Ytahghidbadpkeaa
open Go.Deep Go.RowKit

theorem run_fld (a b : Value) (c : Bool) (w : World) : (Instr.field 71 (.agg #[a, b, .bool c]) 2).run Try.prog w = .ok (.bool c) w := by
  kernel_rfl

set_option maxRecDepth 100000 in
set_option maxHeartbeats 3000000 in
theorem Union_spec {w : World} {v bv : Value} {A B : List (Int × Int)} (x : Mx) (h : Rd pc 2 w v A) (hB : Rd pc 2 w bv B) (hn : A.length ≤ 90000) (hn2 : B.length ≤ 90000) : Calls Try.prog 29 #[v, bv, .agg x.cells] w (fun e w' => ∃ v', e = .returned v' ∧ Rd pc 2 w' v' (pUnion x A B) ∧ Below w.heap.size w w') := by
  obtain ⟨sa, cap, rfl⟩ := h.shape
  obtain ⟨ba, bcap, rfl⟩ := hB.shape
  have RD := Lib.hid (And.intro h hB)
  have ATB := Lib.hid (fun (W : World) (k : Int) (hb : Below w.heap.size w W) => At_any k (hB.below hb) (by omega))
  have ATA := Lib.hid (fun (W : World) (k : Int) (hb : Below w.heap.size w W) => At_any k (h.below hb) (by omega))
  have IS := Lib.hid (fun (W : World) (hb : Below w.heap.size w W) => Inter_spec x (h.below hb) (hB.below hb) (by omega) (by omega))
  clear h hB
  have PU : Hid (pUnion x A B = (pInter x A B).foldl (putIf []) (B.foldl (putIf A) (A.foldl (putIf B) []))) := by
    show pUnion x A B = _
    rw [pUnion, putAll_eq]
  have LP := Lib.hid (pInter_len x A B)
  obtain ⟨no, ca, cb, cc, cm, cr⟩ := x
  simp only [Mx.cells] at *
  have hfl := run_fld
  go_enter Try.func29, Try.ntmps29
  have SB : Hid (PSrt ([] : List (Int × Int))) := List.Pairwise.nil
  have LB : Hid (([] : List (Int × Int)).length + A.length ≤ 300000) := by
    show ([] : List (Int × Int)).length + A.length ≤ 300000
    simp; omega
  go_wp2_with fail
  go_loopg [7, 16] (A.length) (fun k out i wr => ∃ j : Nat, j ≤ A.length ∧ k = A.length - j ∧ i = .int .i64 j ∧ ∃ oa on ocap, out = .slice oa on ocap ∧ Hid (Rd pc 2 wr (.slice oa on ocap) ((A.take j).foldl (putIf B) []) ∧ wr.heap[w.heap.size]? = some (.cells #[.bool no, .int .i64 ca, .int .i64 cb, .int .i64 cc, .int .i64 cm, .int .i64 cr] 39 (0, 0)) ∧ Below w.heap.size w wr))
  case atStart => exact ⟨0, Nat.zero_le _, rfl, rfl, _, _, _, rfl, ⟨none, 0, rfl, .inl rfl⟩, heap_alloc_new w _, (Below.refl _ w).alloc (Nat.le_refl _) _⟩
  case round =>
    obtain ⟨j, hj, rfl, rfl, oa, on, ocap, rfl, ho⟩ := hrel
    by_cases hjn : j < A.length
    · obtain ⟨p, hp⟩ : ∃ p, A[j]? = some p := ⟨_, List.getElem?_eq_getElem hjn⟩
      obtain ⟨b, off, rfl, hc⟩ := (RD.out.1.below ho.out.2.2).at pc_len hp
      have k0 : wr.cell? ⟨b, off + j * 2, none⟩ = some (.int .i32 p.1) := hc 0 _ rfl
      have k1 : wr.cell? ⟨b, off + j * 2 + 1, none⟩ = some (.int .i64 p.2) := hc 1 _ rfl
      have FS : Hid ((A.take (j + 1)).foldl (putIf B) [] = putIf B ((A.take j).foldl (putIf B) []) p) := by
        show List.foldl _ _ _ = _
        rw [List.take_add_one, hp, List.foldl_append]; rfl
      have hl : Hid (((A.take j).foldl (putIf B) []).length ≤ 300000) := by
        have h1 := len_putIf B (A.take j) _ SB.out
        have h2 := LB.out
        rw [List.length_take] at h1
        show List.length _ ≤ _
        omega
      clear hc hp
      go_wp2_with fail
      refine (ATB.out _ p.1 (ho.out.2.2.alloc ho.out.2.2.size _)).mono ?_
      rintro e w2 ⟨rfl, b2⟩
      have hs2 := b2.size
      rw [World.size_alloc] at hs2
      have hsr := ho.out.2.2.size
      have hbw := (Array.getElem?_eq_some_iff.1 ho.out.2.1).1
      have pb : w2.heap[wr.heap.size]? = some (.cells #[.int .i32 p.1, .int .i64 p.2] 31 (0, 0)) := (b2.block _ (by simp)).trans (heap_alloc_new wr _)
      have q0 : w2.cell? ⟨wr.heap.size, 0, none⟩ = some (.int .i32 p.1) := by simp [World.cell?, pb]
      have q1 : w2.cell? ⟨wr.heap.size, 1, none⟩ = some (.int .i64 p.2) := by simp [World.cell?, pb]
      have Q2 : Hid (Rd pc 2 w2 (.slice oa on ocap) ((A.take j).foldl (putIf B) []) ∧ w2.heap[w.heap.size]? = some (.cells #[.bool no, .int .i64 ca, .int .i64 cb, .int .i64 cc, .int .i64 cm, .int .i64 cr] 39 (0, 0)) ∧ Below w.heap.size w w2) :=
        ⟨(ho.out.1.below ((Below.refl _ wr).alloc (Nat.le_refl _) _)).below b2, (b2.block _ (by simp; omega)).trans ((Below.heap_alloc _ _ _ hbw).trans ho.out.2.1), (ho.out.2.2.alloc hsr _).trans (b2.mono (by simp; omega))⟩
      clear b2 pb
      obtain ⟨yo, hyo⟩ : ∃ yo, yo = atP p.1 B := ⟨_, rfl⟩
      rw [← hyo]
      have HY := Lib.hid hyo
      clear hyo
      simp only [fnd]
      cases yo with
      | some y =>
        simp only [Option.getD, Option.isSome]
        go_wp2_with fail
        go_roundg (A.length - (j + 1))
        case measure => omega
        case rel => exact ⟨j + 1, by omega, rfl, by go_num, _, _, _, rfl, by rw [FS.out, putIf, ← HY.out, if_pos (show (some y).isSome = true from rfl)]; exact Q2.out.1, Q2.out.2⟩
      | none =>
        simp only [Option.getD, Option.isSome]
        have PU := Lib.hid (Put_any p.1 p.2 Q2.out.1 hl.out)
        go_wp2_with fail
        refine PU.out.mono ?_
        rintro e w4 ⟨v4, rfl, o4, b4⟩
        obtain ⟨sa4, cap4, rfl⟩ := owns_shape o4
        have Q4 := Lib.hid (And.intro o4 b4)
        clear o4 b4 PU
        go_wp2_with fail
        go_roundg (A.length - (j + 1))
        case measure => omega
        case rel =>
          obtain ⟨o4, b4⟩ := Q4.out
          refine ⟨j + 1, by omega, rfl, by go_num, _, _, _, rfl, ?_, (b4.block _ (by omega)).trans Q2.out.2.1, Q2.out.2.2.trans (b4.mono (by omega))⟩
          rw [FS.out, putIf, ← HY.out, if_neg (by simp)]; exact Rd.of_own pc_len o4
    · have hj' : j = A.length := by omega
      subst hj'
      rw [List.take_length] at ho
      have SB : Hid (PSrt (A.foldl (putIf B) [])) := psrt_putIf _ _ _ SB.out
      have LB : Hid ((A.foldl (putIf B) []).length + B.length ≤ 300000) := by
        have h1 := len_putIf B A [] List.Pairwise.nil
        have h3 : ([] : List (Int × Int)).length = 0 := rfl
        show List.length _ + B.length ≤ 300000
        omega
      go_wp2_with fail
      go_loopg [7, 35] (B.length) (fun k out i wr => ∃ j : Nat, j ≤ B.length ∧ k = B.length - j ∧ i = .int .i64 j ∧ ∃ oa on ocap, out = .slice oa on ocap ∧ Hid (Rd pc 2 wr (.slice oa on ocap) ((B.take j).foldl (putIf A) (A.foldl (putIf B) [])) ∧ wr.heap[w.heap.size]? = some (.cells #[.bool no, .int .i64 ca, .int .i64 cb, .int .i64 cc, .int .i64 cm, .int .i64 cr] 39 (0, 0)) ∧ Below w.heap.size w wr))
      case atStart => exact ⟨0, Nat.zero_le _, rfl, rfl, _, _, _, rfl, ho.out⟩
      case round =>
        clear ho
        obtain ⟨j, hj, rfl, rfl, oa, on, ocap, rfl, ho⟩ := hrel
        by_cases hjn : j < B.length
        · obtain ⟨p, hp⟩ : ∃ p, B[j]? = some p := ⟨_, List.getElem?_eq_getElem hjn⟩
          obtain ⟨b, off, rfl, hc⟩ := (RD.out.2.below ho.out.2.2).at pc_len hp
          have k0 : wr.cell? ⟨b, off + j * 2, none⟩ = some (.int .i32 p.1) := hc 0 _ rfl
          have k1 : wr.cell? ⟨b, off + j * 2 + 1, none⟩ = some (.int .i64 p.2) := hc 1 _ rfl
          have FS : Hid ((B.take (j + 1)).foldl (putIf A) (A.foldl (putIf B) []) = putIf A ((B.take j).foldl (putIf A) (A.foldl (putIf B) [])) p) := by
            show List.foldl _ _ _ = _
            rw [List.take_add_one, hp, List.foldl_append]; rfl
          have hl : Hid (((B.take j).foldl (putIf A) (A.foldl (putIf B) [])).length ≤ 300000) := by
            have h1 := len_putIf A (B.take j) _ SB.out
            have h2 := LB.out
            rw [List.length_take] at h1
            show List.length _ ≤ _
            omega
          clear hc hp
          go_wp2_with fail
          refine (ATA.out _ p.1 (ho.out.2.2.alloc ho.out.2.2.size _)).mono ?_
          rintro e w2 ⟨rfl, b2⟩
          have hs2 := b2.size
          rw [World.size_alloc] at hs2
          have hsr := ho.out.2.2.size
          have hbw := (Array.getElem?_eq_some_iff.1 ho.out.2.1).1
          have pb : w2.heap[wr.heap.size]? = some (.cells #[.int .i32 p.1, .int .i64 p.2] 31 (0, 0)) := (b2.block _ (by simp)).trans (heap_alloc_new wr _)
          have q0 : w2.cell? ⟨wr.heap.size, 0, none⟩ = some (.int .i32 p.1) := by simp [World.cell?, pb]
          have q1 : w2.cell? ⟨wr.heap.size, 1, none⟩ = some (.int .i64 p.2) := by simp [World.cell?, pb]
          have Q2 : Hid (Rd pc 2 w2 (.slice oa on ocap) ((B.take j).foldl (putIf A) (A.foldl (putIf B) [])) ∧ w2.heap[w.heap.size]? = some (.cells #[.bool no, .int .i64 ca, .int .i64 cb, .int .i64 cc, .int .i64 cm, .int .i64 cr] 39 (0, 0)) ∧ Below w.heap.size w w2) :=
            ⟨(ho.out.1.below ((Below.refl _ wr).alloc (Nat.le_refl _) _)).below b2, (b2.block _ (by simp; omega)).trans ((Below.heap_alloc _ _ _ hbw).trans ho.out.2.1), (ho.out.2.2.alloc hsr _).trans (b2.mono (by simp; omega))⟩
          clear b2 pb
          obtain ⟨yo, hyo⟩ : ∃ yo, yo = atP p.1 A := ⟨_, rfl⟩
          rw [← hyo]
          have HY := Lib.hid hyo
          clear hyo
          simp only [fnd]
          cases yo with
          | some y =>
            simp only [Option.getD, Option.isSome]
            go_wp2_with fail
            go_roundg (B.length - (j + 1))
            case measure => omega
            case rel => exact ⟨j + 1, by omega, rfl, by go_num, _, _, _, rfl, by rw [FS.out, putIf, ← HY.out, if_pos (show (some y).isSome = true from rfl)]; exact Q2.out.1, Q2.out.2⟩
          | none =>
            simp only [Option.getD, Option.isSome]
            have PU := Lib.hid (Put_any p.1 p.2 Q2.out.1 hl.out)
            go_wp2_with fail
            refine PU.out.mono ?_
            rintro e w4 ⟨v4, rfl, o4, b4⟩
            obtain ⟨sa4, cap4, rfl⟩ := owns_shape o4
            have Q4 := Lib.hid (And.intro o4 b4)
            clear o4 b4 PU
            go_wp2_with fail
            go_roundg (B.length - (j + 1))
            case measure => omega
            case rel =>
              obtain ⟨o4, b4⟩ := Q4.out
              refine ⟨j + 1, by omega, rfl, by go_num, _, _, _, rfl, ?_, (b4.block _ (by omega)).trans Q2.out.2.1, Q2.out.2.2.trans (b4.mono (by omega))⟩
              rw [FS.out, putIf, ← HY.out, if_neg (by simp)]; exact Rd.of_own pc_len o4
        · have hj' : j = B.length := by omega
          subst hj'
          rw [List.take_length] at ho
          have SB3 : Hid (PSrt (B.foldl (putIf A) (A.foldl (putIf B) []))) := psrt_putIf _ _ _ SB.out
          have LB3 : Hid ((B.foldl (putIf A) (A.foldl (putIf B) [])).length + A.length ≤ 300000) := by
            have h1 := len_putIf B A [] List.Pairwise.nil
            have h2 := len_putIf A B _ SB.out
            have h3 : ([] : List (Int × Int)).length = 0 := rfl
            show List.length _ + A.length ≤ 300000
            omega
          have mb := ho.out.2.1
          have m0 := bool_cell mb
          have m1 := int_cell1 mb
          have m2 := int_cell2 mb
          have m3 := int_cell3 mb
          have m4 := int_cell4 mb
          have m5 := int_cell5 mb
          clear mb
          go_wp2_with fail
          refine (IS.out _ ho.out.2.2).mono ?_
          rintro e w7 ⟨v7, rfl, r7, b7⟩
          obtain ⟨s7, c7, rfl⟩ := r7.shape
          have R7 := Lib.hid r7
          have O7 : Hid (Rd pc 2 w7 (.slice oa on ocap) (B.foldl (putIf A) (A.foldl (putIf B) [])) ∧ Below w.heap.size w w7) := ⟨ho.out.1.below b7, ho.out.2.2.trans (b7.mono ho.out.2.2.size)⟩
          clear r7 b7 ho m0 m1 m2 m3 m4 m5
          obtain ⟨I, hI⟩ : ∃ I, I = pInter ⟨no, ca, cb, cc, cm, cr⟩ A B := ⟨_, rfl⟩
          rw [← hI] at R7 LP PU ⊢
          clear hI
          have LI : I.length ≤ 90000 := by have := LP.out; omega
          go_wp2_with fail
          go_loopg [7, 57] (I.length) (fun k out i wr => ∃ j : Nat, j ≤ I.length ∧ k = I.length - j ∧ i = .int .i64 j ∧ ∃ oa on ocap, out = .slice oa on ocap ∧ Hid (Rd pc 2 wr (.slice oa on ocap) ((I.take j).foldl (putIf []) (B.foldl (putIf A) (A.foldl (putIf B) []))) ∧ Below w.heap.size w wr ∧ Below w7.heap.size w7 wr))
          case atStart => exact ⟨0, Nat.zero_le _, rfl, rfl, _, _, _, rfl, O7.out.1, O7.out.2, Below.refl _ _⟩
          case round =>
            obtain ⟨j, hj, rfl, rfl, oa, on, ocap, rfl, ho⟩ := hrel
            by_cases hjn : j < I.length
            · obtain ⟨p, hp⟩ : ∃ p, I[j]? = some p := ⟨_, List.getElem?_eq_getElem hjn⟩
              obtain ⟨b, off, rfl, hc⟩ := (R7.out.below ho.out.2.2).at pc_len hp
              have k0 : wr.cell? ⟨b, off + j * 2, none⟩ = some (.int .i32 p.1) := hc 0 _ rfl
              have k1 : wr.cell? ⟨b, off + j * 2 + 1, none⟩ = some (.int .i64 p.2) := hc 1 _ rfl
              have FS : Hid ((I.take (j + 1)).foldl (putIf []) (B.foldl (putIf A) (A.foldl (putIf B) [])) = pPut p.1 p.2 ((I.take j).foldl (putIf []) (B.foldl (putIf A) (A.foldl (putIf B) [])))) := by
                show List.foldl _ _ _ = _
                rw [List.take_add_one, hp, List.foldl_append]; rfl
              have hl : Hid (((I.take j).foldl (putIf []) (B.foldl (putIf A) (A.foldl (putIf B) []))).length ≤ 300000) := by
                have h1 := len_putIf [] (I.take j) _ SB3.out
                have h2 := LB3.out
                have h3 := LP.out
                rw [List.length_take] at h1
                show List.length _ ≤ _
                omega
              have PT := Lib.hid (fun o => Put_any (w := wr.alloc o) p.1 p.2 (ho.out.1.below ((Below.refl _ wr).alloc (Nat.le_refl _) o)) hl.out)
              clear hc hp
              go_wp2_with fail
              refine (PT.out _).mono ?_
              rintro e w4 ⟨v4, rfl, o4, b4⟩
              obtain ⟨sa4, cap4, rfl⟩ := owns_shape o4
              have Q4 := Lib.hid (And.intro o4 b4)
              clear o4 b4 PT
              go_wp2_with fail
              go_roundg (I.length - (j + 1))
              case measure => omega
              case rel =>
                obtain ⟨o4, b4⟩ := Q4.out
                refine ⟨j + 1, by omega, rfl, by go_num, _, _, _, rfl, ?_, (ho.out.2.1.alloc ho.out.2.1.size _).trans (b4.mono (by have := ho.out.2.1.size; simp; omega)), (ho.out.2.2.alloc ho.out.2.2.size _).trans (b4.mono (by have := ho.out.2.2.size; simp; omega))⟩
                rw [FS.out]; exact Rd.of_own pc_len o4
            · have hj' : j = I.length := by omega
              subst hj'
              rw [List.take_length] at ho
              go_wp2_with fail
              go_ret
              exact ⟨_, rfl, by rw [PU.out]; exact ho.out.1, ho.out.2.1⟩

end Go.Proofs.Ytahghidbadpkeaa

/- The walks of spec.Difference, spec.Intersection and spec.Union, whose results lie in blocks of their own. -/
set_option linter.unusedVariables false
set_option linter.unusedSimpArgs false
namespace Go.Proofs.Ytahghidbadpkeaa
open Go.Deep Go.RowKit

/-- A slice holds pairs, in a block of its own. -/
def OwnP (w : World) (v : Value) (L : List (Int × Int)) : Prop := ∃ B, w.ownsRow B 31 2 v L.length (fl pc L)
theorem OwnP.rd {w : World} {v : Value} {L : List (Int × Int)} (h : OwnP w v L) : Rd pc 2 w v L := by
  obtain ⟨B, h⟩ := h
  exact Rd.of_own pc_len h
theorem OwnP.below {w w' : World} {v : Value} {L : List (Int × Int)} (h : OwnP w v L) (c : Below w.heap.size w w') : OwnP w' v L := by
  obtain ⟨B, h⟩ := h
  exact ⟨B, row_chg h (Chg.of_below c) (fun k hk => Nat.not_le.2 (h.lt k hk).2)⟩

set_option maxRecDepth 100000 in
set_option maxHeartbeats 1600000 in
theorem Diff_own {w : World} {v bv : Value} {A B : List (Int × Int)} (x : Mx) (h : Rd pc 2 w v A) (hB : Rd pc 2 w bv B) (hn : A.length ≤ 300000) (hn2 : B.length ≤ 300000) : Calls Try.prog 24 #[v, bv, .agg x.cells] w (fun e w' => ∃ v', e = .returned v' ∧ OwnP w' v' (pDiff x A B) ∧ Below w.heap.size w w') := by
  obtain ⟨sa, cap, rfl⟩ := h.shape
  obtain ⟨ba, bcap, rfl⟩ := hB.shape
  obtain ⟨i0, hi0, hz0, hz1, hz2⟩ := info_parts info31
  have RD := Lib.hid (And.intro h hB)
  have AT := Lib.hid (fun (W : World) (k : Int) (hb : Below w.heap.size w W) => At_any k (hB.below hb) hn2)
  have MX := Lib.hid (fun (W : World) (d y : Int) => Mixed_any (w := W) x d y)
  clear h hB
  obtain ⟨no, ca, cb, cc, cm, cr⟩ := x
  simp only [Mx.cells] at *
  go_enter Try.func24, Try.ntmps24
  go_wp2_with fail
  go_loopg [7, 15] (A.length) (fun k out i wr => ∃ j : Nat, j ≤ A.length ∧ k = A.length - j ∧ i = .int .i64 j ∧ ∃ oa on ocap, out = .slice oa on ocap ∧ on ≤ j ∧ Hid (on = (pDiff ⟨no, ca, cb, cc, cm, cr⟩ (A.take j) B).length ∧ wr.ownsRow (w.heap.size + 1) 31 2 (.slice oa on ocap) on (fl pc (pDiff ⟨no, ca, cb, cc, cm, cr⟩ (A.take j) B)) ∧ wr.heap[w.heap.size]? = some (.cells #[.bool no, .int .i64 ca, .int .i64 cb, .int .i64 cc, .int .i64 cm, .int .i64 cr] 39 (0, 0)) ∧ Below w.heap.size w wr))
  case atStart => exact ⟨0, Nat.zero_le _, rfl, rfl, none, 0, 0, rfl, Nat.zero_le _, rfl, World.ownsRow_nil _ _ _ _, heap_alloc_new w _, (Below.refl _ w).alloc (Nat.le_refl _) _⟩
  case round =>
    obtain ⟨j, hj, rfl, rfl, oa, on, ocap, rfl, hon, ho⟩ := hrel
    by_cases hjn : j < A.length
    · obtain ⟨p, hp⟩ : ∃ p, A[j]? = some p := ⟨_, List.getElem?_eq_getElem hjn⟩
      obtain ⟨b, off, rfl, hc⟩ := (RD.out.1.below ho.out.2.2.2).at pc_len hp
      have k0 : wr.cell? ⟨b, off + j * 2, none⟩ = some (.int .i32 p.1) := hc 0 _ rfl
      have k1 : wr.cell? ⟨b, off + j * 2 + 1, none⟩ = some (.int .i64 p.2) := hc 1 _ rfl
      have FS : Hid (pDiff ⟨no, ca, cb, cc, cm, cr⟩ (A.take (j + 1)) B = pDiff ⟨no, ca, cb, cc, cm, cr⟩ (A.take j) B ++ dstep ⟨no, ca, cb, cc, cm, cr⟩ B p) := by
        show pDiff _ _ _ = _
        rw [List.take_add_one, hp, pDiff, pDiff, List.flatMap_append]; simp
      clear hc hp
      go_wp2_with fail
      refine (AT.out _ _ (ho.out.2.2.2.alloc ho.out.2.2.2.size _)).mono ?_
      rintro e w2 ⟨rfl, b2⟩
      have hs2 := b2.size
      rw [World.size_alloc] at hs2
      have hsr := ho.out.2.2.2.size
      have hbw := (Array.getElem?_eq_some_iff.1 ho.out.2.2.1).1
      have pb : w2.heap[wr.heap.size]? = some (.cells #[.int .i32 p.1, .int .i64 p.2] 31 (0, 0)) := (b2.block _ (by simp)).trans (heap_alloc_new wr _)
      have q0 : w2.cell? ⟨wr.heap.size, 0, none⟩ = some (.int .i32 p.1) := by simp [World.cell?, pb]
      have q1 : w2.cell? ⟨wr.heap.size, 1, none⟩ = some (.int .i64 p.2) := by simp [World.cell?, pb]
      have mb : w2.heap[w.heap.size]? = some (.cells #[.bool no, .int .i64 ca, .int .i64 cb, .int .i64 cc, .int .i64 cm, .int .i64 cr] 39 (0, 0)) := (b2.block _ (by simp; omega)).trans ((Below.heap_alloc _ _ _ hbw).trans ho.out.2.2.1)
      have m0 : w2.cell? ⟨w.heap.size, 0, none⟩ = some (.bool no) := by simp [World.cell?, mb]
      have m1 : w2.cell? ⟨w.heap.size, 1, none⟩ = some (.int .i64 ca) := by simp [World.cell?, mb]
      have m2 : w2.cell? ⟨w.heap.size, 2, none⟩ = some (.int .i64 cb) := by simp [World.cell?, mb]
      have m3 : w2.cell? ⟨w.heap.size, 3, none⟩ = some (.int .i64 cc) := by simp [World.cell?, mb]
      have m4 : w2.cell? ⟨w.heap.size, 4, none⟩ = some (.int .i64 cm) := by simp [World.cell?, mb]
      have m5 : w2.cell? ⟨w.heap.size, 5, none⟩ = some (.int .i64 cr) := by simp [World.cell?, mb]
      have own2 : w2.ownsRow (w.heap.size + 1) 31 2 (.slice oa on ocap) on (fl pc (pDiff ⟨no, ca, cb, cc, cm, cr⟩ (A.take j) B)) :=
        row_chg (ho.out.2.1.alloc (.cells #[.int .i32 p.1, .int .i64 p.2] 31)) (Chg.of_below b2) (fun k hk hS => by have := (ho.out.2.1.lt k hk).2; simp at hS; omega)
      have bel2 : Below w.heap.size w w2 := (ho.out.2.2.2.alloc hsr _).trans (b2.mono (by simp; omega))
      have Q2 := Lib.hid (And.intro own2 (And.intro mb bel2))
      have QP := Lib.hid (And.intro pb b2)
      clear b2 pb mb own2 bel2
      obtain ⟨yo, hyo⟩ : ∃ yo, yo = atP p.1 B := ⟨_, rfl⟩
      rw [← hyo]
      have HY := Lib.hid hyo
      clear hyo
      have hw2 : w.heap.size < w2.heap.size := by omega
      have hp2 : wr.heap.size < w2.heap.size := by omega
      cases yo with
      | none =>
        simp only [fnd, Option.getD, Option.isSome]
        go_wp2_with (at_builtin; refine wpList_append_lies _ rfl _ _ 22 rfl (w.heap.size + 1) 31 i0 _ 2 16 Try.underlying22 hi0 hz0 hz1 hz2 rfl (by omega) (.slice oa on ocap) on (fl pc (pDiff ⟨no, ca, cb, cc, cm, cr⟩ (A.take j) B)) rfl ((Q2.out.1.alloc _).alloc _) ⟨(w2.heap.size + 1), 0, none⟩ 1 1 (pc p) rfl rfl ?an1 (pc_one _) (by omega) (by unfold maxLen; omega) (by omega) ?an2 ((w2.heap.size + 1) + 1) (by simp) ?an3)
        case an1 => exact news1 w2 _ #[.int .i32 p.1, .int .i64 p.2] 31
        case an2 => simp; omega
        case an3 =>
          intro g3 cap3 w6 hown3 hgrow3 hat3 hlt3
          have R := Lib.hid (And.intro hown3 (And.intro hgrow3 hat3))
          clear hown3 hgrow3 hat3
          go_wp2_with fail
          go_roundg (A.length - (j + 1))
          case measure => omega
          case rel =>
            obtain ⟨r1, r2, r3⟩ := R.out
            have e := FS.out
            rw [show dstep ⟨no, ca, cb, cc, cm, cr⟩ B p = [p] by simp only [dstep, ← HY.out]] at e
            refine ⟨j + 1, by omega, rfl, by go_num, _, _, _, rfl, by omega, ?_, ?_, ?_, ?_⟩
            · rw [e, ho.out.1]; simp
            · rw [e, fl_app, fl_one]; exact r1
            · refine (r2.block w.heap.size (by simp; omega) (fun e => by have := (ho.out.2.1.lt _ e.symm).1; omega)).trans ?_
              exact (Below.heap_alloc _ _ _ (by simp; omega)).trans ((Below.heap_alloc _ _ _ (by omega)).trans Q2.out.2.1)
            · exact ((Q2.out.2.2.alloc (by omega) _).alloc (by simp; omega) _).grown r2 (by simp; omega) (fun k hk => Nat.le_of_succ_le (ho.out.2.1.lt k hk).1)
      | some y =>
        simp only [fnd, Option.getD, Option.isSome]
        have MX2 := Lib.hid (MX.out (w2.alloc (.cells #[.int .i32 p.1, .int .i64 y, .bool true] 71)) p.2 y)
        go_wp2_with fail
        refine MX2.out.mono ?_
        rintro e w4 ⟨rfl, b4⟩
        have hs4 := b4.size
        rw [World.size_alloc] at hs4
        have bb : ∀ k, k < w2.heap.size → w4.heap[k]? = w2.heap[k]? := fun k hk => (b4.block k (by simp; omega)).trans (Below.heap_alloc _ _ _ hk)
        have pb4 := (bb _ hp2).trans QP.out.1
        have mb4 := (bb _ hw2).trans Q2.out.2.1
        have q0 : w4.cell? ⟨wr.heap.size, 0, none⟩ = some (.int .i32 p.1) := by simp [World.cell?, pb4]
        have q1 : w4.cell? ⟨wr.heap.size, 1, none⟩ = some (.int .i64 p.2) := by simp [World.cell?, pb4]
        have m0 : w4.cell? ⟨w.heap.size, 0, none⟩ = some (.bool no) := by simp [World.cell?, mb4]
        have own4 : w4.ownsRow (w.heap.size + 1) 31 2 (.slice oa on ocap) on (fl pc (pDiff ⟨no, ca, cb, cc, cm, cr⟩ (A.take j) B)) :=
          row_chg (Q2.out.1.alloc (.cells #[.int .i32 p.1, .int .i64 y, .bool true] 71)) (Chg.of_below b4) (fun k hk hS => by have := (Q2.out.1.lt k hk).2; simp at hS; omega)
        have bel4 : Below w.heap.size w w4 := (Q2.out.2.2.alloc (by omega) _).trans (b4.mono (by simp; omega))
        have Q4 := Lib.hid (And.intro own4 (And.intro mb4 bel4))
        clear b4 bb pb4 mb4 own4 bel4
        obtain ⟨mn, hmn⟩ : ∃ mn, mn = mixn ⟨no, ca, cb, cc, cm, cr⟩ p.2 y := ⟨_, rfl⟩
        rw [← hmn]
        obtain ⟨mb, hmb⟩ : ∃ mb, mb = mixok ⟨no, ca, cb, cc, cm, cr⟩ mn := ⟨_, rfl⟩
        rw [← hmb]
        have HM := Lib.hid hmn
        have HB := Lib.hid hmb
        clear hmn hmb
        cases mb with
        | false =>
          go_wp2_with fail
          go_roundg (A.length - (j + 1))
          case measure => omega
          case rel =>
            have e := FS.out
            rw [show dstep ⟨no, ca, cb, cc, cm, cr⟩ B p = [] by simp [dstep, ← HY.out, ← HM.out, ← HB.out]] at e
            exact ⟨j + 1, by omega, rfl, by go_num, _, _, _, rfl, by omega, by rw [e, ho.out.1]; simp, by rw [e, List.append_nil]; exact Q4.out.1, Q4.out.2.1, Q4.out.2.2⟩
        | true =>
          cases no with
          | true =>
            go_wp2_with fail
            go_roundg (A.length - (j + 1))
            case measure => omega
            case rel =>
              have e := FS.out
              rw [show dstep ⟨true, ca, cb, cc, cm, cr⟩ B p = [] by simp [dstep, ← HY.out, ← HM.out, ← HB.out]] at e
              exact ⟨j + 1, by omega, rfl, by go_num, _, _, _, rfl, by omega, by rw [e, ho.out.1]; simp, by rw [e, List.append_nil]; exact Q4.out.1, Q4.out.2.1, Q4.out.2.2⟩
          | false =>
            go_wp2_with (at_builtin; refine wpList_append_lies _ rfl _ _ 22 rfl (w.heap.size + 1) 31 i0 _ 2 16 Try.underlying22 hi0 hz0 hz1 hz2 rfl (by omega) (.slice oa on ocap) on (fl pc (pDiff ⟨false, ca, cb, cc, cm, cr⟩ (A.take j) B)) rfl (Q4.out.1.alloc _) ⟨w4.heap.size, 0, none⟩ 1 1 (pc (p.1, mn)) rfl rfl ?as1 (pc_one _) (by omega) (by unfold maxLen; omega) (by omega) ?as2 (w4.heap.size + 1) (by simp) ?as3)
            case as1 => exact news0 w4 #[.int .i32 p.1, .int .i64 mn] 31
            case as2 => simp; omega
            case as3 =>
              intro g3 cap3 w6 hown3 hgrow3 hat3 hlt3
              have R := Lib.hid (And.intro hown3 (And.intro hgrow3 hat3))
              clear hown3 hgrow3 hat3
              go_wp2_with fail
              go_roundg (A.length - (j + 1))
              case measure => omega
              case rel =>
                obtain ⟨r1, r2, r3⟩ := R.out
                have e := FS.out
                rw [show dstep ⟨false, ca, cb, cc, cm, cr⟩ B p = [(p.1, mn)] by simp [dstep, ← HY.out, ← HM.out, ← HB.out]] at e
                refine ⟨j + 1, by omega, rfl, by go_num, _, _, _, rfl, by omega, ?_, ?_, ?_, ?_⟩
                · rw [e, ho.out.1]; simp
                · rw [e, fl_app, fl_one]; exact r1
                · refine (r2.block w.heap.size (by simp; omega) (fun e => by have := (ho.out.2.1.lt _ e.symm).1; omega)).trans ?_
                  exact (Below.heap_alloc _ _ _ (by omega)).trans Q4.out.2.1
                · exact (Q4.out.2.2.alloc (by omega) _).grown r2 (by simp; omega) (fun k hk => Nat.le_of_succ_le (ho.out.2.1.lt k hk).1)
    · have hj' : j = A.length := by omega
      subst hj'
      rw [List.take_length] at ho
      go_wp2_with fail
      go_ret
      refine ⟨_, rfl, ?_, ho.out.2.2.2⟩
      exact ⟨_, by rw [← ho.out.1]; exact ho.out.2.1⟩


set_option maxRecDepth 100000 in
set_option maxHeartbeats 1600000 in
theorem Inter_own {w : World} {v bv : Value} {A B : List (Int × Int)} (x : Mx) (h : Rd pc 2 w v A) (hB : Rd pc 2 w bv B) (hn : A.length ≤ 300000) (hn2 : B.length ≤ 300000) : Calls Try.prog 27 #[v, bv, .agg x.cells] w (fun e w' => ∃ v', e = .returned v' ∧ OwnP w' v' (pInter x A B) ∧ Below w.heap.size w w') := by
  obtain ⟨sa, cap, rfl⟩ := h.shape
  obtain ⟨ba, bcap, rfl⟩ := hB.shape
  obtain ⟨i0, hi0, hz0, hz1, hz2⟩ := info_parts info31
  have RD := Lib.hid (And.intro h hB)
  have AT := Lib.hid (fun (W : World) (k : Int) (hb : Below w.heap.size w W) => At_any k (hB.below hb) hn2)
  have MX := Lib.hid (fun (W : World) (d y : Int) => Mixed_any (w := W) x d y)
  clear h hB
  obtain ⟨no, ca, cb, cc, cm, cr⟩ := x
  simp only [Mx.cells] at *
  go_enter Try.func27, Try.ntmps27
  go_wp2_with fail
  go_loopg [7, 15] (A.length) (fun k out i wr => ∃ j : Nat, j ≤ A.length ∧ k = A.length - j ∧ i = .int .i64 j ∧ ∃ oa on ocap, out = .slice oa on ocap ∧ on ≤ j ∧ Hid (on = (pInter ⟨no, ca, cb, cc, cm, cr⟩ (A.take j) B).length ∧ wr.ownsRow (w.heap.size + 1) 31 2 (.slice oa on ocap) on (fl pc (pInter ⟨no, ca, cb, cc, cm, cr⟩ (A.take j) B)) ∧ wr.heap[w.heap.size]? = some (.cells #[.bool no, .int .i64 ca, .int .i64 cb, .int .i64 cc, .int .i64 cm, .int .i64 cr] 39 (0, 0)) ∧ Below w.heap.size w wr))
  case atStart => exact ⟨0, Nat.zero_le _, rfl, rfl, none, 0, 0, rfl, Nat.zero_le _, rfl, World.ownsRow_nil _ _ _ _, heap_alloc_new w _, (Below.refl _ w).alloc (Nat.le_refl _) _⟩
  case round =>
    obtain ⟨j, hj, rfl, rfl, oa, on, ocap, rfl, hon, ho⟩ := hrel
    by_cases hjn : j < A.length
    · obtain ⟨p, hp⟩ : ∃ p, A[j]? = some p := ⟨_, List.getElem?_eq_getElem hjn⟩
      obtain ⟨b, off, rfl, hc⟩ := (RD.out.1.below ho.out.2.2.2).at pc_len hp
      have k0 : wr.cell? ⟨b, off + j * 2, none⟩ = some (.int .i32 p.1) := hc 0 _ rfl
      have k1 : wr.cell? ⟨b, off + j * 2 + 1, none⟩ = some (.int .i64 p.2) := hc 1 _ rfl
      have FS : Hid (pInter ⟨no, ca, cb, cc, cm, cr⟩ (A.take (j + 1)) B = pInter ⟨no, ca, cb, cc, cm, cr⟩ (A.take j) B ++ istep ⟨no, ca, cb, cc, cm, cr⟩ B p) := by
        show pInter _ _ _ = _
        rw [List.take_add_one, hp, pInter, pInter, List.flatMap_append]; simp
      clear hc hp
      go_wp2_with fail
      refine (AT.out _ _ (ho.out.2.2.2.alloc ho.out.2.2.2.size _)).mono ?_
      rintro e w2 ⟨rfl, b2⟩
      have hs2 := b2.size
      rw [World.size_alloc] at hs2
      have hsr := ho.out.2.2.2.size
      have hbw := (Array.getElem?_eq_some_iff.1 ho.out.2.2.1).1
      have pb : w2.heap[wr.heap.size]? = some (.cells #[.int .i32 p.1, .int .i64 p.2] 31 (0, 0)) := (b2.block _ (by simp)).trans (heap_alloc_new wr _)
      have q0 : w2.cell? ⟨wr.heap.size, 0, none⟩ = some (.int .i32 p.1) := by simp [World.cell?, pb]
      have q1 : w2.cell? ⟨wr.heap.size, 1, none⟩ = some (.int .i64 p.2) := by simp [World.cell?, pb]
      have mb : w2.heap[w.heap.size]? = some (.cells #[.bool no, .int .i64 ca, .int .i64 cb, .int .i64 cc, .int .i64 cm, .int .i64 cr] 39 (0, 0)) := (b2.block _ (by simp; omega)).trans ((Below.heap_alloc _ _ _ hbw).trans ho.out.2.2.1)
      have m0 : w2.cell? ⟨w.heap.size, 0, none⟩ = some (.bool no) := by simp [World.cell?, mb]
      have m1 : w2.cell? ⟨w.heap.size, 1, none⟩ = some (.int .i64 ca) := by simp [World.cell?, mb]
      have m2 : w2.cell? ⟨w.heap.size, 2, none⟩ = some (.int .i64 cb) := by simp [World.cell?, mb]
      have m3 : w2.cell? ⟨w.heap.size, 3, none⟩ = some (.int .i64 cc) := by simp [World.cell?, mb]
      have m4 : w2.cell? ⟨w.heap.size, 4, none⟩ = some (.int .i64 cm) := by simp [World.cell?, mb]
      have m5 : w2.cell? ⟨w.heap.size, 5, none⟩ = some (.int .i64 cr) := by simp [World.cell?, mb]
      have own2 : w2.ownsRow (w.heap.size + 1) 31 2 (.slice oa on ocap) on (fl pc (pInter ⟨no, ca, cb, cc, cm, cr⟩ (A.take j) B)) :=
        row_chg (ho.out.2.1.alloc (.cells #[.int .i32 p.1, .int .i64 p.2] 31)) (Chg.of_below b2) (fun k hk hS => by have := (ho.out.2.1.lt k hk).2; simp at hS; omega)
      have bel2 : Below w.heap.size w w2 := (ho.out.2.2.2.alloc hsr _).trans (b2.mono (by simp; omega))
      have Q2 := Lib.hid (And.intro own2 (And.intro mb bel2))
      have QP := Lib.hid (And.intro pb b2)
      clear b2 pb mb own2 bel2
      obtain ⟨yo, hyo⟩ : ∃ yo, yo = atP p.1 B := ⟨_, rfl⟩
      rw [← hyo]
      have HY := Lib.hid hyo
      clear hyo
      have hw2 : w.heap.size < w2.heap.size := by omega
      have hp2 : wr.heap.size < w2.heap.size := by omega
      cases yo with
      | none =>
        simp only [fnd, Option.getD, Option.isSome]
        go_wp2_with fail
        go_roundg (A.length - (j + 1))
        case measure => omega
        case rel =>
          have e := FS.out
          rw [show istep ⟨no, ca, cb, cc, cm, cr⟩ B p = [] by simp only [istep, ← HY.out]] at e
          refine ⟨j + 1, by omega, rfl, by go_num, _, _, _, rfl, by omega, by rw [e, ho.out.1]; simp, by rw [e, List.append_nil]; exact Q2.out.1.alloc _, ?_, ?_⟩
          · exact (Below.heap_alloc _ _ _ (by omega)).trans Q2.out.2.1
          · exact Q2.out.2.2.alloc (by omega) _
      | some y =>
        simp only [fnd, Option.getD, Option.isSome]
        have MX2 := Lib.hid (MX.out (w2.alloc (.cells #[.int .i32 p.1, .int .i64 y, .bool true] 71)) p.2 y)
        go_wp2_with fail
        refine MX2.out.mono ?_
        rintro e w4 ⟨rfl, b4⟩
        have hs4 := b4.size
        rw [World.size_alloc] at hs4
        have bb : ∀ k, k < w2.heap.size → w4.heap[k]? = w2.heap[k]? := fun k hk => (b4.block k (by simp; omega)).trans (Below.heap_alloc _ _ _ hk)
        have pb4 := (bb _ hp2).trans QP.out.1
        have mb4 := (bb _ hw2).trans Q2.out.2.1
        have q0 : w4.cell? ⟨wr.heap.size, 0, none⟩ = some (.int .i32 p.1) := by simp [World.cell?, pb4]
        have q1 : w4.cell? ⟨wr.heap.size, 1, none⟩ = some (.int .i64 p.2) := by simp [World.cell?, pb4]
        have m0 : w4.cell? ⟨w.heap.size, 0, none⟩ = some (.bool no) := by simp [World.cell?, mb4]
        have own4 : w4.ownsRow (w.heap.size + 1) 31 2 (.slice oa on ocap) on (fl pc (pInter ⟨no, ca, cb, cc, cm, cr⟩ (A.take j) B)) :=
          row_chg (Q2.out.1.alloc (.cells #[.int .i32 p.1, .int .i64 y, .bool true] 71)) (Chg.of_below b4) (fun k hk hS => by have := (Q2.out.1.lt k hk).2; simp at hS; omega)
        have bel4 : Below w.heap.size w w4 := (Q2.out.2.2.alloc (by omega) _).trans (b4.mono (by simp; omega))
        have Q4 := Lib.hid (And.intro own4 (And.intro mb4 bel4))
        clear b4 bb pb4 mb4 own4 bel4
        obtain ⟨mn, hmn⟩ : ∃ mn, mn = mixn ⟨no, ca, cb, cc, cm, cr⟩ p.2 y := ⟨_, rfl⟩
        rw [← hmn]
        obtain ⟨mb, hmb⟩ : ∃ mb, mb = mixok ⟨no, ca, cb, cc, cm, cr⟩ mn := ⟨_, rfl⟩
        rw [← hmb]
        have HM := Lib.hid hmn
        have HB := Lib.hid hmb
        clear hmn hmb
        cases mb with
        | false =>
          go_wp2_with fail
          go_roundg (A.length - (j + 1))
          case measure => omega
          case rel =>
            have e := FS.out
            rw [show istep ⟨no, ca, cb, cc, cm, cr⟩ B p = [] by simp [istep, ← HY.out, ← HM.out, ← HB.out]] at e
            exact ⟨j + 1, by omega, rfl, by go_num, _, _, _, rfl, by omega, by rw [e, ho.out.1]; simp, by rw [e, List.append_nil]; exact Q4.out.1, Q4.out.2.1, Q4.out.2.2⟩
        | true =>
          go_wp2_with (at_builtin; refine wpList_append_lies _ rfl _ _ 22 rfl (w.heap.size + 1) 31 i0 _ 2 16 Try.underlying22 hi0 hz0 hz1 hz2 rfl (by omega) (.slice oa on ocap) on (fl pc (pInter ⟨no, ca, cb, cc, cm, cr⟩ (A.take j) B)) rfl (Q4.out.1.alloc _) ⟨w4.heap.size, 0, none⟩ 1 1 (pc (p.1, mn)) rfl rfl ?as1 (pc_one _) (by omega) (by unfold maxLen; omega) (by omega) ?as2 (w4.heap.size + 1) (by simp) ?as3)
          case as1 => exact news0 w4 #[.int .i32 p.1, .int .i64 mn] 31
          case as2 => simp; omega
          case as3 =>
            intro g3 cap3 w6 hown3 hgrow3 hat3 hlt3
            have R := Lib.hid (And.intro hown3 (And.intro hgrow3 hat3))
            clear hown3 hgrow3 hat3
            go_wp2_with fail
            go_roundg (A.length - (j + 1))
            case measure => omega
            case rel =>
              obtain ⟨r1, r2, r3⟩ := R.out
              have e := FS.out
              rw [show istep ⟨no, ca, cb, cc, cm, cr⟩ B p = [(p.1, mn)] by simp [istep, ← HY.out, ← HM.out, ← HB.out]] at e
              refine ⟨j + 1, by omega, rfl, by go_num, _, _, _, rfl, by omega, ?_, ?_, ?_, ?_⟩
              · rw [e, ho.out.1]; simp
              · rw [e, fl_app, fl_one]; exact r1
              · refine (r2.block w.heap.size (by simp; omega) (fun e => by have := (ho.out.2.1.lt _ e.symm).1; omega)).trans ?_
                exact (Below.heap_alloc _ _ _ (by omega)).trans Q4.out.2.1
              · exact (Q4.out.2.2.alloc (by omega) _).grown r2 (by simp; omega) (fun k hk => Nat.le_of_succ_le (ho.out.2.1.lt k hk).1)
    · have hj' : j = A.length := by omega
      subst hj'
      rw [List.take_length] at ho
      go_wp2_with fail
      go_ret
      refine ⟨_, rfl, ?_, ho.out.2.2.2⟩
      exact ⟨_, by rw [← ho.out.1]; exact ho.out.2.1⟩


set_option maxRecDepth 100000 in
set_option maxHeartbeats 3000000 in
theorem Union_own {w : World} {v bv : Value} {A B : List (Int × Int)} (x : Mx) (h : Rd pc 2 w v A) (hB : Rd pc 2 w bv B) (hn : A.length ≤ 90000) (hn2 : B.length ≤ 90000) : Calls Try.prog 29 #[v, bv, .agg x.cells] w (fun e w' => ∃ v', e = .returned v' ∧ OwnP w' v' (pUnion x A B) ∧ Below w.heap.size w w') := by
  obtain ⟨sa, cap, rfl⟩ := h.shape
  obtain ⟨ba, bcap, rfl⟩ := hB.shape
  have RD := Lib.hid (And.intro h hB)
  have ATB := Lib.hid (fun (W : World) (k : Int) (hb : Below w.heap.size w W) => At_any k (hB.below hb) (by omega))
  have ATA := Lib.hid (fun (W : World) (k : Int) (hb : Below w.heap.size w W) => At_any k (h.below hb) (by omega))
  have IS := Lib.hid (fun (W : World) (hb : Below w.heap.size w W) => Inter_own x (h.below hb) (hB.below hb) (by omega) (by omega))
  clear h hB
  have PU : Hid (pUnion x A B = (pInter x A B).foldl (putIf []) (B.foldl (putIf A) (A.foldl (putIf B) []))) := by
    show pUnion x A B = _
    rw [pUnion, putAll_eq]
  have LP := Lib.hid (pInter_len x A B)
  obtain ⟨no, ca, cb, cc, cm, cr⟩ := x
  simp only [Mx.cells] at *
  have hfl := run_fld
  go_enter Try.func29, Try.ntmps29
  have SB : Hid (PSrt ([] : List (Int × Int))) := List.Pairwise.nil
  have LB : Hid (([] : List (Int × Int)).length + A.length ≤ 300000) := by
    show ([] : List (Int × Int)).length + A.length ≤ 300000
    simp; omega
  go_wp2_with fail
  go_loopg [7, 16] (A.length) (fun k out i wr => ∃ j : Nat, j ≤ A.length ∧ k = A.length - j ∧ i = .int .i64 j ∧ ∃ oa on ocap, out = .slice oa on ocap ∧ Hid (OwnP wr (.slice oa on ocap) ((A.take j).foldl (putIf B) []) ∧ wr.heap[w.heap.size]? = some (.cells #[.bool no, .int .i64 ca, .int .i64 cb, .int .i64 cc, .int .i64 cm, .int .i64 cr] 39 (0, 0)) ∧ Below w.heap.size w wr))
  case atStart => exact ⟨0, Nat.zero_le _, rfl, rfl, _, _, _, rfl, ⟨0, World.ownsRow_nil _ _ _ _⟩, heap_alloc_new w _, (Below.refl _ w).alloc (Nat.le_refl _) _⟩
  case round =>
    obtain ⟨j, hj, rfl, rfl, oa, on, ocap, rfl, ho⟩ := hrel
    by_cases hjn : j < A.length
    · obtain ⟨p, hp⟩ : ∃ p, A[j]? = some p := ⟨_, List.getElem?_eq_getElem hjn⟩
      obtain ⟨b, off, rfl, hc⟩ := (RD.out.1.below ho.out.2.2).at pc_len hp
      have k0 : wr.cell? ⟨b, off + j * 2, none⟩ = some (.int .i32 p.1) := hc 0 _ rfl
      have k1 : wr.cell? ⟨b, off + j * 2 + 1, none⟩ = some (.int .i64 p.2) := hc 1 _ rfl
      have FS : Hid ((A.take (j + 1)).foldl (putIf B) [] = putIf B ((A.take j).foldl (putIf B) []) p) := by
        show List.foldl _ _ _ = _
        rw [List.take_add_one, hp, List.foldl_append]; rfl
      have hl : Hid (((A.take j).foldl (putIf B) []).length ≤ 300000) := by
        have h1 := len_putIf B (A.take j) _ SB.out
        have h2 := LB.out
        rw [List.length_take] at h1
        show List.length _ ≤ _
        omega
      clear hc hp
      go_wp2_with fail
      refine (ATB.out _ p.1 (ho.out.2.2.alloc ho.out.2.2.size _)).mono ?_
      rintro e w2 ⟨rfl, b2⟩
      have hs2 := b2.size
      rw [World.size_alloc] at hs2
      have hsr := ho.out.2.2.size
      have hbw := (Array.getElem?_eq_some_iff.1 ho.out.2.1).1
      have pb : w2.heap[wr.heap.size]? = some (.cells #[.int .i32 p.1, .int .i64 p.2] 31 (0, 0)) := (b2.block _ (by simp)).trans (heap_alloc_new wr _)
      have q0 : w2.cell? ⟨wr.heap.size, 0, none⟩ = some (.int .i32 p.1) := by simp [World.cell?, pb]
      have q1 : w2.cell? ⟨wr.heap.size, 1, none⟩ = some (.int .i64 p.2) := by simp [World.cell?, pb]
      have Q2 : Hid (OwnP w2 (.slice oa on ocap) ((A.take j).foldl (putIf B) []) ∧ w2.heap[w.heap.size]? = some (.cells #[.bool no, .int .i64 ca, .int .i64 cb, .int .i64 cc, .int .i64 cm, .int .i64 cr] 39 (0, 0)) ∧ Below w.heap.size w w2) :=
        ⟨(ho.out.1.below ((Below.refl _ wr).alloc (Nat.le_refl _) _)).below b2, (b2.block _ (by simp; omega)).trans ((Below.heap_alloc _ _ _ hbw).trans ho.out.2.1), (ho.out.2.2.alloc hsr _).trans (b2.mono (by simp; omega))⟩
      clear b2 pb
      obtain ⟨yo, hyo⟩ : ∃ yo, yo = atP p.1 B := ⟨_, rfl⟩
      rw [← hyo]
      have HY := Lib.hid hyo
      clear hyo
      simp only [fnd]
      cases yo with
      | some y =>
        simp only [Option.getD, Option.isSome]
        go_wp2_with fail
        go_roundg (A.length - (j + 1))
        case measure => omega
        case rel => exact ⟨j + 1, by omega, rfl, by go_num, _, _, _, rfl, by rw [FS.out, putIf, ← HY.out, if_pos (show (some y).isSome = true from rfl)]; exact Q2.out.1, Q2.out.2⟩
      | none =>
        simp only [Option.getD, Option.isSome]
        have PU := Lib.hid (Put_any p.1 p.2 Q2.out.1.rd hl.out)
        go_wp2_with fail
        refine PU.out.mono ?_
        rintro e w4 ⟨v4, rfl, o4, b4⟩
        obtain ⟨sa4, cap4, rfl⟩ := owns_shape o4
        have Q4 := Lib.hid (And.intro o4 b4)
        clear o4 b4 PU
        go_wp2_with fail
        go_roundg (A.length - (j + 1))
        case measure => omega
        case rel =>
          obtain ⟨o4, b4⟩ := Q4.out
          refine ⟨j + 1, by omega, rfl, by go_num, _, _, _, rfl, ?_, (b4.block _ (by omega)).trans Q2.out.2.1, Q2.out.2.2.trans (b4.mono (by omega))⟩
          rw [FS.out, putIf, ← HY.out, if_neg (by simp)]; exact ⟨_, o4⟩
    · have hj' : j = A.length := by omega
      subst hj'
      rw [List.take_length] at ho
      have SB : Hid (PSrt (A.foldl (putIf B) [])) := psrt_putIf _ _ _ SB.out
      have LB : Hid ((A.foldl (putIf B) []).length + B.length ≤ 300000) := by
        have h1 := len_putIf B A [] List.Pairwise.nil
        have h3 : ([] : List (Int × Int)).length = 0 := rfl
        show List.length _ + B.length ≤ 300000
        omega
      go_wp2_with fail
      go_loopg [7, 35] (B.length) (fun k out i wr => ∃ j : Nat, j ≤ B.length ∧ k = B.length - j ∧ i = .int .i64 j ∧ ∃ oa on ocap, out = .slice oa on ocap ∧ Hid (OwnP wr (.slice oa on ocap) ((B.take j).foldl (putIf A) (A.foldl (putIf B) [])) ∧ wr.heap[w.heap.size]? = some (.cells #[.bool no, .int .i64 ca, .int .i64 cb, .int .i64 cc, .int .i64 cm, .int .i64 cr] 39 (0, 0)) ∧ Below w.heap.size w wr))
      case atStart => exact ⟨0, Nat.zero_le _, rfl, rfl, _, _, _, rfl, ho.out⟩
      case round =>
        clear ho
        obtain ⟨j, hj, rfl, rfl, oa, on, ocap, rfl, ho⟩ := hrel
        by_cases hjn : j < B.length
        · obtain ⟨p, hp⟩ : ∃ p, B[j]? = some p := ⟨_, List.getElem?_eq_getElem hjn⟩
          obtain ⟨b, off, rfl, hc⟩ := (RD.out.2.below ho.out.2.2).at pc_len hp
          have k0 : wr.cell? ⟨b, off + j * 2, none⟩ = some (.int .i32 p.1) := hc 0 _ rfl
          have k1 : wr.cell? ⟨b, off + j * 2 + 1, none⟩ = some (.int .i64 p.2) := hc 1 _ rfl
          have FS : Hid ((B.take (j + 1)).foldl (putIf A) (A.foldl (putIf B) []) = putIf A ((B.take j).foldl (putIf A) (A.foldl (putIf B) [])) p) := by
            show List.foldl _ _ _ = _
            rw [List.take_add_one, hp, List.foldl_append]; rfl
          have hl : Hid (((B.take j).foldl (putIf A) (A.foldl (putIf B) [])).length ≤ 300000) := by
            have h1 := len_putIf A (B.take j) _ SB.out
            have h2 := LB.out
            rw [List.length_take] at h1
            show List.length _ ≤ _
            omega
          clear hc hp
          go_wp2_with fail
          refine (ATA.out _ p.1 (ho.out.2.2.alloc ho.out.2.2.size _)).mono ?_
          rintro e w2 ⟨rfl, b2⟩
          have hs2 := b2.size
          rw [World.size_alloc] at hs2
          have hsr := ho.out.2.2.size
          have hbw := (Array.getElem?_eq_some_iff.1 ho.out.2.1).1
          have pb : w2.heap[wr.heap.size]? = some (.cells #[.int .i32 p.1, .int .i64 p.2] 31 (0, 0)) := (b2.block _ (by simp)).trans (heap_alloc_new wr _)
          have q0 : w2.cell? ⟨wr.heap.size, 0, none⟩ = some (.int .i32 p.1) := by simp [World.cell?, pb]
          have q1 : w2.cell? ⟨wr.heap.size, 1, none⟩ = some (.int .i64 p.2) := by simp [World.cell?, pb]
          have Q2 : Hid (OwnP w2 (.slice oa on ocap) ((B.take j).foldl (putIf A) (A.foldl (putIf B) [])) ∧ w2.heap[w.heap.size]? = some (.cells #[.bool no, .int .i64 ca, .int .i64 cb, .int .i64 cc, .int .i64 cm, .int .i64 cr] 39 (0, 0)) ∧ Below w.heap.size w w2) :=
            ⟨(ho.out.1.below ((Below.refl _ wr).alloc (Nat.le_refl _) _)).below b2, (b2.block _ (by simp; omega)).trans ((Below.heap_alloc _ _ _ hbw).trans ho.out.2.1), (ho.out.2.2.alloc hsr _).trans (b2.mono (by simp; omega))⟩
          clear b2 pb
          obtain ⟨yo, hyo⟩ : ∃ yo, yo = atP p.1 A := ⟨_, rfl⟩
          rw [← hyo]
          have HY := Lib.hid hyo
          clear hyo
          simp only [fnd]
          cases yo with
          | some y =>
            simp only [Option.getD, Option.isSome]
            go_wp2_with fail
            go_roundg (B.length - (j + 1))
            case measure => omega
            case rel => exact ⟨j + 1, by omega, rfl, by go_num, _, _, _, rfl, by rw [FS.out, putIf, ← HY.out, if_pos (show (some y).isSome = true from rfl)]; exact Q2.out.1, Q2.out.2⟩
          | none =>
            simp only [Option.getD, Option.isSome]
            have PU := Lib.hid (Put_any p.1 p.2 Q2.out.1.rd hl.out)
            go_wp2_with fail
            refine PU.out.mono ?_
            rintro e w4 ⟨v4, rfl, o4, b4⟩
            obtain ⟨sa4, cap4, rfl⟩ := owns_shape o4
            have Q4 := Lib.hid (And.intro o4 b4)
            clear o4 b4 PU
            go_wp2_with fail
            go_roundg (B.length - (j + 1))
            case measure => omega
            case rel =>
              obtain ⟨o4, b4⟩ := Q4.out
              refine ⟨j + 1, by omega, rfl, by go_num, _, _, _, rfl, ?_, (b4.block _ (by omega)).trans Q2.out.2.1, Q2.out.2.2.trans (b4.mono (by omega))⟩
              rw [FS.out, putIf, ← HY.out, if_neg (by simp)]; exact ⟨_, o4⟩
        · have hj' : j = B.length := by omega
          subst hj'
          rw [List.take_length] at ho
          have SB3 : Hid (PSrt (B.foldl (putIf A) (A.foldl (putIf B) []))) := psrt_putIf _ _ _ SB.out
          have LB3 : Hid ((B.foldl (putIf A) (A.foldl (putIf B) [])).length + A.length ≤ 300000) := by
            have h1 := len_putIf B A [] List.Pairwise.nil
            have h2 := len_putIf A B _ SB.out
            have h3 : ([] : List (Int × Int)).length = 0 := rfl
            show List.length _ + A.length ≤ 300000
            omega
          have mb := ho.out.2.1
          have m0 := bool_cell mb
          have m1 := int_cell1 mb
          have m2 := int_cell2 mb
          have m3 := int_cell3 mb
          have m4 := int_cell4 mb
          have m5 := int_cell5 mb
          clear mb
          go_wp2_with fail
          refine (IS.out _ ho.out.2.2).mono ?_
          rintro e w7 ⟨v7, rfl, r7, b7⟩
          have r7 := r7.rd
          obtain ⟨s7, c7, rfl⟩ := r7.shape
          have R7 := Lib.hid r7
          have O7 : Hid (OwnP w7 (.slice oa on ocap) (B.foldl (putIf A) (A.foldl (putIf B) [])) ∧ Below w.heap.size w w7) := ⟨ho.out.1.below b7, ho.out.2.2.trans (b7.mono ho.out.2.2.size)⟩
          clear r7 b7 ho m0 m1 m2 m3 m4 m5
          obtain ⟨I, hI⟩ : ∃ I, I = pInter ⟨no, ca, cb, cc, cm, cr⟩ A B := ⟨_, rfl⟩
          rw [← hI] at R7 LP PU ⊢
          clear hI
          have LI : I.length ≤ 90000 := by have := LP.out; omega
          go_wp2_with fail
          go_loopg [7, 57] (I.length) (fun k out i wr => ∃ j : Nat, j ≤ I.length ∧ k = I.length - j ∧ i = .int .i64 j ∧ ∃ oa on ocap, out = .slice oa on ocap ∧ Hid (OwnP wr (.slice oa on ocap) ((I.take j).foldl (putIf []) (B.foldl (putIf A) (A.foldl (putIf B) []))) ∧ Below w.heap.size w wr ∧ Below w7.heap.size w7 wr))
          case atStart => exact ⟨0, Nat.zero_le _, rfl, rfl, _, _, _, rfl, O7.out.1, O7.out.2, Below.refl _ _⟩
          case round =>
            obtain ⟨j, hj, rfl, rfl, oa, on, ocap, rfl, ho⟩ := hrel
            by_cases hjn : j < I.length
            · obtain ⟨p, hp⟩ : ∃ p, I[j]? = some p := ⟨_, List.getElem?_eq_getElem hjn⟩
              obtain ⟨b, off, rfl, hc⟩ := (R7.out.below ho.out.2.2).at pc_len hp
              have k0 : wr.cell? ⟨b, off + j * 2, none⟩ = some (.int .i32 p.1) := hc 0 _ rfl
              have k1 : wr.cell? ⟨b, off + j * 2 + 1, none⟩ = some (.int .i64 p.2) := hc 1 _ rfl
              have FS : Hid ((I.take (j + 1)).foldl (putIf []) (B.foldl (putIf A) (A.foldl (putIf B) [])) = pPut p.1 p.2 ((I.take j).foldl (putIf []) (B.foldl (putIf A) (A.foldl (putIf B) [])))) := by
                show List.foldl _ _ _ = _
                rw [List.take_add_one, hp, List.foldl_append]; rfl
              have hl : Hid (((I.take j).foldl (putIf []) (B.foldl (putIf A) (A.foldl (putIf B) []))).length ≤ 300000) := by
                have h1 := len_putIf [] (I.take j) _ SB3.out
                have h2 := LB3.out
                have h3 := LP.out
                rw [List.length_take] at h1
                show List.length _ ≤ _
                omega
              have PT := Lib.hid (fun o => Put_any (w := wr.alloc o) p.1 p.2 (ho.out.1.rd.below ((Below.refl _ wr).alloc (Nat.le_refl _) o)) hl.out)
              clear hc hp
              go_wp2_with fail
              refine (PT.out _).mono ?_
              rintro e w4 ⟨v4, rfl, o4, b4⟩
              obtain ⟨sa4, cap4, rfl⟩ := owns_shape o4
              have Q4 := Lib.hid (And.intro o4 b4)
              clear o4 b4 PT
              go_wp2_with fail
              go_roundg (I.length - (j + 1))
              case measure => omega
              case rel =>
                obtain ⟨o4, b4⟩ := Q4.out
                refine ⟨j + 1, by omega, rfl, by go_num, _, _, _, rfl, ?_, (ho.out.2.1.alloc ho.out.2.1.size _).trans (b4.mono (by have := ho.out.2.1.size; simp; omega)), (ho.out.2.2.alloc ho.out.2.2.size _).trans (b4.mono (by have := ho.out.2.2.size; simp; omega))⟩
                rw [FS.out]; exact ⟨_, o4⟩
            · have hj' : j = I.length := by omega
              subst hj'
              rw [List.take_length] at ho
              go_wp2_with fail
              go_ret
              exact ⟨_, rfl, by rw [PU.out]; exact ho.out.1, ho.out.2.1⟩

end Go.Proofs.Ytahghidbadpkeaa

/- The walks of spec.none, spec.Least, spec.Greatest. -/
set_option linter.unusedVariables false
set_option linter.unusedSimpArgs false
namespace Go.Proofs.Ytahghidbadpkeaa
open Go.Deep Go.RowKit

set_option maxRecDepth 100000 in
set_option maxHeartbeats 400000 in
theorem none_any {w : World} : Calls Try.prog 85 #[] w (fun e w' => e = .returned (fnd (-2147483648) none) ∧ Below w.heap.size w w') := by
  go_enter Try.func85, Try.ntmps85
  go_wp2_with fail
  (try simp only [Exit.inBlock, Exit.then])
  refine bodyPost_ret (results_cell_row (P := Try.prog) rfl _ _ w.heap.size 71 #[.int .i32 (-2147483648), .int .i64 0, .bool false] (0, 0) _ rfl (heap_alloc_new w _) Try.underlying71 rfl (by kernel_rfl)) rfl ?_
  exact ⟨rfl, (Below.refl _ w).alloc (Nat.le_refl _) _⟩

def lk : List (Int × Int) → Int
  | [] => -2147483648
  | p :: _ => p.1
def gk (L : List (Int × Int)) : Int := match L.getLast? with
  | none => -2147483648
  | some p => p.1

set_option maxRecDepth 100000 in
set_option maxHeartbeats 800000 in
theorem Least_any {w : World} {v : Value} {L : List (Int × Int)} (h : Rd pc 2 w v L) (hn : L.length ≤ 300000) : Calls Try.prog 71 #[v] w (fun e w' => (∃ d, e = .returned (fnd (lk L) d)) ∧ Below w.heap.size w w') := by
  obtain ⟨sa, cap, rfl⟩ := h.shape
  have fb0 : (w.alloc (.cells #[.int .i32 0, .int .i64 0, .bool false] 71)).heap[w.heap.size]? = some (.cells #[.int .i32 0, .int .i64 0, .bool false] 71 (0, 0)) := heap_alloc_new w _
  have BW0 : Hid (Below w.heap.size w (w.alloc (.cells #[.int .i32 0, .int .i64 0, .bool false] 71))) := (Below.refl _ w).alloc (Nat.le_refl _) _
  match L, h with
  | [], h =>
    have FB := Lib.hid fb0
    clear h fb0
    simp only [List.length_nil]
    go_enter Try.func71, Try.ntmps71
    go_wp2_with fail
    refine none_any.mono ?_
    rintro e w2 ⟨rfl, b2⟩
    have FB2 : Hid (w2.heap[w.heap.size]? = some (.cells #[.int .i32 0, .int .i64 0, .bool false] 71 (0, 0))) := (b2.block _ (by simp)).trans FB.out
    have B2 : Hid (Below w.heap.size w w2) := BW0.out.trans (b2.mono (by simp))
    have z0 : w2.cell? ⟨w.heap.size, 0, none⟩ = some (.int .i32 0) := by simp [World.cell?, FB2.out]
    have z1 : w2.cell? ⟨w.heap.size, 1, none⟩ = some (.int .i64 0) := by simp [World.cell?, FB2.out]
    have z2 : w2.cell? ⟨w.heap.size, 2, none⟩ = some (.bool false) := by simp [World.cell?, FB2.out]
    have f0 : w2.frozen? ⟨w.heap.size, 0, none⟩ = false := by simp [World.frozen?, FB2.out]
    have f1 : w2.frozen? ⟨w.heap.size, 1, none⟩ = false := by simp [World.frozen?, FB2.out]
    have f2 : w2.frozen? ⟨w.heap.size, 2, none⟩ = false := by simp [World.frozen?, FB2.out]
    clear b2
    simp only [fnd]
    go_wp2_with fail
    (try simp only [Exit.inBlock, Exit.then])
    refine bodyPost_ret (results_cell_row (P := Try.prog) rfl _ _ w.heap.size 71 #[_, _, _] (0, 0) _ rfl (found_block FB2.out _ _ _) Try.underlying71 rfl (by kernel_rfl)) rfl ?_
    exact ⟨⟨none, rfl⟩, found_below B2.out _ _ _⟩
  | p :: L, h =>
    obtain ⟨b, off, rfl, hc⟩ := h.at pc_len (j := 0) (x := p) rfl
    have k0 : w.cell? ⟨b, off, none⟩ = some (.int .i32 p.1) := by have := hc 0 _ rfl; simpa using this
    have k1 : w.cell? ⟨b, off + 1, none⟩ = some (.int .i64 p.2) := by have := hc 1 _ rfl; simpa using this
    have hb : b < w.heap.size := World.block_lt_of_cell? w _ k0
    have hne : b ≠ w.heap.size := by omega
    have FB := Lib.hid fb0
    clear h hc fb0
    obtain ⟨n, hn'⟩ : ∃ n : Nat, n = (p :: L).length := ⟨_, rfl⟩
    have hn0 : 0 < n := by rw [hn']; simp
    rw [← hn'] at hn ⊢
    clear hn'
    have hz : ((n : Int) == 0) = false := by rw [beq_eq_false_iff_ne]; omega
    go_enter Try.func71, Try.ntmps71
    go_wp2_with fail
    have d0 : (w.alloc (.cells #[.int .i32 0, .int .i64 0, .bool false] 71)).drew.cell? ⟨b, off, none⟩ = some (.int .i32 p.1) := (World.cell?_of_block (Below.heap_alloc _ _ _ hb)).trans k0
    have d1 : (w.alloc (.cells #[.int .i32 0, .int .i64 0, .bool false] 71)).drew.cell? ⟨b, off + 1, none⟩ = some (.int .i64 p.2) := (World.cell?_of_block (Below.heap_alloc _ _ _ hb)).trans k1
    go_region_with (fail)
    all_goals (go_wp2_with fail
               (try simp only [Exit.inBlock, Exit.then])
               refine bodyPost_ret (results_cell_row (P := Try.prog) rfl _ _ w.heap.size 71 #[_, _, _] (0, 0) _ rfl (heap_alloc_new w _) Try.underlying71 rfl (by kernel_rfl)) rfl ?_
               exact ⟨⟨some p.2, rfl⟩, ((Below.refl _ w).alloc (Nat.le_refl _) _).trans ⟨rfl, rfl, rfl, Nat.le_refl _, fun _ _ => rfl⟩⟩)

set_option maxRecDepth 100000 in
set_option maxHeartbeats 800000 in
theorem Greatest_any {w : World} {v : Value} {L : List (Int × Int)} (h : Rd pc 2 w v L) (hn : L.length ≤ 300000) : Calls Try.prog 72 #[v] w (fun e w' => (∃ d, e = .returned (fnd (gk L) d)) ∧ Below w.heap.size w w') := by
  obtain ⟨sa, cap, rfl⟩ := h.shape
  have fb0 : (w.alloc (.cells #[.int .i32 0, .int .i64 0, .bool false] 71)).heap[w.heap.size]? = some (.cells #[.int .i32 0, .int .i64 0, .bool false] 71 (0, 0)) := heap_alloc_new w _
  have BW0 : Hid (Below w.heap.size w (w.alloc (.cells #[.int .i32 0, .int .i64 0, .bool false] 71))) := (Below.refl _ w).alloc (Nat.le_refl _) _
  by_cases hL : L = []
  · subst hL
    have FB := Lib.hid fb0
    clear h fb0
    simp only [List.length_nil]
    go_enter Try.func72, Try.ntmps72
    go_wp2_with fail
    refine none_any.mono ?_
    rintro e w2 ⟨rfl, b2⟩
    have FB2 : Hid (w2.heap[w.heap.size]? = some (.cells #[.int .i32 0, .int .i64 0, .bool false] 71 (0, 0))) := (b2.block _ (by simp)).trans FB.out
    have B2 : Hid (Below w.heap.size w w2) := BW0.out.trans (b2.mono (by simp))
    have z0 : w2.cell? ⟨w.heap.size, 0, none⟩ = some (.int .i32 0) := by simp [World.cell?, FB2.out]
    have z1 : w2.cell? ⟨w.heap.size, 1, none⟩ = some (.int .i64 0) := by simp [World.cell?, FB2.out]
    have z2 : w2.cell? ⟨w.heap.size, 2, none⟩ = some (.bool false) := by simp [World.cell?, FB2.out]
    have f0 : w2.frozen? ⟨w.heap.size, 0, none⟩ = false := by simp [World.frozen?, FB2.out]
    have f1 : w2.frozen? ⟨w.heap.size, 1, none⟩ = false := by simp [World.frozen?, FB2.out]
    have f2 : w2.frozen? ⟨w.heap.size, 2, none⟩ = false := by simp [World.frozen?, FB2.out]
    clear b2
    simp only [fnd]
    go_wp2_with fail
    (try simp only [Exit.inBlock, Exit.then])
    refine bodyPost_ret (results_cell_row (P := Try.prog) rfl _ _ w.heap.size 71 #[_, _, _] (0, 0) _ rfl (found_block FB2.out _ _ _) Try.underlying71 rfl (by kernel_rfl)) rfl ?_
    exact ⟨⟨none, rfl⟩, found_below B2.out _ _ _⟩
  · have hpos : 0 < L.length := List.length_pos_iff.2 hL
    obtain ⟨p, hp⟩ : ∃ p, L[L.length - 1]? = some p := ⟨_, List.getElem?_eq_getElem (by omega)⟩
    have hg : gk L = p.1 := by rw [gk, List.getLast?_eq_getElem?, hp]
    obtain ⟨b, off, rfl, hc⟩ := h.at pc_len hp
    obtain ⟨n, hn'⟩ : ∃ n : Nat, n + 1 = L.length := ⟨L.length - 1, by omega⟩
    rw [← hn', Nat.add_sub_cancel] at hc
    have k0 : w.cell? ⟨b, off + n * 2, none⟩ = some (.int .i32 p.1) := by have := hc 0 _ rfl; simpa using this
    have k1 : w.cell? ⟨b, off + n * 2 + 1, none⟩ = some (.int .i64 p.2) := by have := hc 1 _ rfl; simpa using this
    have hb : b < w.heap.size := World.block_lt_of_cell? w _ k0
    have hne : b ≠ w.heap.size := by omega
    have HG := Lib.hid hg
    have FB := Lib.hid fb0
    have hn1 : n ≤ 300000 := by omega
    rw [← hn']
    clear h hc fb0 hp hg hn' hpos hn hL
    have hz : (((n + 1 : Nat) : Int) == 0) = false := by rw [beq_eq_false_iff_ne]; omega
    have hz2 : ((n : Int) + 1 == 0) = false := by rw [beq_eq_false_iff_ne]; omega
    go_enter Try.func72, Try.ntmps72
    go_wp2_with fail
    (try simp only [Exit.inBlock, Exit.then])
    refine bodyPost_ret (results_cell_row (P := Try.prog) rfl _ _ w.heap.size 71 #[.int .i32 p.1, .int .i64 p.2, .bool true] (0, 0) _ rfl ((Below.heap_alloc _ _ _ (by simp)).trans (heap_alloc_new w _)) Try.underlying71 rfl (by kernel_rfl)) rfl ?_
    exact ⟨⟨some p.2, by rw [HG.out]; rfl⟩, ((Below.refl _ w).alloc (Nat.le_refl _) _).alloc (by simp) _⟩

end Go.Proofs.Ytahghidbadpkeaa

/- The walk of spec.Update. -/
set_option linter.unusedVariables false
set_option linter.unusedSimpArgs false
namespace Go.Proofs.Ytahghidbadpkeaa
open Go.Deep Go.RowKit

theorem results_tmp_cell {P : Program} {fn : Func} {q p : Tmp} {ty : TypeId} (h : fn.results = #[.tmp q, .cell p ty]) (tmps : Array Value) (w : World) (g : Nat) (t : TypeId) (cs : Array Value) (fr : Nat × Nat) (d : TypeDesc)
    (hp : tmps.getD p undef = .pointer (some ⟨g, 0, none⟩)) (hg : w.heap[g]? = some (.cells cs t fr))
    (hu : P.underlying ty = some d) (hd : (match d with | .struct _ | .array _ _ => true | _ => false) = true) (hi : (P.info? ty).map (·.size) = some cs.size) :
    (results fn tmps).run P w = .ok (.tuple #[tmps.getD q undef, .agg cs]) w := by
  have hp' : tmps[p]?.getD undef = .pointer (some ⟨g, 0, none⟩) := by simpa using hp
  simp [results, h, hp', asAddr, run_loadVar_row w g t ty cs fr d hg hu hd hi]

theorem OwnP.tag {S : Nat → Prop} {w w' : World} {v : Value} {L : List (Int × Int)} (h : OwnP w v L) (c : Chg S w w') (hS : ∀ k, S k → ∃ cs ty, w.heap[k]? = some (.cells cs ty (0, 0)) ∧ ty ≠ 31) : OwnP w' v L := by
  obtain ⟨B, h⟩ := h
  exact ⟨B, row_tag h c hS⟩

theorem sup_set {w W : World} {v : Value} {L : List (Int × Int)} {x y z : Value} (b : Below w.heap.size w W) (g : OwnP W v L) (h : W.heap[w.heap.size + 1]? = some (.cells #[x, y, z] 71 (0, 0))) :
    (∀ p q r, OwnP (((W.setCell ⟨w.heap.size + 1, 0, none⟩ p).setCell ⟨w.heap.size + 1, 1, none⟩ q).setCell ⟨w.heap.size + 1, 2, none⟩ r) v L) ∧
    (∀ p q r, Below w.heap.size w (((W.setCell ⟨w.heap.size + 1, 0, none⟩ p).setCell ⟨w.heap.size + 1, 1, none⟩ q).setCell ⟨w.heap.size + 1, 2, none⟩ r)) := by
  refine ⟨fun p q r => ?_, fun p q r => ((b.setCell (p := ⟨w.heap.size + 1, 0, none⟩) (Nat.le_succ _) _).setCell (p := ⟨w.heap.size + 1, 1, none⟩) (Nat.le_succ _) _).setCell (p := ⟨w.heap.size + 1, 2, none⟩) (Nat.le_succ _) _⟩
  refine g.tag (S := fun k => k = w.heap.size + 1) ((((Chg.refl (fun k => k = w.heap.size + 1) W).setCell ⟨w.heap.size + 1, 0, none⟩ p (fun _ => rfl)).setCell ⟨w.heap.size + 1, 1, none⟩ q (fun _ => rfl)).setCell ⟨w.heap.size + 1, 2, none⟩ r (fun _ => rfl)) ?_
  rintro k rfl
  exact ⟨_, 71, h, by decide⟩

/-- What an act of the kinds 0 to 3 makes of a set, as the reference has it. -/
def updP (a : Ac) (S : List (Int × Int)) : List (Int × Int) :=
  if a.kd % 4 = 0 then pPut a.key a.dt S else if a.kd % 4 = 1 then pDrop a.key S else if a.kd % 4 = 2 then pDrop (lk S) S else pDrop (gk S) S
def SuPost (L : List (Int × Int)) (w : World) (e : Ending) (w' : World) : Prop :=
  ∃ v x y z, e = .returned (.tuple #[v, .agg #[.int .i32 x, .int .i64 y, .bool z]]) ∧ OwnP w' v L ∧ Below w.heap.size w w'

set_option maxRecDepth 100000 in
set_option maxHeartbeats 4000000 in
theorem Update_spec {w : World} {v : Value} {S : List (Int × Int)} (a : Ac) (h : Rd pc 2 w v S) (hn : S.length ≤ 300000) : Calls Try.prog 56 #[v, .agg a.cells] w (SuPost (updP a S) w) := by
  obtain ⟨sa, cap, rfl⟩ := h.shape
  have RD := Lib.hid h
  have LN := Lib.hid hn
  have UL : Hid (∀ q, a.kd % 4 = q → updP a S = if q = 0 then pPut a.key a.dt S else if q = 1 then pDrop a.key S else if q = 2 then pDrop (lk S) S else pDrop (gk S) S) := fun q hq => by rw [updP, hq]
  clear h
  obtain ⟨kd, ofv, wi, key, dt, no, ca, cb, cc, cm, cr⟩ := a
  simp only [Ac.cells] at *
  have h4 : kd % 4 = 0 ∨ kd % 4 = 1 ∨ kd % 4 = 2 ∨ kd % 4 = 3 := by omega
  rcases h4 with h4 | h4 | h4 | h4
  · have hA : bits .and .i64 kd 3 = 0 := by rw [and3, h4]
    have U := Lib.hid (UL.out 0 h4)
    clear h4 UL
    go_enter Try.func56, Try.ntmps56
    go_upto_region 3 with (fail)
    have BW : Hid (Below w.heap.size w ((w.alloc (.cells #[.int .i64 kd, .int .i64 ofv, .int .i64 wi, .int .i32 key, .int .i64 dt, .bool no, .int .i64 ca, .int .i64 cb, .int .i64 cc, .int .i64 cm, .int .i64 cr] 76)).alloc (.cells #[.int .i32 0, .int .i64 0, .bool false] 71))) := ((Below.refl _ w).alloc (Nat.le_refl _) _).alloc (by simp) _
    have BX : Hid (((w.alloc (.cells #[.int .i64 kd, .int .i64 ofv, .int .i64 wi, .int .i32 key, .int .i64 dt, .bool no, .int .i64 ca, .int .i64 cb, .int .i64 cc, .int .i64 cm, .int .i64 cr] 76)).alloc (.cells #[.int .i32 0, .int .i64 0, .bool false] 71)).heap[w.heap.size]? = some (.cells #[.int .i64 kd, .int .i64 ofv, .int .i64 wi, .int .i32 key, .int .i64 dt, .bool no, .int .i64 ca, .int .i64 cb, .int .i64 cc, .int .i64 cm, .int .i64 cr] 76 (0, 0))) := (Below.heap_alloc _ _ _ (by simp)).trans (heap_alloc_new w _)
    have FB : Hid (((w.alloc (.cells #[.int .i64 kd, .int .i64 ofv, .int .i64 wi, .int .i32 key, .int .i64 dt, .bool no, .int .i64 ca, .int .i64 cb, .int .i64 cc, .int .i64 cm, .int .i64 cr] 76)).alloc (.cells #[.int .i32 0, .int .i64 0, .bool false] 71)).heap[w.heap.size + 1]? = some (.cells #[.int .i32 0, .int .i64 0, .bool false] 71 (0, 0))) := by
      have := heap_alloc_new (w.alloc (.cells #[.int .i64 kd, .int .i64 ofv, .int .i64 wi, .int .i32 key, .int .i64 dt, .bool no, .int .i64 ca, .int .i64 cb, .int .i64 cc, .int .i64 cm, .int .i64 cr] 76)) (.cells #[.int .i32 0, .int .i64 0, .bool false] 71)
      rw [World.size_alloc] at this
      exact this
    have BW : Hid (Below w.heap.size w ((w.alloc (.cells #[.int .i64 kd, .int .i64 ofv, .int .i64 wi, .int .i32 key, .int .i64 dt, .bool no, .int .i64 ca, .int .i64 cb, .int .i64 cc, .int .i64 cm, .int .i64 cr] 76)).alloc (.cells #[.int .i32 0, .int .i64 0, .bool false] 71)).drew) := BW.out.trans ⟨rfl, rfl, rfl, Nat.le_refl _, fun _ _ => rfl⟩
    have BX : Hid (((w.alloc (.cells #[.int .i64 kd, .int .i64 ofv, .int .i64 wi, .int .i32 key, .int .i64 dt, .bool no, .int .i64 ca, .int .i64 cb, .int .i64 cc, .int .i64 cm, .int .i64 cr] 76)).alloc (.cells #[.int .i32 0, .int .i64 0, .bool false] 71)).drew.heap[w.heap.size]? = some (.cells #[.int .i64 kd, .int .i64 ofv, .int .i64 wi, .int .i32 key, .int .i64 dt, .bool no, .int .i64 ca, .int .i64 cb, .int .i64 cc, .int .i64 cm, .int .i64 cr] 76 (0, 0))) := BX.out
    have FB : Hid (((w.alloc (.cells #[.int .i64 kd, .int .i64 ofv, .int .i64 wi, .int .i32 key, .int .i64 dt, .bool no, .int .i64 ca, .int .i64 cb, .int .i64 cc, .int .i64 cm, .int .i64 cr] 76)).alloc (.cells #[.int .i32 0, .int .i64 0, .bool false] 71)).drew.heap[w.heap.size + 1]? = some (.cells #[.int .i32 0, .int .i64 0, .bool false] 71 (0, 0))) := FB.out
    go_region_with (first
      | (go_at_call 43
         go_loud (refine (Put_any key dt (RD.out.below BW.out) LN.out).mono ?_)
         rintro e wN ⟨vP, rfl, oP, bN⟩
         have PU : Hid (OwnP wN vP _) := ⟨_, oP⟩
         have lt1 := (Array.getElem?_eq_some_iff.1 BX.out).1
         have lt2 := (Array.getElem?_eq_some_iff.1 FB.out).1
         have BX := Lib.hid ((bN.block _ lt1).trans BX.out)
         have FB := Lib.hid ((bN.block _ lt2).trans FB.out)
         have BW := Lib.hid (BW.out.trans (bN.mono BW.out.size))
         clear bN lt1 lt2 oP
         have m3 := ac_cell3 BX.out
         have m4 := ac_cell4 BX.out
         have z0 := fb_cell0 FB.out
         have z1 := fb_cell1 FB.out
         have z2 := fb_cell2 FB.out
         have f0 := fb_frz FB.out 0
         have f1 := fb_frz FB.out 1
         have f2 := fb_frz FB.out 2)
      | (go_at_call 49
         go_loud (refine (At_any key (RD.out.below BW.out) LN.out).mono ?_)
         rintro e wN ⟨rfl, bN⟩
         try (have PU := Lib.hid (PU.out.below bN))
         have lt1 := (Array.getElem?_eq_some_iff.1 BX.out).1
         have lt2 := (Array.getElem?_eq_some_iff.1 FB.out).1
         have BX := Lib.hid ((bN.block _ lt1).trans BX.out)
         have FB := Lib.hid ((bN.block _ lt2).trans FB.out)
         have BW := Lib.hid (BW.out.trans (bN.mono BW.out.size))
         clear bN lt1 lt2
         have m3 := ac_cell3 BX.out
         have m4 := ac_cell4 BX.out
         have z0 := fb_cell0 FB.out
         have z1 := fb_cell1 FB.out
         have z2 := fb_cell2 FB.out
         have f0 := fb_frz FB.out 0
         have f1 := fb_frz FB.out 1
         have f2 := fb_frz FB.out 2
         simp only [fnd]))
    all_goals (go_wp2_with fail
               (try simp only [Exit.inBlock, Exit.then])
               refine bodyPost_ret (results_tmp_cell (P := Try.prog) rfl _ _ (w.heap.size + 1) 71 #[_, _, _] (0, 0) _ rfl (found_block FB.out _ _ _) Try.underlying71 rfl (by kernel_rfl)) rfl ?_
               have cE := sup_set BW.out PU.out FB.out
               exact ⟨_, _, _, _, rfl, by rw [U.out]; exact cE.1 _ _ _, cE.2 _ _ _⟩)
  · have hA : bits .and .i64 kd 3 = 1 := by rw [and3, h4]
    have U := Lib.hid (UL.out 1 h4)
    clear h4 UL
    go_enter Try.func56, Try.ntmps56
    go_upto_region 5 with (fail)
    have BW : Hid (Below w.heap.size w ((w.alloc (.cells #[.int .i64 kd, .int .i64 ofv, .int .i64 wi, .int .i32 key, .int .i64 dt, .bool no, .int .i64 ca, .int .i64 cb, .int .i64 cc, .int .i64 cm, .int .i64 cr] 76)).alloc (.cells #[.int .i32 0, .int .i64 0, .bool false] 71))) := ((Below.refl _ w).alloc (Nat.le_refl _) _).alloc (by simp) _
    have BX : Hid (((w.alloc (.cells #[.int .i64 kd, .int .i64 ofv, .int .i64 wi, .int .i32 key, .int .i64 dt, .bool no, .int .i64 ca, .int .i64 cb, .int .i64 cc, .int .i64 cm, .int .i64 cr] 76)).alloc (.cells #[.int .i32 0, .int .i64 0, .bool false] 71)).heap[w.heap.size]? = some (.cells #[.int .i64 kd, .int .i64 ofv, .int .i64 wi, .int .i32 key, .int .i64 dt, .bool no, .int .i64 ca, .int .i64 cb, .int .i64 cc, .int .i64 cm, .int .i64 cr] 76 (0, 0))) := (Below.heap_alloc _ _ _ (by simp)).trans (heap_alloc_new w _)
    have FB : Hid (((w.alloc (.cells #[.int .i64 kd, .int .i64 ofv, .int .i64 wi, .int .i32 key, .int .i64 dt, .bool no, .int .i64 ca, .int .i64 cb, .int .i64 cc, .int .i64 cm, .int .i64 cr] 76)).alloc (.cells #[.int .i32 0, .int .i64 0, .bool false] 71)).heap[w.heap.size + 1]? = some (.cells #[.int .i32 0, .int .i64 0, .bool false] 71 (0, 0))) := by
      have := heap_alloc_new (w.alloc (.cells #[.int .i64 kd, .int .i64 ofv, .int .i64 wi, .int .i32 key, .int .i64 dt, .bool no, .int .i64 ca, .int .i64 cb, .int .i64 cc, .int .i64 cm, .int .i64 cr] 76)) (.cells #[.int .i32 0, .int .i64 0, .bool false] 71)
      rw [World.size_alloc] at this
      exact this
    have BW : Hid (Below w.heap.size w ((w.alloc (.cells #[.int .i64 kd, .int .i64 ofv, .int .i64 wi, .int .i32 key, .int .i64 dt, .bool no, .int .i64 ca, .int .i64 cb, .int .i64 cc, .int .i64 cm, .int .i64 cr] 76)).alloc (.cells #[.int .i32 0, .int .i64 0, .bool false] 71)).drew) := BW.out.trans ⟨rfl, rfl, rfl, Nat.le_refl _, fun _ _ => rfl⟩
    have BX : Hid (((w.alloc (.cells #[.int .i64 kd, .int .i64 ofv, .int .i64 wi, .int .i32 key, .int .i64 dt, .bool no, .int .i64 ca, .int .i64 cb, .int .i64 cc, .int .i64 cm, .int .i64 cr] 76)).alloc (.cells #[.int .i32 0, .int .i64 0, .bool false] 71)).drew.heap[w.heap.size]? = some (.cells #[.int .i64 kd, .int .i64 ofv, .int .i64 wi, .int .i32 key, .int .i64 dt, .bool no, .int .i64 ca, .int .i64 cb, .int .i64 cc, .int .i64 cm, .int .i64 cr] 76 (0, 0))) := BX.out
    have FB : Hid (((w.alloc (.cells #[.int .i64 kd, .int .i64 ofv, .int .i64 wi, .int .i32 key, .int .i64 dt, .bool no, .int .i64 ca, .int .i64 cb, .int .i64 cc, .int .i64 cm, .int .i64 cr] 76)).alloc (.cells #[.int .i32 0, .int .i64 0, .bool false] 71)).drew.heap[w.heap.size + 1]? = some (.cells #[.int .i32 0, .int .i64 0, .bool false] 71 (0, 0))) := FB.out
    go_region_with (first
      | (go_at_call 20
         go_loud (refine (Drop_any key (RD.out.below BW.out) LN.out).mono ?_)
         rintro e wN ⟨vP, rfl, oP, bN⟩
         have PU : Hid (OwnP wN vP _) := ⟨_, oP⟩
         have lt1 := (Array.getElem?_eq_some_iff.1 BX.out).1
         have lt2 := (Array.getElem?_eq_some_iff.1 FB.out).1
         have BX := Lib.hid ((bN.block _ lt1).trans BX.out)
         have FB := Lib.hid ((bN.block _ lt2).trans FB.out)
         have BW := Lib.hid (BW.out.trans (bN.mono BW.out.size))
         clear bN lt1 lt2 oP
         have m3 := ac_cell3 BX.out
         have m4 := ac_cell4 BX.out
         have z0 := fb_cell0 FB.out
         have z1 := fb_cell1 FB.out
         have z2 := fb_cell2 FB.out
         have f0 := fb_frz FB.out 0
         have f1 := fb_frz FB.out 1
         have f2 := fb_frz FB.out 2)
      | (go_at_call 49
         go_loud (refine (At_any key (RD.out.below BW.out) LN.out).mono ?_)
         rintro e wN ⟨rfl, bN⟩
         try (have PU := Lib.hid (PU.out.below bN))
         have lt1 := (Array.getElem?_eq_some_iff.1 BX.out).1
         have lt2 := (Array.getElem?_eq_some_iff.1 FB.out).1
         have BX := Lib.hid ((bN.block _ lt1).trans BX.out)
         have FB := Lib.hid ((bN.block _ lt2).trans FB.out)
         have BW := Lib.hid (BW.out.trans (bN.mono BW.out.size))
         clear bN lt1 lt2
         have m3 := ac_cell3 BX.out
         have m4 := ac_cell4 BX.out
         have z0 := fb_cell0 FB.out
         have z1 := fb_cell1 FB.out
         have z2 := fb_cell2 FB.out
         have f0 := fb_frz FB.out 0
         have f1 := fb_frz FB.out 1
         have f2 := fb_frz FB.out 2
         simp only [fnd]))
    all_goals (go_wp2_with fail
               (try simp only [Exit.inBlock, Exit.then])
               refine bodyPost_ret (results_tmp_cell (P := Try.prog) rfl _ _ (w.heap.size + 1) 71 #[_, _, _] (0, 0) _ rfl (found_block FB.out _ _ _) Try.underlying71 rfl (by kernel_rfl)) rfl ?_
               have cE := sup_set BW.out PU.out FB.out
               exact ⟨_, _, _, _, rfl, by rw [U.out]; exact cE.1 _ _ _, cE.2 _ _ _⟩)
  · have hA : bits .and .i64 kd 3 = 2 := by rw [and3, h4]
    have U := Lib.hid (UL.out 2 h4)
    clear h4 UL
    go_enter Try.func56, Try.ntmps56
    go_wp2_with fail
    have BW : Hid (Below w.heap.size w ((w.alloc (.cells #[.int .i64 kd, .int .i64 ofv, .int .i64 wi, .int .i32 key, .int .i64 dt, .bool no, .int .i64 ca, .int .i64 cb, .int .i64 cc, .int .i64 cm, .int .i64 cr] 76)).alloc (.cells #[.int .i32 0, .int .i64 0, .bool false] 71))) := ((Below.refl _ w).alloc (Nat.le_refl _) _).alloc (by simp) _
    have BX : Hid (((w.alloc (.cells #[.int .i64 kd, .int .i64 ofv, .int .i64 wi, .int .i32 key, .int .i64 dt, .bool no, .int .i64 ca, .int .i64 cb, .int .i64 cc, .int .i64 cm, .int .i64 cr] 76)).alloc (.cells #[.int .i32 0, .int .i64 0, .bool false] 71)).heap[w.heap.size]? = some (.cells #[.int .i64 kd, .int .i64 ofv, .int .i64 wi, .int .i32 key, .int .i64 dt, .bool no, .int .i64 ca, .int .i64 cb, .int .i64 cc, .int .i64 cm, .int .i64 cr] 76 (0, 0))) := (Below.heap_alloc _ _ _ (by simp)).trans (heap_alloc_new w _)
    have FB : Hid (((w.alloc (.cells #[.int .i64 kd, .int .i64 ofv, .int .i64 wi, .int .i32 key, .int .i64 dt, .bool no, .int .i64 ca, .int .i64 cb, .int .i64 cc, .int .i64 cm, .int .i64 cr] 76)).alloc (.cells #[.int .i32 0, .int .i64 0, .bool false] 71)).heap[w.heap.size + 1]? = some (.cells #[.int .i32 0, .int .i64 0, .bool false] 71 (0, 0))) := by
      have := heap_alloc_new (w.alloc (.cells #[.int .i64 kd, .int .i64 ofv, .int .i64 wi, .int .i32 key, .int .i64 dt, .bool no, .int .i64 ca, .int .i64 cb, .int .i64 cc, .int .i64 cm, .int .i64 cr] 76)) (.cells #[.int .i32 0, .int .i64 0, .bool false] 71)
      rw [World.size_alloc] at this
      exact this
    refine (Least_any (RD.out.below BW.out) LN.out).mono ?_
    rintro e w2 ⟨⟨ld, rfl⟩, bN⟩
    have lt1 := (Array.getElem?_eq_some_iff.1 BX.out).1
    have lt2 := (Array.getElem?_eq_some_iff.1 FB.out).1
    have BX := Lib.hid ((bN.block _ lt1).trans BX.out)
    have FB := Lib.hid ((bN.block _ lt2).trans FB.out)
    have BW := Lib.hid (BW.out.trans (bN.mono BW.out.size))
    have lt1' : w.heap.size < w2.heap.size := (Array.getElem?_eq_some_iff.1 BX.out).1
    have lt2' : w.heap.size + 1 < w2.heap.size := (Array.getElem?_eq_some_iff.1 FB.out).1
    clear bN lt1 lt2
    simp only [fnd]
    obtain ⟨lv, hlv⟩ : ∃ lv : Int, lv = ld.getD 0 := ⟨_, rfl⟩
    obtain ⟨lb, hlb⟩ : ∃ lb : Bool, lb = ld.isSome := ⟨_, rfl⟩
    rw [← hlv, ← hlb]
    clear hlv hlb
    obtain ⟨lkey, hlk⟩ : ∃ lkey, lkey = lk S := ⟨_, rfl⟩
    rw [← hlk]
    have HLK := Lib.hid hlk
    clear hlk
    go_upto_region 8 with (fail)
    have LB : Hid ((w2.alloc (.cells #[.int .i32 lkey, .int .i64 lv, .bool lb] 71)).drew.heap[w2.heap.size]? = some (.cells #[.int .i32 lkey, .int .i64 lv, .bool lb] 71 (0, 0))) := heap_alloc_new w2 _
    have BW : Hid (Below w.heap.size w (w2.alloc (.cells #[.int .i32 lkey, .int .i64 lv, .bool lb] 71)).drew) := (BW.out.alloc BW.out.size _).trans ⟨rfl, rfl, rfl, Nat.le_refl _, fun _ _ => rfl⟩
    have BX : Hid ((w2.alloc (.cells #[.int .i32 lkey, .int .i64 lv, .bool lb] 71)).drew.heap[w.heap.size]? = some (.cells #[.int .i64 kd, .int .i64 ofv, .int .i64 wi, .int .i32 key, .int .i64 dt, .bool no, .int .i64 ca, .int .i64 cb, .int .i64 cc, .int .i64 cm, .int .i64 cr] 76 (0, 0))) := (Below.heap_alloc _ _ _ lt1').trans BX.out
    have FB : Hid ((w2.alloc (.cells #[.int .i32 lkey, .int .i64 lv, .bool lb] 71)).drew.heap[w.heap.size + 1]? = some (.cells #[.int .i32 0, .int .i64 0, .bool false] 71 (0, 0))) := (Below.heap_alloc _ _ _ lt2').trans FB.out
    have m3 := ac_cell3 BX.out
    have m4 := ac_cell4 BX.out
    have z0 := fb_cell0 FB.out
    have z1 := fb_cell1 FB.out
    have z2 := fb_cell2 FB.out
    have f0 := fb_frz FB.out 0
    have f1 := fb_frz FB.out 1
    have f2 := fb_frz FB.out 2
    have hne2 : w2.heap.size ≠ w.heap.size + 1 := by omega
    go_region_with (first
      | (go_at_call 20
         go_loud (refine (Drop_any lkey (RD.out.below BW.out) LN.out).mono ?_)
         rintro e wN ⟨vP, rfl, oP, bN⟩
         have PU : Hid (OwnP wN vP _) := ⟨_, oP⟩
         have lt1 := (Array.getElem?_eq_some_iff.1 BX.out).1
         have lt2 := (Array.getElem?_eq_some_iff.1 FB.out).1
         have BX := Lib.hid ((bN.block _ lt1).trans BX.out)
         have FB := Lib.hid ((bN.block _ lt2).trans FB.out)
         have BW := Lib.hid (BW.out.trans (bN.mono BW.out.size))
         have lt3 := (Array.getElem?_eq_some_iff.1 LB.out).1
         have LB := Lib.hid ((bN.block _ lt3).trans LB.out)
         clear bN lt1 lt2 lt3 oP
         have m3 := ac_cell3 BX.out
         have m4 := ac_cell4 BX.out
         have z0 := fb_cell0 FB.out
         have z1 := fb_cell1 FB.out
         have z2 := fb_cell2 FB.out
         have f0 := fb_frz FB.out 0
         have f1 := fb_frz FB.out 1
         have f2 := fb_frz FB.out 2
         have y0 := fb_cell0 LB.out
         have y1 := fb_cell1 LB.out
         have y2 := fb_cell2 LB.out))
    all_goals (go_wp2_with fail
               (try simp only [Exit.inBlock, Exit.then])
               refine bodyPost_ret (results_tmp_cell (P := Try.prog) rfl _ _ (w.heap.size + 1) 71 #[_, _, _] (0, 0) _ rfl (found_block FB.out _ _ _) Try.underlying71 rfl (by kernel_rfl)) rfl ?_
               have cE := sup_set BW.out PU.out FB.out
               exact ⟨_, _, _, _, rfl, by rw [U.out, ← HLK.out]; exact cE.1 _ _ _, cE.2 _ _ _⟩)
  · have hA : bits .and .i64 kd 3 = 3 := by rw [and3, h4]
    have U := Lib.hid (UL.out 3 h4)
    clear h4 UL
    go_enter Try.func56, Try.ntmps56
    go_wp2_with fail
    have BW : Hid (Below w.heap.size w ((w.alloc (.cells #[.int .i64 kd, .int .i64 ofv, .int .i64 wi, .int .i32 key, .int .i64 dt, .bool no, .int .i64 ca, .int .i64 cb, .int .i64 cc, .int .i64 cm, .int .i64 cr] 76)).alloc (.cells #[.int .i32 0, .int .i64 0, .bool false] 71))) := ((Below.refl _ w).alloc (Nat.le_refl _) _).alloc (by simp) _
    have BX : Hid (((w.alloc (.cells #[.int .i64 kd, .int .i64 ofv, .int .i64 wi, .int .i32 key, .int .i64 dt, .bool no, .int .i64 ca, .int .i64 cb, .int .i64 cc, .int .i64 cm, .int .i64 cr] 76)).alloc (.cells #[.int .i32 0, .int .i64 0, .bool false] 71)).heap[w.heap.size]? = some (.cells #[.int .i64 kd, .int .i64 ofv, .int .i64 wi, .int .i32 key, .int .i64 dt, .bool no, .int .i64 ca, .int .i64 cb, .int .i64 cc, .int .i64 cm, .int .i64 cr] 76 (0, 0))) := (Below.heap_alloc _ _ _ (by simp)).trans (heap_alloc_new w _)
    have FB : Hid (((w.alloc (.cells #[.int .i64 kd, .int .i64 ofv, .int .i64 wi, .int .i32 key, .int .i64 dt, .bool no, .int .i64 ca, .int .i64 cb, .int .i64 cc, .int .i64 cm, .int .i64 cr] 76)).alloc (.cells #[.int .i32 0, .int .i64 0, .bool false] 71)).heap[w.heap.size + 1]? = some (.cells #[.int .i32 0, .int .i64 0, .bool false] 71 (0, 0))) := by
      have := heap_alloc_new (w.alloc (.cells #[.int .i64 kd, .int .i64 ofv, .int .i64 wi, .int .i32 key, .int .i64 dt, .bool no, .int .i64 ca, .int .i64 cb, .int .i64 cc, .int .i64 cm, .int .i64 cr] 76)) (.cells #[.int .i32 0, .int .i64 0, .bool false] 71)
      rw [World.size_alloc] at this
      exact this
    refine (Greatest_any (RD.out.below BW.out) LN.out).mono ?_
    rintro e w2 ⟨⟨ld, rfl⟩, bN⟩
    have lt1 := (Array.getElem?_eq_some_iff.1 BX.out).1
    have lt2 := (Array.getElem?_eq_some_iff.1 FB.out).1
    have BX := Lib.hid ((bN.block _ lt1).trans BX.out)
    have FB := Lib.hid ((bN.block _ lt2).trans FB.out)
    have BW := Lib.hid (BW.out.trans (bN.mono BW.out.size))
    have lt1' : w.heap.size < w2.heap.size := (Array.getElem?_eq_some_iff.1 BX.out).1
    have lt2' : w.heap.size + 1 < w2.heap.size := (Array.getElem?_eq_some_iff.1 FB.out).1
    clear bN lt1 lt2
    simp only [fnd]
    obtain ⟨lv, hlv⟩ : ∃ lv : Int, lv = ld.getD 0 := ⟨_, rfl⟩
    obtain ⟨lb, hlb⟩ : ∃ lb : Bool, lb = ld.isSome := ⟨_, rfl⟩
    rw [← hlv, ← hlb]
    clear hlv hlb
    obtain ⟨lkey, hlk⟩ : ∃ lkey, lkey = gk S := ⟨_, rfl⟩
    rw [← hlk]
    have HLK := Lib.hid hlk
    clear hlk
    go_upto_region 10 with (fail)
    have LB : Hid ((w2.alloc (.cells #[.int .i32 lkey, .int .i64 lv, .bool lb] 71)).drew.heap[w2.heap.size]? = some (.cells #[.int .i32 lkey, .int .i64 lv, .bool lb] 71 (0, 0))) := heap_alloc_new w2 _
    have BW : Hid (Below w.heap.size w (w2.alloc (.cells #[.int .i32 lkey, .int .i64 lv, .bool lb] 71)).drew) := (BW.out.alloc BW.out.size _).trans ⟨rfl, rfl, rfl, Nat.le_refl _, fun _ _ => rfl⟩
    have BX : Hid ((w2.alloc (.cells #[.int .i32 lkey, .int .i64 lv, .bool lb] 71)).drew.heap[w.heap.size]? = some (.cells #[.int .i64 kd, .int .i64 ofv, .int .i64 wi, .int .i32 key, .int .i64 dt, .bool no, .int .i64 ca, .int .i64 cb, .int .i64 cc, .int .i64 cm, .int .i64 cr] 76 (0, 0))) := (Below.heap_alloc _ _ _ lt1').trans BX.out
    have FB : Hid ((w2.alloc (.cells #[.int .i32 lkey, .int .i64 lv, .bool lb] 71)).drew.heap[w.heap.size + 1]? = some (.cells #[.int .i32 0, .int .i64 0, .bool false] 71 (0, 0))) := (Below.heap_alloc _ _ _ lt2').trans FB.out
    have m3 := ac_cell3 BX.out
    have m4 := ac_cell4 BX.out
    have z0 := fb_cell0 FB.out
    have z1 := fb_cell1 FB.out
    have z2 := fb_cell2 FB.out
    have f0 := fb_frz FB.out 0
    have f1 := fb_frz FB.out 1
    have f2 := fb_frz FB.out 2
    have hne2 : w2.heap.size ≠ w.heap.size + 1 := by omega
    go_region_with (first
      | (go_at_call 20
         go_loud (refine (Drop_any lkey (RD.out.below BW.out) LN.out).mono ?_)
         rintro e wN ⟨vP, rfl, oP, bN⟩
         have PU : Hid (OwnP wN vP _) := ⟨_, oP⟩
         have lt1 := (Array.getElem?_eq_some_iff.1 BX.out).1
         have lt2 := (Array.getElem?_eq_some_iff.1 FB.out).1
         have BX := Lib.hid ((bN.block _ lt1).trans BX.out)
         have FB := Lib.hid ((bN.block _ lt2).trans FB.out)
         have BW := Lib.hid (BW.out.trans (bN.mono BW.out.size))
         have lt3 := (Array.getElem?_eq_some_iff.1 LB.out).1
         have LB := Lib.hid ((bN.block _ lt3).trans LB.out)
         clear bN lt1 lt2 lt3 oP
         have m3 := ac_cell3 BX.out
         have m4 := ac_cell4 BX.out
         have z0 := fb_cell0 FB.out
         have z1 := fb_cell1 FB.out
         have z2 := fb_cell2 FB.out
         have f0 := fb_frz FB.out 0
         have f1 := fb_frz FB.out 1
         have f2 := fb_frz FB.out 2
         have y0 := fb_cell0 LB.out
         have y1 := fb_cell1 LB.out
         have y2 := fb_cell2 LB.out))
    all_goals (go_wp2_with fail
               (try simp only [Exit.inBlock, Exit.then])
               refine bodyPost_ret (results_tmp_cell (P := Try.prog) rfl _ _ (w.heap.size + 1) 71 #[_, _, _] (0, 0) _ rfl (found_block FB.out _ _ _) Try.underlying71 rfl (by kernel_rfl)) rfl ?_
               have cE := sup_set BW.out PU.out FB.out
               exact ⟨_, _, _, _, rfl, by rw [U.out, ← HLK.out]; exact cE.1 _ _ _, cE.2 _ _ _⟩)

end Go.Proofs.Ytahghidbadpkeaa

/- Histories of sets of pairs, in plain, as the reference has them; what the trees' histories have to do with them. -/
set_option linter.unusedVariables false
set_option linter.unusedSimpArgs false
namespace Go.Proofs.Ytahghidbadpkeaa
open Go.Deep Go.RowKit

abbrev Ps := List (Int × Int)
def stepP (a : Ac) (S O : Ps) : Ps :=
  if a.kd % 8 = 4 then pUnion a.mx S O else if a.kd % 8 = 5 then pInter a.mx S O else if a.kd % 8 = 6 then pDiff a.mx S O else if a.kd % 8 = 7 then S else updP a S
def pickN (V : List Ps) (n : Nat) (i : Int) : Ps := V.getD (i % (n : Int)).toNat []
def histPS (V : List Ps) (a : Ac) : List Ps := V ++ [stepP a (pickN V V.length a.ofv) (pickN V V.length a.wi)]
/-- The sets of all versions, as the reference has them. -/
def histP (As : List Ac) : List Ps := As.foldl histPS [[]]
theorem histP_snoc (As : List Ac) (a : Ac) : histP (As ++ [a]) = histPS (histP As) a := by simp [histP]
theorem histP_len (As : List Ac) : (histP As).length = As.length + 1 := by
  have : ∀ (As : List Ac) (V : List Ps), (As.foldl histPS V).length = V.length + As.length := by
    intro As
    induction As with
    | nil => exact fun V => rfl
    | cons a As ih => intro V; rw [List.foldl_cons, ih]; simp [histPS]; omega
  rw [histP, this]; simp; omega
theorem histP_pre (As : List Ac) : ∀ Bs : List Ac, histP As <+: histP (As ++ Bs) := by
  intro Bs
  have : ∀ (Bs : List Ac) (V : List Ps), V <+: Bs.foldl histPS V := by
    intro Bs
    induction Bs with
    | nil => exact fun V => List.prefix_refl V
    | cons b Bs ih => intro V; exact (List.prefix_append V _).trans (ih _)
  rw [histP, histP, List.foldl_append]
  exact this Bs _

/- keys and order -/
def OkP (P : Int → Prop) (S : Ps) : Prop := PSrt S ∧ ∀ p ∈ S, P p.1
section
variable {P : Int → Prop}
theorem OkP.nil : OkP P [] := ⟨List.Pairwise.nil, fun p hp => by cases hp⟩
theorem OkP.put {S : Ps} {x v : Int} (h : OkP P S) (hx : P x) : OkP P (pPut x v S) := by
  refine ⟨psrt_put x v h.1, fun p hp => ?_⟩
  simp only [pPut, pLo, pHi, List.mem_append, List.mem_cons, List.mem_filter] at hp
  rcases hp with hp | rfl | hp
  · exact h.2 p hp.1
  · exact hx
  · exact h.2 p hp.1
theorem OkP.drop {S : Ps} {x : Int} (h : OkP P S) : OkP P (pDrop x S) := ⟨pDrop_srt h.1, fun p hp => h.2 p (List.mem_filter.1 hp).1⟩
theorem OkP.inter {x : Mx} {A B : Ps} (h : OkP P A) : OkP P (pInter x A B) := ⟨pInter_srt x h.1, fun p hp => by
  obtain ⟨r, hr, e⟩ := pInter_key hp
  rw [e]; exact h.2 r hr⟩
theorem pDiff_srt2 (x : Mx) {A B : Ps} (h : PSrt A) : PSrt (pDiff x A B) ∧ ∀ q ∈ pDiff x A B, ∃ p ∈ A, q.1 = p.1 := by
  have key : ∀ {p q : Int × Int}, q ∈ dstep x B p → q.1 = p.1 := by
    intro p q hq
    unfold dstep at hq
    split at hq
    · simp at hq; rw [hq]
    · split at hq
      · simp at hq; rw [hq]
      · cases hq
  have mem : ∀ {A : Ps} {q : Int × Int}, q ∈ pDiff x A B → ∃ p ∈ A, q.1 = p.1 := by
    intro A q hq
    obtain ⟨r, hr, hq⟩ := List.mem_flatMap.1 hq
    exact ⟨r, hr, key hq⟩
  refine ⟨?_, fun q hq => mem hq⟩
  induction A with
  | nil => exact List.Pairwise.nil
  | cons p A ih =>
    have h1 := List.pairwise_cons.1 h
    have e : pDiff x (p :: A) B = dstep x B p ++ pDiff x A B := rfl
    rw [e]
    refine List.pairwise_append.2 ⟨?_, ih h1.2, ?_⟩
    · have := dstep_len x B p
      match hd : dstep x B p, this with
      | [], _ => exact List.Pairwise.nil
      | [a], _ => exact List.pairwise_singleton _ _
    · intro a ha q hq
      obtain ⟨r, hr, e⟩ := mem hq
      rw [key ha, e]; exact h1.1 r hr
theorem OkP.diff {x : Mx} {A B : Ps} (h : OkP P A) : OkP P (pDiff x A B) := ⟨(pDiff_srt2 x h.1).1, fun p hp => by
  obtain ⟨r, hr, e⟩ := (pDiff_srt2 x h.1).2 p hp
  rw [e]; exact h.2 r hr⟩
theorem OkP.putIf {O : Ps} : ∀ (T S : Ps), OkP P S → (∀ p ∈ T, P p.1) → OkP P (T.foldl (putIf O) S)
  | [], _, h, _ => h
  | p :: T, S, h, ht => by
    refine OkP.putIf T _ ?_ (fun q hq => ht q (List.mem_cons_of_mem _ hq))
    unfold Ytahghidbadpkeaa.putIf
    split
    · exact h
    · exact h.put (ht p (List.mem_cons_self ..))
theorem OkP.union {x : Mx} {A B : Ps} (h : OkP P A) (hB : OkP P B) : OkP P (pUnion x A B) := by
  unfold pUnion
  rw [putAll_eq]
  exact OkP.putIf _ _ (OkP.putIf _ _ (OkP.putIf _ _ OkP.nil h.2) hB.2) (OkP.inter h).2
theorem OkP.upd {a : Ac} {S : Ps} (h : OkP P S) (ha : P a.key) : OkP P (updP a S) := by
  unfold updP
  repeat' split
  · exact h.put ha
  · exact h.drop
  · exact h.drop
  · exact h.drop
theorem OkP.step {a : Ac} {S O : Ps} (h : OkP P S) (hO : OkP P O) (ha : P a.key) : OkP P (stepP a S O) := by
  unfold stepP
  repeat' split
  · exact h.union hO
  · exact h.inter
  · exact h.diff
  · exact h
  · exact h.upd ha
theorem pickN_ok {V : List Ps} {n : Nat} {i : Int} (h : ∀ S ∈ V, OkP P S) : OkP P (pickN V n i) := by
  unfold pickN
  rw [List.getD_eq_getElem?_getD]
  cases e : V[(i % (n : Int)).toNat]? with
  | none => exact OkP.nil
  | some L => exact h _ (List.mem_of_getElem? e)
theorem histP_ok {As : List Ac} (h : ∀ a ∈ As, P a.key) : ∀ S ∈ histP As, OkP P S := by
  have : ∀ (As : List Ac) (V : List Ps), (∀ S ∈ V, OkP P S) → (∀ a ∈ As, P a.key) → ∀ S ∈ As.foldl histPS V, OkP P S := by
    intro As
    induction As with
    | nil => exact fun V h _ => h
    | cons a As ih =>
      intro V h ha
      refine ih _ ?_ (fun b hb => ha b (List.mem_cons_of_mem _ hb))
      intro S hS
      rcases List.mem_append.1 hS with hS | hS
      · exact h S hS
      · rw [List.mem_singleton] at hS
        subst hS
        exact OkP.step (pickN_ok h) (pickN_ok h) (ha a (List.mem_cons_self ..))
  exact this As _ (fun S hS => by rw [List.mem_singleton] at hS; subst hS; exact OkP.nil) h
end
theorem few_pairs {S : Ps} {K : List Int} (h : OkP (fun k => k ∈ K) S) : S.length ≤ K.length := by
  have := few_keys (opt S) K (psrt_opt h.1) (fun p hp => by
    obtain ⟨q, hq, rfl⟩ := List.mem_map.1 hp
    exact h.2 q hq)
  rw [opt_len] at this
  exact this

/- what the trees' histories have to do with these -/
theorem pDrop_least {S : Ps} (h : PSrt S) : pDrop (lk S) S = S.tail := by
  cases S with
  | nil => rfl
  | cons p S =>
    have h1 := List.pairwise_cons.1 h
    have : ∀ q ∈ S, q.1 ≠ p.1 := fun q hq => by have := h1.1 q hq; omega
    simp only [pDrop, lk, List.filter_cons, List.tail_cons]
    rw [if_neg (by simp), List.filter_eq_self]
    intro q hq; exact decide_eq_true (this q hq)
theorem pDrop_greatest {S : Ps} (h : PSrt S) : pDrop (gk S) S = S.dropLast := by
  rcases List.eq_nil_or_concat S with rfl | ⟨T, p, rfl⟩
  · rfl
  · rw [List.concat_eq_append] at h ⊢
    have h1 := List.pairwise_append.1 h
    have : ∀ q ∈ T, q.1 ≠ p.1 := fun q hq => by have := h1.2.2 q hq p (List.mem_singleton.2 rfl); omega
    have hg : gk (T ++ [p]) = p.1 := by simp [gk]
    rw [hg, List.dropLast_concat, pDrop, List.filter_append]
    have e1 : T.filter (fun q => decide (q.1 ≠ p.1)) = T := by
      rw [List.filter_eq_self]; intro q hq; simpa using this q hq
    rw [e1]; simp
theorem upd_opt {a : Ac} {S : Ps} (h : PSrt S) : updL a (opt S) = opt (updP a S) := by
  unfold updL updP
  by_cases h0 : a.kd % 4 = 0
  · rw [if_pos h0, if_pos h0, opt_put]
  · rw [if_neg h0, if_neg h0]
    by_cases h1 : a.kd % 4 = 1
    · rw [if_pos h1, if_pos h1, opt_drop _ h]; rfl
    · rw [if_neg h1, if_neg h1]
      by_cases h2 : a.kd % 4 = 2
      · rw [if_pos h2, if_pos h2, pDrop_least h, opt_tail]
      · rw [if_neg h2, if_neg h2, pDrop_greatest h, opt_last]

/-- An act of which the definition speaks. -/
def okAct (a : Ac) (S O : Ps) : Bool := if a.kd % 8 = 4 ∨ a.kd % 8 = 5 then !(a.mx.no || !pFresh a.mx S O) else true
theorem step_opt {a : Ac} {S O : Ps} (h : PSrt S) (hO : PSrt O) (ho : okAct a S O = true) : stepT a (opt S) (opt O) = opt (stepP a S O) := by
  unfold okAct at ho
  unfold stepT stepP
  by_cases h4 : a.kd % 8 = 4
  · rw [if_pos h4, if_pos h4]
    simp [h4] at ho
    exact uni_law _ h hO ho.1 ho.2
  · rw [if_neg h4, if_neg h4]
    by_cases h5 : a.kd % 8 = 5
    · rw [if_pos h5, if_pos h5]
      simp [h5] at ho
      exact int_law _ h hO ho.1 ho.2
    · rw [if_neg h5, if_neg h5]
      by_cases h6 : a.kd % 8 = 6
      · rw [if_pos h6, if_pos h6]; exact dif_all _ h
      · rw [if_neg h6, if_neg h6]
        by_cases h7 : a.kd % 8 = 7
        · rw [if_pos h7, if_pos h7]
        · rw [if_neg h7, if_neg h7]; exact upd_opt h

def playB (As : List Ac) : Bool := (List.range As.length).all (fun i => match As[i]? with
  | none => true
  | some a => okAct a (pickN (histP As) (i + 1) a.ofv) (pickN (histP As) (i + 1) a.wi))
def playedB (As : List Ac) : Bool := actedB As && playB As

theorem pickN_opt (V : List Ps) (i : Int) : pick (V.map opt) i = opt (pickN V V.length i) := by
  unfold pick pickN
  rw [List.length_map, List.getD_eq_getElem?_getD, List.getD_eq_getElem?_getD, List.getElem?_map]
  cases V[(i % (V.length : Int)).toNat]? <;> rfl
theorem pickN_pre {V W : List Ps} (h : V <+: W) (h0 : 0 < V.length) (i : Int) : pickN V V.length i = pickN W V.length i := by
  obtain ⟨T, rfl⟩ := h
  unfold pickN
  rw [List.getD_eq_getElem?_getD, List.getD_eq_getElem?_getD, List.getElem?_append_left]
  have h1 := Int.emod_lt_of_pos i (show (0 : Int) < (V.length : Int) by omega)
  have h2 := Int.emod_nonneg i (show (V.length : Int) ≠ 0 by omega)
  omega

theorem hist_law {As : List Ac} (hk : ∀ a ∈ As, a.key ≠ -2147483648) (h : playB As = true) : histL As = (histP As).map opt := by
  have key : ∀ j, j ≤ As.length → histL (As.take j) = (histP (As.take j)).map opt := by
    intro j
    induction j with
    | zero => intro _; rfl
    | succ j ih =>
      intro hj
      have ih := ih (by omega)
      obtain ⟨a, ha⟩ : ∃ a, As[j]? = some a := ⟨_, List.getElem?_eq_getElem (by omega)⟩
      have e : As.take (j + 1) = As.take j ++ [a] := by rw [List.take_add_one, ha]; rfl
      have hl : (histP (As.take j)).length = j + 1 := by rw [histP_len, List.length_take]; omega
      have hpre : histP (As.take j) <+: histP As := by
        have := histP_pre (As.take j) (As.drop j)
        rwa [List.take_append_drop] at this
      have hok := List.all_eq_true.1 h j (List.mem_range.2 (by omega))
      rw [ha] at hok
      simp only at hok
      have hs := histP_ok (P := fun _ => True) (As := As.take j) (fun _ _ => trivial)
      have p1 := pickN_pre hpre (by omega) a.ofv
      have p2 := pickN_pre hpre (by omega) a.wi
      rw [hl] at p1 p2
      rw [← p1, ← p2] at hok
      rw [e, histL_snoc, histP_snoc, histS, histPS, ih, pickN_opt, pickN_opt, hl, step_opt (pickN_ok hs).1 (pickN_ok hs).1 hok, List.map_append]
      rfl
  have := key As.length (Nat.le_refl _)
  rwa [List.take_length] at this

end Go.Proofs.Ytahghidbadpkeaa

/- The walk of spec.History. -/
set_option linter.unusedVariables false
set_option linter.unusedSimpArgs false
namespace Go.Proofs.Ytahghidbadpkeaa
open Go.Deep Go.RowKit

/-- A version of the reference: a slice, and what it holds. -/
structure Pv where
  v : Value
  s : Ps
def pv (q : Pv) : List Value := [q.v]
theorem pv_len (q : Pv) : (pv q).length = 1 := rfl
def psOf (V : List Pv) : List Ps := V.map Pv.s

structure SHS (B : Nat) (w : World) (V : List Pv) (vt : Value) : Prop where
  rt : w.ownsRow B 22 1 vt V.length (fl pv V)
  g : ∀ q ∈ V, OwnP w q.v q.s
theorem SHS.below {B : Nat} {w w' : World} {V : List Pv} {vt : Value} (h : SHS B w V vt) (c : Below w.heap.size w w') : SHS B w' V vt :=
  ⟨row_below h.rt c, fun q hq => (h.g q hq).below c⟩
theorem SHS.at {B : Nat} {w : World} {V : List Pv} {ta : Option Addr} {n cap : Nat} (h : SHS B w V (.slice ta n cap)) {i : Nat} {q : Pv} (hq : V[i]? = some q) : ∃ b sa c, ta = some ⟨b, 0, none⟩ ∧ w.cell? ⟨b, i, none⟩ = some (.slice sa q.s.length c) ∧ q.v = .slice sa q.s.length c := by
  obtain ⟨B', g⟩ := h.g q (List.mem_of_getElem? hq)
  obtain ⟨sa, c, hv0⟩ := owns_shape g
  rcases h.rt.2 with ⟨e, hn⟩ | ⟨g, cap', cur, e, _, _⟩
  · rw [List.eq_nil_of_length_eq_zero hn] at hq; simp at hq
  · injection e with e1 e2 e3
    subst e1
    refine ⟨g, sa, c, rfl, ?_, hv0⟩
    have h1 := h.rt.cells (g := g) rfl i q.v (by
      have := fl_get pv_len hq (i := 0) (by omega)
      rw [Nat.mul_one, Nat.add_zero] at this
      rw [this]; rfl)
    have hadd : (⟨g, 0, none⟩ : Addr).add i = ⟨g, i, none⟩ := by unfold Addr.add; split <;> simp_all
    rw [hadd] at h1
    rw [← hv0]; exact h1

theorem info22 : (Try.prog.info? 22).map (fun i => (i.zero, i.size, i.bytes)) = some (some (.slice none 0 0), 1, 24) := by kernel_rfl
theorem info71 : (Try.prog.info? 71).map (fun i => (i.zero, i.size, i.bytes)) = some (some (.agg #[.int .i32 0, .int .i64 0, .bool false]), 3, 24) := by kernel_rfl

/-- Behind the append of a version. -/
theorem SHS.push1 {B : Nat} {w w' : World} {V : List Pv} {vt vt' sv : Value} {S : Ps} (h : SHS B w V vt) (hs : OwnP w sv S) (o : Obj) (hg : (w.alloc o).grownBy w' vt.ownBlock) (ho : w'.ownsRow B 22 1 vt' (V.length + 1) (fl pv V ++ [sv])) :
    SHS B w' (V ++ [⟨sv, S⟩]) vt' ∧ (∀ {B s n : Nat} {v : Value} {xs : List Value}, w.ownsRow B 71 s v n xs → w'.ownsRow B 71 s v n xs) ∧ (∀ (k : Nat) (cs : Array Value), w.heap[k]? = some (Obj.cells cs 71 (0, 0)) → w'.heap[k]? = some (Obj.cells cs 71 (0, 0))) := by
  have c : Chg (fun k => vt.ownBlock = some k) w w' := ((Chg.refl (fun k => vt.ownBlock = some k) w).alloc o).grown hg (fun k hk _ => hk)
  have ht : ∀ k, vt.ownBlock = some k → ∃ cs ty, w.heap[k]? = some (.cells cs ty (0, 0)) ∧ ty = 22 := fun k hk => by
    obtain ⟨cs, h1⟩ := own_tag h.rt hk
    exact ⟨cs, 22, h1, rfl⟩
  have hown : ∀ {v : Value} {S : Ps}, OwnP w v S → OwnP w' v S := fun g => g.tag c (fun k hk => by
    obtain ⟨cs, ty, h1, rfl⟩ := ht k hk
    exact ⟨cs, 22, h1, by decide⟩)
  refine ⟨⟨by rw [fl_app, fl_one, List.length_append]; exact ho, fun q hq => ?_⟩, fun r => row_tag r c (fun k hk => ?_), fun k cs hk => ?_⟩
  · rcases List.mem_append.1 hq with hq | hq
    · exact hown (h.g q hq)
    · rw [List.mem_singleton] at hq
      subst hq
      exact hown hs
  · obtain ⟨cs, ty, h1, rfl⟩ := ht k hk
    exact ⟨cs, 22, h1, by decide⟩
  · refine (c.block k (Array.getElem?_eq_some_iff.1 hk).1 (fun hS => ?_)).trans hk
    obtain ⟨cs', ty, h1, rfl⟩ := ht k hS
    have := hk.symm.trans h1
    simp at this
/-- Behind the append of what was told. -/
theorem SHS.push2 {B B' n : Nat} {w w' : World} {V : List Pv} {vt vd : Value} {xs : List Value} (h : SHS B w V vt) (hd : w.ownsRow B' 71 3 vd n xs) (o : Obj) (hg : (w.alloc o).grownBy w' vd.ownBlock) : SHS B w' V vt := by
  have c : Chg (fun k => vd.ownBlock = some k) w w' := ((Chg.refl (fun k => vd.ownBlock = some k) w).alloc o).grown hg (fun k hk _ => hk)
  have ht : ∀ k, vd.ownBlock = some k → ∃ cs ty, w.heap[k]? = some (.cells cs ty (0, 0)) ∧ ty = 71 := fun k hk => by
    obtain ⟨cs, h1⟩ := own_tag hd hk
    exact ⟨cs, 71, h1, rfl⟩
  refine ⟨row_tag h.rt c (fun k hk => ?_), fun q hq => (h.g q hq).tag c (fun k hk => ?_)⟩
  · obtain ⟨cs, ty, h1, rfl⟩ := ht k hk
    exact ⟨cs, 71, h1, by decide⟩
  · obtain ⟨cs, ty, h1, rfl⟩ := ht k hk
    exact ⟨cs, 71, h1, by decide⟩

theorem shis_start {w : World} : SHS w.heap.size ((w.alloc (.cells #[] 31)).alloc (.cells #[.slice (some ⟨w.heap.size, 0, none⟩) 0 0] 22)) [⟨.slice (some ⟨w.heap.size, 0, none⟩) 0 0, []⟩] (.slice (some ⟨w.heap.size + 1, 0, none⟩) 1 1) := by
  refine ⟨⟨rfl, .inr ⟨w.heap.size + 1, 1, #[.slice (some ⟨w.heap.size, 0, none⟩) 0 0], rfl, by omega, ?_, Nat.le_refl _, by simp [maxLen], rfl, rfl⟩⟩, fun q hq => ?_⟩
  · have := heap_alloc_new (w.alloc (.cells #[] 31)) (.cells #[.slice (some ⟨w.heap.size, 0, none⟩) 0 0] 22)
    rw [World.size_alloc] at this
    exact this
  · rw [List.mem_singleton] at hq
    subst hq
    exact ⟨w.heap.size, rfl, .inr ⟨w.heap.size, 0, #[], rfl, Nat.le_refl _, (Below.heap_alloc _ _ _ (by simp)).trans (heap_alloc_new w _), Nat.le_refl _, by simp [maxLen], rfl, rfl⟩⟩

theorem pick_ps {V : List Pv} {i : Int} {k : Nat} {q : Pv} (hk : i % (V.length : Int) = (k : Int)) (hq : V[k]? = some q) : pickN (psOf V) V.length i = q.s := by
  unfold pickN psOf
  rw [hk, List.getD_eq_getElem?_getD]
  simp [hq]

theorem shis_end {As : List Ac} {j : Nat} {a : Ac} (ha : As[j]? = some a) {V : List Pv} (hV : psOf V = histP (As.take j)) {q1 q2 : Nat} {p1 p2 : Pv} (h1 : V[q1]? = some p1) (h2 : V[q2]? = some p2) (e1 : a.ofv % (V.length : Int) = (q1 : Int)) (e2 : a.wi % (V.length : Int) = (q2 : Int)) {v : Value} :
    psOf (V ++ [⟨v, stepP a p1.s p2.s⟩]) = histP (As.take (j + 1)) := by
  have e : As.take (j + 1) = As.take j ++ [a] := by rw [List.take_add_one, ha]; rfl
  have hl : (psOf V).length = V.length := by simp [psOf]
  rw [e, histP_snoc, ← hV, histPS, hl, pick_ps e1 h1, pick_ps e2 h2, psOf, psOf, List.map_append]
  rfl

def ShisPost (As : List Ac) (w : World) (e : Ending) (w' : World) : Prop :=
  ∃ V vt va vn vc, e = .returned (.tuple #[vt, .slice va vn vc]) ∧ SHS w.heap.size w' V vt ∧ Below w.heap.size w w' ∧ psOf V = histP As

set_option maxRecDepth 100000 in
set_option maxHeartbeats 8000000 in
theorem History_spec {w : World} {v : Value} {As : List Ac} (h : Rd ac 11 w v As) (hn : As.length ≤ 1000) : Calls Try.prog 35 #[v] w (ShisPost As w) := by
  obtain ⟨sa, cap, rfl⟩ := h.shape
  obtain ⟨i2, hi2, hf0, hf1, hf2⟩ := info_parts info22
  obtain ⟨i7, hi7, hp0, hp1, hp2⟩ := info_parts info71
  have RD := Lib.hid h
  have KS : Hid (∀ j, ∀ S ∈ histP (As.take j), PSrt S ∧ S.length ≤ 1000) := fun j S hS => by
    have := histP_ok (P := fun k => k ∈ As.map Ac.key) (As := As.take j) (fun a ha => List.mem_map_of_mem (List.mem_of_mem_take ha)) S hS
    refine ⟨this.1, ?_⟩
    have := few_pairs this
    rw [List.length_map] at this
    omega
  clear h
  go_enter Try.func35, Try.ntmps35
  go_wp2_with fail
  go_loopg [4, 5, 15] (As.length) (fun k vt vd i wr => ∃ j : Nat, j ≤ As.length ∧ k = As.length - j ∧ i = .int .i64 j ∧ ∃ n ta tcap da dcap, vt = .slice ta n tcap ∧ vd = .slice da j dcap ∧ 0 < n ∧ n ≤ 1001 ∧ Hid (∃ V xs, SHS w.heap.size wr V (.slice ta n tcap) ∧ wr.ownsRow w.heap.size 71 3 (.slice da j dcap) j xs ∧ Below w.heap.size w wr ∧ V.length = n ∧ n = j + 1 ∧ psOf V = histP (As.take j)))
  case atStart => exact ⟨0, Nat.zero_le _, rfl, rfl, 1, _, _, _, _, rfl, rfl, by omega, by omega, _, [], shis_start, World.ownsRow_nil _ _ _ _, ((Below.refl _ w).alloc (Nat.le_refl _) _).alloc (by simp) _, rfl, rfl, rfl⟩
  case round =>
    obtain ⟨j, hj, rfl, rfl, n, ta, tcap, da, dcap, rfl, rfl, hn0, hn1, ho⟩ := hrel
    by_cases hjn : j < As.length
    · obtain ⟨a, ha⟩ : ∃ a, As[j]? = some a := ⟨_, List.getElem?_eq_getElem hjn⟩
      obtain ⟨V, xs, hs, hd, hb, hVn, hnj, hV⟩ := ho.out
      obtain ⟨b, off, rfl, k0, k1, k2, k3, k4, k5, k6, k7, k8, k9, k10⟩ := (RD.out.below hb).act ha
      have hnz : (0 : Int) < (n : Int) := by omega
      obtain ⟨q1, hq1⟩ : ∃ q : Nat, a.ofv % (n : Int) = (q : Int) := ⟨(a.ofv % (n : Int)).toNat, (Int.toNat_of_nonneg (Int.emod_nonneg _ (by omega))).symm⟩
      obtain ⟨q2, hq2⟩ : ∃ q : Nat, a.wi % (n : Int) = (q : Int) := ⟨(a.wi % (n : Int)).toNat, (Int.toNat_of_nonneg (Int.emod_nonneg _ (by omega))).symm⟩
      have hl1 : q1 < n := by have := Int.emod_lt_of_pos a.ofv hnz; omega
      have hl2 : q2 < n := by have := Int.emod_lt_of_pos a.wi hnz; omega
      obtain ⟨⟨v1, s1⟩, hp1'⟩ : ∃ p, V[q1]? = some p := ⟨_, List.getElem?_eq_getElem (by omega)⟩
      obtain ⟨⟨v2, s2⟩, hp2'⟩ : ∃ p, V[q2]? = some p := ⟨_, List.getElem?_eq_getElem (by omega)⟩
      obtain ⟨tg, sa1, sc1, rfl, c1, e1⟩ := hs.at hp1'
      obtain ⟨tg', sa2, sc2, etg, c2, e2⟩ := hs.at hp2'
      have etg' : tg' = tg := by injection etg with e; injection e with e; exact e.symm
      subst etg'
      clear etg
      have o1 := hs.g _ (List.mem_of_getElem? hp1')
      have o2 := hs.g _ (List.mem_of_getElem? hp2')
      have m1 := KS.out j s1 (by rw [← hV]; exact List.mem_map_of_mem (f := Pv.s) (List.mem_of_getElem? hp1'))
      have m2 := KS.out j s2 (by rw [← hV]; exact List.mem_map_of_mem (f := Pv.s) (List.mem_of_getElem? hp2'))
      have FIN : Hid (∀ {v : Value}, psOf (V ++ [⟨v, stepP a s1 s2⟩]) = histP (As.take (j + 1))) := fun {v} => shis_end ha hV hp1' hp2' (by rw [hVn]; exact hq1) (by rw [hVn]; exact hq2)
      simp only at c1 c2 e1 e2 o1 o2
      obtain ⟨n1, hn1'⟩ : ∃ n1, n1 = s1.length := ⟨_, rfl⟩
      obtain ⟨n2, hn2'⟩ : ∃ n2, n2 = s2.length := ⟨_, rfl⟩
      rw [← hn1'] at c1 e1
      rw [← hn2'] at c2 e2
      subst e1
      subst e2
      have OO : Hid (OwnP wr (.slice sa1 n1 sc1) s1 ∧ OwnP wr (.slice sa2 n2 sc2) s2 ∧ s1.length ≤ 1000 ∧ s2.length ≤ 1000) := ⟨o1, o2, m1.2, m2.2⟩
      have HH := Lib.hid (And.intro hs (And.intro hd (And.intro hb (And.intro hVn (And.intro hnj hn1')))))
      have IX1 : Hid (∀ W : World, Calls Try.prog 19 #[.int .i64 a.ofv, .int .i64 (n : Int)] W (fun e w' => e = .returned (.int .i64 (q1 : Int)) ∧ w' = W)) := fun W => hq1 ▸ Index_any hnz (by omega)
      have IX2 : Hid (∀ W : World, Calls Try.prog 19 #[.int .i64 a.wi, .int .i64 (n : Int)] W (fun e w' => e = .returned (.int .i64 (q2 : Int)) ∧ w' = W)) := fun W => hq2 ▸ Index_any hnz (by omega)
      have STP : Hid (∀ q, a.kd % 8 = q → stepP a s1 s2 = if q = 4 then pUnion a.mx s1 s2 else if q = 5 then pInter a.mx s1 s2 else if q = 6 then pDiff a.mx s1 s2 else if q = 7 then s1 else updP a s1) := fun q hq => by rw [stepP, hq]
      have UN : Hid (∀ W, Below wr.heap.size wr W → Calls Try.prog 29 #[.slice sa1 n1 sc1, .slice sa2 n2 sc2, .agg a.mx.cells] W (fun e w' => ∃ v', e = .returned v' ∧ OwnP w' v' (pUnion a.mx s1 s2) ∧ Below W.heap.size W w')) := fun W b => Union_own a.mx (o1.rd.below b) (o2.rd.below b) (by omega) (by omega)
      have NT : Hid (∀ W, Below wr.heap.size wr W → Calls Try.prog 27 #[.slice sa1 n1 sc1, .slice sa2 n2 sc2, .agg a.mx.cells] W (fun e w' => ∃ v', e = .returned v' ∧ OwnP w' v' (pInter a.mx s1 s2) ∧ Below W.heap.size W w')) := fun W b => Inter_own a.mx (o1.rd.below b) (o2.rd.below b) (by omega) (by omega)
      have DF : Hid (∀ W, Below wr.heap.size wr W → Calls Try.prog 24 #[.slice sa1 n1 sc1, .slice sa2 n2 sc2, .agg a.mx.cells] W (fun e w' => ∃ v', e = .returned v' ∧ OwnP w' v' (pDiff a.mx s1 s2) ∧ Below W.heap.size W w')) := fun W b => Diff_own a.mx (o1.rd.below b) (o2.rd.below b) (by omega) (by omega)
      have UD : Hid (∀ W, Below wr.heap.size wr W → Calls Try.prog 56 #[.slice sa1 n1 sc1, .agg a.cells] W (SuPost (updP a s1) W)) := fun W b => Update_spec a (o1.rd.below b) (by omega)
      have hqa := and7 a.kd
      have hq8 : 0 ≤ a.kd % 8 ∧ a.kd % 8 < 8 := ⟨by omega, by omega⟩
      clear hs hd hb hVn hnj hV ha hp1' hp2' o1 o2 m1 m2 hq1 hq2 ho hn1' hn2'
      obtain ⟨kd, ofv, wi, key, dt, no, ca, cb, cc, cm, cr⟩ := a
      simp only [Mx.cells, Ac.cells] at *
      have UN : Hid (∀ W, Below wr.heap.size wr W → Calls Try.prog 29 #[.slice sa1 n1 sc1, .slice sa2 n2 sc2, .agg #[.bool no, .int .i64 ca, .int .i64 cb, .int .i64 cc, .int .i64 cm, .int .i64 cr]] W (fun e w' => ∃ v', e = .returned v' ∧ OwnP w' v' (pUnion ⟨no, ca, cb, cc, cm, cr⟩ s1 s2) ∧ Below W.heap.size W w')) := UN.out
      have NT : Hid (∀ W, Below wr.heap.size wr W → Calls Try.prog 27 #[.slice sa1 n1 sc1, .slice sa2 n2 sc2, .agg #[.bool no, .int .i64 ca, .int .i64 cb, .int .i64 cc, .int .i64 cm, .int .i64 cr]] W (fun e w' => ∃ v', e = .returned v' ∧ OwnP w' v' (pInter ⟨no, ca, cb, cc, cm, cr⟩ s1 s2) ∧ Below W.heap.size W w')) := NT.out
      have DF : Hid (∀ W, Below wr.heap.size wr W → Calls Try.prog 24 #[.slice sa1 n1 sc1, .slice sa2 n2 sc2, .agg #[.bool no, .int .i64 ca, .int .i64 cb, .int .i64 cc, .int .i64 cm, .int .i64 cr]] W (fun e w' => ∃ v', e = .returned v' ∧ OwnP w' v' (pDiff ⟨no, ca, cb, cc, cm, cr⟩ s1 s2) ∧ Below W.heap.size W w')) := DF.out
      have UD : Hid (∀ W, Below wr.heap.size wr W → Calls Try.prog 56 #[.slice sa1 n1 sc1, .agg #[.int .i64 kd, .int .i64 ofv, .int .i64 wi, .int .i32 key, .int .i64 dt, .bool no, .int .i64 ca, .int .i64 cb, .int .i64 cc, .int .i64 cm, .int .i64 cr]] W (SuPost (updP ⟨kd, ofv, wi, key, dt, ⟨no, ca, cb, cc, cm, cr⟩⟩ s1) W)) := UD.out
      have w1b : Below wr.heap.size wr (wr.alloc (.cells #[.int .i64 kd, .int .i64 ofv, .int .i64 wi, .int .i32 key, .int .i64 dt, .bool no, .int .i64 ca, .int .i64 cb, .int .i64 cc, .int .i64 cm, .int .i64 cr] 76)) := (Below.refl _ wr).alloc (Nat.le_refl _) _
      have d1 : (wr.alloc (.cells #[.int .i64 kd, .int .i64 ofv, .int .i64 wi, .int .i32 key, .int .i64 dt, .bool no, .int .i64 ca, .int .i64 cb, .int .i64 cc, .int .i64 cm, .int .i64 cr] 76)).cell? ⟨tg', q1, none⟩ = some (.slice sa1 n1 sc1) := (World.cell?_of_block (w1b.block tg' (World.block_lt_of_cell? wr _ c1))).trans c1
      have d2 : (wr.alloc (.cells #[.int .i64 kd, .int .i64 ofv, .int .i64 wi, .int .i32 key, .int .i64 dt, .bool no, .int .i64 ca, .int .i64 cb, .int .i64 cc, .int .i64 cm, .int .i64 cr] 76)).cell? ⟨tg', q2, none⟩ = some (.slice sa2 n2 sc2) := (World.cell?_of_block (w1b.block tg' (World.block_lt_of_cell? wr _ c2))).trans c2
      have GB : Hid (Below wr.heap.size wr ((wr.alloc (.cells #[.int .i64 kd, .int .i64 ofv, .int .i64 wi, .int .i32 key, .int .i64 dt, .bool no, .int .i64 ca, .int .i64 cb, .int .i64 cc, .int .i64 cm, .int .i64 cr] 76)).alloc (.cells #[.int .i32 0, .int .i64 0, .bool false] 71))) := w1b.alloc w1b.size _
      have FB : Hid (((wr.alloc (.cells #[.int .i64 kd, .int .i64 ofv, .int .i64 wi, .int .i32 key, .int .i64 dt, .bool no, .int .i64 ca, .int .i64 cb, .int .i64 cc, .int .i64 cm, .int .i64 cr] 76)).alloc (.cells #[.int .i32 0, .int .i64 0, .bool false] 71)).heap[wr.heap.size + 1]? = some (.cells #[.int .i32 0, .int .i64 0, .bool false] 71 (0, 0))) := by
        have := heap_alloc_new (wr.alloc (.cells #[.int .i64 kd, .int .i64 ofv, .int .i64 wi, .int .i32 key, .int .i64 dt, .bool no, .int .i64 ca, .int .i64 cb, .int .i64 cc, .int .i64 cm, .int .i64 cr] 76)) (.cells #[.int .i32 0, .int .i64 0, .bool false] 71)
        rw [World.size_alloc] at this
        exact this
      clear w1b
      go_wp2_with fail
      refine (IX1.out _).mono ?_
      rintro e w2 ⟨rfl, hw⟩
      rw [hw]
      clear hw w2
      go_wp2_with fail
      refine (IX2.out _).mono ?_
      rintro e w2 ⟨rfl, hw⟩
      rw [hw]
      clear hw w2 c1 c2
      have h8 : kd % 8 = 4 ∨ kd % 8 = 5 ∨ kd % 8 = 6 ∨ kd % 8 = 7 ∨ kd % 8 < 4 := by omega
      rcases h8 with hq | hq | hq | hq | hq
      · have hA : bits .and .i64 kd 7 = 4 := by rw [and7, hq]
        have SP := Lib.hid (STP.out 4 hq)
        clear hq hqa hq8 STP IX1 IX2
        go_wp2_with fail
        refine (UN.out _ GB.out).mono ?_
        rintro e w5 ⟨v5, rfl, o5, b5⟩
        have B5 : Hid (Below wr.heap.size wr w5) := GB.out.trans (b5.mono GB.out.size)
        obtain ⟨Bo, o5⟩ := o5
        obtain ⟨s5, c5, rfl⟩ := owns_shape o5
        obtain ⟨m5, hm5⟩ : ∃ m, m = (stepP ⟨kd, ofv, wi, key, dt, ⟨no, ca, cb, cc, cm, cr⟩⟩ s1 s2).length := ⟨_, rfl⟩
        have hm5' := hm5
        rw [SP.out] at hm5'
        simp at hm5'
        rw [← hm5'] at o5 ⊢
        have O5 : Hid (OwnP w5 (.slice s5 m5 c5) (stepP ⟨kd, ofv, wi, key, dt, ⟨no, ca, cb, cc, cm, cr⟩⟩ s1 s2)) := ⟨Bo, by rw [← hm5, SP.out]; exact o5⟩
        obtain ⟨fx, fy, fz, FB5⟩ : ∃ fx fy fz, Hid (w5.heap[wr.heap.size + 1]? = some (.cells #[.int .i32 fx, .int .i64 fy, .bool fz] 71 (0, 0))) := ⟨0, 0, false, (b5.block _ (by simp)).trans FB.out⟩
        clear o5 b5 hm5 hm5' UN NT DF UD
        have OW1 : Hid ((w5.alloc (.cells #[.slice s5 m5 c5] 22)).ownsRow w.heap.size 22 1 (.slice (some ⟨tg', 0, none⟩) n tcap) n (fl pv V)) := by
          have := (row_below HH.out.1.rt B5.out).alloc (.cells #[.slice s5 m5 c5] 22)
          rw [HH.out.2.2.2.1] at this
          exact this
        have SZ5 : Hid (w.heap.size ≤ w5.heap.size) := Nat.le_trans HH.out.2.2.1.size B5.out.size
        have S5E : Hid (∃ k, w5.heap.size = k) := ⟨_, rfl⟩
        go_wp2_with (at_builtin; refine wpList_append_lies _ rfl _ _ 51 rfl w.heap.size 22 i2 _ 1 24 Try.underlying51 hi2 hf0 hf1 hf2 rfl (by omega) (.slice (some ⟨tg', 0, none⟩) n tcap) n (fl pv V) rfl OW1.out ⟨w5.heap.size, 0, none⟩ 1 1 [.slice s5 m5 c5] rfl rfl ?a1 (fun u hu => by rw [List.mem_singleton] at hu; subst hu; rfl) (by omega) (by unfold maxLen; omega) (by omega) ?a2 (w5.heap.size + 1) (by simp) ?a3)
        case a1 => have hnw := news0 w5 #[.slice s5 m5 c5] 22; first | exact hnw | (simp only [World.size_alloc, World.size_setCell] at hnw; exact hnw)
        case a2 => have := SZ5.out; simp at this ⊢; omega
        case a3 =>
          intro g3 cap3 w6 hown3 hgrow3 hat3 hlt3
          have P6 : Hid (SHS w.heap.size w6 (V ++ [⟨.slice s5 m5 c5, stepP ⟨kd, ofv, wi, key, dt, ⟨no, ca, cb, cc, cm, cr⟩⟩ s1 s2⟩]) (.slice (some ⟨g3, 0, none⟩) (n + 1) cap3) ∧ w6.ownsRow w.heap.size 71 3 (.slice da j dcap) j xs ∧ w6.heap[wr.heap.size + 1]? = some (.cells #[.int .i32 fx, .int .i64 fy, .bool fz] 71 (0, 0))) := by
            have h5 := HH.out.1.below B5.out
            rw [← HH.out.2.2.2.1] at hown3
            obtain ⟨p1, p2, p3⟩ := h5.push1 O5.out _ hgrow3 hown3
            rw [HH.out.2.2.2.1] at p1
            exact ⟨p1, p2 (row_below HH.out.2.1 B5.out), p3 _ _ FB5.out⟩
          have B6 : Hid (Below w.heap.size w w6) := ((HH.out.2.2.1.trans (B5.out.mono HH.out.2.2.1.size)).alloc SZ5.out _).grown hgrow3 (by have := SZ5.out; rw [World.size_alloc]; omega) (fun k hk => (OW1.out.lt k hk).1)
          have z0 := fb_cell0 P6.out.2.2
          have z1 := fb_cell1 P6.out.2.2
          have z2 := fb_cell2 P6.out.2.2
          have ODW : Hid ((w6.alloc (.cells #[.int .i32 fx, .int .i64 fy, .bool fz] 71)).ownsRow w.heap.size 71 3 (.slice da j dcap) j xs) := P6.out.2.1.alloc _
          clear hown3 hgrow3 hat3 hlt3 OW1
          go_wp2_with (at_builtin; refine wpList_append_lies _ rfl _ _ 52 rfl w.heap.size 71 i7 _ 3 24 Try.underlying52 hi7 hp0 hp1 hp2 rfl (by omega) (.slice da j dcap) j xs rfl ODW.out ⟨w6.heap.size, 0, none⟩ 1 1 [.int .i32 fx, .int .i64 fy, .bool fz] rfl rfl ?b1 (fun u hu => by simp only [List.mem_cons, List.not_mem_nil, or_false] at hu; rcases hu with rfl | rfl | rfl <;> rfl) (by omega) (by unfold maxLen; omega) (by omega) ?b2 (w6.heap.size + 1) (by simp) ?b3)
          case b1 => exact news0 w6 #[.int .i32 fx, .int .i64 fy, .bool fz] 71
          case b2 => have := B6.out.size; simp; omega
          case b3 =>
            intro g4 cap4 w8 hown4 hgrow4 hat4 hlt4
            have HS8 : Hid (SHS w.heap.size w8 (V ++ [⟨.slice s5 m5 c5, stepP ⟨kd, ofv, wi, key, dt, ⟨no, ca, cb, cc, cm, cr⟩⟩ s1 s2⟩]) (.slice (some ⟨g3, 0, none⟩) (n + 1) cap3)) := P6.out.1.push2 P6.out.2.1 _ hgrow4
            have B8 : Hid (Below w.heap.size w w8) := (B6.out.alloc B6.out.size _).grown hgrow4 (by have := B6.out.size; rw [World.size_alloc]; omega) (fun k hk => (ODW.out.lt k hk).1)
            have RW := Lib.hid hown4
            clear hown4 hgrow4 hat4 hlt4 ODW
            go_wp2_with fail
            go_roundg (As.length - (j + 1))
            case measure => omega
            case rel => exact ⟨j + 1, by omega, rfl, by go_num, n + 1, _, _, _, _, rfl, rfl, by omega, by have := HH.out.2.2.2.2.1; omega, _, _, HS8.out, RW.out, B8.out, by rw [List.length_append, HH.out.2.2.2.1]; rfl, by rw [HH.out.2.2.2.2.1], FIN.out⟩
      · have hA : bits .and .i64 kd 7 = 5 := by rw [and7, hq]
        have SP := Lib.hid (STP.out 5 hq)
        clear hq hqa hq8 STP IX1 IX2
        go_wp2_with fail
        refine (NT.out _ GB.out).mono ?_
        rintro e w5 ⟨v5, rfl, o5, b5⟩
        have B5 : Hid (Below wr.heap.size wr w5) := GB.out.trans (b5.mono GB.out.size)
        obtain ⟨Bo, o5⟩ := o5
        obtain ⟨s5, c5, rfl⟩ := owns_shape o5
        obtain ⟨m5, hm5⟩ : ∃ m, m = (stepP ⟨kd, ofv, wi, key, dt, ⟨no, ca, cb, cc, cm, cr⟩⟩ s1 s2).length := ⟨_, rfl⟩
        have hm5' := hm5
        rw [SP.out] at hm5'
        simp at hm5'
        rw [← hm5'] at o5 ⊢
        have O5 : Hid (OwnP w5 (.slice s5 m5 c5) (stepP ⟨kd, ofv, wi, key, dt, ⟨no, ca, cb, cc, cm, cr⟩⟩ s1 s2)) := ⟨Bo, by rw [← hm5, SP.out]; exact o5⟩
        obtain ⟨fx, fy, fz, FB5⟩ : ∃ fx fy fz, Hid (w5.heap[wr.heap.size + 1]? = some (.cells #[.int .i32 fx, .int .i64 fy, .bool fz] 71 (0, 0))) := ⟨0, 0, false, (b5.block _ (by simp)).trans FB.out⟩
        clear o5 b5 hm5 hm5' UN NT DF UD
        have OW1 : Hid ((w5.alloc (.cells #[.slice s5 m5 c5] 22)).ownsRow w.heap.size 22 1 (.slice (some ⟨tg', 0, none⟩) n tcap) n (fl pv V)) := by
          have := (row_below HH.out.1.rt B5.out).alloc (.cells #[.slice s5 m5 c5] 22)
          rw [HH.out.2.2.2.1] at this
          exact this
        have SZ5 : Hid (w.heap.size ≤ w5.heap.size) := Nat.le_trans HH.out.2.2.1.size B5.out.size
        have S5E : Hid (∃ k, w5.heap.size = k) := ⟨_, rfl⟩
        go_wp2_with (at_builtin; refine wpList_append_lies _ rfl _ _ 51 rfl w.heap.size 22 i2 _ 1 24 Try.underlying51 hi2 hf0 hf1 hf2 rfl (by omega) (.slice (some ⟨tg', 0, none⟩) n tcap) n (fl pv V) rfl OW1.out ⟨w5.heap.size, 0, none⟩ 1 1 [.slice s5 m5 c5] rfl rfl ?a1 (fun u hu => by rw [List.mem_singleton] at hu; subst hu; rfl) (by omega) (by unfold maxLen; omega) (by omega) ?a2 (w5.heap.size + 1) (by simp) ?a3)
        case a1 => have hnw := news0 w5 #[.slice s5 m5 c5] 22; first | exact hnw | (simp only [World.size_alloc, World.size_setCell] at hnw; exact hnw)
        case a2 => have := SZ5.out; simp at this ⊢; omega
        case a3 =>
          intro g3 cap3 w6 hown3 hgrow3 hat3 hlt3
          have P6 : Hid (SHS w.heap.size w6 (V ++ [⟨.slice s5 m5 c5, stepP ⟨kd, ofv, wi, key, dt, ⟨no, ca, cb, cc, cm, cr⟩⟩ s1 s2⟩]) (.slice (some ⟨g3, 0, none⟩) (n + 1) cap3) ∧ w6.ownsRow w.heap.size 71 3 (.slice da j dcap) j xs ∧ w6.heap[wr.heap.size + 1]? = some (.cells #[.int .i32 fx, .int .i64 fy, .bool fz] 71 (0, 0))) := by
            have h5 := HH.out.1.below B5.out
            rw [← HH.out.2.2.2.1] at hown3
            obtain ⟨p1, p2, p3⟩ := h5.push1 O5.out _ hgrow3 hown3
            rw [HH.out.2.2.2.1] at p1
            exact ⟨p1, p2 (row_below HH.out.2.1 B5.out), p3 _ _ FB5.out⟩
          have B6 : Hid (Below w.heap.size w w6) := ((HH.out.2.2.1.trans (B5.out.mono HH.out.2.2.1.size)).alloc SZ5.out _).grown hgrow3 (by have := SZ5.out; rw [World.size_alloc]; omega) (fun k hk => (OW1.out.lt k hk).1)
          have z0 := fb_cell0 P6.out.2.2
          have z1 := fb_cell1 P6.out.2.2
          have z2 := fb_cell2 P6.out.2.2
          have ODW : Hid ((w6.alloc (.cells #[.int .i32 fx, .int .i64 fy, .bool fz] 71)).ownsRow w.heap.size 71 3 (.slice da j dcap) j xs) := P6.out.2.1.alloc _
          clear hown3 hgrow3 hat3 hlt3 OW1
          go_wp2_with (at_builtin; refine wpList_append_lies _ rfl _ _ 52 rfl w.heap.size 71 i7 _ 3 24 Try.underlying52 hi7 hp0 hp1 hp2 rfl (by omega) (.slice da j dcap) j xs rfl ODW.out ⟨w6.heap.size, 0, none⟩ 1 1 [.int .i32 fx, .int .i64 fy, .bool fz] rfl rfl ?b1 (fun u hu => by simp only [List.mem_cons, List.not_mem_nil, or_false] at hu; rcases hu with rfl | rfl | rfl <;> rfl) (by omega) (by unfold maxLen; omega) (by omega) ?b2 (w6.heap.size + 1) (by simp) ?b3)
          case b1 => exact news0 w6 #[.int .i32 fx, .int .i64 fy, .bool fz] 71
          case b2 => have := B6.out.size; simp; omega
          case b3 =>
            intro g4 cap4 w8 hown4 hgrow4 hat4 hlt4
            have HS8 : Hid (SHS w.heap.size w8 (V ++ [⟨.slice s5 m5 c5, stepP ⟨kd, ofv, wi, key, dt, ⟨no, ca, cb, cc, cm, cr⟩⟩ s1 s2⟩]) (.slice (some ⟨g3, 0, none⟩) (n + 1) cap3)) := P6.out.1.push2 P6.out.2.1 _ hgrow4
            have B8 : Hid (Below w.heap.size w w8) := (B6.out.alloc B6.out.size _).grown hgrow4 (by have := B6.out.size; rw [World.size_alloc]; omega) (fun k hk => (ODW.out.lt k hk).1)
            have RW := Lib.hid hown4
            clear hown4 hgrow4 hat4 hlt4 ODW
            go_wp2_with fail
            go_roundg (As.length - (j + 1))
            case measure => omega
            case rel => exact ⟨j + 1, by omega, rfl, by go_num, n + 1, _, _, _, _, rfl, rfl, by omega, by have := HH.out.2.2.2.2.1; omega, _, _, HS8.out, RW.out, B8.out, by rw [List.length_append, HH.out.2.2.2.1]; rfl, by rw [HH.out.2.2.2.2.1], FIN.out⟩
      · have hA : bits .and .i64 kd 7 = 6 := by rw [and7, hq]
        have SP := Lib.hid (STP.out 6 hq)
        clear hq hqa hq8 STP IX1 IX2
        go_wp2_with fail
        refine (DF.out _ GB.out).mono ?_
        rintro e w5 ⟨v5, rfl, o5, b5⟩
        have B5 : Hid (Below wr.heap.size wr w5) := GB.out.trans (b5.mono GB.out.size)
        obtain ⟨Bo, o5⟩ := o5
        obtain ⟨s5, c5, rfl⟩ := owns_shape o5
        obtain ⟨m5, hm5⟩ : ∃ m, m = (stepP ⟨kd, ofv, wi, key, dt, ⟨no, ca, cb, cc, cm, cr⟩⟩ s1 s2).length := ⟨_, rfl⟩
        have hm5' := hm5
        rw [SP.out] at hm5'
        simp at hm5'
        rw [← hm5'] at o5 ⊢
        have O5 : Hid (OwnP w5 (.slice s5 m5 c5) (stepP ⟨kd, ofv, wi, key, dt, ⟨no, ca, cb, cc, cm, cr⟩⟩ s1 s2)) := ⟨Bo, by rw [← hm5, SP.out]; exact o5⟩
        obtain ⟨fx, fy, fz, FB5⟩ : ∃ fx fy fz, Hid (w5.heap[wr.heap.size + 1]? = some (.cells #[.int .i32 fx, .int .i64 fy, .bool fz] 71 (0, 0))) := ⟨0, 0, false, (b5.block _ (by simp)).trans FB.out⟩
        clear o5 b5 hm5 hm5' UN NT DF UD
        have OW1 : Hid ((w5.alloc (.cells #[.slice s5 m5 c5] 22)).ownsRow w.heap.size 22 1 (.slice (some ⟨tg', 0, none⟩) n tcap) n (fl pv V)) := by
          have := (row_below HH.out.1.rt B5.out).alloc (.cells #[.slice s5 m5 c5] 22)
          rw [HH.out.2.2.2.1] at this
          exact this
        have SZ5 : Hid (w.heap.size ≤ w5.heap.size) := Nat.le_trans HH.out.2.2.1.size B5.out.size
        have S5E : Hid (∃ k, w5.heap.size = k) := ⟨_, rfl⟩
        go_wp2_with (at_builtin; refine wpList_append_lies _ rfl _ _ 51 rfl w.heap.size 22 i2 _ 1 24 Try.underlying51 hi2 hf0 hf1 hf2 rfl (by omega) (.slice (some ⟨tg', 0, none⟩) n tcap) n (fl pv V) rfl OW1.out ⟨w5.heap.size, 0, none⟩ 1 1 [.slice s5 m5 c5] rfl rfl ?a1 (fun u hu => by rw [List.mem_singleton] at hu; subst hu; rfl) (by omega) (by unfold maxLen; omega) (by omega) ?a2 (w5.heap.size + 1) (by simp) ?a3)
        case a1 => have hnw := news0 w5 #[.slice s5 m5 c5] 22; first | exact hnw | (simp only [World.size_alloc, World.size_setCell] at hnw; exact hnw)
        case a2 => have := SZ5.out; simp at this ⊢; omega
        case a3 =>
          intro g3 cap3 w6 hown3 hgrow3 hat3 hlt3
          have P6 : Hid (SHS w.heap.size w6 (V ++ [⟨.slice s5 m5 c5, stepP ⟨kd, ofv, wi, key, dt, ⟨no, ca, cb, cc, cm, cr⟩⟩ s1 s2⟩]) (.slice (some ⟨g3, 0, none⟩) (n + 1) cap3) ∧ w6.ownsRow w.heap.size 71 3 (.slice da j dcap) j xs ∧ w6.heap[wr.heap.size + 1]? = some (.cells #[.int .i32 fx, .int .i64 fy, .bool fz] 71 (0, 0))) := by
            have h5 := HH.out.1.below B5.out
            rw [← HH.out.2.2.2.1] at hown3
            obtain ⟨p1, p2, p3⟩ := h5.push1 O5.out _ hgrow3 hown3
            rw [HH.out.2.2.2.1] at p1
            exact ⟨p1, p2 (row_below HH.out.2.1 B5.out), p3 _ _ FB5.out⟩
          have B6 : Hid (Below w.heap.size w w6) := ((HH.out.2.2.1.trans (B5.out.mono HH.out.2.2.1.size)).alloc SZ5.out _).grown hgrow3 (by have := SZ5.out; rw [World.size_alloc]; omega) (fun k hk => (OW1.out.lt k hk).1)
          have z0 := fb_cell0 P6.out.2.2
          have z1 := fb_cell1 P6.out.2.2
          have z2 := fb_cell2 P6.out.2.2
          have ODW : Hid ((w6.alloc (.cells #[.int .i32 fx, .int .i64 fy, .bool fz] 71)).ownsRow w.heap.size 71 3 (.slice da j dcap) j xs) := P6.out.2.1.alloc _
          clear hown3 hgrow3 hat3 hlt3 OW1
          go_wp2_with (at_builtin; refine wpList_append_lies _ rfl _ _ 52 rfl w.heap.size 71 i7 _ 3 24 Try.underlying52 hi7 hp0 hp1 hp2 rfl (by omega) (.slice da j dcap) j xs rfl ODW.out ⟨w6.heap.size, 0, none⟩ 1 1 [.int .i32 fx, .int .i64 fy, .bool fz] rfl rfl ?b1 (fun u hu => by simp only [List.mem_cons, List.not_mem_nil, or_false] at hu; rcases hu with rfl | rfl | rfl <;> rfl) (by omega) (by unfold maxLen; omega) (by omega) ?b2 (w6.heap.size + 1) (by simp) ?b3)
          case b1 => exact news0 w6 #[.int .i32 fx, .int .i64 fy, .bool fz] 71
          case b2 => have := B6.out.size; simp; omega
          case b3 =>
            intro g4 cap4 w8 hown4 hgrow4 hat4 hlt4
            have HS8 : Hid (SHS w.heap.size w8 (V ++ [⟨.slice s5 m5 c5, stepP ⟨kd, ofv, wi, key, dt, ⟨no, ca, cb, cc, cm, cr⟩⟩ s1 s2⟩]) (.slice (some ⟨g3, 0, none⟩) (n + 1) cap3)) := P6.out.1.push2 P6.out.2.1 _ hgrow4
            have B8 : Hid (Below w.heap.size w w8) := (B6.out.alloc B6.out.size _).grown hgrow4 (by have := B6.out.size; rw [World.size_alloc]; omega) (fun k hk => (ODW.out.lt k hk).1)
            have RW := Lib.hid hown4
            clear hown4 hgrow4 hat4 hlt4 ODW
            go_wp2_with fail
            go_roundg (As.length - (j + 1))
            case measure => omega
            case rel => exact ⟨j + 1, by omega, rfl, by go_num, n + 1, _, _, _, _, rfl, rfl, by omega, by have := HH.out.2.2.2.2.1; omega, _, _, HS8.out, RW.out, B8.out, by rw [List.length_append, HH.out.2.2.2.1]; rfl, by rw [HH.out.2.2.2.2.1], FIN.out⟩
      · have hA : bits .and .i64 kd 7 = 7 := by rw [and7, hq]
        have SP := Lib.hid (STP.out 7 hq)
        clear hq hqa hq8 STP IX1 IX2
        have B5 := Lib.hid GB.out
        obtain ⟨s5, hs5⟩ : ∃ s5, s5 = sa1 := ⟨_, rfl⟩
        obtain ⟨m5, hm5⟩ : ∃ m5, m5 = n1 := ⟨_, rfl⟩
        obtain ⟨c5, hc5⟩ : ∃ c5, c5 = sc1 := ⟨_, rfl⟩
        rw [← hs5, ← hm5, ← hc5] at OO ⊢
        have O5 : Hid (OwnP ((wr.alloc (.cells #[.int .i64 kd, .int .i64 ofv, .int .i64 wi, .int .i32 key, .int .i64 dt, .bool no, .int .i64 ca, .int .i64 cb, .int .i64 cc, .int .i64 cm, .int .i64 cr] 76)).alloc (.cells #[.int .i32 0, .int .i64 0, .bool false] 71)) (.slice s5 m5 c5) (stepP ⟨kd, ofv, wi, key, dt, ⟨no, ca, cb, cc, cm, cr⟩⟩ s1 s2)) := by
          rw [SP.out]
          exact OO.out.1.below GB.out
        obtain ⟨fx, fy, fz, hfx, hfy, hfz⟩ : ∃ (fx fy : Int) (fz : Bool), fx = 0 ∧ fy = 0 ∧ fz = false := ⟨_, _, _, rfl, rfl, rfl⟩
        have FB5 : Hid (((wr.alloc (.cells #[.int .i64 kd, .int .i64 ofv, .int .i64 wi, .int .i32 key, .int .i64 dt, .bool no, .int .i64 ca, .int .i64 cb, .int .i64 cc, .int .i64 cm, .int .i64 cr] 76)).alloc (.cells #[.int .i32 0, .int .i64 0, .bool false] 71)).heap[wr.heap.size + 1]? = some (.cells #[.int .i32 fx, .int .i64 fy, .bool fz] 71 (0, 0))) := by
          rw [hfx, hfy, hfz]; exact FB.out
        clear hs5 hm5 hc5 UN NT DF UD hfx hfy hfz
        have OW1 : Hid ((((wr.alloc (.cells #[.int .i64 kd, .int .i64 ofv, .int .i64 wi, .int .i32 key, .int .i64 dt, .bool no, .int .i64 ca, .int .i64 cb, .int .i64 cc, .int .i64 cm, .int .i64 cr] 76)).alloc (.cells #[.int .i32 0, .int .i64 0, .bool false] 71)).alloc (.cells #[.slice s5 m5 c5] 22)).ownsRow w.heap.size 22 1 (.slice (some ⟨tg', 0, none⟩) n tcap) n (fl pv V)) := by
          have := (row_below HH.out.1.rt B5.out).alloc (.cells #[.slice s5 m5 c5] 22)
          rw [HH.out.2.2.2.1] at this
          exact this
        have SZ5 : Hid (w.heap.size ≤ ((wr.alloc (.cells #[.int .i64 kd, .int .i64 ofv, .int .i64 wi, .int .i32 key, .int .i64 dt, .bool no, .int .i64 ca, .int .i64 cb, .int .i64 cc, .int .i64 cm, .int .i64 cr] 76)).alloc (.cells #[.int .i32 0, .int .i64 0, .bool false] 71)).heap.size) := Nat.le_trans HH.out.2.2.1.size B5.out.size
        have S5E : Hid (∃ k, ((wr.alloc (.cells #[.int .i64 kd, .int .i64 ofv, .int .i64 wi, .int .i32 key, .int .i64 dt, .bool no, .int .i64 ca, .int .i64 cb, .int .i64 cc, .int .i64 cm, .int .i64 cr] 76)).alloc (.cells #[.int .i32 0, .int .i64 0, .bool false] 71)).heap.size = k) := ⟨_, rfl⟩
        go_wp2_with (at_builtin; refine wpList_append_lies _ rfl _ _ 51 rfl w.heap.size 22 i2 _ 1 24 Try.underlying51 hi2 hf0 hf1 hf2 rfl (by omega) (.slice (some ⟨tg', 0, none⟩) n tcap) n (fl pv V) rfl OW1.out ⟨(wr.heap.size + 2), 0, none⟩ 1 1 [.slice s5 m5 c5] rfl rfl ?a1 (fun u hu => by rw [List.mem_singleton] at hu; subst hu; rfl) (by omega) (by unfold maxLen; omega) (by omega) ?a2 ((wr.heap.size + 2) + 1) (by simp) ?a3)
        case a1 => have hnw := news0 ((wr.alloc (.cells #[.int .i64 kd, .int .i64 ofv, .int .i64 wi, .int .i32 key, .int .i64 dt, .bool no, .int .i64 ca, .int .i64 cb, .int .i64 cc, .int .i64 cm, .int .i64 cr] 76)).alloc (.cells #[.int .i32 0, .int .i64 0, .bool false] 71)) #[.slice s5 m5 c5] 22; first | exact hnw | (simp only [World.size_alloc, World.size_setCell] at hnw; exact hnw)
        case a2 => have := SZ5.out; simp at this ⊢; omega
        case a3 =>
          intro g3 cap3 w6 hown3 hgrow3 hat3 hlt3
          have P6 : Hid (SHS w.heap.size w6 (V ++ [⟨.slice s5 m5 c5, stepP ⟨kd, ofv, wi, key, dt, ⟨no, ca, cb, cc, cm, cr⟩⟩ s1 s2⟩]) (.slice (some ⟨g3, 0, none⟩) (n + 1) cap3) ∧ w6.ownsRow w.heap.size 71 3 (.slice da j dcap) j xs ∧ w6.heap[wr.heap.size + 1]? = some (.cells #[.int .i32 fx, .int .i64 fy, .bool fz] 71 (0, 0))) := by
            have h5 := HH.out.1.below B5.out
            rw [← HH.out.2.2.2.1] at hown3
            obtain ⟨p1, p2, p3⟩ := h5.push1 O5.out _ hgrow3 hown3
            rw [HH.out.2.2.2.1] at p1
            exact ⟨p1, p2 (row_below HH.out.2.1 B5.out), p3 _ _ FB5.out⟩
          have B6 : Hid (Below w.heap.size w w6) := ((HH.out.2.2.1.trans (B5.out.mono HH.out.2.2.1.size)).alloc SZ5.out _).grown hgrow3 (by have := SZ5.out; rw [World.size_alloc]; omega) (fun k hk => (OW1.out.lt k hk).1)
          have z0 := fb_cell0 P6.out.2.2
          have z1 := fb_cell1 P6.out.2.2
          have z2 := fb_cell2 P6.out.2.2
          have ODW : Hid ((w6.alloc (.cells #[.int .i32 fx, .int .i64 fy, .bool fz] 71)).ownsRow w.heap.size 71 3 (.slice da j dcap) j xs) := P6.out.2.1.alloc _
          clear hown3 hgrow3 hat3 hlt3 OW1
          go_wp2_with (at_builtin; refine wpList_append_lies _ rfl _ _ 52 rfl w.heap.size 71 i7 _ 3 24 Try.underlying52 hi7 hp0 hp1 hp2 rfl (by omega) (.slice da j dcap) j xs rfl ODW.out ⟨w6.heap.size, 0, none⟩ 1 1 [.int .i32 fx, .int .i64 fy, .bool fz] rfl rfl ?b1 (fun u hu => by simp only [List.mem_cons, List.not_mem_nil, or_false] at hu; rcases hu with rfl | rfl | rfl <;> rfl) (by omega) (by unfold maxLen; omega) (by omega) ?b2 (w6.heap.size + 1) (by simp) ?b3)
          case b1 => exact news0 w6 #[.int .i32 fx, .int .i64 fy, .bool fz] 71
          case b2 => have := B6.out.size; simp; omega
          case b3 =>
            intro g4 cap4 w8 hown4 hgrow4 hat4 hlt4
            have HS8 : Hid (SHS w.heap.size w8 (V ++ [⟨.slice s5 m5 c5, stepP ⟨kd, ofv, wi, key, dt, ⟨no, ca, cb, cc, cm, cr⟩⟩ s1 s2⟩]) (.slice (some ⟨g3, 0, none⟩) (n + 1) cap3)) := P6.out.1.push2 P6.out.2.1 _ hgrow4
            have B8 : Hid (Below w.heap.size w w8) := (B6.out.alloc B6.out.size _).grown hgrow4 (by have := B6.out.size; rw [World.size_alloc]; omega) (fun k hk => (ODW.out.lt k hk).1)
            have RW := Lib.hid hown4
            clear hown4 hgrow4 hat4 hlt4 ODW
            go_wp2_with fail
            go_roundg (As.length - (j + 1))
            case measure => omega
            case rel => exact ⟨j + 1, by omega, rfl, by go_num, n + 1, _, _, _, _, rfl, rfl, by omega, by have := HH.out.2.2.2.2.1; omega, _, _, HS8.out, RW.out, B8.out, by rw [List.length_append, HH.out.2.2.2.1]; rfl, by rw [HH.out.2.2.2.2.1], FIN.out⟩
      · obtain ⟨q, hqq⟩ : ∃ q, q = kd % 8 := ⟨_, rfl⟩
        have hA : bits .and .i64 kd 7 = q := by rw [and7, hqq]
        have SP := Lib.hid (STP.out q hqq.symm)
        have n4 : (q == 4) = false := by simp; omega
        have n5 : (q == 5) = false := by simp; omega
        have n6 : (q == 6) = false := by simp; omega
        have n7 : (q == 7) = false := by simp; omega
        have NQ : Hid (q ≠ 4 ∧ q ≠ 5 ∧ q ≠ 6 ∧ q ≠ 7) := ⟨by omega, by omega, by omega, by omega⟩
        have SQ : Hid (stepP ⟨kd, ofv, wi, key, dt, ⟨no, ca, cb, cc, cm, cr⟩⟩ s1 s2 = updP ⟨kd, ofv, wi, key, dt, ⟨no, ca, cb, cc, cm, cr⟩⟩ s1) := by
          show stepP ⟨kd, ofv, wi, key, dt, ⟨no, ca, cb, cc, cm, cr⟩⟩ s1 s2 = updP ⟨kd, ofv, wi, key, dt, ⟨no, ca, cb, cc, cm, cr⟩⟩ s1
          rw [SP.out, if_neg NQ.out.1, if_neg NQ.out.2.1, if_neg NQ.out.2.2.1, if_neg NQ.out.2.2.2]
        clear hq hqa hq8 STP IX1 IX2 hqq
        go_wp2_with fail
        refine (UD.out _ GB.out).mono ?_
        rintro e w5 ⟨v5, fx, fy, fz, rfl, o5, b5⟩
        have b5' : Below wr.heap.size wr w5 := GB.out.trans (b5.mono GB.out.size)
        obtain ⟨Bo, o5⟩ := o5
        obtain ⟨s5, c5, rfl⟩ := owns_shape o5
        obtain ⟨m5, hm5⟩ : ∃ m, m = (updP ⟨kd, ofv, wi, key, dt, ⟨no, ca, cb, cc, cm, cr⟩⟩ s1).length := ⟨_, rfl⟩
        rw [← hm5] at o5 ⊢
        have fb5 := (b5.block (wr.heap.size + 1) (by simp)).trans FB.out
        have z0 := fb_cell0 fb5
        have z1 := fb_cell1 fb5
        have z2 := fb_cell2 fb5
        have f0 := fb_frz fb5 0
        have f1 := fb_frz fb5 1
        have f2 := fb_frz fb5 2
        have o5' : OwnP w5 (.slice s5 m5 c5) (updP ⟨kd, ofv, wi, key, dt, ⟨no, ca, cb, cc, cm, cr⟩⟩ s1) := ⟨Bo, by rw [← hm5]; exact o5⟩
        obtain ⟨cE1, cE2⟩ := sup_set b5' o5' fb5
        have O5 := Lib.hid (SQ.out ▸ cE1 (.int .i32 fx) (.int .i64 fy) (.bool fz))
        have B5 := Lib.hid (cE2 (.int .i32 fx) (.int .i64 fy) (.bool fz))
        have FB5 := Lib.hid (found_block fb5 (.int .i32 fx) (.int .i64 fy) (.bool fz))
        clear o5 o5' b5 b5' fb5 hm5 cE1 cE2 UN NT DF UD
        have OW1 : Hid (((((w5.setCell ⟨wr.heap.size + 1, 0, none⟩ (.int .i32 fx)).setCell ⟨wr.heap.size + 1, 1, none⟩ (.int .i64 fy)).setCell ⟨wr.heap.size + 1, 2, none⟩ (.bool fz)).alloc (.cells #[.slice s5 m5 c5] 22)).ownsRow w.heap.size 22 1 (.slice (some ⟨tg', 0, none⟩) n tcap) n (fl pv V)) := by
          have := (row_below HH.out.1.rt B5.out).alloc (.cells #[.slice s5 m5 c5] 22)
          rw [HH.out.2.2.2.1] at this
          exact this
        have SZ5 : Hid (w.heap.size ≤ (((w5.setCell ⟨wr.heap.size + 1, 0, none⟩ (.int .i32 fx)).setCell ⟨wr.heap.size + 1, 1, none⟩ (.int .i64 fy)).setCell ⟨wr.heap.size + 1, 2, none⟩ (.bool fz)).heap.size) := Nat.le_trans HH.out.2.2.1.size B5.out.size
        have S5E : Hid (∃ k, (((w5.setCell ⟨wr.heap.size + 1, 0, none⟩ (.int .i32 fx)).setCell ⟨wr.heap.size + 1, 1, none⟩ (.int .i64 fy)).setCell ⟨wr.heap.size + 1, 2, none⟩ (.bool fz)).heap.size = k) := ⟨_, rfl⟩
        go_wp2_with (at_builtin; refine wpList_append_lies _ rfl _ _ 51 rfl w.heap.size 22 i2 _ 1 24 Try.underlying51 hi2 hf0 hf1 hf2 rfl (by omega) (.slice (some ⟨tg', 0, none⟩) n tcap) n (fl pv V) rfl OW1.out ⟨w5.heap.size, 0, none⟩ 1 1 [.slice s5 m5 c5] rfl rfl ?a1 (fun u hu => by rw [List.mem_singleton] at hu; subst hu; rfl) (by omega) (by unfold maxLen; omega) (by omega) ?a2 (w5.heap.size + 1) (by simp) ?a3)
        case a1 => have hnw := news0 (((w5.setCell ⟨wr.heap.size + 1, 0, none⟩ (.int .i32 fx)).setCell ⟨wr.heap.size + 1, 1, none⟩ (.int .i64 fy)).setCell ⟨wr.heap.size + 1, 2, none⟩ (.bool fz)) #[.slice s5 m5 c5] 22; first | exact hnw | (simp only [World.size_alloc, World.size_setCell] at hnw; exact hnw)
        case a2 => have := SZ5.out; simp at this ⊢; omega
        case a3 =>
          intro g3 cap3 w6 hown3 hgrow3 hat3 hlt3
          have P6 : Hid (SHS w.heap.size w6 (V ++ [⟨.slice s5 m5 c5, stepP ⟨kd, ofv, wi, key, dt, ⟨no, ca, cb, cc, cm, cr⟩⟩ s1 s2⟩]) (.slice (some ⟨g3, 0, none⟩) (n + 1) cap3) ∧ w6.ownsRow w.heap.size 71 3 (.slice da j dcap) j xs ∧ w6.heap[wr.heap.size + 1]? = some (.cells #[.int .i32 fx, .int .i64 fy, .bool fz] 71 (0, 0))) := by
            have h5 := HH.out.1.below B5.out
            rw [← HH.out.2.2.2.1] at hown3
            obtain ⟨p1, p2, p3⟩ := h5.push1 O5.out _ hgrow3 hown3
            rw [HH.out.2.2.2.1] at p1
            exact ⟨p1, p2 (row_below HH.out.2.1 B5.out), p3 _ _ FB5.out⟩
          have B6 : Hid (Below w.heap.size w w6) := ((HH.out.2.2.1.trans (B5.out.mono HH.out.2.2.1.size)).alloc SZ5.out _).grown hgrow3 (by have := SZ5.out; rw [World.size_alloc]; omega) (fun k hk => (OW1.out.lt k hk).1)
          have z0 := fb_cell0 P6.out.2.2
          have z1 := fb_cell1 P6.out.2.2
          have z2 := fb_cell2 P6.out.2.2
          have ODW : Hid ((w6.alloc (.cells #[.int .i32 fx, .int .i64 fy, .bool fz] 71)).ownsRow w.heap.size 71 3 (.slice da j dcap) j xs) := P6.out.2.1.alloc _
          clear hown3 hgrow3 hat3 hlt3 OW1
          go_wp2_with (at_builtin; refine wpList_append_lies _ rfl _ _ 52 rfl w.heap.size 71 i7 _ 3 24 Try.underlying52 hi7 hp0 hp1 hp2 rfl (by omega) (.slice da j dcap) j xs rfl ODW.out ⟨w6.heap.size, 0, none⟩ 1 1 [.int .i32 fx, .int .i64 fy, .bool fz] rfl rfl ?b1 (fun u hu => by simp only [List.mem_cons, List.not_mem_nil, or_false] at hu; rcases hu with rfl | rfl | rfl <;> rfl) (by omega) (by unfold maxLen; omega) (by omega) ?b2 (w6.heap.size + 1) (by simp) ?b3)
          case b1 => exact news0 w6 #[.int .i32 fx, .int .i64 fy, .bool fz] 71
          case b2 => have := B6.out.size; simp; omega
          case b3 =>
            intro g4 cap4 w8 hown4 hgrow4 hat4 hlt4
            have HS8 : Hid (SHS w.heap.size w8 (V ++ [⟨.slice s5 m5 c5, stepP ⟨kd, ofv, wi, key, dt, ⟨no, ca, cb, cc, cm, cr⟩⟩ s1 s2⟩]) (.slice (some ⟨g3, 0, none⟩) (n + 1) cap3)) := P6.out.1.push2 P6.out.2.1 _ hgrow4
            have B8 : Hid (Below w.heap.size w w8) := (B6.out.alloc B6.out.size _).grown hgrow4 (by have := B6.out.size; rw [World.size_alloc]; omega) (fun k hk => (ODW.out.lt k hk).1)
            have RW := Lib.hid hown4
            clear hown4 hgrow4 hat4 hlt4 ODW
            go_wp2_with fail
            go_roundg (As.length - (j + 1))
            case measure => omega
            case rel => exact ⟨j + 1, by omega, rfl, by go_num, n + 1, _, _, _, _, rfl, rfl, by omega, by have := HH.out.2.2.2.2.1; omega, _, _, HS8.out, RW.out, B8.out, by rw [List.length_append, HH.out.2.2.2.1]; rfl, by rw [HH.out.2.2.2.2.1], FIN.out⟩
    · have hj' : j = As.length := by omega
      subst hj'
      rw [List.take_length] at ho
      go_wp2_with fail
      go_ret2
      obtain ⟨V, xs, h1, h2, h3, h4, h5, h6⟩ := ho.out
      exact ⟨V, _, _, _, _, rfl, h1, h3, h6⟩

end Go.Proofs.Ytahghidbadpkeaa

/- The walk of played. -/
set_option linter.unusedVariables false
set_option linter.unusedSimpArgs false
namespace Go.Proofs.Ytahghidbadpkeaa
open Go.Deep Go.RowKit

def okAt (As : List Ac) (i : Nat) : Bool := match As[i]? with
  | none => true
  | some a => okAct a (pickN (histP As) (i + 1) a.ofv) (pickN (histP As) (i + 1) a.wi)
theorem playB_eq (As : List Ac) : playB As = (List.range As.length).all (okAt As) := rfl
theorem playB_no {As : List Ac} {j : Nat} (hj : j < As.length) (h : okAt As j = false) : playB As = false := by
  rw [playB_eq, List.all_eq_false]
  exact ⟨j, List.mem_range.2 hj, by rw [h]; decide⟩
theorem all_snoc {As : List Ac} {j : Nat} (h : (List.range j).all (okAt As) = true) (h2 : okAt As j = true) : (List.range (j + 1)).all (okAt As) = true := by
  rw [List.range_succ, List.all_append, h]; simp [h2]
theorem pickN_at {V : List Pv} {n k : Nat} {i : Int} {q : Pv} (hk : i % (n : Int) = (k : Int)) (hq : V[k]? = some q) : pickN (psOf V) n i = q.s := by
  unfold pickN psOf
  rw [hk, List.getD_eq_getElem?_getD]
  simp [hq]

set_option maxRecDepth 100000 in
set_option maxHeartbeats 4000000 in
theorem played_any {w : World} {v : Value} {As : List Ac} (h : Rd ac 11 w v As) (hn : As.length ≤ 140737488355328) : Calls Try.prog 34 #[v] w (fun e w' => e = .returned (.bool (playedB As)) ∧ Below w.heap.size w w') := by
  obtain ⟨sa, cap, rfl⟩ := h.shape
  have RD := Lib.hid h
  have AC0 := Lib.hid (acted_any h hn)
  clear h
  by_cases hka : actedB As = true
  · have hn1 : As.length ≤ 1000 := by
      have : keysB As = true ∧ (As.length : Int) ≤ 1000 := by simpa [actedB] using hka
      omega
    have HI := Lib.hid (fun (W : World) (hb : Below w.heap.size w W) => History_spec (RD.out.below hb) hn1)
    have PE : Hid (playedB As = playB As) := by show playedB As = playB As; rw [playedB, hka, Bool.true_and]
    clear hn
    go_enter Try.func34, Try.ntmps34
    go_wp2_with fail
    refine AC0.out.mono ?_
    rintro e w0 ⟨rfl, b0⟩
    rw [hka]
    have B0 := Lib.hid b0
    clear b0 hka AC0
    go_wp2_with fail
    refine (HI.out _ B0.out).mono ?_
    rintro e w1 ⟨V, vt, va, vn, vc, rfl, hs, hb, hV⟩
    obtain ⟨ta, tcap, rfl⟩ := owns_shape hs.rt
    obtain ⟨n, hnV⟩ : ∃ n, n = V.length := ⟨_, rfl⟩
    simp only [← hnV]
    have hVl : V.length = As.length + 1 := by
      have := congrArg List.length hV
      rw [histP_len] at this
      simpa [psOf] using this
    have hVs : ∀ q ∈ V, q.s.length ≤ 1000 := fun q hq => by
      have h1 := histP_ok (P := fun k => k ∈ As.map Ac.key) (As := As) (fun a ha => List.mem_map_of_mem ha) q.s (by rw [← hV]; exact List.mem_map_of_mem (f := Pv.s) hq)
      have := few_pairs h1
      rw [List.length_map] at this
      omega
    have HH := Lib.hid (And.intro hs (And.intro hV (And.intro hnV (And.intro hVl hVs))))
    have B1 := Lib.hid (B0.out.trans (hb.mono B0.out.size))
    clear hs hb hV hVl hVs HI
    have hnN : Hid (n = As.length + 1) := HH.out.2.2.1.trans HH.out.2.2.2.1
    clear hnV
    go_wp2_with fail
    go_loopg [18] (As.length) (fun k i wr => ∃ j : Nat, j ≤ As.length ∧ k = As.length - j ∧ i = .int .i64 j ∧ Hid ((List.range j).all (okAt As) = true ∧ Below w.heap.size w wr ∧ Below w1.heap.size w1 wr))
    case atStart => exact ⟨0, Nat.zero_le _, rfl, rfl, rfl, B1.out, Below.refl _ _⟩
    case round =>
      obtain ⟨j, hj, rfl, rfl, ho⟩ := hrel
      by_cases hjn : j < As.length
      · obtain ⟨a, ha⟩ : ∃ a, As[j]? = some a := ⟨_, List.getElem?_eq_getElem hjn⟩
        obtain ⟨b, off, rfl, k0, k1, k2, k3, k4, k5, k6, k7, k8, k9, k10⟩ := (RD.out.below ho.out.2.1).act ha
        have OK : Hid (okAt As j = okAct a (pickN (histP As) (j + 1) a.ofv) (pickN (histP As) (j + 1) a.wi)) := by show okAt As j = _; rw [okAt, ha]
        have hqa := and7 a.kd
        have hw3 : IntKind.i64.wrap ((j : Int) + 1) = (j : Int) + 1 := IntWalk.i64_in _ ⟨by omega, by omega⟩
        by_cases h45 : a.kd % 8 = 4 ∨ a.kd % 8 = 5
        · have hnz : (0 : Int) < ((j + 1 : Nat) : Int) := by omega
          obtain ⟨q1, hq1⟩ : ∃ q : Nat, a.ofv % ((j + 1 : Nat) : Int) = (q : Int) := ⟨(a.ofv % ((j + 1 : Nat) : Int)).toNat, (Int.toNat_of_nonneg (Int.emod_nonneg _ (by omega))).symm⟩
          obtain ⟨q2, hq2⟩ : ∃ q : Nat, a.wi % ((j + 1 : Nat) : Int) = (q : Int) := ⟨(a.wi % ((j + 1 : Nat) : Int)).toNat, (Int.toNat_of_nonneg (Int.emod_nonneg _ (by omega))).symm⟩
          have hl1 : q1 < n := by have := Int.emod_lt_of_pos a.ofv hnz; have := hnN.out; omega
          have hl2 : q2 < n := by have := Int.emod_lt_of_pos a.wi hnz; have := hnN.out; omega
          obtain ⟨⟨v1, s1⟩, hp1'⟩ : ∃ p, V[q1]? = some p := ⟨_, List.getElem?_eq_getElem (by have := HH.out.2.2.1; omega)⟩
          obtain ⟨⟨v2, s2⟩, hp2'⟩ : ∃ p, V[q2]? = some p := ⟨_, List.getElem?_eq_getElem (by have := HH.out.2.2.1; omega)⟩
          have hs := HH.out.1.below ho.out.2.2
          obtain ⟨tg, sa1, sc1, rfl, c1, e1⟩ := hs.at hp1'
          obtain ⟨tg', sa2, sc2, etg, c2, e2⟩ := hs.at hp2'
          have etg' : tg' = tg := by injection etg with e; injection e with e; exact e.symm
          subst etg'
          clear etg
          have o1 := hs.g _ (List.mem_of_getElem? hp1')
          have o2 := hs.g _ (List.mem_of_getElem? hp2')
          have m1 := HH.out.2.2.2.2 _ (List.mem_of_getElem? hp1')
          have m2 := HH.out.2.2.2.2 _ (List.mem_of_getElem? hp2')
          simp only at c1 c2 e1 e2 o1 o2 m1 m2
          subst e1
          subst e2
          have OK2 : Hid (okAt As j = !(a.mx.no || !pFresh a.mx s1 s2)) := by
            show okAt As j = _
            rw [OK.out, ← HH.out.2.1, pickN_at hq1 hp1', pickN_at hq2 hp2', okAct, if_pos h45]
          have FR : Hid (∀ W, Below wr.heap.size wr W → Calls Try.prog 26 #[.slice sa1 s1.length sc1, .slice sa2 s2.length sc2, .agg a.mx.cells] W (fun e w' => e = .returned (.bool (pFresh a.mx s1 s2)) ∧ Below W.heap.size W w')) := fun W b => fresh_any a.mx (o1.rd.below b) (o2.rd.below b) (by omega) (by omega)
          have IX1 : Hid (∀ W : World, Calls Try.prog 19 #[.int .i64 a.ofv, .int .i64 ((j : Int) + 1)] W (fun e w' => e = .returned (.int .i64 (q1 : Int)) ∧ w' = W)) := fun W => hq1 ▸ Index_any (i := a.ofv) (n := ((j + 1 : Nat) : Int)) hnz (by omega)
          have IX2 : Hid (∀ W : World, Calls Try.prog 19 #[.int .i64 a.wi, .int .i64 ((j : Int) + 1)] W (fun e w' => e = .returned (.int .i64 (q2 : Int)) ∧ w' = W)) := fun W => hq2 ▸ Index_any (i := a.wi) (n := ((j + 1 : Nat) : Int)) hnz (by omega)
          obtain ⟨n1, hn1'⟩ : ∃ n1, n1 = s1.length := ⟨_, rfl⟩
          obtain ⟨n2, hn2'⟩ : ∃ n2, n2 = s2.length := ⟨_, rfl⟩
          rw [← hn1'] at c1 FR
          rw [← hn2'] at c2 FR
          obtain ⟨fb, hfb⟩ : ∃ fb, fb = pFresh a.mx s1 s2 := ⟨_, rfl⟩
          rw [← hfb] at FR OK2
          have GB : Hid (Below w.heap.size w wr ∧ Below w1.heap.size w1 wr ∧ (List.range j).all (okAt As) = true) := ⟨ho.out.2.1, ho.out.2.2, ho.out.1⟩
          clear hs o1 o2 m1 m2 hq1 hq2 hp1' hp2' hn1' hn2' hfb OK ha ho
          obtain ⟨kd, ofv, wi, key, dt, no, ca, cb, cc, cm, cr⟩ := a
          simp only [Mx.cells] at *
          have d1 : Hid (∀ o, (wr.alloc o).drew.cell? ⟨tg', q1, none⟩ = some (.slice sa1 n1 sc1)) := fun o => (World.cell?_of_block (Below.heap_alloc wr o _ (World.block_lt_of_cell? wr _ c1))).trans c1
          have d2 : Hid (∀ o, (wr.alloc o).drew.cell? ⟨tg', q2, none⟩ = some (.slice sa2 n2 sc2)) := fun o => (World.cell?_of_block (Below.heap_alloc wr o _ (World.block_lt_of_cell? wr _ c2))).trans c2
          cases no with
          | true =>
            have FR : Hid (∀ W, Below wr.heap.size wr W → Calls Try.prog 26 #[.slice sa1 n1 sc1, .slice sa2 n2 sc2, .agg #[.bool true, .int .i64 ca, .int .i64 cb, .int .i64 cc, .int .i64 cm, .int .i64 cr]] W (fun e w' => e = .returned (.bool fb) ∧ Below W.heap.size W w')) := FR.out
            have d1 := d1.out (.cells #[.int .i64 kd, .int .i64 ofv, .int .i64 wi, .int .i32 key, .int .i64 dt, .bool true, .int .i64 ca, .int .i64 cb, .int .i64 cc, .int .i64 cm, .int .i64 cr] 76)
            have d2 := d2.out (.cells #[.int .i64 kd, .int .i64 ofv, .int .i64 wi, .int .i32 key, .int .i64 dt, .bool true, .int .i64 ca, .int .i64 cb, .int .i64 cc, .int .i64 cm, .int .i64 cr] 76)
            have BD : Hid (Below wr.heap.size wr (wr.alloc (.cells #[.int .i64 kd, .int .i64 ofv, .int .i64 wi, .int .i32 key, .int .i64 dt, .bool true, .int .i64 ca, .int .i64 cb, .int .i64 cc, .int .i64 cm, .int .i64 cr] 76)).drew) := ((Below.refl _ wr).alloc (Nat.le_refl _) _).trans ⟨rfl, rfl, rfl, Nat.le_refl _, fun _ _ => rfl⟩
            rcases h45 with hq | hq
            · have hA : bits .and .i64 kd 7 = 4 := by rw [and7, hq]
              clear hq hqa c1 c2
              go_upto_region 9 with (fail)
              go_quiet (fail)
              go_wp2_with fail
              go_ret
              refine ⟨by rw [PE.out, playB_no hjn (by rw [OK2.out]; rfl)]; rfl, GB.out.1.trans (Below.mono ?_ GB.out.1.size)⟩
              exact ((Below.refl _ wr).alloc (Nat.le_refl _) _).trans ⟨rfl, rfl, rfl, Nat.le_refl _, fun _ _ => rfl⟩
            · have hA : bits .and .i64 kd 7 = 5 := by rw [and7, hq]
              clear hq hqa c1 c2
              go_upto_region 9 with (fail)
              go_quiet (fail)
              go_wp2_with fail
              go_ret
              refine ⟨by rw [PE.out, playB_no hjn (by rw [OK2.out]; rfl)]; rfl, GB.out.1.trans (Below.mono ?_ GB.out.1.size)⟩
              exact ((Below.refl _ wr).alloc (Nat.le_refl _) _).trans ⟨rfl, rfl, rfl, Nat.le_refl _, fun _ _ => rfl⟩
          | false =>
            have FR : Hid (∀ W, Below wr.heap.size wr W → Calls Try.prog 26 #[.slice sa1 n1 sc1, .slice sa2 n2 sc2, .agg #[.bool false, .int .i64 ca, .int .i64 cb, .int .i64 cc, .int .i64 cm, .int .i64 cr]] W (fun e w' => e = .returned (.bool fb) ∧ Below W.heap.size W w')) := FR.out
            have d1 := d1.out (.cells #[.int .i64 kd, .int .i64 ofv, .int .i64 wi, .int .i32 key, .int .i64 dt, .bool false, .int .i64 ca, .int .i64 cb, .int .i64 cc, .int .i64 cm, .int .i64 cr] 76)
            have d2 := d2.out (.cells #[.int .i64 kd, .int .i64 ofv, .int .i64 wi, .int .i32 key, .int .i64 dt, .bool false, .int .i64 ca, .int .i64 cb, .int .i64 cc, .int .i64 cm, .int .i64 cr] 76)
            have BD : Hid (Below wr.heap.size wr (wr.alloc (.cells #[.int .i64 kd, .int .i64 ofv, .int .i64 wi, .int .i32 key, .int .i64 dt, .bool false, .int .i64 ca, .int .i64 cb, .int .i64 cc, .int .i64 cm, .int .i64 cr] 76)).drew) := ((Below.refl _ wr).alloc (Nat.le_refl _) _).trans ⟨rfl, rfl, rfl, Nat.le_refl _, fun _ _ => rfl⟩
            rcases h45 with hq | hq
            · have hA : bits .and .i64 kd 7 = 4 := by rw [and7, hq]
              clear hq hqa c1 c2
              go_upto_region 9 with (fail)
              refine wp_region_still_tail 22 (by kernel_rfl) (by kernel_rfl) ?_
              simp only [List.take_succ_cons, List.take_zero, List.drop_succ_cons, List.drop_zero]
              change wpStill _ _ (World.drew _) _ _ _
              repeat still_step
              refine wpStill_step (fun K hK => ?_)
              go_simp
              refine ⟨_, IX1.out _, hK _ ?_⟩
              clear hK K
              repeat still_step
              refine wpStill_step (fun K hK => ?_)
              go_simp
              refine ⟨_, IX2.out _, hK _ ?_⟩
              clear hK K
              repeat still_step
              refine wpStill_nil ?_
              change wpList _ _ _ _ _ (World.drew _)
              go_wp2_with fail
              refine (FR.out _ BD.out).mono ?_
              rintro e wN ⟨rfl, bN⟩
              have BN := Lib.hid (BD.out.trans (bN.mono BD.out.size))
              clear bN
              cases fb with
              | false =>
                go_wp2_with fail
                go_ret
                exact ⟨by rw [PE.out, playB_no hjn (by rw [OK2.out]; rfl)]; rfl, GB.out.1.trans (BN.out.mono GB.out.1.size)⟩
              | true =>
                go_wp2_with fail
                go_roundg (As.length - (j + 1))
                case measure => omega
                case rel => exact ⟨j + 1, by omega, rfl, by go_num, all_snoc GB.out.2.2 (by rw [OK2.out]; rfl), GB.out.1.trans (BN.out.mono GB.out.1.size), GB.out.2.1.trans (BN.out.mono GB.out.2.1.size)⟩
            · have hA : bits .and .i64 kd 7 = 5 := by rw [and7, hq]
              clear hq hqa c1 c2
              go_upto_region 9 with (fail)
              refine wp_region_still_tail 22 (by kernel_rfl) (by kernel_rfl) ?_
              simp only [List.take_succ_cons, List.take_zero, List.drop_succ_cons, List.drop_zero]
              change wpStill _ _ (World.drew _) _ _ _
              repeat still_step
              refine wpStill_step (fun K hK => ?_)
              go_simp
              refine ⟨_, IX1.out _, hK _ ?_⟩
              clear hK K
              repeat still_step
              refine wpStill_step (fun K hK => ?_)
              go_simp
              refine ⟨_, IX2.out _, hK _ ?_⟩
              clear hK K
              repeat still_step
              refine wpStill_nil ?_
              change wpList _ _ _ _ _ (World.drew _)
              go_wp2_with fail
              refine (FR.out _ BD.out).mono ?_
              rintro e wN ⟨rfl, bN⟩
              have BN := Lib.hid (BD.out.trans (bN.mono BD.out.size))
              clear bN
              cases fb with
              | false =>
                go_wp2_with fail
                go_ret
                exact ⟨by rw [PE.out, playB_no hjn (by rw [OK2.out]; rfl)]; rfl, GB.out.1.trans (BN.out.mono GB.out.1.size)⟩
              | true =>
                go_wp2_with fail
                go_roundg (As.length - (j + 1))
                case measure => omega
                case rel => exact ⟨j + 1, by omega, rfl, by go_num, all_snoc GB.out.2.2 (by rw [OK2.out]; rfl), GB.out.1.trans (BN.out.mono GB.out.1.size), GB.out.2.1.trans (BN.out.mono GB.out.2.1.size)⟩
        · have OK3 : Hid (okAt As j = true) := by
            show okAt As j = true
            rw [OK.out, okAct, if_neg h45]
          obtain ⟨q, hqq⟩ : ∃ q, q = a.kd % 8 := ⟨_, rfl⟩
          rw [← hqq] at hqa h45
          have n4 : (q != 4) = true := by simp; omega
          have n5 : (q != 5) = true := by simp; omega
          clear hqq h45 OK ha
          go_wp2_with fail
          go_roundg (As.length - (j + 1))
          case measure => omega
          case rel => exact ⟨j + 1, by omega, rfl, by go_num, all_snoc ho.out.1 OK3.out, ho.out.2.1.alloc ho.out.2.1.size _, ho.out.2.2.alloc ho.out.2.2.size _⟩
      · have hj' : j = As.length := by omega
        subst hj'
        go_wp2_with fail
        go_ret
        exact ⟨by rw [PE.out, playB_eq, ho.out.1]; rfl, ho.out.2.1⟩
  · have hka' : actedB As = false := by simpa using hka
    clear hka
    go_enter Try.func34, Try.ntmps34
    go_wp2_with fail
    refine AC0.out.mono ?_
    rintro e w0 ⟨rfl, b0⟩
    rw [hka']
    have B0 := Lib.hid b0
    clear b0 AC0
    go_wp2_with fail
    go_ret
    exact ⟨by rw [playedB, hka']; rfl, B0.out⟩

end Go.Proofs.Ytahghidbadpkeaa

/- The walk of FnScript. -/
set_option linter.unusedVariables false
set_option linter.unusedSimpArgs false
namespace Go.Proofs.Ytahghidbadpkeaa
open Go.Deep Go.RowKit

theorem pOf_opt2 {t : BT Nd} {S : Ps} (h : prs t = opt S) : pOf t = S := by
  rw [pOf, h, opt, List.map_map]
  exact (List.map_congr_left (g := id) (fun p _ => rfl)).trans (List.map_id _)

set_option maxRecDepth 100000 in
set_option maxHeartbeats 1600000 in
theorem FnScript_core {w : World} {v : Value} {As : List Ac} (h : Rd ac 11 w v As) (hpl : playedB As = true) : Calls Try.prog 10 #[v] w (fun e w' => e = .returned (.bool true) ∧ Below w.heap.size w w') := by
  obtain ⟨sa, cap, rfl⟩ := h.shape
  have hpp : actedB As = true ∧ playB As = true := by simpa [playedB] using hpl
  have hka : keysB As = true ∧ (As.length : Int) ≤ 1000 := by simpa [actedB] using hpp.1
  have hn : As.length ≤ 1000 := by omega
  have PL := Lib.hid (hpl ▸ played_any h (by omega))
  have SH := Lib.hid (fun (W : World) (hb : Below w.heap.size w W) => Shapes_any (h.below hb) hn (keysB_spec hka.1))
  have HI := Lib.hid (fun (W : World) (hb : Below w.heap.size w W) => History_spec (h.below hb) hn)
  have LAW := Lib.hid (hist_law (keysB_spec hka.1) hpp.2)
  clear h hpl hpp hka
  go_enter Try.func10, Try.ntmps10
  go_wp2_with fail
  refine PL.out.mono ?_
  rintro e w1 ⟨rfl, b1⟩
  have B1 := Lib.hid b1
  clear b1 PL
  go_wp2_with fail
  refine (HI.out _ B1.out).mono ?_
  rintro e w2 ⟨V, vt, va, vn, vc, rfl, hs, hb, hV⟩
  obtain ⟨ta, tcap, rfl⟩ := owns_shape hs.rt
  have hVl : V.length = As.length + 1 := by
    have := congrArg List.length hV
    rw [histP_len] at this
    simpa [psOf] using this
  obtain ⟨n, hnV⟩ : ∃ n, n = V.length := ⟨_, rfl⟩
  rw [← hnV] at hVl
  simp only [← hnV] at hs ⊢
  have B2 := Lib.hid (B1.out.trans (hb.mono B1.out.size))
  have H2 := Lib.hid (And.intro hs (And.intro hV (And.intro hnV hVl)))
  clear hs hb hV hnV hVl HI
  go_wp2_with fail
  refine (SH.out _ B2.out).mono ?_
  rintro e w3 ⟨U, vo, rfl, hs, hb, hU, hr⟩
  have hUl := len_hist hU
  obtain ⟨ua, ucap, rfl⟩ := hs.shape
  have hUn : U.length = n := by rw [hUl]; exact H2.out.2.2.2.symm
  rw [hUn] at hs ⊢
  have hn1 : n ≤ 1001 := by have := H2.out.2.2.2; omega
  have SZ := Lib.hid (fun (q : Ver) (hq : q ∈ U) => few_hist hU hr hn hq)
  have HH := Lib.hid (And.intro hs (And.intro hr (And.intro hU hUn)))
  have H3 := Lib.hid (H2.out.1.below hb)
  have B3 := Lib.hid (B2.out.trans (hb.mono B2.out.size))
  clear hs hb hU hr hUn hUl SH
  have hq0 : ((n : Int) != (n : Int)) = false := by simp
  go_wp2_with fail
  go_loopg [29] (n) (fun k i wr => ∃ j : Nat, j ≤ n ∧ k = n - j ∧ i = .int .i64 j ∧ Hid (Below w.heap.size w wr ∧ Below w3.heap.size w3 wr))
  case atStart => exact ⟨0, Nat.zero_le _, rfl, rfl, B3.out, Below.refl _ _⟩
  case round =>
    obtain ⟨j, hj, rfl, rfl, ho⟩ := hrel
    by_cases hjn : j < n
    · obtain ⟨⟨qb, t, qv⟩, hq⟩ : ∃ q, U[j]? = some q := ⟨_, List.getElem?_eq_getElem (by have := HH.out.2.2.2; omega)⟩
      obtain ⟨⟨pvv, S⟩, hp⟩ : ∃ q, V[j]? = some q := ⟨_, List.getElem?_eq_getElem (by have := H2.out.2.2.1; omega)⟩
      have hs2 := HH.out.1.below ho.out.2
      have hs3 := H3.out.below ho.out.2
      obtain ⟨tg, sS, cS, rfl, c1, hqv⟩ := hs2.at hq
      obtain ⟨tg2, sP, cP, rfl, c2, hpv⟩ := hs3.at hp
      simp only at hqv c1 hpv c2
      have hm := List.mem_of_getElem? hq
      have h3 := HH.out.2.1 _ hm
      have hz := SZ.out _ hm
      simp only at h3 hz
      have RS : Hid (Rd Nn.cells 5 wr (.slice sS (sz t) cS) (nlist t)) := by
        have := (hs2.g _ hm).rd
        simp only at this
        rw [hqv] at this
        exact this
      have RP : Hid (Rd pc 2 wr (.slice sP S.length cP) S) := by
        have := (hs3.g _ (List.mem_of_getElem? hp)).rd
        simp only at this
        rw [hpv] at this
        exact this
      have ep : Hid (pOf t = S) := by
        refine pOf_opt2 ?_
        have e1 : (histL As)[j]? = some (prs t) := by rw [← HH.out.2.2.1]; simp [setsOf, hq]
        have e2 : (histP As)[j]? = some S := by rw [← H2.out.2.1]; simp [psOf, hp]
        rw [LAW.out, List.getElem?_map, e2] at e1
        exact (Option.some.inj e1).symm
      have SP := Lib.hid (Has_any RS.out (by rw [ep.out]; exact RP.out) h3.1 (by omega) (by rw [pOf]; simp only [PSrt, List.pairwise_map]; exact h3.2.1))
      clear hs2 hs3 hq hp hqv hpv hm h3 RS RP
      go_wp2_with fail
      refine SP.out.mono ?_
      rintro e w4 ⟨rfl, b4⟩
      have B4 : Hid (Below w.heap.size w w4 ∧ Below w3.heap.size w3 w4) := ⟨ho.out.1.trans (b4.mono ho.out.1.size), ho.out.2.trans (b4.mono ho.out.2.size)⟩
      clear b4 SP
      go_wp2_with fail
      go_roundg (n - (j + 1))
      case measure => omega
      case rel => exact ⟨j + 1, by omega, rfl, by go_num, B4.out⟩
    · have hj' : j = n := by omega
      subst hj'
      go_wp2_with fail
      refine works_any.mono ?_
      rintro e w4 ⟨rfl, b4⟩
      have B4 := Lib.hid (ho.out.1.trans (b4.mono ho.out.1.size))
      clear b4
      go_wp2_with fail
      go_ret
      exact ⟨rfl, B4.out⟩

set_option maxRecDepth 100000 in
set_option maxHeartbeats 800000 in
theorem FnScript_any {w : World} {v : Value} {As : List Ac} (h : Rd ac 11 w v As) : Calls Try.prog 10 #[v] w (fun e w' => e = .returned (.bool true) ∧ Below w.heap.size w w') := by
  obtain ⟨sa, cap, rfl⟩ := h.shape
  have RD := Lib.hid h
  clear h
  by_cases h1 : (As.length : Int) > 2147483647
  · go_enter Try.func10, Try.ntmps10
    go_wp2_with fail
    go_ret
    exact ⟨rfl, Below.refl _ w⟩
  have PL := Lib.hid (played_any RD.out (by omega))
  by_cases hk : playedB As = true
  · exact FnScript_core RD.out hk
  · have hk' : playedB As = false := by simpa using hk
    clear hk
    go_enter Try.func10, Try.ntmps10
    go_wp2_with fail
    refine PL.out.mono ?_
    rintro e w1 ⟨rfl, b1⟩
    rw [hk']
    have B1 := Lib.hid b1
    clear b1
    go_wp2_with fail
    refine works_any.mono ?_
    rintro e w2 ⟨rfl, b2⟩
    have B2 := Lib.hid (B1.out.trans (b2.mono B1.out.size))
    clear b2
    go_wp2_with fail
    go_ret
    exact ⟨rfl, B2.out⟩

end Go.Proofs.Ytahghidbadpkeaa
