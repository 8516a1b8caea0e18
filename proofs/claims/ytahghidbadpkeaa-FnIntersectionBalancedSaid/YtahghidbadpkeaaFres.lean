/- The walk of fresh. -/
import Derived.Test.YtahghidbadpkeaaSpin
set_option linter.unusedVariables false
set_option linter.unusedSimpArgs false
namespace Go.Proofs.Ytahghidbadpkeaa
open Go.Deep Go.RowKit

def frB (x : Mx) (B : List (Int × Int)) (p : Int × Int) : Bool :=
  match atP p.1 B with
    | none => true
    | some y => !(mixok x (mixn x p.2 y) && (mixn x p.2 y == p.2) && (mixn x p.2 y != y))
theorem pFresh_cons (x : Mx) (B : List (Int × Int)) (p : Int × Int) (A : List (Int × Int)) : pFresh x (p :: A) B = (frB x B p && pFresh x A B) := rfl

set_option maxRecDepth 100000 in
set_option maxHeartbeats 1600000 in
theorem fresh_any {w : World} {v bv : Value} {A B : List (Int × Int)} (x : Mx) (h : Rd pc 2 w v A) (hB : Rd pc 2 w bv B) (hn : A.length ≤ 300000) (hn2 : B.length ≤ 300000) : Calls Try.prog 26 #[v, bv, .agg x.cells] w (fun e w' => e = .returned (.bool (pFresh x A B)) ∧ Below w.heap.size w w') := by
  obtain ⟨sa, cap, rfl⟩ := h.shape
  obtain ⟨ba, bcap, rfl⟩ := hB.shape
  have RD := Lib.hid (And.intro h hB)
  have AT := Lib.hid (fun (W : World) (k : Int) (hb : Below w.heap.size w W) => At_any k (hB.below hb) hn2)
  have MX := Lib.hid (fun (W : World) (d y : Int) => Mixed_any (w := W) x d y)
  clear h hB
  obtain ⟨no, ca, cb, cc, cm, cr⟩ := x
  simp only [Mx.cells] at *
  go_enter Try.func26, Try.ntmps26
  go_wp2_with fail
  go_loopg [14] (A.length) (fun k i wr => ∃ j : Nat, j ≤ A.length ∧ k = A.length - j ∧ i = .int .i64 j ∧ Hid (pFresh ⟨no, ca, cb, cc, cm, cr⟩ A B = pFresh ⟨no, ca, cb, cc, cm, cr⟩ (A.drop j) B ∧ wr.heap[w.heap.size]? = some (.cells #[.bool no, .int .i64 ca, .int .i64 cb, .int .i64 cc, .int .i64 cm, .int .i64 cr] 39 (0, 0)) ∧ Below w.heap.size w wr))
  case atStart => exact ⟨0, Nat.zero_le _, rfl, rfl, rfl, heap_alloc_new w _, (Below.refl _ w).alloc (Nat.le_refl _) _⟩
  case round =>
    obtain ⟨j, hj, rfl, rfl, ho⟩ := hrel
    by_cases hjn : j < A.length
    · obtain ⟨p, hp⟩ : ∃ p, A[j]? = some p := ⟨_, List.getElem?_eq_getElem hjn⟩
      obtain ⟨b, off, rfl, hc⟩ := (RD.out.1.below ho.out.2.2).at pc_len hp
      have k0 : wr.cell? ⟨b, off + j * 2, none⟩ = some (.int .i32 p.1) := hc 0 _ rfl
      have k1 : wr.cell? ⟨b, off + j * 2 + 1, none⟩ = some (.int .i64 p.2) := hc 1 _ rfl
      have FS : Hid (pFresh ⟨no, ca, cb, cc, cm, cr⟩ (A.drop j) B = (frB ⟨no, ca, cb, cc, cm, cr⟩ B p && pFresh ⟨no, ca, cb, cc, cm, cr⟩ (A.drop (j + 1)) B)) := by
        have e : A.drop j = p :: A.drop (j + 1) := by
          rw [List.drop_eq_getElem_cons hjn]; congr 1
          rw [List.getElem?_eq_getElem hjn] at hp; exact Option.some.inj hp
        show pFresh _ (A.drop j) B = _
        rw [e]; rfl
      clear hc hp
      go_wp2_with fail
      refine (AT.out _ _ (ho.out.2.2.alloc ho.out.2.2.size _)).mono ?_
      rintro e w2 ⟨rfl, b2⟩
      have hs2 := b2.size
      rw [World.size_alloc] at hs2
      have hsr := ho.out.2.2.size
      have hbw := (Array.getElem?_eq_some_iff.1 ho.out.2.1).1
      have pb : w2.heap[wr.heap.size]? = some (.cells #[.int .i32 p.1, .int .i64 p.2] 31 (0, 0)) := (b2.block _ (by simp)).trans (heap_alloc_new wr _)
      have q0 : w2.cell? ⟨wr.heap.size, 0, none⟩ = some (.int .i32 p.1) := by simp [World.cell?, pb]
      have q1 : w2.cell? ⟨wr.heap.size, 1, none⟩ = some (.int .i64 p.2) := by simp [World.cell?, pb]
      have mb : w2.heap[w.heap.size]? = some (.cells #[.bool no, .int .i64 ca, .int .i64 cb, .int .i64 cc, .int .i64 cm, .int .i64 cr] 39 (0, 0)) := (b2.block _ (by simp; omega)).trans ((Below.heap_alloc _ _ _ hbw).trans ho.out.2.1)
      have m0 : w2.cell? ⟨w.heap.size, 0, none⟩ = some (.bool no) := by simp [World.cell?, mb]
      have m1 : w2.cell? ⟨w.heap.size, 1, none⟩ = some (.int .i64 ca) := by simp [World.cell?, mb]
      have m2 : w2.cell? ⟨w.heap.size, 2, none⟩ = some (.int .i64 cb) := by simp [World.cell?, mb]
      have m3 : w2.cell? ⟨w.heap.size, 3, none⟩ = some (.int .i64 cc) := by simp [World.cell?, mb]
      have m4 : w2.cell? ⟨w.heap.size, 4, none⟩ = some (.int .i64 cm) := by simp [World.cell?, mb]
      have m5 : w2.cell? ⟨w.heap.size, 5, none⟩ = some (.int .i64 cr) := by simp [World.cell?, mb]
      have bel2 : Below w.heap.size w w2 := (ho.out.2.2.alloc hsr _).trans (b2.mono (by simp; omega))
      have Q2 := Lib.hid (And.intro mb bel2)
      have QP := Lib.hid (And.intro pb b2)
      clear b2 pb mb bel2
      obtain ⟨yo, hyo⟩ : ∃ yo, yo = atP p.1 B := ⟨_, rfl⟩
      rw [← hyo]
      have HY := Lib.hid hyo
      clear hyo
      have hw2 : w.heap.size < w2.heap.size := by omega
      have hp2 : wr.heap.size < w2.heap.size := by omega
      obtain ⟨yv, hyv⟩ : ∃ yv, yv = yo.getD 0 := ⟨_, rfl⟩
      obtain ⟨yb, hyb⟩ : ∃ yb, yb = yo.isSome := ⟨_, rfl⟩
      have HYV := Lib.hid (And.intro hyv hyb)
      simp only [fnd]
      rw [← hyv, ← hyb]
      clear hyv hyb
      have MX2 := Lib.hid (MX.out (w2.alloc (.cells #[.int .i32 p.1, .int .i64 yv, .bool yb] 71)) p.2 yv)
      go_wp2_with fail
      refine MX2.out.mono ?_
      rintro e w4 ⟨rfl, b4⟩
      have hs4 := b4.size
      rw [World.size_alloc] at hs4
      have bb : ∀ k, k < w2.heap.size → w4.heap[k]? = w2.heap[k]? := fun k hk => (b4.block k (by simp; omega)).trans (Below.heap_alloc _ _ _ hk)
      have pb4 := (bb _ hp2).trans QP.out.1
      have mb4 := (bb _ hw2).trans Q2.out.1
      have fb4 : w4.heap[w2.heap.size]? = some (.cells #[.int .i32 p.1, .int .i64 yv, .bool yb] 71 (0, 0)) := (b4.block _ (by simp)).trans (heap_alloc_new w2 _)
      have q0 : w4.cell? ⟨wr.heap.size, 0, none⟩ = some (.int .i32 p.1) := by simp [World.cell?, pb4]
      have q1 : w4.cell? ⟨wr.heap.size, 1, none⟩ = some (.int .i64 p.2) := by simp [World.cell?, pb4]
      have f1 : w4.cell? ⟨w2.heap.size, 1, none⟩ = some (.int .i64 yv) := by simp [World.cell?, fb4]
      have f2 : w4.cell? ⟨w2.heap.size, 2, none⟩ = some (.bool yb) := by simp [World.cell?, fb4]
      have bel4 : Below w.heap.size w w4 := (Q2.out.2.alloc (by omega) _).trans (b4.mono (by simp; omega))
      have Q4 := Lib.hid (And.intro mb4 bel4)
      clear b4 bb pb4 mb4 bel4 fb4
      obtain ⟨mn, hmn⟩ : ∃ mn, mn = mixn ⟨no, ca, cb, cc, cm, cr⟩ p.2 yv := ⟨_, rfl⟩
      rw [← hmn]
      obtain ⟨mb, hmb⟩ : ∃ mb, mb = mixok ⟨no, ca, cb, cc, cm, cr⟩ mn := ⟨_, rfl⟩
      rw [← hmb]
      have HM := Lib.hid hmn
      have HB := Lib.hid hmb
      clear hmn hmb
      have NX : Hid (frB ⟨no, ca, cb, cc, cm, cr⟩ B p = !(yb && mb && (mn == p.2) && (mn != yv))) := by
        show frB _ _ _ = _
        have h1 := HYV.out.1
        have h2 := HYV.out.2
        have h3 := HB.out
        have h4 := HM.out
        have h5 := HY.out
        unfold frB
        rw [← h5]
        cases yo with
        | none => simp at h2; rw [h2]; rfl
        | some y =>
          simp at h1 h2
          subst h1
          rw [h2]
          simp only [← h4, ← h3, Bool.true_and]
      by_cases hyb : yb = true
      · subst hyb
        by_cases hmb : mb = true
        · subst hmb
          by_cases h5 : (mn == p.2) = true
          · by_cases h6 : (mn != yv) = true
            · have N := Lib.hid (show frB ⟨no, ca, cb, cc, cm, cr⟩ B p = false by rw [NX.out, h5, h6]; rfl)
              clear NX HM HB HY HYV MX2
              go_wp2_with fail
              go_ret
              exact ⟨by rw [ho.out.1, FS.out, N.out]; rfl, Q4.out.2⟩
            · have h6' : (mn != yv) = false := by simpa using h6
              have N := Lib.hid (show frB ⟨no, ca, cb, cc, cm, cr⟩ B p = true by rw [NX.out, h5, h6']; rfl)
              clear NX HM HB HY HYV h6 MX2
              go_wp2_with fail
              go_roundg (A.length - (j + 1))
              case measure => omega
              case rel => exact ⟨j + 1, by omega, rfl, by go_num, by rw [ho.out.1, FS.out, N.out]; rfl, Q4.out.1, Q4.out.2⟩
          · have h5' : (mn == p.2) = false := by simpa using h5
            have N := Lib.hid (show frB ⟨no, ca, cb, cc, cm, cr⟩ B p = true by rw [NX.out, h5']; rfl)
            clear NX HM HB HY HYV h5 MX2
            go_wp2_with fail
            go_roundg (A.length - (j + 1))
            case measure => omega
            case rel => exact ⟨j + 1, by omega, rfl, by go_num, by rw [ho.out.1, FS.out, N.out]; rfl, Q4.out.1, Q4.out.2⟩
        · have hmb' : mb = false := by simpa using hmb
          subst hmb'
          have N := Lib.hid (show frB ⟨no, ca, cb, cc, cm, cr⟩ B p = true by rw [NX.out]; rfl)
          clear NX HM HB HY HYV hmb MX2
          go_wp2_with fail
          go_roundg (A.length - (j + 1))
          case measure => omega
          case rel => exact ⟨j + 1, by omega, rfl, by go_num, by rw [ho.out.1, FS.out, N.out]; rfl, Q4.out.1, Q4.out.2⟩
      · have hyb' : yb = false := by simpa using hyb
        subst hyb'
        have N := Lib.hid (show frB ⟨no, ca, cb, cc, cm, cr⟩ B p = true by rw [NX.out]; rfl)
        clear NX HM HB HY HYV hyb MX2
        go_wp2_with fail
        go_roundg (A.length - (j + 1))
        case measure => omega
        case rel => exact ⟨j + 1, by omega, rfl, by go_num, by rw [ho.out.1, FS.out, N.out]; rfl, Q4.out.1, Q4.out.2⟩
    · have hj' : j = A.length := by omega
      subst hj'
      go_wp2_with fail
      go_ret
      exact ⟨by rw [ho.out.1, List.drop_length]; rfl, ho.out.2.2⟩

end Go.Proofs.Ytahghidbadpkeaa
