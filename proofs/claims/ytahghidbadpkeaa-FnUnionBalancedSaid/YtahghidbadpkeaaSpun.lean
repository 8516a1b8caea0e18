/- The walk of spec.Union. -/
import Derived.Test.YtahghidbadpkeaaFres
import Derived.Test.YtahghidbadpkeaaImpd
set_option linter.unusedVariables false
set_option linter.unusedSimpArgs false
namespace Go.Proofs.Ytahghidbadpkeaa
open Go.Deep Go.RowKit

theorem run_fld (a b : Value) (c : Bool) (w : World) : (Instr.field 71 (.agg #[a, b, .bool c]) 2).run Try.prog w = .ok (.bool c) w := by
  kernel_rfl

set_option maxRecDepth 100000 in
set_option maxHeartbeats 3000000 in
theorem Union_spec {w : World} {v bv : Value} {A B : List (Int × Int)} (x : Mx) (h : Rd pc 2 w v A) (hB : Rd pc 2 w bv B) (hn : A.length ≤ 90000) (hn2 : B.length ≤ 90000) : Calls Try.prog 29 #[v, bv, .agg x.cells] w (fun e w' => ∃ v', e = .returned v' ∧ Rd pc 2 w' v' (pUnion x A B) ∧ Below w.heap.size w w') := by
  obtain ⟨sa, cap, rfl⟩ := h.shape
  obtain ⟨ba, bcap, rfl⟩ := hB.shape
  have RD := Lib.hid (And.intro h hB)
  have ATB := Lib.hid (fun (W : World) (k : Int) (hb : Below w.heap.size w W) => At_any k (hB.below hb) (by omega))
  have ATA := Lib.hid (fun (W : World) (k : Int) (hb : Below w.heap.size w W) => At_any k (h.below hb) (by omega))
  have IS := Lib.hid (fun (W : World) (hb : Below w.heap.size w W) => Inter_spec x (h.below hb) (hB.below hb) (by omega) (by omega))
  clear h hB
  have PU : Hid (pUnion x A B = (pInter x A B).foldl (putIf []) (B.foldl (putIf A) (A.foldl (putIf B) []))) := by
    show pUnion x A B = _
    rw [pUnion, putAll_eq]
  have LP := Lib.hid (pInter_len x A B)
  obtain ⟨no, ca, cb, cc, cm, cr⟩ := x
  simp only [Mx.cells] at *
  have hfl := run_fld
  go_enter Try.func29, Try.ntmps29
  have SB : Hid (PSrt ([] : List (Int × Int))) := List.Pairwise.nil
  have LB : Hid (([] : List (Int × Int)).length + A.length ≤ 300000) := by
    show ([] : List (Int × Int)).length + A.length ≤ 300000
    simp; omega
  go_wp2_with fail
  go_loopg [7, 16] (A.length) (fun k out i wr => ∃ j : Nat, j ≤ A.length ∧ k = A.length - j ∧ i = .int .i64 j ∧ ∃ oa on ocap, out = .slice oa on ocap ∧ Hid (Rd pc 2 wr (.slice oa on ocap) ((A.take j).foldl (putIf B) []) ∧ wr.heap[w.heap.size]? = some (.cells #[.bool no, .int .i64 ca, .int .i64 cb, .int .i64 cc, .int .i64 cm, .int .i64 cr] 39 (0, 0)) ∧ Below w.heap.size w wr))
  case atStart => exact ⟨0, Nat.zero_le _, rfl, rfl, _, _, _, rfl, ⟨none, 0, rfl, .inl rfl⟩, heap_alloc_new w _, (Below.refl _ w).alloc (Nat.le_refl _) _⟩
  case round =>
    obtain ⟨j, hj, rfl, rfl, oa, on, ocap, rfl, ho⟩ := hrel
    by_cases hjn : j < A.length
    · obtain ⟨p, hp⟩ : ∃ p, A[j]? = some p := ⟨_, List.getElem?_eq_getElem hjn⟩
      obtain ⟨b, off, rfl, hc⟩ := (RD.out.1.below ho.out.2.2).at pc_len hp
      have k0 : wr.cell? ⟨b, off + j * 2, none⟩ = some (.int .i32 p.1) := hc 0 _ rfl
      have k1 : wr.cell? ⟨b, off + j * 2 + 1, none⟩ = some (.int .i64 p.2) := hc 1 _ rfl
      have FS : Hid ((A.take (j + 1)).foldl (putIf B) [] = putIf B ((A.take j).foldl (putIf B) []) p) := by
        show List.foldl _ _ _ = _
        rw [List.take_add_one, hp, List.foldl_append]; rfl
      have hl : Hid (((A.take j).foldl (putIf B) []).length ≤ 300000) := by
        have h1 := len_putIf B (A.take j) _ SB.out
        have h2 := LB.out
        rw [List.length_take] at h1
        show List.length _ ≤ _
        omega
      clear hc hp
      go_wp2_with fail
      refine (ATB.out _ p.1 (ho.out.2.2.alloc ho.out.2.2.size _)).mono ?_
      rintro e w2 ⟨rfl, b2⟩
      have hs2 := b2.size
      rw [World.size_alloc] at hs2
      have hsr := ho.out.2.2.size
      have hbw := (Array.getElem?_eq_some_iff.1 ho.out.2.1).1
      have pb : w2.heap[wr.heap.size]? = some (.cells #[.int .i32 p.1, .int .i64 p.2] 31 (0, 0)) := (b2.block _ (by simp)).trans (heap_alloc_new wr _)
      have q0 : w2.cell? ⟨wr.heap.size, 0, none⟩ = some (.int .i32 p.1) := by simp [World.cell?, pb]
      have q1 : w2.cell? ⟨wr.heap.size, 1, none⟩ = some (.int .i64 p.2) := by simp [World.cell?, pb]
      have Q2 : Hid (Rd pc 2 w2 (.slice oa on ocap) ((A.take j).foldl (putIf B) []) ∧ w2.heap[w.heap.size]? = some (.cells #[.bool no, .int .i64 ca, .int .i64 cb, .int .i64 cc, .int .i64 cm, .int .i64 cr] 39 (0, 0)) ∧ Below w.heap.size w w2) :=
        ⟨(ho.out.1.below ((Below.refl _ wr).alloc (Nat.le_refl _) _)).below b2, (b2.block _ (by simp; omega)).trans ((Below.heap_alloc _ _ _ hbw).trans ho.out.2.1), (ho.out.2.2.alloc hsr _).trans (b2.mono (by simp; omega))⟩
      clear b2 pb
      obtain ⟨yo, hyo⟩ : ∃ yo, yo = atP p.1 B := ⟨_, rfl⟩
      rw [← hyo]
      have HY := Lib.hid hyo
      clear hyo
      simp only [fnd]
      cases yo with
      | some y =>
        simp only [Option.getD, Option.isSome]
        go_wp2_with fail
        go_roundg (A.length - (j + 1))
        case measure => omega
        case rel => exact ⟨j + 1, by omega, rfl, by go_num, _, _, _, rfl, by rw [FS.out, putIf, ← HY.out, if_pos (show (some y).isSome = true from rfl)]; exact Q2.out.1, Q2.out.2⟩
      | none =>
        simp only [Option.getD, Option.isSome]
        have PU := Lib.hid (Put_any p.1 p.2 Q2.out.1 hl.out)
        go_wp2_with fail
        refine PU.out.mono ?_
        rintro e w4 ⟨v4, rfl, o4, b4⟩
        obtain ⟨sa4, cap4, rfl⟩ := owns_shape o4
        have Q4 := Lib.hid (And.intro o4 b4)
        clear o4 b4 PU
        go_wp2_with fail
        go_roundg (A.length - (j + 1))
        case measure => omega
        case rel =>
          obtain ⟨o4, b4⟩ := Q4.out
          refine ⟨j + 1, by omega, rfl, by go_num, _, _, _, rfl, ?_, (b4.block _ (by omega)).trans Q2.out.2.1, Q2.out.2.2.trans (b4.mono (by omega))⟩
          rw [FS.out, putIf, ← HY.out, if_neg (by simp)]; exact Rd.of_own pc_len o4
    · have hj' : j = A.length := by omega
      subst hj'
      rw [List.take_length] at ho
      have SB : Hid (PSrt (A.foldl (putIf B) [])) := psrt_putIf _ _ _ SB.out
      have LB : Hid ((A.foldl (putIf B) []).length + B.length ≤ 300000) := by
        have h1 := len_putIf B A [] List.Pairwise.nil
        have h3 : ([] : List (Int × Int)).length = 0 := rfl
        show List.length _ + B.length ≤ 300000
        omega
      go_wp2_with fail
      go_loopg [7, 35] (B.length) (fun k out i wr => ∃ j : Nat, j ≤ B.length ∧ k = B.length - j ∧ i = .int .i64 j ∧ ∃ oa on ocap, out = .slice oa on ocap ∧ Hid (Rd pc 2 wr (.slice oa on ocap) ((B.take j).foldl (putIf A) (A.foldl (putIf B) [])) ∧ wr.heap[w.heap.size]? = some (.cells #[.bool no, .int .i64 ca, .int .i64 cb, .int .i64 cc, .int .i64 cm, .int .i64 cr] 39 (0, 0)) ∧ Below w.heap.size w wr))
      case atStart => exact ⟨0, Nat.zero_le _, rfl, rfl, _, _, _, rfl, ho.out⟩
      case round =>
        clear ho
        obtain ⟨j, hj, rfl, rfl, oa, on, ocap, rfl, ho⟩ := hrel
        by_cases hjn : j < B.length
        · obtain ⟨p, hp⟩ : ∃ p, B[j]? = some p := ⟨_, List.getElem?_eq_getElem hjn⟩
          obtain ⟨b, off, rfl, hc⟩ := (RD.out.2.below ho.out.2.2).at pc_len hp
          have k0 : wr.cell? ⟨b, off + j * 2, none⟩ = some (.int .i32 p.1) := hc 0 _ rfl
          have k1 : wr.cell? ⟨b, off + j * 2 + 1, none⟩ = some (.int .i64 p.2) := hc 1 _ rfl
          have FS : Hid ((B.take (j + 1)).foldl (putIf A) (A.foldl (putIf B) []) = putIf A ((B.take j).foldl (putIf A) (A.foldl (putIf B) [])) p) := by
            show List.foldl _ _ _ = _
            rw [List.take_add_one, hp, List.foldl_append]; rfl
          have hl : Hid (((B.take j).foldl (putIf A) (A.foldl (putIf B) [])).length ≤ 300000) := by
            have h1 := len_putIf A (B.take j) _ SB.out
            have h2 := LB.out
            rw [List.length_take] at h1
            show List.length _ ≤ _
            omega
          clear hc hp
          go_wp2_with fail
          refine (ATA.out _ p.1 (ho.out.2.2.alloc ho.out.2.2.size _)).mono ?_
          rintro e w2 ⟨rfl, b2⟩
          have hs2 := b2.size
          rw [World.size_alloc] at hs2
          have hsr := ho.out.2.2.size
          have hbw := (Array.getElem?_eq_some_iff.1 ho.out.2.1).1
          have pb : w2.heap[wr.heap.size]? = some (.cells #[.int .i32 p.1, .int .i64 p.2] 31 (0, 0)) := (b2.block _ (by simp)).trans (heap_alloc_new wr _)
          have q0 : w2.cell? ⟨wr.heap.size, 0, none⟩ = some (.int .i32 p.1) := by simp [World.cell?, pb]
          have q1 : w2.cell? ⟨wr.heap.size, 1, none⟩ = some (.int .i64 p.2) := by simp [World.cell?, pb]
          have Q2 : Hid (Rd pc 2 w2 (.slice oa on ocap) ((B.take j).foldl (putIf A) (A.foldl (putIf B) [])) ∧ w2.heap[w.heap.size]? = some (.cells #[.bool no, .int .i64 ca, .int .i64 cb, .int .i64 cc, .int .i64 cm, .int .i64 cr] 39 (0, 0)) ∧ Below w.heap.size w w2) :=
            ⟨(ho.out.1.below ((Below.refl _ wr).alloc (Nat.le_refl _) _)).below b2, (b2.block _ (by simp; omega)).trans ((Below.heap_alloc _ _ _ hbw).trans ho.out.2.1), (ho.out.2.2.alloc hsr _).trans (b2.mono (by simp; omega))⟩
          clear b2 pb
          obtain ⟨yo, hyo⟩ : ∃ yo, yo = atP p.1 A := ⟨_, rfl⟩
          rw [← hyo]
          have HY := Lib.hid hyo
          clear hyo
          simp only [fnd]
          cases yo with
          | some y =>
            simp only [Option.getD, Option.isSome]
            go_wp2_with fail
            go_roundg (B.length - (j + 1))
            case measure => omega
            case rel => exact ⟨j + 1, by omega, rfl, by go_num, _, _, _, rfl, by rw [FS.out, putIf, ← HY.out, if_pos (show (some y).isSome = true from rfl)]; exact Q2.out.1, Q2.out.2⟩
          | none =>
            simp only [Option.getD, Option.isSome]
            have PU := Lib.hid (Put_any p.1 p.2 Q2.out.1 hl.out)
            go_wp2_with fail
            refine PU.out.mono ?_
            rintro e w4 ⟨v4, rfl, o4, b4⟩
            obtain ⟨sa4, cap4, rfl⟩ := owns_shape o4
            have Q4 := Lib.hid (And.intro o4 b4)
            clear o4 b4 PU
            go_wp2_with fail
            go_roundg (B.length - (j + 1))
            case measure => omega
            case rel =>
              obtain ⟨o4, b4⟩ := Q4.out
              refine ⟨j + 1, by omega, rfl, by go_num, _, _, _, rfl, ?_, (b4.block _ (by omega)).trans Q2.out.2.1, Q2.out.2.2.trans (b4.mono (by omega))⟩
              rw [FS.out, putIf, ← HY.out, if_neg (by simp)]; exact Rd.of_own pc_len o4
        · have hj' : j = B.length := by omega
          subst hj'
          rw [List.take_length] at ho
          have SB3 : Hid (PSrt (B.foldl (putIf A) (A.foldl (putIf B) []))) := psrt_putIf _ _ _ SB.out
          have LB3 : Hid ((B.foldl (putIf A) (A.foldl (putIf B) [])).length + A.length ≤ 300000) := by
            have h1 := len_putIf B A [] List.Pairwise.nil
            have h2 := len_putIf A B _ SB.out
            have h3 : ([] : List (Int × Int)).length = 0 := rfl
            show List.length _ + A.length ≤ 300000
            omega
          have mb := ho.out.2.1
          have m0 := bool_cell mb
          have m1 := int_cell1 mb
          have m2 := int_cell2 mb
          have m3 := int_cell3 mb
          have m4 := int_cell4 mb
          have m5 := int_cell5 mb
          clear mb
          go_wp2_with fail
          refine (IS.out _ ho.out.2.2).mono ?_
          rintro e w7 ⟨v7, rfl, r7, b7⟩
          obtain ⟨s7, c7, rfl⟩ := r7.shape
          have R7 := Lib.hid r7
          have O7 : Hid (Rd pc 2 w7 (.slice oa on ocap) (B.foldl (putIf A) (A.foldl (putIf B) [])) ∧ Below w.heap.size w w7) := ⟨ho.out.1.below b7, ho.out.2.2.trans (b7.mono ho.out.2.2.size)⟩
          clear r7 b7 ho m0 m1 m2 m3 m4 m5
          obtain ⟨I, hI⟩ : ∃ I, I = pInter ⟨no, ca, cb, cc, cm, cr⟩ A B := ⟨_, rfl⟩
          rw [← hI] at R7 LP PU ⊢
          clear hI
          have LI : I.length ≤ 90000 := by have := LP.out; omega
          go_wp2_with fail
          go_loopg [7, 57] (I.length) (fun k out i wr => ∃ j : Nat, j ≤ I.length ∧ k = I.length - j ∧ i = .int .i64 j ∧ ∃ oa on ocap, out = .slice oa on ocap ∧ Hid (Rd pc 2 wr (.slice oa on ocap) ((I.take j).foldl (putIf []) (B.foldl (putIf A) (A.foldl (putIf B) []))) ∧ Below w.heap.size w wr ∧ Below w7.heap.size w7 wr))
          case atStart => exact ⟨0, Nat.zero_le _, rfl, rfl, _, _, _, rfl, O7.out.1, O7.out.2, Below.refl _ _⟩
          case round =>
            obtain ⟨j, hj, rfl, rfl, oa, on, ocap, rfl, ho⟩ := hrel
            by_cases hjn : j < I.length
            · obtain ⟨p, hp⟩ : ∃ p, I[j]? = some p := ⟨_, List.getElem?_eq_getElem hjn⟩
              obtain ⟨b, off, rfl, hc⟩ := (R7.out.below ho.out.2.2).at pc_len hp
              have k0 : wr.cell? ⟨b, off + j * 2, none⟩ = some (.int .i32 p.1) := hc 0 _ rfl
              have k1 : wr.cell? ⟨b, off + j * 2 + 1, none⟩ = some (.int .i64 p.2) := hc 1 _ rfl
              have FS : Hid ((I.take (j + 1)).foldl (putIf []) (B.foldl (putIf A) (A.foldl (putIf B) [])) = pPut p.1 p.2 ((I.take j).foldl (putIf []) (B.foldl (putIf A) (A.foldl (putIf B) [])))) := by
                show List.foldl _ _ _ = _
                rw [List.take_add_one, hp, List.foldl_append]; rfl
              have hl : Hid (((I.take j).foldl (putIf []) (B.foldl (putIf A) (A.foldl (putIf B) []))).length ≤ 300000) := by
                have h1 := len_putIf [] (I.take j) _ SB3.out
                have h2 := LB3.out
                have h3 := LP.out
                rw [List.length_take] at h1
                show List.length _ ≤ _
                omega
              have PT := Lib.hid (fun o => Put_any (w := wr.alloc o) p.1 p.2 (ho.out.1.below ((Below.refl _ wr).alloc (Nat.le_refl _) o)) hl.out)
              clear hc hp
              go_wp2_with fail
              refine (PT.out _).mono ?_
              rintro e w4 ⟨v4, rfl, o4, b4⟩
              obtain ⟨sa4, cap4, rfl⟩ := owns_shape o4
              have Q4 := Lib.hid (And.intro o4 b4)
              clear o4 b4 PT
              go_wp2_with fail
              go_roundg (I.length - (j + 1))
              case measure => omega
              case rel =>
                obtain ⟨o4, b4⟩ := Q4.out
                refine ⟨j + 1, by omega, rfl, by go_num, _, _, _, rfl, ?_, (ho.out.2.1.alloc ho.out.2.1.size _).trans (b4.mono (by have := ho.out.2.1.size; simp; omega)), (ho.out.2.2.alloc ho.out.2.2.size _).trans (b4.mono (by have := ho.out.2.2.size; simp; omega))⟩
                rw [FS.out]; exact Rd.of_own pc_len o4
            · have hj' : j = I.length := by omega
              subst hj'
              rw [List.take_length] at ho
              go_wp2_with fail
              go_ret
              exact ⟨_, rfl, by rw [PU.out]; exact ho.out.1, ho.out.2.1⟩

end Go.Proofs.Ytahghidbadpkeaa
