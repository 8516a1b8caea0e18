/- The walks of spec.Has, spec.IsBalanced, works and FnInserted. -/
import Derived.Test.YtahghidbadpkeaaShpe
set_option linter.unusedVariables false
set_option linter.unusedSimpArgs false
namespace Go.Proofs.Ytahghidbadpkeaa
open Go.Deep Go.RowKit

set_option maxRecDepth 100000 in
set_option maxHeartbeats 400000 in
theorem Has_any {w : World} {v sv : Value} {t : BT Nd} (h : Rd Nn.cells 5 w v (nlist t)) (hs : Rd pc 2 w sv (pOf t)) (ha : Avl t) (hn : sz t ≤ 300000) (ho : PSrt (pOf t)) : Calls Try.prog 16 #[v, sv] w (fun e w' => e = .returned (.bool true) ∧ Below w.heap.size w w') := by
  have S := Lib.hid (Shape_spec h ha hn)
  obtain ⟨sb, scap, rfl⟩ := hs.shape
  have hl : (pOf t).length ≤ 140737488355328 := by rw [pOf_len]; omega
  have HS := Lib.hid (And.intro hs (And.intro ho hl))
  clear h hs ho hl
  go_enter Try.func16, Try.ntmps16
  go_wp2_with fail
  refine S.out.mono ?_
  rintro e w1 ⟨v1, rfl, r1, b1⟩
  obtain ⟨sa, cap, rfl⟩ := r1.shape
  have R1 := Lib.hid (And.intro r1 b1)
  clear r1 b1
  go_wp2_with fail
  refine (IsOrdered_any R1.out.1 HS.out.2.1 HS.out.2.2).mono ?_
  rintro e w2 ⟨rfl, b2⟩
  have R2 := Lib.hid (And.intro (R1.out.1.below b2) (R1.out.2.trans (b2.mono R1.out.2.size)))
  clear b2
  go_wp2_with fail
  refine (Same_any R2.out.1 (HS.out.1.below R2.out.2) HS.out.2.2).mono ?_
  rintro e w3 ⟨rfl, b3⟩
  have R3 := Lib.hid (R2.out.2.trans (b3.mono R2.out.2.size))
  clear b3
  go_wp2_with fail
  go_ret
  exact ⟨rfl, R3.out⟩

set_option maxRecDepth 100000 in
set_option maxHeartbeats 400000 in
theorem IsBalanced_any {w : World} {v : Value} {t : BT Nd} (h : Rd Nn.cells 5 w v (nlist t)) (ha : Avl t) (hn : sz t ≤ 300000) (ho : PSrt (pOf t)) : Calls Try.prog 23 #[v] w (fun e w' => e = .returned (.bool true) ∧ Below w.heap.size w w') := by
  have S := Lib.hid (Shape_spec h ha hn)
  have hl : (pOf t).length ≤ 140737488355328 := by rw [pOf_len]; omega
  have HS := Lib.hid (And.intro ho hl)
  clear h ho hl
  go_enter Try.func23, Try.ntmps23
  go_wp2_with fail
  refine S.out.mono ?_
  rintro e w1 ⟨v1, rfl, r1, b1⟩
  obtain ⟨sa, cap, rfl⟩ := r1.shape
  have R1 := Lib.hid (And.intro r1 b1)
  clear r1 b1
  go_wp2_with fail
  refine (IsOrdered_any R1.out.1 HS.out.1 HS.out.2).mono ?_
  rintro e w2 ⟨rfl, b2⟩
  have R2 := Lib.hid (R1.out.2.trans (b2.mono R1.out.2.size))
  clear b2
  go_wp2_with fail
  go_ret
  exact ⟨rfl, R2.out⟩

theorem pOf_tree {t : BT Nd} {L : List (Int × Int)} (h : prs t = treeL L) : pOf t = pTree L := by
  rw [pOf, h, ← opt_tree, opt, List.map_map]
  exact (List.map_congr_left (g := id) (fun p _ => rfl)).trans (List.map_id _)
theorem pTree_srt (L : List (Int × Int)) : PSrt (pTree L) := by
  have := treeL_srt L
  rw [← opt_tree] at this
  simp only [Srt, opt, List.pairwise_map] at this
  exact this
theorem sz_tree {t : BT Nd} {L : List (Int × Int)} (h : prs t = treeL L) : sz t ≤ L.length := by
  rw [sz, h]; exact treeL_len L

def three : List (Int × Int) := [(1, 1), (2, 2), (3, 3)]
theorem Rd.of_block {α : Type} {f : α → List Value} {s : Nat} {w : World} {g : Nat} {ty : TypeId} {L : List α} {cap : Nat} (h : w.heap[g]? = some (.cells (fl f L).toArray ty (0, 0))) : Rd f s w (.slice (some ⟨g, 0, none⟩) L.length cap) L :=
  ⟨_, cap, rfl, .inr ⟨g, 0, rfl, fun j x hx => by rw [Nat.zero_add]; simp [World.cell?, h, hx]⟩⟩

set_option maxRecDepth 100000 in
set_option maxHeartbeats 400000 in
theorem works_any {w : World} : Calls Try.prog 15 #[] w (fun e w' => e = .returned (.bool true) ∧ Below w.heap.size w w') := by
  have hb0 : Below w.heap.size w (w.alloc (.cells (fl pc three).toArray 31)) := (Below.refl _ w).alloc (Nat.le_refl _) _
  have r0 : Rd pc 2 (w.alloc (.cells (fl pc three).toArray 31)) (.slice (some ⟨w.heap.size, 0, none⟩) 3 3) three := Rd.of_block (L := three) (heap_alloc_new w _)
  have SH := Lib.hid (Shape_any r0 (fun p hp => by simp [three] at hp; rcases hp with rfl | rfl | rfl <;> decide) (by decide))
  have R0 := Lib.hid (And.intro hb0 r0)
  clear hb0 r0
  go_enter Try.func15, Try.ntmps15
  go_wp2_with fail
  refine SH.out.mono ?_
  rintro e w1 ⟨t, v, rfl, r1, b1, e1, a1⟩
  have hz : sz t = 3 := by rw [sz, e1]; decide
  obtain ⟨sa, cap, hv⟩ := r1.shape
  rw [nlist_len, hz] at hv
  subst hv
  have pe : pOf t = pTree three := pOf_tree e1
  have HA := Lib.hid (Has_any r1 (by rw [pe]; exact R0.out.2.below b1) a1 (by omega) (by rw [pe]; exact pTree_srt _))
  have B1 := Lib.hid (R0.out.1.trans (b1.mono R0.out.1.size))
  clear r1 b1 e1 a1 hz pe
  go_wp2_with fail
  refine HA.out.mono ?_
  rintro e w2 ⟨rfl, b2⟩
  have B2 := Lib.hid (B1.out.trans (b2.mono B1.out.size))
  clear b2
  go_wp2_with fail
  go_ret
  exact ⟨rfl, B2.out⟩

set_option maxRecDepth 100000 in
set_option maxHeartbeats 400000 in
theorem FnInserted_any {w : World} {v : Value} {L : List (Int × Int)} (h : Rd pc 2 w v L) : Calls Try.prog 3 #[v] w (fun e w' => e = .returned (.bool true) ∧ Below w.heap.size w w') := by
  obtain ⟨sa, cap, rfl⟩ := h.shape
  have R0 := Lib.hid h
  clear h
  by_cases hbig : (L.length : Int) > 2147483647
  · go_enter Try.func3, Try.ntmps3
    go_wp2_with fail
    go_ret
    exact ⟨rfl, Below.refl _ w⟩
  · have KY := Lib.hid (keyed_any R0.out (by omega))
    go_enter Try.func3, Try.ntmps3
    go_wp2_with fail
    refine KY.out.mono ?_
    rintro e w1 ⟨rfl, b1⟩
    have B1 := Lib.hid b1
    clear b1
    by_cases hk : keyedB L = true
    · have K := Lib.hid (keyedB_spec hk)
      rw [hk]
      clear hk
      by_cases h3 : (L.length : Int) > 3000
      · go_wp2_with fail
        refine works_any.mono ?_
        rintro e w2 ⟨rfl, b2⟩
        have B2 := Lib.hid (B1.out.trans (b2.mono B1.out.size))
        clear b2
        go_wp2_with fail
        go_ret
        exact ⟨rfl, B2.out⟩
      · go_wp2_with fail
        refine works_any.mono ?_
        rintro e w2 ⟨rfl, b2⟩
        have B2 := Lib.hid (B1.out.trans (b2.mono B1.out.size))
        clear b2
        go_wp2_with fail
        refine (Shape_any (R0.out.below B2.out) K.out (by omega)).mono ?_
        rintro e w3 ⟨t, v3, rfl, r3, b3, e3, a3⟩
        obtain ⟨sa3, cap3, rfl⟩ := r3.shape
        have hz : sz t ≤ 300000 := by have := sz_tree e3; omega
        have pe : pOf t = pTree L := pOf_tree e3
        have B3 := Lib.hid (B2.out.trans (b3.mono B2.out.size))
        have G3 := Lib.hid (And.intro r3 (And.intro a3 (And.intro hz pe)))
        clear r3 b3 e3 a3 hz pe
        go_wp2_with fail
        refine (Tree_any (R0.out.below B3.out) (by omega)).mono ?_
        rintro e w4 ⟨v4, rfl, r4, b4⟩
        obtain ⟨sa4, cap4, rfl⟩ := r4.shape
        obtain ⟨g1, g2, g3, g4⟩ := G3.out
        have HA := Lib.hid (Has_any (g1.below b4) (by rw [g4]; exact r4) g2 g3 (by rw [g4]; exact pTree_srt _))
        have B4 := Lib.hid (B3.out.trans (b4.mono B3.out.size))
        clear r4 b4 g1 g2 g3 g4
        go_wp2_with fail
        refine HA.out.mono ?_
        rintro e w5 ⟨rfl, b5⟩
        have B5 := Lib.hid (B4.out.trans (b5.mono B4.out.size))
        clear b5
        go_wp2_with fail
        go_ret
        exact ⟨rfl, B5.out⟩
    · have hk' : keyedB L = false := by simpa using hk
      rw [hk']
      clear hk hk'
      go_wp2_with fail
      refine works_any.mono ?_
      rintro e w2 ⟨rfl, b2⟩
      have B2 := Lib.hid (B1.out.trans (b2.mono B1.out.size))
      clear b2
      go_wp2_with fail
      go_ret
      exact ⟨rfl, B2.out⟩

end Go.Proofs.Ytahghidbadpkeaa
