/- The walk of zzWalk: the nodes of a tree, each before its left ones, these before its right ones. -/
import Derived.Test.YtahghidbadpkeaaTopz
import Derived.Deep.AppendLies
import Derived.Test.YtahghidbadpkeaaKept
set_option linter.unusedVariables false
set_option linter.unusedSimpArgs false
namespace Go.Proofs.Ytahghidbadpkeaa
open Go.Deep Go.RowKit

/-- A node as it is shown. -/
structure Zn where
  k : Int
  d : Option Int
  h : Int
  l : Int
  r : Int

def Zn.cells (z : Zn) : List Value := [.int .i32 z.k, dv z.d, .int .i8 z.h, .int .i64 z.l, .int .i64 z.r]
def zflat : List Zn → List Value
  | [] => []
  | z :: L => z.cells ++ zflat L
theorem zflat_app : ∀ (A B : List Zn), zflat (A ++ B) = zflat A ++ zflat B
  | [], B => rfl
  | z :: A, B => by simp only [List.cons_append, zflat, zflat_app A B, List.append_assoc]
theorem zflat_len : ∀ A : List Zn, (zflat A).length = A.length * 5
  | [] => rfl
  | z :: A => by simp only [zflat, List.length_append, zflat_len A, List.length_cons, Zn.cells, List.length_nil]; omega

def sz (t : BT Nd) : Nat := (prs t).length
theorem sz_node (b o : Nat) (a : Nd) (l r : BT Nd) : sz (.node b o a l r) = sz l + 1 + sz r := by simp [sz, prs]; omega
/-- The number of a root. -/
def zi : BT Nd → Nat → Int
  | .nil, _ => -1
  | .node .., i => i
def zlist : BT Nd → Nat → List Zn
  | .nil, _ => []
  | .node _ _ a l r, i => ⟨a.k, a.d, a.h, zi l (i + 1), zi r (i + 1 + sz l)⟩ :: (zlist l (i + 1) ++ zlist r (i + 1 + sz l))
theorem zlist_len : ∀ (t : BT Nd) (i : Nat), (zlist t i).length = sz t
  | .nil, _ => rfl
  | .node b o a l r, i => by simp only [zlist, List.length_cons, List.length_append, zlist_len l, zlist_len r, sz_node]; omega

theorem set_cells {A B : List Zn} {z : Zn} {l r : Int} : ((zflat (A ++ z :: B)).set (A.length * 5 + 3) (.int .i64 l)).set (A.length * 5 + 4) (.int .i64 r) = zflat (A ++ { z with l := l, r := r } :: B) := by
  rw [zflat_app, zflat_app, ← zflat_len A]
  simp only [zflat]
  rw [List.set_append_right _ _ (by omega), List.set_append_right _ _ (by omega)]
  simp only [Nat.add_sub_cancel_left]
  rfl

theorem info93 : (Try.prog.info? 93).map (fun i => (i.zero, i.size, i.bytes)) = some (some (.agg #[.int .i32 0, .nilIface, .int .i8 0, .int .i64 0, .int .i64 0]), 5, 48) := by kernel_rfl

theorem owns_shape {w : World} {base : Nat} {e : TypeId} {size : Nat} {v : Value} {n : Nat} {xs : List Value} (h : w.ownsRow base e size v n xs) : ∃ a cap, v = .slice a n cap := by
  rcases h.2 with ⟨rfl, rfl⟩ | ⟨g, cap, cur, rfl, _⟩
  · exact ⟨_, _, rfl⟩
  · exact ⟨_, _, rfl⟩

theorem zz_step {w w1 : World} {ob m : Nat} {v v2 : Value} {o : Obj} {xs : List Value} {c : Value} (hb : w.heap[ob]? = some (.cells #[c] 87 (0, 0))) (hv : ∀ k, v.ownBlock = some k → ob < k) (hgrow : ((w.alloc o).drew).grownBy w1 v.ownBlock) (hown : w1.ownsRow (ob + 1) 93 5 v2 m xs) :
    (w1.setCell ⟨ob, 0, none⟩ v2).heap[ob]? = some (.cells #[v2] 87 (0, 0)) ∧ (w1.setCell ⟨ob, 0, none⟩ v2).ownsRow (ob + 1) 93 5 v2 m xs ∧ Below ob w (w1.setCell ⟨ob, 0, none⟩ v2) := by
  have hlt : ob < w.heap.size := (Array.getElem?_eq_some_iff.1 hb).1
  have h1 : w1.heap[ob]? = some (.cells #[c] 87 (0, 0)) := by
    rw [hgrow.block ob (by simp; omega) (fun e => by have := hv ob e.symm; omega)]
    exact (Below.heap_alloc w o ob hlt).trans hb
  refine ⟨?_, ownsRow_setCell_below hown (by simp) _, ?_⟩
  · simp [World.setCell, Array.getElem?_modify, h1]
  · exact (((Below.refl ob w).alloc (Nat.le_of_lt hlt) o).drew.grown hgrow (by simp; omega) (fun k hk => Nat.le_of_lt (hv k hk))).setCell (Nat.le_refl _) _

theorem hold_lt {w w1 : World} {ob : Nat} {t : BT Nd} (H : Holds w t) (hb : Below ob w w1) (h : ∀ k ∈ blks t, k < ob) : Holds w1 t := H.chg (Chg.of_below hb) (fun k hk => Nat.not_le.2 (h k hk))

def ZPost (ob n : Nat) (A : List Zn) (t : BT Nd) (w : World) (e : Ending) (w' : World) : Prop :=
  ∃ v', e = .returned (.int .i64 (zi t n)) ∧ w'.heap[ob]? = some (.cells #[v'] 87 (0, 0)) ∧ w'.ownsRow (ob + 1) 93 5 v' (n + sz t) (zflat (A ++ zlist t n)) ∧ Below ob w w'

set_option maxRecDepth 100000 in
set_option maxHeartbeats 400000 in
theorem zz_nil {w : World} {ob n : Nat} {A : List Zn} {v : Value} (hb : w.heap[ob]? = some (.cells #[v] 87 (0, 0))) (ho : w.ownsRow (ob + 1) 93 5 v n (zflat A)) :
    Calls Try.prog 73 #[.pointer none, .pointer (some ⟨ob, 0, none⟩)] w (ZPost ob n A .nil w) := by
  have Z : Hid (ZPost ob n A .nil w (.returned (.int .i64 (-1))) w) := ⟨v, rfl, hb, by simpa [sz, prs, zlist] using ho, Below.refl _ _⟩
  clear hb ho
  go_enter Try.func73, Try.ntmps73
  go_wp2_with fail
  go_ret
  exact Z.out

theorem zz_done {w w4 : World} {ob n g4 cap4 b o : Nat} {a : Nd} {l r : BT Nd} {A : List Zn} (hn : A.length = n)
    (q1 : w4.heap[ob]? = some (.cells #[.slice (some ⟨g4, 0, none⟩) (n + 1 + sz l + sz r) cap4] 87 (0, 0)))
    (q2 : w4.ownsRow (ob + 1) 93 5 (.slice (some ⟨g4, 0, none⟩) (n + 1 + sz l + sz r) cap4) (n + 1 + sz l + sz r) (zflat (A ++ [⟨a.k, a.d, a.h, -1, -1⟩] ++ zlist l (n + 1) ++ zlist r (n + 1 + sz l)))) (q3 : Below ob w w4) (hg : ob < g4) (d : Nat) :
    ZPost ob n A (.node b o a l r) w (.returned (.int .i64 n)) (((w4.setCell ⟨g4, n * 5 + 3, none⟩ (.int .i64 (zi l (n + 1)))).setCell ⟨g4, n * 5 + 4, none⟩ (.int .i64 (zi r (n + 1 + sz l)))).drewN d) := by
  obtain ⟨s1, _⟩ := q2.stored (n * 5 + 3) (.int .i64 (zi l (n + 1)))
  obtain ⟨s2, _⟩ := s1.stored (n * 5 + 4) (.int .i64 (zi r (n + 1 + sz l)))
  have e : A ++ [⟨a.k, a.d, a.h, -1, -1⟩] ++ zlist l (n + 1) ++ zlist r (n + 1 + sz l) = A ++ ⟨a.k, a.d, a.h, -1, -1⟩ :: (zlist l (n + 1) ++ zlist r (n + 1 + sz l)) := by simp
  rw [e, ← hn, set_cells, hn] at s2
  refine ⟨.slice (some ⟨g4, 0, none⟩) (n + 1 + sz l + sz r) cap4, rfl, ?_, ?_, ((q3.setCell (p := ⟨g4, n * 5 + 3, none⟩) (Nat.le_of_lt hg) _).setCell (p := ⟨g4, n * 5 + 4, none⟩) (Nat.le_of_lt hg) _).trans ⟨rfl, rfl, rfl, Nat.le_refl _, fun _ _ => rfl⟩⟩
  · show ((w4.setCell ⟨g4, n * 5 + 3, none⟩ _).setCell ⟨g4, n * 5 + 4, none⟩ _).heap[ob]? = _
    rw [Below.heap_setCell _ _ _ _ (Nat.ne_of_lt hg), Below.heap_setCell _ _ _ _ (Nat.ne_of_lt hg)]
    exact q1
  · rw [sz_node, show n + (sz l + 1 + sz r) = n + 1 + sz l + sz r by omega]
    exact s2

set_option maxRecDepth 100000 in
set_option maxHeartbeats 800000 in
theorem zz_node {w : World} {ob n b : Nat} {a : Nd} {l r : BT Nd} {A : List Zn} {v : Value} (hn : A.length = n) (hbd : n + sz (.node b 0 a l r) ≤ 300000) (hlt : ∀ k ∈ blks (.node b 0 a l r), k < ob) (H : Holds w (.node b 0 a l r))
    (hb : w.heap[ob]? = some (.cells #[v] 87 (0, 0))) (ho : w.ownsRow (ob + 1) 93 5 v n (zflat A)) 
    (ihl : ∀ w n A v, A.length = n → n + sz l ≤ 300000 → Holds w l → w.heap[ob]? = some (.cells #[v] 87 (0, 0)) → w.ownsRow (ob + 1) 93 5 v n (zflat A) → Calls Try.prog 73 #[.pointer (pt l), .pointer (some ⟨ob, 0, none⟩)] w (ZPost ob n A l w))
    (ihr : ∀ w n A v, A.length = n → n + sz r ≤ 300000 → Holds w r → w.heap[ob]? = some (.cells #[v] 87 (0, 0)) → w.ownsRow (ob + 1) 93 5 v n (zflat A) → Calls Try.prog 73 #[.pointer (pt r), .pointer (some ⟨ob, 0, none⟩)] w (ZPost ob n A r w)) :
    Calls Try.prog 73 #[.pointer (some ⟨b, 0, none⟩), .pointer (some ⟨ob, 0, none⟩)] w (ZPost ob n A (.node b 0 a l r) w) := by
  obtain ⟨i0, hi0, hz0, hz1, hz2⟩ := info_parts info93
  obtain ⟨sa, cap, rfl⟩ := owns_shape ho
  have c0 := H.2.1.c0
  have c1 := H.2.1.c1
  have c2 := H.2.1.c2
  have c3 := H.2.1.c3
  have c4 := H.2.1.c4
  have o0 : w.cell? ⟨ob, 0, none⟩ = some (.slice sa n cap) := by simp [World.cell?, hb]
  have of : w.frozen? ⟨ob, 0, none⟩ = false := by simp [World.frozen?, hb]
  have hbo : b < ob := hlt b (by simp [blks])
  have IL := Lib.hid ihl
  have IR := Lib.hid ihr
  have HH := Lib.hid H
  have HLT := Lib.hid hlt
  have HO := Lib.hid ho
  have hblt := H.2.1.lt
  have holt : ob < w.heap.size := by
    rcases Nat.lt_or_ge ob w.heap.size with h' | h'
    · exact h'
    · rw [Array.getElem?_eq_none h'] at hb; cases hb
  have ag : (Value.slice sa n cap).ownBlock ≠ some b := fun h => by have := (ho.lt _ h).1; omega
  have ao : (Value.slice sa n cap).ownBlock ≠ some ob := fun h => by have := (ho.lt _ h).1; omega
  have hvo : ∀ k, (Value.slice sa n cap).ownBlock = some k → ob < k := fun k h => (ho.lt k h).1
  have hne : b ≠ ob := Nat.ne_of_lt hbo
  have hnn : ∀ d h, (∀ u ∈ ([.int .i32 a.k, dv d, .int .i8 h, .int .i64 (-1), .int .i64 (-1)] : List Value), u.oneCell' = true) := by
    intro d h u hu
    simp only [List.mem_cons, List.not_mem_nil, or_false] at hu
    rcases hu with rfl | rfl | rfl | rfl | rfl <;> first | rfl | (cases d <;> rfl)
  have NN := Lib.hid hnn
  have hsz := sz_node b 0 a l r
  rw [hsz] at hbd
  clear hsz
  clear ihl ihr H ho hnn hlt
  obtain ⟨k, d, h⟩ := a
  cases d
  · simp only [dv] at c2
    simp only at c3 c4
    go_enter Try.func73, Try.ntmps73
    go_wp2_with fail
    refine wp_region_kept (S := fun w' => w'.cell? ⟨b, 2, none⟩ = some .nilIface ∧ w'.cell? ⟨b, 3, none⟩ = some (.int .i32 k) ∧ w'.cell? ⟨b, 4, none⟩ = some (.int .i8 h) ∧ w'.cell? ⟨ob, 0, none⟩ = some (.slice sa n cap)) 20 (by kernel_rfl) ⟨c2, c3, c4, o0⟩ (fun hS => ?_)
    change wpAnyK _ _ _ _ _ _ 21 _ _ _
    refine wpAnyK_take (i := 0) (v := ?v0) rfl (by kernel_rfl) (by kernel_rfl) (by kernel_rfl) (by kernel_rfl) (fun _ _ _ h => h) (Or.inl ⟨by rfl, ?y0⟩) (by assumption) ?r0
    case y0 => intro w hSw; go_simp; (first | done | with_reducible rfl)
    try simp only [Act.put, List.setIfInBounds_toArray, List.set_cons_zero, List.set_cons_succ]
    refine wpAnyK_take (i := 1) (v := ?v1) rfl (by kernel_rfl) (by kernel_rfl) (by kernel_rfl) (by kernel_rfl) (fun _ _ _ h => h) (Or.inl ⟨by rfl, ?y1⟩) (by assumption) ?r1
    case y1 => intro w hSw; go_simp; (first | done | with_reducible rfl)
    try simp only [Act.put, List.setIfInBounds_toArray, List.set_cons_zero, List.set_cons_succ]
    refine wpAnyK_take (i := 2) (v := ?v2) rfl (by kernel_rfl) (by kernel_rfl) (by kernel_rfl) (by kernel_rfl) (fun _ _ _ h => h) (Or.inl ⟨by rfl, ?y2⟩) (by assumption) ?r2
    case y2 => intro w hSw; go_simp; (first | done | with_reducible rfl)
    try simp only [Act.put, List.setIfInBounds_toArray, List.set_cons_zero, List.set_cons_succ]
    refine wpAnyK_take (i := 3) (v := ?v3) rfl (by kernel_rfl) (by kernel_rfl) (by kernel_rfl) (by kernel_rfl) (fun _ _ _ h => h) (Or.inl ⟨by rfl, ?y3⟩) (by assumption) ?r3
    case y3 => intro w hSw; go_simp; (first | done | with_reducible rfl)
    try simp only [Act.put, List.setIfInBounds_toArray, List.set_cons_zero, List.set_cons_succ]
    refine wpAnyK_take (i := 4) (v := ?v4) rfl (by kernel_rfl) (by kernel_rfl) (by kernel_rfl) (by kernel_rfl) (fun _ _ _ h => h) (Or.inl ⟨by rfl, ?y4⟩) (by assumption) ?r4
    case y4 => intro w hSw; go_simp; (first | done | with_reducible rfl)
    try simp only [Act.put, List.setIfInBounds_toArray, List.set_cons_zero, List.set_cons_succ]
    refine wpAnyK_take (i := 5) (v := ?v5) rfl (by kernel_rfl) (by kernel_rfl) (by kernel_rfl) (by kernel_rfl) (fun _ _ _ h => h) (Or.inl ⟨by rfl, ?y5⟩) (by assumption) ?r5
    case y5 => intro w hSw; go_simp; (first | done | with_reducible rfl)
    try simp only [Act.put, List.setIfInBounds_toArray, List.set_cons_zero, List.set_cons_succ]
    refine wpAnyK_take (i := 6) (v := ?v6) rfl (by kernel_rfl) (by kernel_rfl) (by kernel_rfl) (by kernel_rfl) (fun _ _ _ h => h) (Or.inl ⟨by rfl, ?y6⟩) (by assumption) ?r6
    case y6 => intro w hSw; go_simp; (first | done | with_reducible rfl)
    try simp only [Act.put, List.setIfInBounds_toArray, List.set_cons_zero, List.set_cons_succ]
    refine wpAnyK_take (i := 7) (v := ?v7) rfl (by kernel_rfl) (by kernel_rfl) (by kernel_rfl) (by kernel_rfl) (fun _ _ _ h => h) (Or.inl ⟨by rfl, ?y7⟩) (by assumption) ?r7
    case y7 => intro w hSw; go_simp; (first | done | with_reducible rfl)
    try simp only [Act.put, List.setIfInBounds_toArray, List.set_cons_zero, List.set_cons_succ]
    refine wpAnyK_take (i := 8) (v := ?v8) rfl (by kernel_rfl) (by kernel_rfl) (by kernel_rfl) (by kernel_rfl) (fun _ _ _ h => h) (Or.inl ⟨by rfl, ?y8⟩) (by assumption) ?r8
    case y8 => intro w hSw; go_simp; (first | done | with_reducible rfl)
    try simp only [Act.put, List.setIfInBounds_toArray, List.set_cons_zero, List.set_cons_succ]
    refine wpAnyK_take (i := 9) (v := ?v9) rfl (by kernel_rfl) (by kernel_rfl) (by kernel_rfl) (by kernel_rfl) (fun _ _ _ h => h) (Or.inl ⟨by rfl, ?y9⟩) (by assumption) ?r9
    case y9 => intro w hSw; go_simp; (first | done | with_reducible rfl)
    try simp only [Act.put, List.setIfInBounds_toArray, List.set_cons_zero, List.set_cons_succ]
    refine wpAnyK_take (i := 10) (v := ?v10) rfl (by kernel_rfl) (by kernel_rfl) (by kernel_rfl) (by kernel_rfl) (fun _ _ _ h => h) (Or.inl ⟨by rfl, ?y10⟩) (by assumption) ?r10
    case y10 => intro w hSw; go_simp; (first | done | with_reducible rfl)
    try simp only [Act.put, List.setIfInBounds_toArray, List.set_cons_zero, List.set_cons_succ]
    refine wpAnyK_take (i := 11) (v := ?v11) rfl (by kernel_rfl) (by kernel_rfl) (by kernel_rfl) (by kernel_rfl) (fun _ _ _ h => h) (Or.inl ⟨by rfl, ?y11⟩) (by assumption) ?r11
    case y11 => intro w hSw; go_simp; (first | done | with_reducible rfl)
    try simp only [Act.put, List.setIfInBounds_toArray, List.set_cons_zero, List.set_cons_succ]
    refine wpAnyK_take (i := 12) (v := ?v12) rfl (by kernel_rfl) (by kernel_rfl) (by kernel_rfl) (by kernel_rfl) (fun _ _ _ h => h) (Or.inl ⟨by rfl, ?y12⟩) (by assumption) ?r12
    case y12 => intro w hSw; go_simp; (first | done | with_reducible rfl)
    try simp only [Act.put, List.setIfInBounds_toArray, List.set_cons_zero, List.set_cons_succ]
    refine wpAnyK_take (i := 13) (v := ?v13) rfl (by kernel_rfl) (by kernel_rfl) (by kernel_rfl) (by kernel_rfl) (fun _ _ _ h => h) (Or.inl ⟨by rfl, ?y13⟩) (by assumption) ?r13
    case y13 => intro w hSw; go_simp; (first | done | with_reducible rfl)
    try simp only [Act.put, List.setIfInBounds_toArray, List.set_cons_zero, List.set_cons_succ]
    refine wpAnyK_take (i := 14) (v := ?v14) rfl (by kernel_rfl) (by kernel_rfl) (by kernel_rfl) (by kernel_rfl) (fun _ _ _ h => h) (Or.inl ⟨by rfl, ?y14⟩) (by assumption) ?r14
    case y14 => intro w hSw; go_simp; (first | done | with_reducible rfl)
    try simp only [Act.put, List.setIfInBounds_toArray, List.set_cons_zero, List.set_cons_succ]
    refine wpAnyK_take (i := 15) (v := ?v15) rfl (by kernel_rfl) (by kernel_rfl) (by kernel_rfl) (by kernel_rfl) (fun _ _ _ h => h) (Or.inl ⟨by rfl, ?y15⟩) (by assumption) ?r15
    case y15 => intro w hSw; go_simp; (first | done | with_reducible rfl)
    try simp only [Act.put, List.setIfInBounds_toArray, List.set_cons_zero, List.set_cons_succ]
    refine wpAnyK_take (i := 16) (v := ?v16) rfl (by kernel_rfl) (by kernel_rfl) (by kernel_rfl) (by kernel_rfl) (fun _ _ _ h => h) (Or.inl ⟨by rfl, ?y16⟩) (by assumption) ?r16
    case y16 => intro w hSw; go_simp; (first | done | with_reducible rfl)
    try simp only [Act.put, List.setIfInBounds_toArray, List.set_cons_zero, List.set_cons_succ]
    refine wpAnyK_one (i := 17) rfl (by kernel_rfl) (fun K hK => ?_)
    go_simp
    refine hK _ _ (fun _ => ?_) (fun _ => ?_)
    · simp [World.cell?_alloc_lt, hblt, holt, c2, c3, c4, o0]
    clear hK K
    try simp only [Act.put, List.setIfInBounds_toArray, List.set_cons_zero, List.set_cons_succ]
    refine wpAnyK_one (i := 18) rfl (by kernel_rfl) (fun K hK => ?_)
    refine step_append_lies _ (by rfl) _ _ _ (by rfl) (ob + 1) 93 i0 _ 5 48 Try.underlying87 hi0 hz0 hz1 hz2 rfl (by omega) (.slice sa n cap) n (zflat A) (by rfl) ((HO.out.alloc _).drew)
        ⟨w.heap.size, 0, none⟩ 1 1 [.int .i32 k, .nilIface, .int .i8 h, .int .i64 (-1), .int .i64 (-1)] (by rfl) (by rfl) (World.news_of_block (cs := #[.int .i32 k, .nilIface, .int .i8 h, .int .i64 (-1), .int .i64 (-1)]) (t := 93) (fr := (0, 0)) (heap_alloc_new w _)) (NN.out none h)
        (by omega) (by unfold maxLen; omega) (by omega) (by simp; omega) (w.heap.size + 1) (by simp) ?_
    intro gg cap1 w1 hown1 hgrow hat hlt1
    have e1 : w1.cell? ⟨ob, 0, none⟩ = some (.slice sa n cap) := by rw [hgrow.cell_far _ (by simp; omega) (Ne.symm ao)]; simp [World.cell?_alloc_lt, holt, o0]
    have e2 : w1.frozen? ⟨ob, 0, none⟩ = false := by rw [hgrow.frozen_far _ (by simp; omega) (Ne.symm ao)]; rw [World.frozen?_drew, World.frozen?_alloc_old _ _ _ (Nat.ne_of_lt holt)]; exact of
    refine hK _ _ (fun _ => ?_) (fun hS => ?_)
    · refine ⟨?_, ?_, ?_, e1⟩
      · rw [hgrow.cell_far _ (by simp; omega) (Ne.symm ag)]; simp [World.cell?_alloc_lt, hblt, c2]
      · rw [hgrow.cell_far _ (by simp; omega) (Ne.symm ag)]; simp [World.cell?_alloc_lt, hblt, c3]
      · rw [hgrow.cell_far _ (by simp; omega) (Ne.symm ag)]; simp [World.cell?_alloc_lt, hblt, c4]
    have HS := Lib.hid hS
    have HA := Lib.hid (And.intro hown1 (And.intro hgrow hat))
    clear hK K hS hown1 hgrow hat
    try simp only [Act.put, List.setIfInBounds_toArray, List.set_cons_zero, List.set_cons_succ]
    refine wpAnyK_one (i := 19) rfl (by kernel_rfl) (fun K hK => ?_)
    go_simp
    refine hK _ _ (fun _ => HS.out (by decide)) (fun _ => ?_)
    clear hK K
    try simp only [Act.put, List.setIfInBounds_toArray, List.set_cons_zero, List.set_cons_succ]
    refine wpAnyK_one (i := 20) rfl (by kernel_rfl) (fun K hK => ?_)
    go_simp
    refine hK _ _ (fun h => absurd rfl h) (fun _ => ?_)
    clear hK K
    try simp only [Act.put, List.setIfInBounds_toArray, List.set_cons_zero, List.set_cons_succ]
    refine wpAnyK_done (by kernel_rfl) ?_ _
    have ST := zz_step hb hvo HA.out.2.1 HA.out.1
    have e : zflat A ++ [.int .i32 k, .nilIface, .int .i8 h, .int .i64 (-1), .int .i64 (-1)] = zflat (A ++ [⟨k, none, h, -1, -1⟩]) := by rw [zflat_app]; rfl
    rw [e] at ST
    have G2 := Lib.hid ST
    clear e ST e1 e2 HA HS
    generalize hW2 : w1.setCell ⟨ob, 0, none⟩ (.slice (some ⟨gg, 0, none⟩) (n + 1) cap1) = W2 at G2 ⊢
    clear hW2
    have HW2 := Lib.hid (hold_lt HH.out G2.out.2.2 HLT.out)
    have d0 := HW2.out.2.1.c0
    go_wp2_with fail
    refine (IL.out W2 (n + 1) (A ++ [⟨k, none, h, -1, -1⟩]) _ (by simp [hn]) (by omega) HW2.out.2.2.1 G2.out.1 G2.out.2.1).mono ?_
    rintro e w3 ⟨v3, rfl, q1, q2, q3⟩
    have HW3 := Lib.hid (hold_lt HW2.out q3 HLT.out)
    have G3 := Lib.hid (And.intro q1 (And.intro q2 (G2.out.2.2.trans q3)))
    clear q1 q2 q3 d0
    have d1 := HW3.out.2.1.c1
    go_wp2_with fail
    refine (IR.out w3 (n + 1 + sz l) (A ++ [⟨k, none, h, -1, -1⟩] ++ zlist l (n + 1)) v3 (by simp [hn, zlist_len]; omega) (by omega) HW3.out.2.2.2 G3.out.1 G3.out.2.1).mono ?_
    rintro e w4 ⟨v4, rfl, q1, q2, q3⟩
    obtain ⟨g4, cap4, rfl, hg4, hg5⟩ := q2.form (by omega)
    have G4 := Lib.hid (And.intro q1 (And.intro q2 (G3.out.2.2.trans q3)))
    have f0 : w4.cell? ⟨ob, 0, none⟩ = some (.slice (some ⟨g4, 0, none⟩) (n + 1 + sz l + sz r) cap4) := by simp [World.cell?, q1]
    have hl4 := q2.1
    obtain ⟨u3, hu3⟩ : ∃ u, w4.cell? ⟨g4, n * 5 + 3, none⟩ = some u := ⟨_, (q2.cellAt (n * 5 + 3) (by omega)).trans (List.getElem?_eq_getElem (by omega))⟩
    obtain ⟨u4, hu4⟩ : ∃ u, w4.cell? ⟨g4, n * 5 + 4, none⟩ = some u := ⟨_, (q2.cellAt (n * 5 + 4) (by omega)).trans (List.getElem?_eq_getElem (by omega))⟩
    have f3 := q2.frozenAt (n * 5 + 3)
    have f4 := q2.frozenAt (n * 5 + 4)
    have gne : ob ≠ g4 := by omega
    have DN := Lib.hid (fun nd => zz_done (w4 := w4) (b := b) (o := 0) (a := ⟨k, none, h⟩) hn q1 q2 (G3.out.2.2.trans q3) (by omega) nd)
    clear q1 q2 q3 d1 hl4
    go_wp2_with fail
    go_region
    go_wp2_with fail
    go_ret
    exact DN.out 1
  · rename_i d
    simp only [dv] at c2
    simp only at c3 c4
    go_enter Try.func73, Try.ntmps73
    go_wp2_with fail
    refine wp_region_kept (S := fun w' => w'.cell? ⟨b, 2, none⟩ = some (.iface 3 (.int .i64 d)) ∧ w'.cell? ⟨b, 3, none⟩ = some (.int .i32 k) ∧ w'.cell? ⟨b, 4, none⟩ = some (.int .i8 h) ∧ w'.cell? ⟨ob, 0, none⟩ = some (.slice sa n cap)) 20 (by kernel_rfl) ⟨c2, c3, c4, o0⟩ (fun hS => ?_)
    change wpAnyK _ _ _ _ _ _ 21 _ _ _
    refine wpAnyK_take (i := 0) (v := ?vb0) rfl (by kernel_rfl) (by kernel_rfl) (by kernel_rfl) (by kernel_rfl) (fun _ _ _ h => h) (Or.inl ⟨by rfl, ?yb0⟩) (by assumption) ?rb0
    case yb0 => intro w hSw; go_simp; (first | done | with_reducible rfl)
    try simp only [Act.put, List.setIfInBounds_toArray, List.set_cons_zero, List.set_cons_succ]
    refine wpAnyK_take (i := 1) (v := ?vb1) rfl (by kernel_rfl) (by kernel_rfl) (by kernel_rfl) (by kernel_rfl) (fun _ _ _ h => h) (Or.inl ⟨by rfl, ?yb1⟩) (by assumption) ?rb1
    case yb1 => intro w hSw; go_simp; (first | done | with_reducible rfl)
    try simp only [Act.put, List.setIfInBounds_toArray, List.set_cons_zero, List.set_cons_succ]
    refine wpAnyK_take (i := 2) (v := ?vb2) rfl (by kernel_rfl) (by kernel_rfl) (by kernel_rfl) (by kernel_rfl) (fun _ _ _ h => h) (Or.inl ⟨by rfl, ?yb2⟩) (by assumption) ?rb2
    case yb2 => intro w hSw; go_simp; (first | done | with_reducible rfl)
    try simp only [Act.put, List.setIfInBounds_toArray, List.set_cons_zero, List.set_cons_succ]
    refine wpAnyK_take (i := 3) (v := ?vb3) rfl (by kernel_rfl) (by kernel_rfl) (by kernel_rfl) (by kernel_rfl) (fun _ _ _ h => h) (Or.inl ⟨by rfl, ?yb3⟩) (by assumption) ?rb3
    case yb3 => intro w hSw; go_simp; (first | done | with_reducible rfl)
    try simp only [Act.put, List.setIfInBounds_toArray, List.set_cons_zero, List.set_cons_succ]
    refine wpAnyK_take (i := 4) (v := ?vb4) rfl (by kernel_rfl) (by kernel_rfl) (by kernel_rfl) (by kernel_rfl) (fun _ _ _ h => h) (Or.inl ⟨by rfl, ?yb4⟩) (by assumption) ?rb4
    case yb4 => intro w hSw; go_simp; (first | done | with_reducible rfl)
    try simp only [Act.put, List.setIfInBounds_toArray, List.set_cons_zero, List.set_cons_succ]
    refine wpAnyK_take (i := 5) (v := ?vb5) rfl (by kernel_rfl) (by kernel_rfl) (by kernel_rfl) (by kernel_rfl) (fun _ _ _ h => h) (Or.inl ⟨by rfl, ?yb5⟩) (by assumption) ?rb5
    case yb5 => intro w hSw; go_simp; (first | done | with_reducible rfl)
    try simp only [Act.put, List.setIfInBounds_toArray, List.set_cons_zero, List.set_cons_succ]
    refine wpAnyK_take (i := 6) (v := ?vb6) rfl (by kernel_rfl) (by kernel_rfl) (by kernel_rfl) (by kernel_rfl) (fun _ _ _ h => h) (Or.inl ⟨by rfl, ?yb6⟩) (by assumption) ?rb6
    case yb6 => intro w hSw; go_simp; (first | done | with_reducible rfl)
    try simp only [Act.put, List.setIfInBounds_toArray, List.set_cons_zero, List.set_cons_succ]
    refine wpAnyK_take (i := 7) (v := ?vb7) rfl (by kernel_rfl) (by kernel_rfl) (by kernel_rfl) (by kernel_rfl) (fun _ _ _ h => h) (Or.inl ⟨by rfl, ?yb7⟩) (by assumption) ?rb7
    case yb7 => intro w hSw; go_simp; (first | done | with_reducible rfl)
    try simp only [Act.put, List.setIfInBounds_toArray, List.set_cons_zero, List.set_cons_succ]
    refine wpAnyK_take (i := 8) (v := ?vb8) rfl (by kernel_rfl) (by kernel_rfl) (by kernel_rfl) (by kernel_rfl) (fun _ _ _ h => h) (Or.inl ⟨by rfl, ?yb8⟩) (by assumption) ?rb8
    case yb8 => intro w hSw; go_simp; (first | done | with_reducible rfl)
    try simp only [Act.put, List.setIfInBounds_toArray, List.set_cons_zero, List.set_cons_succ]
    refine wpAnyK_take (i := 9) (v := ?vb9) rfl (by kernel_rfl) (by kernel_rfl) (by kernel_rfl) (by kernel_rfl) (fun _ _ _ h => h) (Or.inl ⟨by rfl, ?yb9⟩) (by assumption) ?rb9
    case yb9 => intro w hSw; go_simp; (first | done | with_reducible rfl)
    try simp only [Act.put, List.setIfInBounds_toArray, List.set_cons_zero, List.set_cons_succ]
    refine wpAnyK_take (i := 10) (v := ?vb10) rfl (by kernel_rfl) (by kernel_rfl) (by kernel_rfl) (by kernel_rfl) (fun _ _ _ h => h) (Or.inl ⟨by rfl, ?yb10⟩) (by assumption) ?rb10
    case yb10 => intro w hSw; go_simp; (first | done | with_reducible rfl)
    try simp only [Act.put, List.setIfInBounds_toArray, List.set_cons_zero, List.set_cons_succ]
    refine wpAnyK_take (i := 11) (v := ?vb11) rfl (by kernel_rfl) (by kernel_rfl) (by kernel_rfl) (by kernel_rfl) (fun _ _ _ h => h) (Or.inl ⟨by rfl, ?yb11⟩) (by assumption) ?rb11
    case yb11 => intro w hSw; go_simp; (first | done | with_reducible rfl)
    try simp only [Act.put, List.setIfInBounds_toArray, List.set_cons_zero, List.set_cons_succ]
    refine wpAnyK_take (i := 12) (v := ?vb12) rfl (by kernel_rfl) (by kernel_rfl) (by kernel_rfl) (by kernel_rfl) (fun _ _ _ h => h) (Or.inl ⟨by rfl, ?yb12⟩) (by assumption) ?rb12
    case yb12 => intro w hSw; go_simp; (first | done | with_reducible rfl)
    try simp only [Act.put, List.setIfInBounds_toArray, List.set_cons_zero, List.set_cons_succ]
    refine wpAnyK_take (i := 13) (v := ?vb13) rfl (by kernel_rfl) (by kernel_rfl) (by kernel_rfl) (by kernel_rfl) (fun _ _ _ h => h) (Or.inl ⟨by rfl, ?yb13⟩) (by assumption) ?rb13
    case yb13 => intro w hSw; go_simp; (first | done | with_reducible rfl)
    try simp only [Act.put, List.setIfInBounds_toArray, List.set_cons_zero, List.set_cons_succ]
    refine wpAnyK_take (i := 14) (v := ?vb14) rfl (by kernel_rfl) (by kernel_rfl) (by kernel_rfl) (by kernel_rfl) (fun _ _ _ h => h) (Or.inl ⟨by rfl, ?yb14⟩) (by assumption) ?rb14
    case yb14 => intro w hSw; go_simp; (first | done | with_reducible rfl)
    try simp only [Act.put, List.setIfInBounds_toArray, List.set_cons_zero, List.set_cons_succ]
    refine wpAnyK_take (i := 15) (v := ?vb15) rfl (by kernel_rfl) (by kernel_rfl) (by kernel_rfl) (by kernel_rfl) (fun _ _ _ h => h) (Or.inl ⟨by rfl, ?yb15⟩) (by assumption) ?rb15
    case yb15 => intro w hSw; go_simp; (first | done | with_reducible rfl)
    try simp only [Act.put, List.setIfInBounds_toArray, List.set_cons_zero, List.set_cons_succ]
    refine wpAnyK_take (i := 16) (v := ?vb16) rfl (by kernel_rfl) (by kernel_rfl) (by kernel_rfl) (by kernel_rfl) (fun _ _ _ h => h) (Or.inl ⟨by rfl, ?yb16⟩) (by assumption) ?rb16
    case yb16 => intro w hSw; go_simp; (first | done | with_reducible rfl)
    try simp only [Act.put, List.setIfInBounds_toArray, List.set_cons_zero, List.set_cons_succ]
    refine wpAnyK_one (i := 17) rfl (by kernel_rfl) (fun K hK => ?_)
    go_simp
    refine hK _ _ (fun _ => ?_) (fun _ => ?_)
    · simp [World.cell?_alloc_lt, hblt, holt, c2, c3, c4, o0]
    clear hK K
    try simp only [Act.put, List.setIfInBounds_toArray, List.set_cons_zero, List.set_cons_succ]
    refine wpAnyK_one (i := 18) rfl (by kernel_rfl) (fun K hK => ?_)
    refine step_append_lies _ (by rfl) _ _ _ (by rfl) (ob + 1) 93 i0 _ 5 48 Try.underlying87 hi0 hz0 hz1 hz2 rfl (by omega) (.slice sa n cap) n (zflat A) (by rfl) ((HO.out.alloc _).drew)
        ⟨w.heap.size, 0, none⟩ 1 1 [.int .i32 k, .iface 3 (.int .i64 d), .int .i8 h, .int .i64 (-1), .int .i64 (-1)] (by rfl) (by rfl) (World.news_of_block (cs := #[.int .i32 k, .iface 3 (.int .i64 d), .int .i8 h, .int .i64 (-1), .int .i64 (-1)]) (t := 93) (fr := (0, 0)) (heap_alloc_new w _)) (NN.out (some d) h)
        (by omega) (by unfold maxLen; omega) (by omega) (by simp; omega) (w.heap.size + 1) (by simp) ?_
    intro gg cap1 w1 hown1 hgrow hat hlt1
    have e1 : w1.cell? ⟨ob, 0, none⟩ = some (.slice sa n cap) := by rw [hgrow.cell_far _ (by simp; omega) (Ne.symm ao)]; simp [World.cell?_alloc_lt, holt, o0]
    have e2 : w1.frozen? ⟨ob, 0, none⟩ = false := by rw [hgrow.frozen_far _ (by simp; omega) (Ne.symm ao)]; rw [World.frozen?_drew, World.frozen?_alloc_old _ _ _ (Nat.ne_of_lt holt)]; exact of
    refine hK _ _ (fun _ => ?_) (fun hS => ?_)
    · refine ⟨?_, ?_, ?_, e1⟩
      · rw [hgrow.cell_far _ (by simp; omega) (Ne.symm ag)]; simp [World.cell?_alloc_lt, hblt, c2]
      · rw [hgrow.cell_far _ (by simp; omega) (Ne.symm ag)]; simp [World.cell?_alloc_lt, hblt, c3]
      · rw [hgrow.cell_far _ (by simp; omega) (Ne.symm ag)]; simp [World.cell?_alloc_lt, hblt, c4]
    have HS := Lib.hid hS
    have HA := Lib.hid (And.intro hown1 (And.intro hgrow hat))
    clear hK K hS hown1 hgrow hat
    try simp only [Act.put, List.setIfInBounds_toArray, List.set_cons_zero, List.set_cons_succ]
    refine wpAnyK_one (i := 19) rfl (by kernel_rfl) (fun K hK => ?_)
    go_simp
    refine hK _ _ (fun _ => HS.out (by decide)) (fun _ => ?_)
    clear hK K
    try simp only [Act.put, List.setIfInBounds_toArray, List.set_cons_zero, List.set_cons_succ]
    refine wpAnyK_one (i := 20) rfl (by kernel_rfl) (fun K hK => ?_)
    go_simp
    refine hK _ _ (fun h => absurd rfl h) (fun _ => ?_)
    clear hK K
    try simp only [Act.put, List.setIfInBounds_toArray, List.set_cons_zero, List.set_cons_succ]
    refine wpAnyK_done (by kernel_rfl) ?_ _
    have ST := zz_step hb hvo HA.out.2.1 HA.out.1
    have e : zflat A ++ [.int .i32 k, .iface 3 (.int .i64 d), .int .i8 h, .int .i64 (-1), .int .i64 (-1)] = zflat (A ++ [⟨k, (some d), h, -1, -1⟩]) := by rw [zflat_app]; rfl
    rw [e] at ST
    have G2 := Lib.hid ST
    clear e ST e1 e2 HA HS
    generalize hW2 : w1.setCell ⟨ob, 0, none⟩ (.slice (some ⟨gg, 0, none⟩) (n + 1) cap1) = W2 at G2 ⊢
    clear hW2
    have HW2 := Lib.hid (hold_lt HH.out G2.out.2.2 HLT.out)
    have d0 := HW2.out.2.1.c0
    go_wp2_with fail
    refine (IL.out W2 (n + 1) (A ++ [⟨k, (some d), h, -1, -1⟩]) _ (by simp [hn]) (by omega) HW2.out.2.2.1 G2.out.1 G2.out.2.1).mono ?_
    rintro e w3 ⟨v3, rfl, q1, q2, q3⟩
    have HW3 := Lib.hid (hold_lt HW2.out q3 HLT.out)
    have G3 := Lib.hid (And.intro q1 (And.intro q2 (G2.out.2.2.trans q3)))
    clear q1 q2 q3 d0
    have d1 := HW3.out.2.1.c1
    go_wp2_with fail
    refine (IR.out w3 (n + 1 + sz l) (A ++ [⟨k, (some d), h, -1, -1⟩] ++ zlist l (n + 1)) v3 (by simp [hn, zlist_len]; omega) (by omega) HW3.out.2.2.2 G3.out.1 G3.out.2.1).mono ?_
    rintro e w4 ⟨v4, rfl, q1, q2, q3⟩
    obtain ⟨g4, cap4, rfl, hg4, hg5⟩ := q2.form (by omega)
    have G4 := Lib.hid (And.intro q1 (And.intro q2 (G3.out.2.2.trans q3)))
    have f0 : w4.cell? ⟨ob, 0, none⟩ = some (.slice (some ⟨g4, 0, none⟩) (n + 1 + sz l + sz r) cap4) := by simp [World.cell?, q1]
    have hl4 := q2.1
    obtain ⟨u3, hu3⟩ : ∃ u, w4.cell? ⟨g4, n * 5 + 3, none⟩ = some u := ⟨_, (q2.cellAt (n * 5 + 3) (by omega)).trans (List.getElem?_eq_getElem (by omega))⟩
    obtain ⟨u4, hu4⟩ : ∃ u, w4.cell? ⟨g4, n * 5 + 4, none⟩ = some u := ⟨_, (q2.cellAt (n * 5 + 4) (by omega)).trans (List.getElem?_eq_getElem (by omega))⟩
    have f3 := q2.frozenAt (n * 5 + 3)
    have f4 := q2.frozenAt (n * 5 + 4)
    have gne : ob ≠ g4 := by omega
    have DN := Lib.hid (fun nd => zz_done (w4 := w4) (b := b) (o := 0) (a := ⟨k, (some d), h⟩) hn q1 q2 (G3.out.2.2.trans q3) (by omega) nd)
    clear q1 q2 q3 d1 hl4
    go_wp2_with fail
    go_region
    go_wp2_with fail
    go_ret
    exact DN.out 1

/-- zzWalk. -/
theorem zz_any : ∀ (t : BT Nd) (ob : Nat), (∀ k ∈ blks t, k < ob) → ∀ (w : World) (n : Nat) (A : List Zn) (v : Value), A.length = n → n + sz t ≤ 300000 → Holds w t → w.heap[ob]? = some (.cells #[v] 87 (0, 0)) → w.ownsRow (ob + 1) 93 5 v n (zflat A) →
    Calls Try.prog 73 #[.pointer (pt t), .pointer (some ⟨ob, 0, none⟩)] w (ZPost ob n A t w)
  | .nil, ob, _, w, n, A, v, _, _, _, hb, ho => zz_nil hb ho
  | .node b o a l r, ob, hlt, w, n, A, v, hn, hbd, H, hb, ho => by
    have h0 : o = 0 := H.1
    subst h0
    have hl : ∀ k ∈ blks l, k < ob := fun k hk => hlt k (List.mem_cons_of_mem _ (List.mem_append_left _ hk))
    have hr : ∀ k ∈ blks r, k < ob := fun k hk => hlt k (List.mem_cons_of_mem _ (List.mem_append_right _ hk))
    exact zz_node hn hbd hlt H hb ho (zz_any l ob hl) (zz_any r ob hr)

end Go.Proofs.Ytahghidbadpkeaa
