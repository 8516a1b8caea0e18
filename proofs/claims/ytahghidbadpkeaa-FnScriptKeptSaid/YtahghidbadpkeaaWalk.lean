/- The walk of spec.walk at the nodes of a tree. -/
import Derived.Test.YtahghidbadpkeaaSpec
import Derived.Laws.AppendOwnNone
import Derived.BigQuiet
set_option linter.unusedVariables false
set_option linter.unusedSimpArgs false
namespace Go.Proofs.Ytahghidbadpkeaa
open Go.Deep Go.RowKit
attribute [local go_sem] max_ite

/-- The places of a tree's nodes, in order. -/
def ino : BT Nd → Nat → List Nat
  | .nil, _ => []
  | .node _ _ _ l r, i => ino l (i + 1) ++ i :: ino r (i + 1 + sz l)
def ic (i : Nat) : List Value := [.int .i64 i]
theorem ic_len (i : Nat) : (ic i).length = 1 := rfl
theorem ino_len : ∀ (t : BT Nd) (i : Nat), (ino t i).length = sz t
  | .nil, _ => rfl
  | .node b o a l r, i => by simp only [ino, List.length_append, List.length_cons, ino_len l, ino_len r, sz_node]; omega
theorem info3 : (Try.prog.info? 3).map (fun i => (i.zero, i.size, i.bytes)) = some (some (.int .i64 0), 1, 8) := by kernel_rfl
theorem ic_ones : ∀ (A : List Nat), ∀ u ∈ fl ic A, u.oneCell' = true
  | [], u, h => by simp [fl] at h
  | a :: A, u, h => by
    simp only [fl, ic, List.cons_append, List.nil_append, List.mem_cons] at h
    rcases h with rfl | h
    · rfl
    · exact ic_ones A u h

def WkPost (u : BT Nd) (i N g : Nat) (us : List Bool) (w : World) (e : Ending) (w' : World) : Prop :=
  ∃ v us', e = .returned (.tuple #[v, .int .i64 (ht u), .bool true, .bool true]) ∧ w'.ownsRow w.heap.size 3 1 v (sz u) (fl ic (ino u i)) ∧ Row w' g us' ∧ us'.length = N ∧ (∀ j, (j < i ∨ i + sz u ≤ j) → us'[j]? = us[j]?) ∧ Chg (fun k => k = g) w w'

theorem WkPost.drewN {u : BT Nd} {i N g : Nat} {us : List Bool} {w w' : World} {e : Ending} (h : WkPost u i N g us w e w') (n : Nat) : WkPost u i N g us w e (w'.drewN n) := by
  obtain ⟨v, us', h1, h2, h3, h4, h5, h6⟩ := h
  exact ⟨v, us', h1, h2, h3, h4, h5, h6.drewN n⟩

def WkSpec (sa : Option Addr) (N cap g : Nat) (L : List Nn) (u : BT Nd) : Prop :=
  ∀ (w : World) (i : Nat) (us : List Bool), Rd Nn.cells 5 w (.slice sa N cap) L → (∀ j z, (zlist u i)[j]? = some z → L[i + j]? = some (nof z)) → Row w g us → us.length = N →
    (∀ j, i ≤ j → j < i + sz u → us[j]? = some false) → Avl u → i + sz u ≤ N →
    Calls Try.prog 54 #[.slice sa N cap, .int .i64 (zi u i), .slice (some ⟨g, 0, none⟩) N N] w (WkPost u i N g us w)

theorem results_tmp4 {fn : Func} {t u v x : Tmp} (h : fn.results = #[.tmp t, .tmp u, .tmp v, .tmp x]) (tmps : Array Value) (P : Program) (w : World) :
    (results fn tmps).run P w = .ok (.tuple #[tmps.getD t undef, tmps.getD u undef, tmps.getD v undef, tmps.getD x undef]) w := by
  simp [results, h]

set_option maxRecDepth 100000 in
set_option maxHeartbeats 400000 in
theorem wk_nil {sa : Option Addr} {N cap g : Nat} {L : List Nn} : WkSpec sa N cap g L .nil := by
  intro w i us h hz hr hl hf ha hb
  have P : WkPost .nil i N g us w (.returned (.tuple #[.slice none 0 0, .int .i64 0, .bool true, .bool true])) w :=
    ⟨_, us, rfl, World.ownsRow_nil _ _ _ _, hr, hl, fun _ _ => rfl, Chg.refl _ w⟩
  have HP := Lib.hid P
  clear P h hr hf hz
  show Calls Try.prog 54 #[.slice sa N cap, .int .i64 (-1), .slice (some ⟨g, 0, none⟩) N N] w _
  go_enter Try.func54, Try.ntmps54
  go_wp2_with fail
  (try simp only [Exit.inBlock, Exit.then])
  refine bodyPost_ret (results_tmp4 rfl _ _ _) rfl ?_
  exact HP.out

theorem own_keep {w w' : World} {g base n : Nat} {v : Value} {xs : List Value} {e : TypeId} {s : Nat} (h : w.ownsRow base e s v n xs) (hg : g < base) (hc : Chg (fun k => k = g) w w') : w'.ownsRow base e s v n xs :=
  h.kept (row := some g) ⟨hc.os, hc.tape, hc.output, hc.size, fun k hk hne => hc.block k hk (fun e => hne (by rw [e]))⟩ (by
    cases e : v.ownBlock with
    | none => exact .inl rfl
    | some k => exact .inr (fun e2 => by have := (h.lt k e).1; injection e2 with e2; omega))

set_option maxRecDepth 100000 in
set_option maxHeartbeats 800000 in
theorem wk_node {sa : Option Addr} {N cap g : Nat} {L : List Nn} {b o : Nat} {a : Nd} {l r : BT Nd} (hN : N ≤ 300000) (hsa : ∀ k, Value.ownBlock (.slice sa N cap) = some k → k ≠ g)
    (il : WkSpec sa N cap g L l) (ir : WkSpec sa N cap g L r) : WkSpec sa N cap g L (.node b o a l r) := by
  intro w i us h hz hr hl hf ha hb
  rw [sz_node] at hb hf
  have hz0 := hz 0 _ rfl
  rw [Nat.add_zero] at hz0
  obtain ⟨c, off, rfl, hc⟩ := h.at Nn.len hz0
  have k2 : w.cell? ⟨c, off + i * 5 + 2, none⟩ = some (.int .i64 a.h) := hc 2 _ rfl
  have k3 : w.cell? ⟨c, off + i * 5 + 3, none⟩ = some (.int .i64 (zi l (i + 1))) := hc 3 _ rfl
  have k4 : w.cell? ⟨c, off + i * 5 + 4, none⟩ = some (.int .i64 (zi r (i + 1 + sz l))) := hc 4 _ rfl
  have q0 := hr.at (hf i (Nat.le_refl _) (by omega))
  have q1 := hr.fz i
  have cg : c ≠ g := hsa c rfl
  have hgl := hr.lt
  have hN0 : i < N := by omega
  obtain ⟨al, ar, hlr, hrl, hh⟩ := ha
  have lowl : ht l < 40 ∧ ht r < 40 := by
    have h1 := al.low (by show (prs l).length ≤ _; have : sz l = (prs l).length := rfl; omega)
    have h2 := ar.low (by show (prs r).length ≤ _; have : sz r = (prs r).length := rfl; omega)
    exact ⟨h1, h2⟩
  obtain ⟨i0, hi0, hz0', hz1, hz2⟩ := info_parts info3
  have W1 : Hid (∀ w1, w.setCell ⟨g, i, none⟩ (.bool true) = w1 → Row w1 g (us.set i true) ∧ Chg (fun k => k = g) w w1 ∧ Rd Nn.cells 5 w1 (.slice (some ⟨c, off, none⟩) N cap) L) := by
    rintro w1 rfl
    have c1 := (Chg.refl (fun k => k = g) w).setCell ⟨g, i, none⟩ (.bool true) (fun _ => rfl)
    exact ⟨hr.set i true, c1, h.chg c1 (fun b hb _ => hsa b hb)⟩
  have H0 := Lib.hid (And.intro h (And.intro hz (And.intro hf (And.intro hl (And.intro hh (And.intro al ar))))))
  have H1 := Lib.hid (And.intro il (And.intro ir hsa))
  have hh2 : a.h = 1 + max (ht l : Int) (ht r) := by rw [hh]; show ((1 + max (ht l) (ht r) : Nat) : Int) = _; omega
  clear h hz hr hz0 hc hf hl al ar hh il ir hsa
  show Calls Try.prog 54 #[_, .int .i64 (i : Int), _] w _
  go_enter Try.func54, Try.ntmps54
  go_wp2_with fail
  generalize hW1 : w.setCell _ _ = w1
  obtain ⟨r1, c1, d1⟩ := W1.out w1 hW1
  have hsz1 : w1.heap.size = w.heap.size := by rw [← hW1]; simp
  clear hW1 W1
  have z1 : Hid (∀ j z, (zlist l (i + 1))[j]? = some z → L[i + 1 + j]? = some (nof z)) := by
    intro j z hj
    have := H0.out.2.1 (j + 1) z (by
      show (zlist l (i + 1) ++ zlist r (i + 1 + sz l))[j]? = some z
      rw [List.getElem?_append_left (List.getElem?_eq_some_iff.1 hj).1]; exact hj)
    rw [show i + 1 + j = i + (j + 1) by omega]; exact this
  have z2 : Hid (∀ j z, (zlist r (i + 1 + sz l))[j]? = some z → L[i + 1 + sz l + j]? = some (nof z)) := by
    intro j z hj
    have := H0.out.2.1 (sz l + j + 1) z (by
      show (zlist l (i + 1) ++ zlist r (i + 1 + sz l))[sz l + j]? = some z
      rw [List.getElem?_append_right (by rw [zlist_len]; omega), zlist_len, show sz l + j - sz l = j by omega]; exact hj)
    rw [show i + 1 + sz l + j = i + (sz l + j + 1) by omega]; exact this
  refine (H1.out.1 w1 (i + 1) (us.set i true) d1 z1.out r1 (by rw [List.length_set]; exact H0.out.2.2.2.1) (fun j h1 h2 => by rw [List.getElem?_set_ne (by omega)]; exact H0.out.2.2.1 j (by omega) (by omega)) H0.out.2.2.2.2.2.1 (by omega)).mono ?_
  rintro e w2 ⟨v2, us2, rfl, o2, r2, l2, f2, c2⟩
  have d2 := d1.chg c2 (fun b hb _ => H1.out.2.2 b hb)
  have f4 : Hid (∀ j, j < i ∨ i + 1 + sz l ≤ j → us2[j]? = us[j]?) := by
    intro j hj
    rw [f2 j (by omega), List.getElem?_set_ne (by omega)]
  have C2 := c1.trans c2
  clear c1 c2 f2 r1 d1 z1
  obtain ⟨t2, p2, rfl⟩ := owns_shape o2
  have clt := World.block_lt_of_cell? w _ k2
  simp only at clt
  have k4' : w2.cell? ⟨c, off + i * 5 + 4, none⟩ = some (.int .i64 (zi r (i + 1 + sz l))) := by
    have h4 := World.block_lt_of_cell? w _ k4
    exact (World.cell?_of_block (C2.block c h4 cg)).trans k4
  have k2' : w2.cell? ⟨c, off + i * 5 + 2, none⟩ = some (.int .i64 a.h) := by
    have h4 := World.block_lt_of_cell? w _ k2
    exact (World.cell?_of_block (C2.block c h4 cg)).trans k2
  have G2 := Lib.hid (And.intro o2 (And.intro r2 (And.intro l2 (And.intro d2 C2))))
  clear o2 r2 l2 d2 C2
  go_wp2_with fail
  refine (H1.out.2.1 w2 (i + 1 + sz l) us2 G2.out.2.2.2.1 z2.out G2.out.2.1 G2.out.2.2.1 (fun j h1 h2 => by rw [f4.out j (by omega)]; exact H0.out.2.2.1 j (by omega) (by omega)) H0.out.2.2.2.2.2.2 (by omega)).mono ?_
  rintro e w3 ⟨v3, us3, rfl, o3, r3, l3, f3, c3⟩
  obtain ⟨t3, p3, rfl⟩ := owns_shape o3
  have hs2 : w.heap.size ≤ w2.heap.size := G2.out.2.2.2.2.size
  have o2' := own_keep G2.out.1 (by omega) c3
  have k2'' : w3.cell? ⟨c, off + i * 5 + 2, none⟩ = some (.int .i64 a.h) := by
    have h4 := World.block_lt_of_cell? w2 _ k2'
    exact (World.cell?_of_block (c3.block c h4 cg)).trans k2'
  have fz : ∀ j, j < i ∨ i + (sz l + 1 + sz r) ≤ j → us3[j]? = us[j]? := by
    intro j hj
    rw [f3 j (by omega), f4.out j (by omega)]
  have hs3 : w2.heap.size ≤ w3.heap.size := c3.size
  rw [hsz1] at o2'
  have G4 := Lib.hid (fun k hk => (G2.out.1.lt k hk).2)
  have G3 := Lib.hid (And.intro o2' (And.intro o3 (And.intro r3 (And.intro l3 (And.intro fz (G2.out.2.2.2.2.trans c3))))))
  clear o2' o3 r3 l3 f3 c3 fz G2 f4 z2 k2' k4'
  rw [hh2] at k2''
  have hwr : IntKind.i64.wrap (1 + max (ht l : Int) (ht r)) = 1 + max (ht l : Int) (ht r) := IntWalk.i64_in _ ⟨by omega, by omega⟩
  have hd1 : decide ((ht l : Int) - ht r ≤ 1) = true := by simp; omega
  have hd2 : decide ((ht r : Int) - ht l ≤ 1) = true := by simp; omega
  have hw1 : IntKind.i64.wrap ((ht l : Int) - ht r) = (ht l : Int) - ht r := IntWalk.i64_in _ ⟨by omega, by omega⟩
  have hw2 : IntKind.i64.wrap ((ht r : Int) - ht l) = (ht r : Int) - ht l := IntWalk.i64_in _ ⟨by omega, by omega⟩
  clear hh2 k2
  obtain ⟨mx, hmx⟩ : ∃ mx, mx = max (ht l : Int) (ht r) := ⟨_, rfl⟩
  have FIN : Hid (∀ (w4 : World) (v : Value), w4.ownsRow w.heap.size 3 1 v (sz l + 1 + sz r) (fl ic (ino l (i + 1)) ++ ic i ++ fl ic (ino r (i + 1 + sz l))) → (∀ k, k < w.heap.size → w4.heap[k]? = w3.heap[k]?) → w3.heap.size ≤ w4.heap.size → w4.os = w3.os → w4.tape = w3.tape → w4.output = w3.output →
      WkPost (.node b o a l r) i N g us w (.returned (.tuple #[v, .int .i64 (1 + mx), .bool true, .bool true])) w4) := by
    intro w4 v h1 h2 h3 h4 h5 h6
    obtain ⟨_, _, r3, l3, fz, C3⟩ := G3.out
    refine ⟨v, us3, ?_, ?_, ?_, l3, ?_, ?_⟩
    · rw [hmx]
      have : ((ht (.node b o a l r) : Nat) : Int) = 1 + max (ht l : Int) (ht r) := by show ((1 + max (ht l) (ht r) : Nat) : Int) = _; omega
      rw [this]
    · rw [sz_node]
      have : fl ic (ino (.node b o a l r) i) = fl ic (ino l (i + 1)) ++ ic i ++ fl ic (ino r (i + 1 + sz l)) := by
        show fl ic (ino l (i + 1) ++ ([i] ++ ino r (i + 1 + sz l))) = _
        rw [fl_app, fl_app, fl_one, List.append_assoc]
      rw [this]; exact h1
    · unfold Row at r3 ⊢; rw [h2 g hgl]; exact r3
    · intro j hj; exact fz j (by rw [sz_node] at hj; exact hj)
    · exact ⟨h4.trans C3.os, h5.trans C3.tape, h6.trans C3.output, Nat.le_trans C3.size h3, fun k hk hs => (h2 k hk).trans (C3.block k hk hs)⟩
  have hcase : ((ht l : Int) < ht r ∧ mx = ht r) ∨ (¬ (ht l : Int) < ht r ∧ mx = ht l) := by omega
  rw [← hmx] at k2'' hwr
  clear hmx
  rcases hcase with ⟨hmr, rfl⟩ | ⟨hmr, rfl⟩
  all_goals
    have R3 := Lib.hid G3.out.2.1
    have HL3 := G3.out.1.1
    have HR3 := R3.out.1
    rw [fl_len ic_len, ino_len] at HL3 HR3
    rcases R3.out.2 with ⟨hv3, hr0⟩ | ⟨g', cap', cur, hv3, hbg, hgg, _, _, _, _⟩
    · injection hv3 with e1 e2 e3
      subst e1
      subst e3
      rw [e2]
      go_wp2_with (at_builtin; refine wpList_append_lies _ rfl _ _ 56 rfl w.heap.size 3 i0 _ 1 8 Try.underlying56 hi0 hz0' hz1 hz2 rfl (by omega) (.slice t2 (sz l) p2) (sz l) (fl ic (ino l (i + 1))) rfl (G3.out.1.alloc _) ⟨w3.heap.size, 0, none⟩ 1 1 (ic i) rfl rfl ?ca1 (fl_one (f := ic) i ▸ ic_ones [i]) (by omega) (by unfold maxLen; omega) (by omega) ?ca2 (w3.heap.size + 1) (by simp) ?ca3)
      case ca1 => exact news0 w3 #[.int .i64 i] 3
      case ca2 => simp; omega
      case ca3 =>
        intro g4 cap4 w4 hown4 hgrow4 hat4 hlt4
        have F1 := FIN.out w4 (.slice (some ⟨g4, 0, none⟩) (sz l + 1) cap4) (by
          have : fl ic (ino r (i + 1 + sz l)) = [] := List.eq_nil_of_length_eq_zero (by rw [fl_len ic_len, ino_len]; omega)
          rw [this, hr0, List.append_nil]; exact hown4) (fun k hk => (hgrow4.block k (by simp; omega) (fun e => by have := (G3.out.1.lt k e.symm).1; omega)).trans (heap_alloc_old w3 _ (by omega))) (by have := hgrow4.size; simp at this; omega) hgrow4.os hgrow4.tape hgrow4.output
        have k5 : w4.cell? ⟨c, off + i * 5 + 2, none⟩ = w3.cell? ⟨c, off + i * 5 + 2, none⟩ := by
          exact World.cell?_of_block ((hgrow4.block c (by simp; omega) (fun e => by have := (G3.out.1.lt c e.symm).1; omega)).trans (heap_alloc_old w3 _ (by omega)))
        rw [k2''] at k5
        have O4 := Lib.hid hown4
        have HF1 := Lib.hid F1
        clear hown4 hgrow4 hat4 F1 k2''
        go_wp2_with (at_builtin; refine wpList_append_own_none rfl _ _ 56 rfl w.heap.size 3 i0 1 Try.underlying56 hi0 (.slice (some ⟨g4, 0, none⟩) (sz l + 1) cap4) (sz l + 1) _ rfl O4.out rfl ?_)
        go_quiet (fail)
        go_wp2_with fail
        (try simp only [Exit.inBlock, Exit.then])
        refine bodyPost_ret (results_tmp4 rfl _ _ _) rfl ?_
        exact HF1.out.drewN _
    · injection hv3 with e1 e2 e3
      subst e1
      subst e3
      go_wp2_with (at_builtin; refine wpList_append_lies _ rfl _ _ 56 rfl w.heap.size 3 i0 _ 1 8 Try.underlying56 hi0 hz0' hz1 hz2 rfl (by omega) (.slice t2 (sz l) p2) (sz l) (fl ic (ino l (i + 1))) rfl (G3.out.1.alloc _) ⟨w3.heap.size, 0, none⟩ 1 1 (ic i) rfl rfl ?cb1 (fl_one (f := ic) i ▸ ic_ones [i]) (by omega) (by unfold maxLen; omega) (by omega) ?cb2 (w3.heap.size + 1) (by simp) ?cb3)
      case cb1 => exact news0 w3 #[.int .i64 i] 3
      case cb2 => simp; omega
      case cb3 =>
        intro g4 cap4 w4 hown4 hgrow4 hat4 hlt4
        have o5 := (R3.out.alloc (.cells #[.int .i64 i] 3)).kept hgrow4 (.inr (fun e => by have := (R3.out.lt g' rfl).1; have := G4.out g' e.symm; omega))
        have k5 : w4.cell? ⟨c, off + i * 5 + 2, none⟩ = w3.cell? ⟨c, off + i * 5 + 2, none⟩ := by
          exact World.cell?_of_block ((hgrow4.block c (by simp; omega) (fun e => by have := (G3.out.1.lt c e.symm).1; omega)).trans (heap_alloc_old w3 _ (by omega)))
        have B4 := Lib.hid (And.intro (fun k (hk : k < w.heap.size) => (hgrow4.block k (by simp; omega) (fun e => by have := (G3.out.1.lt k e.symm).1; omega)).trans (heap_alloc_old w3 _ (by omega))) (And.intro (show w3.heap.size ≤ w4.heap.size by have := hgrow4.size; simp at this; omega) (And.intro hgrow4.os (And.intro hgrow4.tape hgrow4.output))))
        rw [k2''] at k5
        have O4 := Lib.hid hown4
        have O5 := Lib.hid o5
        have hg4 := (hown4.lt g4 rfl).1
        clear hown4 hgrow4 hat4 k2'' o5
        have hs4 := B4.out.2.1
        go_wp2_with (at_builtin; refine wpList_append_own_at _ rfl _ _ 56 rfl w.heap.size 3 i0 _ 1 8 Try.underlying56 hi0 hz0' hz1 hz2 rfl ?d7 (.slice (some ⟨g4, 0, none⟩) (sz l + 1) cap4) (sz l + 1) _ rfl O4.out ⟨g', 0, none⟩ (sz r) p3 (fl ic (ino r (i + 1 + sz l))) rfl ?e2 ?e3 ?e4 ?e5 ?e6 ?e7 ?cc3)
        case d7 => omega
        case e2 => rw [fl_len ic_len, ino_len]
        case e3 => exact (O5.out.cells rfl)
        case e4 => exact (ic_ones _)
        case e5 => unfold maxLen; omega
        case e6 => omega
        case e7 => omega
        case cc3 =>
          intro v5 w5 hown5 hgrow5 hnil5 hat5
          obtain ⟨t5, p5, rfl⟩ := owns_shape hown5
          have F5 := FIN.out w5 (.slice t5 (sz l + 1 + sz r) p5) (by rw [List.append_assoc]; exact hown5) (fun k hk => (hgrow5.block k (by omega) (fun e => by have e2 : k = g4 := Option.some.inj e; omega)).trans (B4.out.1 k hk)) (Nat.le_trans B4.out.2.1 hgrow5.size) (hgrow5.os.trans B4.out.2.2.1) (hgrow5.tape.trans B4.out.2.2.2.1) (hgrow5.output.trans B4.out.2.2.2.2)
          have k6 : w5.cell? ⟨c, off + i * 5 + 2, none⟩ = w4.cell? ⟨c, off + i * 5 + 2, none⟩ := by
            exact World.cell?_of_block (hgrow5.block c (by show c < _; omega) (fun e => by have e2 : c = g4 := Option.some.inj e; omega))
          rw [k5] at k6
          have HF := Lib.hid F5
          clear hown5 hgrow5 hnil5 hat5 F5 k5
          go_wp2_with fail
          go_quiet (fail)
          go_wp2_with fail
          (try simp only [Exit.inBlock, Exit.then])
          refine bodyPost_ret (results_tmp4 rfl _ _ _) rfl ?_
          exact HF.out.drewN _

theorem wk_any {sa : Option Addr} {N cap g : Nat} {L : List Nn} (hN : N ≤ 300000) (hsa : ∀ k, Value.ownBlock (.slice sa N cap) = some k → k ≠ g) : ∀ u : BT Nd, WkSpec sa N cap g L u
  | .nil => wk_nil
  | .node b o a l r => wk_node hN hsa (wk_any hN hsa l) (wk_any hN hsa r)

end Go.Proofs.Ytahghidbadpkeaa
