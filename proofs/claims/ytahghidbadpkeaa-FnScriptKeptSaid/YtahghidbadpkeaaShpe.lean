/- The walks of spec.Shape, spec.Has and spec.IsBalanced at the nodes of a tree. -/
import Derived.Test.YtahghidbadpkeaaWalk
import Derived.Deep.RegionWith
import Derived.Deep.Onto
import Derived.Deep.RegionHeld3
import Derived.Deep.DeepCutAuto
set_option linter.unusedVariables false
set_option linter.unusedSimpArgs false
namespace Go.Proofs.Ytahghidbadpkeaa
open Go.Deep Go.RowKit

def pOf (t : BT Nd) : List (Int × Int) := (prs t).map (fun p => (p.1, p.2.getD 0))
theorem ino_map (f : Nat → Int × Int) : ∀ (u : BT Nd) (i : Nat), (∀ j z, (zlist u i)[j]? = some z → f (i + j) = (z.k, z.d.getD 0)) → (ino u i).map f = pOf u
  | .nil, i, h => rfl
  | .node b o a l r, i, h => by
    have h0 := h 0 _ rfl
    have hl := ino_map f l (i + 1) (fun j z hj => by
      have := h (j + 1) z (by
        show (zlist l (i + 1) ++ zlist r (i + 1 + sz l))[j]? = some z
        rw [List.getElem?_append_left (List.getElem?_eq_some_iff.1 hj).1]; exact hj)
      rw [show i + 1 + j = i + (j + 1) by omega]; exact this)
    have hr := ino_map f r (i + 1 + sz l) (fun j z hj => by
      have := h (sz l + j + 1) z (by
        show (zlist l (i + 1) ++ zlist r (i + 1 + sz l))[sz l + j]? = some z
        rw [List.getElem?_append_right (by rw [zlist_len]; omega), zlist_len, show sz l + j - sz l = j by omega]; exact hj)
      rw [show i + 1 + sz l + j = i + (sz l + j + 1) by omega]; exact this)
    simp only [ino, List.map_append, List.map_cons, hl, hr, pOf, prs]
    rw [show i = i + 0 by rfl, h0]
theorem ino_lt : ∀ (u : BT Nd) (i : Nat), ∀ j ∈ ino u i, i ≤ j ∧ j < i + sz u
  | .nil, i, j, h => by simp [ino] at h
  | .node b o a l r, i, j, h => by
    simp only [ino, List.mem_append, List.mem_cons] at h
    rw [sz_node]
    rcases h with h | rfl | h
    · have := ino_lt l _ j h; omega
    · omega
    · have := ino_lt r _ j h; omega
theorem pOf_len (t : BT Nd) : (pOf t).length = sz t := by simp [pOf, sz]

/-- What lies at a place. -/
def pk (t : BT Nd) (j : Nat) : Int × Int := (((zlist t 0)[j]?).map (fun z => (z.k, z.d.getD 0))).getD (0, 0)
theorem pk_all (t : BT Nd) : (ino t 0).map (pk t) = pOf t := ino_map _ t 0 (fun j z h => by simp [pk, h])

def SwPost (t : BT Nd) (w : World) (e : Ending) (w' : World) : Prop :=
  ∃ va vc, e = .returned (.tuple #[.slice va (sz t) vc, .int .i64 (ht t), .bool true, .bool true]) ∧ Hid (w'.ownsRow w.heap.size 3 1 (.slice va (sz t) vc) (sz t) (fl ic (ino t 0)) ∧ Below w.heap.size w w')

theorem walk_all {w w1 : World} {sa : Option Addr} {cap g : Nat} {t : BT Nd} (h : Rd Nn.cells 5 w (.slice sa (sz t) cap) (nlist t)) (ha : Avl t) (hn : sz t ≤ 300000) (hb : Below w.heap.size w w1) (hg : w.heap.size ≤ g) (hr : Row w1 g (List.replicate (sz t) false)) :
    Calls Try.prog 54 #[.slice sa (sz t) cap, .int .i64 (zi t 0), .slice (some ⟨g, 0, none⟩) (sz t) (sz t)] w1 (SwPost t w) := by
  by_cases hz : t = .nil
  · subst hz
    refine (wk_nil (L := []) w1 0 [] ⟨sa, cap, rfl, .inl rfl⟩ (fun j z h => by simp [zlist] at h) (by exact hr) rfl (fun j h1 h2 => by have : sz .nil = 0 := rfl; omega) trivial (Nat.le_refl 0)).mono ?_
    rintro e w2 ⟨v, us', rfl, o, _, _, _, c⟩
    obtain ⟨va, vc, rfl⟩ := owns_shape o
    exact ⟨va, vc, rfl, World.ownsRow.mono o hb.size, hb.trans (c.below (B := w.heap.size) hb.size (fun k hk => by omega))⟩
  · have hsa : ∀ k, Value.ownBlock (.slice sa (sz t) cap) = some k → k < w.heap.size := by
      intro k hk
      obtain ⟨a', cap', e, h2⟩ := h
      injection e with e1 e2 e3
      subst e1
      rcases h2 with h2 | ⟨b, off, rfl, h2⟩
      · have := nlist_len t; rw [h2] at this; have := sz_pos hz; simp at *; omega
      · injection hk with hk
        subst hk
        have hpos : 0 < (fl Nn.cells (nlist t)).length := by rw [fl_len Nn.len, nlist_len]; have := sz_pos hz; omega
        exact World.block_lt_of_cell? w _ (h2 0 _ (List.getElem?_eq_getElem hpos))
    refine (wk_any (N := sz t) (cap := cap) (g := g) (L := nlist t) hn (fun k hk => by have := hsa k hk; omega) t w1 0 _ (h.below hb) (fun j z hj => by simp [nlist, hj]) hr (by simp) (fun j _ h2 => by simp at h2; simp [List.getElem?_replicate, h2]) ha (by omega)).mono ?_
    rintro e w2 ⟨v, us', rfl, o, _, _, _, c⟩
    obtain ⟨va, vc, rfl⟩ := owns_shape o
    exact ⟨va, vc, rfl, World.ownsRow.mono o hb.size, hb.trans (c.below (B := w.heap.size) hb.size (fun k hk => by omega))⟩

theorem below_one {w w1 : World} (h : Below w.heap.size w.drew w1) (o : Obj) : Below w.heap.size w (w1.alloc o) :=
  (((Below.refl w.heap.size w).trans (⟨rfl, rfl, rfl, Nat.le_refl _, fun _ _ => rfl⟩ : Below w.heap.size w w.drew)).trans h).alloc h.size _
theorem below_two {w w1 : World} {o : Obj} (h : Below w.heap.size (w.alloc o).drew w1) : Below w.heap.size w w1 :=
  (((Below.refl w.heap.size w).alloc (Nat.le_refl _) o).trans (⟨rfl, rfl, rfl, Nat.le_refl _, fun _ _ => rfl⟩ : Below w.heap.size (w.alloc o) (w.alloc o).drew)).trans h
def SsPost (t : BT Nd) (w : World) (e : Ending) (w' : World) : Prop :=
  ∃ v, e = .returned (.tuple #[v, .int .i64 (ht t), .bool true, .bool true]) ∧ Rd pc 2 w' v (pOf t) ∧ Below w.heap.size w w'

set_option maxRecDepth 100000 in
set_option maxHeartbeats 800000 in
theorem Shape_spec {w : World} {v : Value} {t : BT Nd} (h : Rd Nn.cells 5 w v (nlist t)) (ha : Avl t) (hn : sz t ≤ 300000) : Calls Try.prog 32 #[v] w (SsPost t w) := by
  obtain ⟨sa, cap, hv⟩ := h.shape
  rw [nlist_len] at hv
  subst hv
  obtain ⟨i0, hi0, hz0, hz1, hz2⟩ := info_parts info31
  have RD := Lib.hid h
  have hmk := run_make_row' (P := Try.prog) 34 4 (.bool false) 1 Try.underlying34 info4 rfl .i64 .i64 (sz t) (by omega) (by omega)
  have RA : Hid (∀ W, Below w.heap.size w W → Calls Try.prog 55 #[.slice sa (sz t) cap] W (fun e w' => e = .returned (.int .i64 (zi t 0)) ∧ Below W.heap.size W w')) := fun W hb => root_any (h.below hb) hn
  have WA : Hid (∀ w1 g, Below w.heap.size w w1 → w.heap.size ≤ g → Row w1 g (List.replicate (sz t) false) → Calls Try.prog 54 #[.slice sa (sz t) cap, .int .i64 (zi t 0), .slice (some ⟨g, 0, none⟩) (sz t) (sz t)] w1 (SwPost t w)) := fun w1 g hb hg hr => walk_all h ha hn hb hg hr
  clear h ha
  go_enter Try.func32, Try.ntmps32
  go_upto_region 1 with (fail)
  go_cut [6, 7, 8, 9] (fun a b c d wx => ∃ va vc, a = .slice va (sz t) vc ∧ b = .int .i64 (ht t) ∧ c = .bool true ∧ d = .bool true ∧ Hid (wx.ownsRow w.heap.size 3 1 (.slice va (sz t) vc) (sz t) (fl ic (ino t 0)) ∧ Below w.heap.size w wx))
  case first =>
    go_region_with (first
      | (go_at_call 55
         refine (RA.out _ ?_).mono ?_
         · first
           | exact (Below.refl _ w).trans ⟨rfl, rfl, rfl, Nat.le_refl _, fun _ _ => rfl⟩
           | exact ((Below.refl _ w).alloc (Nat.le_refl _) _).trans ⟨rfl, rfl, rfl, Nat.le_refl _, fun _ _ => rfl⟩
         rintro e w1 ⟨rfl, hb1⟩)
      | (go_at_call 54
         go_loud (
           refine (WA.out _ _ ?_ ?_ ?_).mono ?_
           · first
             | exact below_one hb1 _
             | exact below_two (hb1.mono (by simp))
           · first
             | exact hb1.size
             | exact Nat.le_refl _
           · first
             | exact Row.made _ _
             | exact (hb1.block w.heap.size (by simp)).trans (Row.made _ _)
           rintro e w2 ⟨va, vc, rfl, o2⟩)))
    all_goals (go_wp2_with fail; simp only [Act.put, List.getElem_toArray, List.getElem_cons_succ, List.getElem_cons_zero, List.setIfInBounds_toArray, List.set_cons_zero, List.set_cons_succ]; go_meet; exact ⟨va, vc, rfl, rfl, rfl, rfl, o2⟩)
  case rest =>
    obtain ⟨va, vc, rfl, rfl, rfl, rfl, o2⟩ := hcut
    clear hmk RA WA
    go_wp2_with fail
    go_loopg [10, 37] (sz t) (fun k out i wr => ∃ j : Nat, j ≤ sz t ∧ k = sz t - j ∧ i = .int .i64 j ∧ ∃ oa ocap, out = .slice oa j ocap ∧ Hid (wr.ownsRow wc.heap.size 31 2 (.slice oa j ocap) j (fl pc ((pOf t).take j)) ∧ Below wc.heap.size wc wr))
    case atStart =>
      refine ⟨0, Nat.zero_le _, rfl, rfl, _, _, rfl, ?_, (Below.refl _ wc).alloc (Nat.le_refl _) _⟩
      exact ⟨by simp [fl], .inr ⟨wc.heap.size, 0, #[], rfl, Nat.le_refl _, heap_alloc_new wc _, Nat.le_refl _, by simp [maxLen], rfl, by simp [fl]⟩⟩
    case round =>
      obtain ⟨j, hj, rfl, rfl, oa, ocap, rfl, ho⟩ := hrel
      by_cases hjn : j < sz t
      · obtain ⟨i, hi⟩ : ∃ i, (ino t 0)[j]? = some i := ⟨_, List.getElem?_eq_getElem (by rw [ino_len]; exact hjn)⟩
        have hil := (ino_lt t 0 i (List.mem_of_getElem? hi)).2
        rw [Nat.zero_add] at hil
        obtain ⟨z, hz⟩ : ∃ z, (zlist t 0)[i]? = some z := ⟨_, List.getElem?_eq_getElem (by rw [zlist_len]; exact hil)⟩
        have hzn : (nlist t)[i]? = some (nof z) := by simp [nlist, hz]
        obtain ⟨b, off, rfl, hc⟩ := (RD.out.below o2.out.2).at Nn.len hzn
        have hbl : b < wc.heap.size := World.block_lt_of_cell? wc _ (hc 0 _ rfl)
        have hbk := ho.out.2.block b hbl
        obtain ⟨vb, voff, rfl, hv⟩ := ((Rd.of_own ic_len (L := ino t 0) (by rw [ino_len]; exact o2.out.1)).below ho.out.2 : Rd ic 1 wr (.slice va (sz t) vc) (ino t 0)).at ic_len hi
        have k0 : wr.cell? ⟨b, off + i * 5, none⟩ = some (.int .i32 z.k) := (World.cell?_of_block hbk).trans (hc 0 _ rfl)
        have k1 : wr.cell? ⟨b, off + i * 5 + 1, none⟩ = some (.int .i64 (z.d.getD 0)) := (World.cell?_of_block hbk).trans (hc 1 _ rfl)
        have k2 : wr.cell? ⟨vb, voff + j, none⟩ = some (.int .i64 i) := by have := hv 0 _ rfl; rw [Nat.mul_one] at this; exact this
        have hp : (pOf t)[j]? = some (z.k, z.d.getD 0) := by rw [← pk_all]; simp [hi, pk, hz]
        have hi0' : (0 : Int) ≤ (i : Int) := Int.natCast_nonneg _
        have hi1 : (i : Int) < (sz t : Int) := by omega
        have hsr := ho.out.2.size
        have hob : ∀ k, (Value.slice oa j ocap).ownBlock = some k → wc.heap.size ≤ k ∧ k < wr.heap.size := fun k hk => ho.out.1.lt k hk
        have hob' : some b ≠ (Value.slice oa j ocap).ownBlock := fun e => by have := (hob b e.symm).1; omega
        have hbr : b < wr.heap.size := by omega
        have HP := Lib.hid (And.intro hp hob)
        have O := Lib.hid ho.out.1
        clear hc hv hzn hz hi hbk hp hob
        go_wp2_with fail
        go_region_held3 (fun w' => w'.cell? ⟨b, off + i * 5, none⟩ = some (.int .i32 z.k) ∧ w'.cell? ⟨b, off + i * 5 + 1, none⟩ = some (.int .i64 (z.d.getD 0)))
          (first
            | go_keep
            | (go_split_ands
               refine ⟨?_, ?_⟩
               · (rw [hgrow.cell_far _ (by simp; omega) hob']; assumption)
               · (rw [hgrow.cell_far _ (by simp; omega) hob']; assumption)))
          ((refine step_append_lies _ (by rfl) _ _ _ (by rfl) wc.heap.size 31 i0 _ 2 16 Try.underlying22 hi0 hz0 hz1 hz2 rfl (by omega) (.slice oa j ocap) j (fl pc ((pOf t).take j)) (by rfl) ((O.out.alloc _).drew)
              ⟨wr.heap.size, 0, none⟩ 1 1 (pc (z.k, z.d.getD 0)) (by rfl) (by rfl) (World.news_of_block (cs := #[.int .i32 z.k, .int .i64 (z.d.getD 0)]) (t := 31) (fr := (0, 0)) (heap_alloc_new wr _)) (pc_one _)
              (by omega) (by unfold maxLen; omega) (by omega) (by simp; omega) (wr.heap.size + 1) (by simp) ?_; intro gg cap1 w1 hown1 hgrow hat hlt))
        have R := Lib.hid (And.intro hown1 (And.intro hgrow hlt))
        clear hown1 hgrow hat hlt
        go_wp2_with fail
        go_roundg (sz t - (j + 1))
        case measure => omega
        case rel =>
          obtain ⟨r1, r2, r3⟩ := R.out
          obtain ⟨hp, hob⟩ := HP.out
          refine ⟨j + 1, by omega, rfl, by go_num, _, _, rfl, ?_, ?_⟩
          · have e : (pOf t).take (j + 1) = (pOf t).take j ++ [(z.k, z.d.getD 0)] := by rw [List.take_add_one, hp]; rfl
            rw [e, fl_app, fl_one]; exact r1
          · have B1 : Below wc.heap.size wc (wr.alloc (.cells #[.int .i32 z.k, .int .i64 (z.d.getD 0)] 31)).drew :=
              (ho.out.2.alloc hsr _).trans ⟨rfl, rfl, rfl, Nat.le_refl _, fun _ _ => rfl⟩
            exact B1.grown r2 (by simp; omega) (fun k hk => (hob k hk).1)
      · have hj' : j = sz t := by omega
        subst hj'
        go_wp2_with fail
        (try simp only [Exit.inBlock, Exit.then])
        refine bodyPost_ret (results_tmp4 rfl _ _ _) rfl ?_
        have hl : (pOf t).take (sz t) = pOf t := List.take_of_length_le (by rw [pOf_len]; exact Nat.le_refl _)
        have o1 := ho.out.1
        rw [hl] at o1
        have hb := o2.out.2.trans (ho.out.2.mono o2.out.2.size)
        refine ⟨_, rfl, ?_, ?_⟩
        · exact (Rd.of_own pc_len (by rw [pOf_len]; exact o1))
        · exact hb

end Go.Proofs.Ytahghidbadpkeaa
