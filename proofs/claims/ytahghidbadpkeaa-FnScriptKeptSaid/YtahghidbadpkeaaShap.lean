/- The walks of ZZShape and impl.shape: the nodes of a tree as plain data. -/
import Derived.Test.YtahghidbadpkeaaZzwk
import Derived.Test.YtahghidbadpkeaaFlat
set_option linter.unusedVariables false
set_option linter.unusedSimpArgs false
namespace Go.Proofs.Ytahghidbadpkeaa
open Go.Deep Go.RowKit

theorem run_ta_ok (v : Value) (w : World) : (Instr.typeAssert (.iface 3 v) 20 3 true).run Try.prog w = .ok (.tuple #[v, .bool true]) w := by
  simp [Instr.typeAssert, run_underlying Try.underlying3, go_sem, Result.andThen]
theorem run_ta (v : Value) (w : World) : (Instr.typeAssert (.iface 3 v) 20 3 false).run Try.prog w = .ok v w := by
  simp [Instr.typeAssert, run_underlying Try.underlying3, go_sem, Result.andThen]

theorem zflat_fl : ∀ A : List Zn, zflat A = fl Zn.cells A
  | [] => rfl
  | z :: A => by simp only [zflat, fl, zflat_fl A]
theorem Zn.len (z : Zn) : z.cells.length = 5 := rfl

theorem info84 : (Try.prog.info? 84).map (fun i => (i.zero, i.size, i.bytes)) = some (some (.agg #[.int .i32 0, .int .i64 0, .int .i64 0, .int .i64 0, .int .i64 0]), 5, 40) := by kernel_rfl

def ZsPost (t : BT Nd) (m : Int) (w : World) (e : Ending) (w' : World) : Prop :=
  ∃ v, e = .returned (.tuple #[v, .int .i64 m]) ∧ w'.ownsRow (w.heap.size + 1) 93 5 v (sz t) (fl Zn.cells (zlist t 0)) ∧ Below w.heap.size w w'

set_option maxRecDepth 100000 in
set_option maxHeartbeats 400000 in
theorem ZZShape_any {w : World} {tb : Nat} {t : BT Nd} {m : Int} (g : Hd w tb (pt t) m) (H : Holds w t) (hn : sz t ≤ 300000) : Calls Try.prog 57 #[.pointer (some ⟨tb, 0, none⟩)] w (ZsPost t m w) := by
  have c0 := g.c0
  have hlt := g.lt
  have G := Lib.hid g
  have Z := Lib.hid (zz_any t w.heap.size (fun k hk => H.lt k hk) (w.alloc (.cells #[.slice none 0 0] 87)) 0 [] (.slice none 0 0) rfl (by omega) (H.alloc _) (heap_alloc_new w _) (World.ownsRow_nil _ _ _ _))
  clear g H
  go_enter Try.func57, Try.ntmps57
  go_wp2_with fail
  refine Z.out.mono ?_
  rintro e w1 ⟨v', rfl, q1, q2, q3⟩
  have hd : Hd w1 tb (pt t) m := (G.out.alloc _).chg (Chg.of_below q3) (Nat.not_le.2 hlt)
  have d1 := hd.c1
  have f0 : w1.cell? ⟨w.heap.size, 0, none⟩ = some v' := by simp [World.cell?, q1]
  rw [Nat.zero_add, List.nil_append, zflat_fl] at q2
  have Q := Lib.hid (And.intro q2 (((Below.refl _ w).alloc (Nat.le_refl _) _).trans q3))
  clear q1 q2 q3 hd
  go_wp2_with fail
  go_quiet (fail)
  go_wp2_with fail
  go_ret2
  exact ⟨v', rfl, Q.out.1, Q.out.2.trans ⟨rfl, rfl, rfl, Nat.le_refl _, fun _ _ => rfl⟩⟩

def nof (z : Zn) : Nn := ⟨z.k, z.d.getD 0, z.h, z.l, z.r⟩
/-- What impl.shape shows of a tree. -/
def nlist (t : BT Nd) : List Nn := (zlist t 0).map nof
theorem nlist_len (t : BT Nd) : (nlist t).length = sz t := by simp [nlist, zlist_len]

def ShPost (t : BT Nd) (w : World) (e : Ending) (w' : World) : Prop :=
  ∃ v, e = .returned v ∧ w'.ownsRow w.heap.size 84 5 v (sz t) (fl Nn.cells (nlist t)) ∧ Below w.heap.size w w'

set_option maxRecDepth 100000 in
set_option maxHeartbeats 400000 in
theorem shape_any {w : World} {tb : Nat} {t : BT Nd} {m : Int} (g : Hd w tb (pt t) m) (H : Holds w t) (hn : sz t ≤ 300000) (hd : ∀ z ∈ zlist t 0, z.d.isSome = true ∧ 0 ≤ z.h ∧ z.h ≤ 100) : Calls Try.prog 41 #[.pointer (some ⟨tb, 0, none⟩)] w (ShPost t w) := by
  have hta := run_ta_ok
  have Z := Lib.hid (fun (o : Obj) => ZZShape_any (g.alloc o) (H.alloc o) hn)
  obtain ⟨i0, hi0, hz0, hz1, hz2⟩ := info_parts info84
  clear g H
  go_enter Try.func41, Try.ntmps41
  go_wp2_with fail
  refine (Z.out _).mono ?_
  rintro e w1 ⟨v, rfl, q2, q3⟩
  obtain ⟨sa, cap, rfl⟩ := owns_shape q2
  have Q := Lib.hid (And.intro q2 q3)
  clear q2 q3
  go_wp2_with fail
  go_loopg [3, 18] (sz t) (fun k out i wr => ∃ j : Nat, j ≤ sz t ∧ k = sz t - j ∧ i = .int .i64 j ∧ ∃ oa ocap, out = .slice oa j ocap ∧ Hid (wr.ownsRow w.heap.size 84 5 (.slice oa j ocap) j (fl Nn.cells ((nlist t).take j)) ∧ (.slice oa j ocap : Value).ownBlock ≠ (.slice sa (sz t) cap : Value).ownBlock ∧ Chg (fun b => w.heap.size ≤ b ∧ (.slice sa (sz t) cap : Value).ownBlock ≠ some b) w1 wr))
  case atStart =>
    refine ⟨0, Nat.zero_le _, rfl, rfl, _, _, rfl, ?_, ?_, Chg.refl _ _⟩
    · have h0 := Q.out.2.block w.heap.size (by simp)
      have h1 : w1.heap[w.heap.size]? = some (.cells #[] 84) := h0.trans (heap_alloc_new w _)
      exact ⟨by simp [fl], .inr ⟨w.heap.size, 0, #[], rfl, Nat.le_refl _, h1, Nat.le_refl _, by simp [maxLen], rfl, by simp [fl]⟩⟩
    · intro e
      have := (Q.out.1.lt _ e.symm).1
      simp at this
      omega
  case round =>
    obtain ⟨j, hj, rfl, rfl, oa, ocap, rfl, ho⟩ := hrel
    by_cases hjn : j < sz t
    · obtain ⟨z, hz⟩ : ∃ z, (zlist t 0)[j]? = some z := ⟨_, List.getElem?_eq_getElem (by rw [zlist_len]; exact hjn)⟩
      obtain ⟨b, off, rfl, hc⟩ := (((Rd.of_own Zn.len (L := zlist t 0) (by rw [zlist_len]; exact Q.out.1)).chg ho.out.2.2 (fun b hb _ h => h.2 hb)) : Rd Zn.cells 5 wr (.slice sa (sz t) cap) (zlist t 0)).at Zn.len hz
      obtain ⟨hz1', hz2', hz3'⟩ := hd z (List.mem_of_getElem? hz)
      obtain ⟨k, d, h, l, r⟩ := z
      cases d with
      | none => cases hz1'
      | some x =>
        have k0 : wr.cell? ⟨b, off + j * 5, none⟩ = some (.int .i32 k) := hc 0 _ rfl
        have k1 : wr.cell? ⟨b, off + j * 5 + 1, none⟩ = some (.iface 3 (.int .i64 x)) := hc 1 _ rfl
        have k2 : wr.cell? ⟨b, off + j * 5 + 2, none⟩ = some (.int .i8 h) := hc 2 _ rfl
        have k3 : wr.cell? ⟨b, off + j * 5 + 3, none⟩ = some (.int .i64 l) := hc 3 _ rfl
        have k4 : wr.cell? ⟨b, off + j * 5 + 4, none⟩ = some (.int .i64 r) := hc 4 _ rfl
        have hb1 : 0 ≤ h ∧ h ≤ 100 := ⟨hz2', hz3'⟩
        have HZ := Lib.hid hz
        clear hc hz hz1' hz2' hz3'
        go_wp2_with (at_builtin; refine wpList_append_lies _ rfl _ _ 26 rfl w.heap.size 84 i0 _ 5 40 Try.underlying26 hi0 hz0 hz1 hz2 rfl (by omega) (.slice oa j ocap) j (fl Nn.cells ((nlist t).take j)) rfl ((ho.out.1.alloc _).alloc _) ⟨wr.heap.size + 1, 0, none⟩ 1 1 (Nn.cells ⟨k, x, h, l, r⟩) rfl rfl ?cc1 (Nn.one _) (by omega) (by unfold maxLen; omega) (by omega) ?cc2 (wr.heap.size + 2) (by simp) ?cc3)
        case cc1 => exact news1 wr _ #[.int .i32 k, .int .i64 x, .int .i64 h, .int .i64 l, .int .i64 r] 84
        case cc2 => have := ho.out.2.2.size; have := Q.out.2.size; simp at this ⊢; omega
        case cc3 =>
          intro g3 cap3 w3 hown3 hgrow3 hat3 hlt3
          have R := Lib.hid (And.intro hown3 (And.intro hgrow3 hat3))
          clear hown3 hgrow3 hat3
          go_wp2_with fail
          go_roundg (sz t - (j + 1))
          case measure => omega
          case rel =>
            obtain ⟨r1, r2, r3⟩ := R.out
            obtain ⟨o1, o2, o3⟩ := ho.out
            refine ⟨j + 1, by omega, rfl, by go_num, _, _, rfl, ?_, ?_, ?_⟩
            · have e : (nlist t).take (j + 1) = (nlist t).take j ++ [⟨k, x, h, l, r⟩] := by
                rw [List.take_add_one]; congr 1; simp [nlist, HZ.out, nof]
              rw [e, fl_app, fl_one]; exact r1
            · intro e
              rcases r3 with r3 | r3
              · exact o2 (r3.trans e)
              · have := World.block_lt_of_cell? wr _ k0
                cases e; simp at this; omega
            · refine (((o3.alloc _).alloc _)).grown r2 (fun k' hk' _ => ⟨(o1.lt k' hk').1, fun e => o2 (hk'.trans e.symm)⟩)
    · have hj' : j = sz t := by omega
      subst hj'
      go_wp2_with fail
      go_ret
      obtain ⟨o1, o2, o3⟩ := ho.out
      have hl : (nlist t).take (sz t) = nlist t := List.take_of_length_le (by rw [nlist_len]; exact Nat.le_refl _)
      rw [hl] at o1
      refine ⟨_, rfl, o1, ?_⟩
      have h0 := Q.out.2
      rw [World.size_alloc] at h0
      exact (((Below.refl _ w).alloc (Nat.le_refl _) _).trans (h0.mono (Nat.le_succ _))).trans ((o3.mono (S' := fun b => w.heap.size ≤ b) (fun _ _ h => h.1)).below (by have := h0.size; simp at this; omega) (fun _ h => h))

end Go.Proofs.Ytahghidbadpkeaa
