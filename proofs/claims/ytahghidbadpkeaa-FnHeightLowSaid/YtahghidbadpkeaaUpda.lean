/- The walk of impl.update. -/
import Derived.Test.YtahghidbadpkeaaActs
import Derived.Deep.RegionWith
set_option linter.unusedVariables false
set_option linter.unusedSimpArgs false
namespace Go.Proofs.Ytahghidbadpkeaa
open Go.Deep Go.RowKit

/-- What an act of the kinds 0 to 3 makes of a set. -/
def updL (a : Ac) (T : Ls) : Ls :=
  if a.kd % 4 = 0 then putL a.key a.dt T else if a.kd % 4 = 1 then dropL a.key T else if a.kd % 4 = 2 then T.tail else T.dropLast

/-- The same on trees without places. -/
def updE (F : BT Nd → Ls → BT Nd) (a : Ac) (T : BT Nd) : BT Nd :=
  if a.kd % 4 = 0 then insF a.key a.dt T else if a.kd % 4 = 1 then F T (dropL a.key (prs T)) else if a.kd % 4 = 2 then F T (prs T).tail else F T (prs T).dropLast

def UpPostE (tb : Nat) (L : Ls) (E : BT Nd) (w : World) (e : Ending) (w' : World) : Prop :=
  ∃ v, e = .returned v ∧ ∃ t', Chg (fun k => k = tb ∨ w.heap.size ≤ k) w w' ∧ Good w' tb t' ∧ prs t' = L ∧ er t' = E
def UpPost (tb : Nat) (L : Ls) (w : World) (e : Ending) (w' : World) : Prop :=
  ∃ v, e = .returned v ∧ ∃ t', Chg (fun k => k = tb ∨ w.heap.size ≤ k) w w' ∧ Good w' tb t' ∧ prs t' = L

/-- Blocks of other kinds may change. -/
theorem Good.tag {S : Nat → Prop} {w w' : World} {tb : Nat} {t : BT Nd} (g : Good w tb t) (c : Chg S w w') (hS : ∀ k, S k → ∃ cs ty, w.heap[k]? = some (.cells cs ty (0, 0)) ∧ ty ≠ 96 ∧ ty ≠ 101) : Good w' tb t := by
  refine g.chg c (fun h => ?_) (fun k hk h => ?_)
  · obtain ⟨cs, ty, h1, h2, h3⟩ := hS tb h
    have h4 := (show w.heap[tb]? = _ from g.hd).symm.trans h1
    simp at h4
    exact h2 h4.2.symm
  · obtain ⟨cs, ty, h1, h2, h3⟩ := hS k h
    obtain ⟨lp, rp, d, x, y, c', m⟩ := g.H.key k hk
    have h4 := (show w.heap[k]? = _ from c').symm.trans h1
    simp at h4
    exact h3 h4.2.symm

section
variable {w : World} {g : Nat} {kd ofv wi key dt : Int} {no : Bool} {ca cb cc cm cr : Int} (h : w.heap[g]? = some (.cells #[.int .i64 kd, .int .i64 ofv, .int .i64 wi, .int .i32 key, .int .i64 dt, .bool no, .int .i64 ca, .int .i64 cb, .int .i64 cc, .int .i64 cm, .int .i64 cr] 76 (0, 0)))
include h
theorem ac_cell3 : w.cell? ⟨g, 3, none⟩ = some (.int .i32 key) := by simp [World.cell?, h]
theorem ac_cell4 : w.cell? ⟨g, 4, none⟩ = some (.int .i64 dt) := by simp [World.cell?, h]
end
section
variable {w : World} {g : Nat} {x y z : Value} (h : w.heap[g]? = some (.cells #[x, y, z] 71 (0, 0)))
include h
theorem fb_cell0 : w.cell? ⟨g, 0, none⟩ = some x := by simp [World.cell?, h]
theorem fb_cell1 : w.cell? ⟨g, 1, none⟩ = some y := by simp [World.cell?, h]
theorem fb_cell2 : w.cell? ⟨g, 2, none⟩ = some z := by simp [World.cell?, h]
theorem fb_frz : ∀ o, w.frozen? ⟨g, o, none⟩ = false := fun o => by simp [World.frozen?, h]
end
theorem upd_below {w W W' : World} {tb : Nat} (c : Chg (fun k => k = tb ∨ w.heap.size ≤ k) w W) (b : Below W.heap.size W W') : Chg (fun k => k = tb ∨ w.heap.size ≤ k) w W' := by
  refine ⟨b.os.trans c.os, b.tape.trans c.tape, b.output.trans c.output, Nat.le_trans c.size b.size, fun k hk hs => (b.block k (Nat.lt_of_lt_of_le hk c.size)).trans (c.block k hk hs)⟩
theorem upd_set {w W : World} {tb : Nat} {t : BT Nd} {x y z : Value} (c : Chg (fun k => k = tb ∨ w.heap.size ≤ k) w W) (g : Good W tb t) (h : W.heap[w.heap.size + 1]? = some (.cells #[x, y, z] 71 (0, 0))) :
    (∀ a b d, Chg (fun k => k = tb ∨ w.heap.size ≤ k) w (((W.setCell ⟨w.heap.size + 1, 0, none⟩ a).setCell ⟨w.heap.size + 1, 1, none⟩ b).setCell ⟨w.heap.size + 1, 2, none⟩ d)) ∧
    (∀ a b d, Good (((W.setCell ⟨w.heap.size + 1, 0, none⟩ a).setCell ⟨w.heap.size + 1, 1, none⟩ b).setCell ⟨w.heap.size + 1, 2, none⟩ d) tb t) := by
  have hS : ¬ (w.heap.size + 1 < w.heap.size) := by omega
  refine ⟨fun a b d => ((c.setCell ⟨w.heap.size + 1, 0, none⟩ a (fun h => absurd h hS)).setCell ⟨w.heap.size + 1, 1, none⟩ b (fun h => absurd h hS)).setCell ⟨w.heap.size + 1, 2, none⟩ d (fun h => absurd h hS), fun a b d => ?_⟩
  refine g.tag (S := fun k => k = w.heap.size + 1) ((((Chg.refl (fun k => k = w.heap.size + 1) W).setCell ⟨w.heap.size + 1, 0, none⟩ a (fun _ => rfl)).setCell ⟨w.heap.size + 1, 1, none⟩ b (fun _ => rfl)).setCell ⟨w.heap.size + 1, 2, none⟩ d (fun _ => rfl)) ?_
  rintro k rfl
  exact ⟨_, 71, h, by decide, by decide⟩

set_option maxRecDepth 100000 in
set_option maxHeartbeats 3000000 in
theorem update_anyE {FF0 : BT Nd → Ls → BT Nd} (hF0 : DelFun FF0) {w : World} {tb : Nat} {t : BT Nd} (a : Ac) (g : Good w tb t) (hlen : (prs t).length ≤ 300000) (hk : a.key ≠ -2147483648) :
    Calls Try.prog 70 #[.pointer (some ⟨tb, 0, none⟩), .agg a.cells] w (UpPostE tb (updL a (prs t)) (updE FF0 a (er t)) w) := by
  have hlt := g.hd.lt
  have IN := Lib.hid (fun (W : World) (gg : Good W tb t) => Insert_anyE gg hlen a.key a.dt hk)
  have DL := Lib.hid (fun (W : World) (gg : Good W tb t) => Delete_anyE gg hlen a.key)
  have MI := Lib.hid (fun (W : World) (gg : Good W tb t) => DeleteMin_anyE gg hlen)
  have MA := Lib.hid (fun (W : World) (gg : Good W tb t) => DeleteMax_anyE gg hlen)
  have GW : Hid (∀ W, Chg (fun k => w.heap.size ≤ k) w W → Good W tb t) := fun W c => g.chg c (Nat.not_le.2 hlt) (fun k hk => Nat.not_le.2 (g.H.lt k hk))
  have UL : Hid (∀ q, a.kd % 4 = q → updL a (prs t) = if q = 0 then putL a.key a.dt (prs t) else if q = 1 then dropL a.key (prs t) else if q = 2 then (prs t).tail else (prs t).dropLast) := fun q hq => by rw [updL, hq]
  have UEL : Hid (∀ q, a.kd % 4 = q → updE FF0 a (er t) = if q = 0 then insF a.key a.dt (er t) else if q = 1 then FF0 (er t) (dropL a.key (prs t)) else if q = 2 then FF0 (er t) (prs t).tail else FF0 (er t) (prs t).dropLast) := fun q hq => by
    unfold updE
    rw [hq, prs_er]
  clear g hlen hk
  obtain ⟨kd, ofv, wi, key, dt, no, ca, cb, cc, cm, cr⟩ := a
  simp only [Ac.cells] at *
  have h4 : kd % 4 = 0 ∨ kd % 4 = 1 ∨ kd % 4 = 2 ∨ kd % 4 = 3 := by omega
  rcases h4 with h4 | h4 | h4 | h4
  · have hA : bits .and .i64 kd 3 = 0 := by rw [and3, h4]
    have U := Lib.hid (UL.out 0 h4)
    have UE := Lib.hid (UEL.out 0 h4)
    clear h4 UL UEL
    go_enter Try.func70, Try.ntmps70
    go_upto_region 3 with (fail)
    have CW : Hid (Chg (fun k => k = tb ∨ w.heap.size ≤ k) w ((w.alloc (.cells #[.int .i64 kd, .int .i64 ofv, .int .i64 wi, .int .i32 key, .int .i64 dt, .bool no, .int .i64 ca, .int .i64 cb, .int .i64 cc, .int .i64 cm, .int .i64 cr] 76)).alloc (.cells #[.int .i32 0, .int .i64 0, .bool false] 71)).drew) := (((Chg.refl _ w).alloc _).alloc _).drew
    have BX : Hid (((w.alloc (.cells #[.int .i64 kd, .int .i64 ofv, .int .i64 wi, .int .i32 key, .int .i64 dt, .bool no, .int .i64 ca, .int .i64 cb, .int .i64 cc, .int .i64 cm, .int .i64 cr] 76)).alloc (.cells #[.int .i32 0, .int .i64 0, .bool false] 71)).drew.heap[w.heap.size]? = some (.cells #[.int .i64 kd, .int .i64 ofv, .int .i64 wi, .int .i32 key, .int .i64 dt, .bool no, .int .i64 ca, .int .i64 cb, .int .i64 cc, .int .i64 cm, .int .i64 cr] 76 (0, 0))) := (Below.heap_alloc _ _ _ (by simp)).trans (heap_alloc_new w _)
    have FB : Hid (((w.alloc (.cells #[.int .i64 kd, .int .i64 ofv, .int .i64 wi, .int .i32 key, .int .i64 dt, .bool no, .int .i64 ca, .int .i64 cb, .int .i64 cc, .int .i64 cm, .int .i64 cr] 76)).alloc (.cells #[.int .i32 0, .int .i64 0, .bool false] 71)).drew.heap[w.heap.size + 1]? = some (.cells #[.int .i32 0, .int .i64 0, .bool false] 71 (0, 0))) := by
      have := heap_alloc_new (w.alloc (.cells #[.int .i64 kd, .int .i64 ofv, .int .i64 wi, .int .i32 key, .int .i64 dt, .bool no, .int .i64 ca, .int .i64 cb, .int .i64 cc, .int .i64 cm, .int .i64 cr] 76)) (.cells #[.int .i32 0, .int .i64 0, .bool false] 71)
      rw [World.size_alloc] at this
      exact this
    have G0 : Hid (Good ((w.alloc (.cells #[.int .i64 kd, .int .i64 ofv, .int .i64 wi, .int .i32 key, .int .i64 dt, .bool no, .int .i64 ca, .int .i64 cb, .int .i64 cc, .int .i64 cm, .int .i64 cr] 76)).alloc (.cells #[.int .i32 0, .int .i64 0, .bool false] 71)).drew tb t) := GW.out _ ((((Chg.refl _ w).alloc _).alloc _).drew)
    have E0 := Lib.hid (show ((w.alloc (.cells #[.int .i64 kd, .int .i64 ofv, .int .i64 wi, .int .i32 key, .int .i64 dt, .bool no, .int .i64 ca, .int .i64 cb, .int .i64 cc, .int .i64 cm, .int .i64 cr] 76)).alloc (.cells #[.int .i32 0, .int .i64 0, .bool false] 71)).drew.heap.size = w.heap.size + 2 by simp)
    go_region_with (first
      | (go_at_call 59
         go_loud (refine (IN.out _ G0.out).mono ?_)
         rintro e wN ⟨t', rfl, cN, gN, eN, EN⟩
         have EN2 := EN
         have G1 := Lib.hid (And.intro gN (And.intro eN EN2))
         have BX := Lib.hid ((cN.block _ (by rw [E0.out]; omega) (by omega)).trans BX.out)
         have FB := Lib.hid ((cN.block _ (by rw [E0.out]; omega) (by omega)).trans FB.out)
         have CW := Lib.hid (CW.out.trans (cN.mono (fun k _ h => .inl h)))
         clear gN eN cN EN EN2
         have m3 := ac_cell3 BX.out
         have m4 := ac_cell4 BX.out
         have z0 := fb_cell0 FB.out
         have z1 := fb_cell1 FB.out
         have z2 := fb_cell2 FB.out
         have f0 := fb_frz FB.out 0
         have f1 := fb_frz FB.out 1
         have f2 := fb_frz FB.out 2)
      | (go_at_call 84
         go_loud (refine (found_any _ _).mono ?_)
         rintro e wN ⟨rfl, bN⟩
         have G1 := Lib.hid (And.intro (G1.out.1.below bN) G1.out.2)
         have lt1 := (Array.getElem?_eq_some_iff.1 BX.out).1
         have lt2 := (Array.getElem?_eq_some_iff.1 FB.out).1
         have BX := Lib.hid ((bN.block _ lt1).trans BX.out)
         have FB := Lib.hid ((bN.block _ lt2).trans FB.out)
         have CW := Lib.hid (upd_below CW.out bN)
         clear bN lt1 lt2
         have m3 := ac_cell3 BX.out
         have m4 := ac_cell4 BX.out
         have z0 := fb_cell0 FB.out
         have z1 := fb_cell1 FB.out
         have z2 := fb_cell2 FB.out
         have f0 := fb_frz FB.out 0
         have f1 := fb_frz FB.out 1
         have f2 := fb_frz FB.out 2
         simp only [fnd]))
    all_goals (go_wp2_with fail
               (try simp only [Exit.inBlock, Exit.then])
               refine bodyPost_ret (results_cell_row (P := Try.prog) rfl _ _ (w.heap.size + 1) 71 #[_, _, _] (0, 0) _ rfl (found_block FB.out _ _ _) Try.underlying71 rfl (by kernel_rfl)) rfl ?_
               have cE := upd_set CW.out G1.out.1 FB.out
               exact ⟨_, rfl, t', cE.1 _ _ _, cE.2 _ _ _, by rw [G1.out.2.1, U.out]; rfl, by rw [G1.out.2.2, UE.out]; rfl⟩)
  · have hA : bits .and .i64 kd 3 = 1 := by rw [and3, h4]
    have U := Lib.hid (UL.out 1 h4)
    have UE := Lib.hid (UEL.out 1 h4)
    clear h4 UL UEL
    go_enter Try.func70, Try.ntmps70
    go_upto_region 5 with (fail)
    have CW : Hid (Chg (fun k => k = tb ∨ w.heap.size ≤ k) w ((w.alloc (.cells #[.int .i64 kd, .int .i64 ofv, .int .i64 wi, .int .i32 key, .int .i64 dt, .bool no, .int .i64 ca, .int .i64 cb, .int .i64 cc, .int .i64 cm, .int .i64 cr] 76)).alloc (.cells #[.int .i32 0, .int .i64 0, .bool false] 71)).drew) := (((Chg.refl _ w).alloc _).alloc _).drew
    have BX : Hid (((w.alloc (.cells #[.int .i64 kd, .int .i64 ofv, .int .i64 wi, .int .i32 key, .int .i64 dt, .bool no, .int .i64 ca, .int .i64 cb, .int .i64 cc, .int .i64 cm, .int .i64 cr] 76)).alloc (.cells #[.int .i32 0, .int .i64 0, .bool false] 71)).drew.heap[w.heap.size]? = some (.cells #[.int .i64 kd, .int .i64 ofv, .int .i64 wi, .int .i32 key, .int .i64 dt, .bool no, .int .i64 ca, .int .i64 cb, .int .i64 cc, .int .i64 cm, .int .i64 cr] 76 (0, 0))) := (Below.heap_alloc _ _ _ (by simp)).trans (heap_alloc_new w _)
    have FB : Hid (((w.alloc (.cells #[.int .i64 kd, .int .i64 ofv, .int .i64 wi, .int .i32 key, .int .i64 dt, .bool no, .int .i64 ca, .int .i64 cb, .int .i64 cc, .int .i64 cm, .int .i64 cr] 76)).alloc (.cells #[.int .i32 0, .int .i64 0, .bool false] 71)).drew.heap[w.heap.size + 1]? = some (.cells #[.int .i32 0, .int .i64 0, .bool false] 71 (0, 0))) := by
      have := heap_alloc_new (w.alloc (.cells #[.int .i64 kd, .int .i64 ofv, .int .i64 wi, .int .i32 key, .int .i64 dt, .bool no, .int .i64 ca, .int .i64 cb, .int .i64 cc, .int .i64 cm, .int .i64 cr] 76)) (.cells #[.int .i32 0, .int .i64 0, .bool false] 71)
      rw [World.size_alloc] at this
      exact this
    have G0 : Hid (Good ((w.alloc (.cells #[.int .i64 kd, .int .i64 ofv, .int .i64 wi, .int .i32 key, .int .i64 dt, .bool no, .int .i64 ca, .int .i64 cb, .int .i64 cc, .int .i64 cm, .int .i64 cr] 76)).alloc (.cells #[.int .i32 0, .int .i64 0, .bool false] 71)).drew tb t) := GW.out _ ((((Chg.refl _ w).alloc _).alloc _).drew)
    have E0 := Lib.hid (show ((w.alloc (.cells #[.int .i64 kd, .int .i64 ofv, .int .i64 wi, .int .i32 key, .int .i64 dt, .bool no, .int .i64 ca, .int .i64 cb, .int .i64 cc, .int .i64 cm, .int .i64 cr] 76)).alloc (.cells #[.int .i32 0, .int .i64 0, .bool false] 71)).drew.heap.size = w.heap.size + 2 by simp)
    go_region_with (first
      | (go_at_call 44
         go_loud (refine (DL.out _ G0.out).mono ?_)
         rintro e wN ⟨rfl, t', cN, gN, eN, EN⟩
         have EN2 := hF0.use G0.out EN
         have G1 := Lib.hid (And.intro gN (And.intro eN EN2))
         have BX := Lib.hid ((cN.block _ (by rw [E0.out]; omega) (by omega)).trans BX.out)
         have FB := Lib.hid ((cN.block _ (by rw [E0.out]; omega) (by omega)).trans FB.out)
         have CW := Lib.hid (CW.out.trans (cN.mono (fun k _ h => .inl h)))
         clear gN eN cN EN EN2
         have m3 := ac_cell3 BX.out
         have m4 := ac_cell4 BX.out
         have z0 := fb_cell0 FB.out
         have z1 := fb_cell1 FB.out
         have z2 := fb_cell2 FB.out
         have f0 := fb_frz FB.out 0
         have f1 := fb_frz FB.out 1
         have f2 := fb_frz FB.out 2)
      | (go_at_call 84
         go_loud (refine (found_any _ _).mono ?_)
         rintro e wN ⟨rfl, bN⟩
         have G1 := Lib.hid (And.intro (G1.out.1.below bN) G1.out.2)
         have lt1 := (Array.getElem?_eq_some_iff.1 BX.out).1
         have lt2 := (Array.getElem?_eq_some_iff.1 FB.out).1
         have BX := Lib.hid ((bN.block _ lt1).trans BX.out)
         have FB := Lib.hid ((bN.block _ lt2).trans FB.out)
         have CW := Lib.hid (upd_below CW.out bN)
         clear bN lt1 lt2
         have m3 := ac_cell3 BX.out
         have m4 := ac_cell4 BX.out
         have z0 := fb_cell0 FB.out
         have z1 := fb_cell1 FB.out
         have z2 := fb_cell2 FB.out
         have f0 := fb_frz FB.out 0
         have f1 := fb_frz FB.out 1
         have f2 := fb_frz FB.out 2
         simp only [fnd]))
    all_goals (go_wp2_with fail
               (try simp only [Exit.inBlock, Exit.then])
               refine bodyPost_ret (results_cell_row (P := Try.prog) rfl _ _ (w.heap.size + 1) 71 #[_, _, _] (0, 0) _ rfl (found_block FB.out _ _ _) Try.underlying71 rfl (by kernel_rfl)) rfl ?_
               have cE := upd_set CW.out G1.out.1 FB.out
               exact ⟨_, rfl, t', cE.1 _ _ _, cE.2 _ _ _, by rw [G1.out.2.1, U.out]; rfl, by rw [G1.out.2.2, UE.out]; rfl⟩)
  · have hA : bits .and .i64 kd 3 = 2 := by rw [and3, h4]
    have U := Lib.hid (UL.out 2 h4)
    have UE := Lib.hid (UEL.out 2 h4)
    clear h4 UL UEL
    go_enter Try.func70, Try.ntmps70
    go_wp2_with fail
    have CW : Hid (Chg (fun k => k = tb ∨ w.heap.size ≤ k) w ((w.alloc (.cells #[.int .i64 kd, .int .i64 ofv, .int .i64 wi, .int .i32 key, .int .i64 dt, .bool no, .int .i64 ca, .int .i64 cb, .int .i64 cc, .int .i64 cm, .int .i64 cr] 76)).alloc (.cells #[.int .i32 0, .int .i64 0, .bool false] 71))) := ((Chg.refl _ w).alloc _).alloc _
    have BX : Hid (((w.alloc (.cells #[.int .i64 kd, .int .i64 ofv, .int .i64 wi, .int .i32 key, .int .i64 dt, .bool no, .int .i64 ca, .int .i64 cb, .int .i64 cc, .int .i64 cm, .int .i64 cr] 76)).alloc (.cells #[.int .i32 0, .int .i64 0, .bool false] 71)).heap[w.heap.size]? = some (.cells #[.int .i64 kd, .int .i64 ofv, .int .i64 wi, .int .i32 key, .int .i64 dt, .bool no, .int .i64 ca, .int .i64 cb, .int .i64 cc, .int .i64 cm, .int .i64 cr] 76 (0, 0))) := (Below.heap_alloc _ _ _ (by simp)).trans (heap_alloc_new w _)
    have FB : Hid (((w.alloc (.cells #[.int .i64 kd, .int .i64 ofv, .int .i64 wi, .int .i32 key, .int .i64 dt, .bool no, .int .i64 ca, .int .i64 cb, .int .i64 cc, .int .i64 cm, .int .i64 cr] 76)).alloc (.cells #[.int .i32 0, .int .i64 0, .bool false] 71)).heap[w.heap.size + 1]? = some (.cells #[.int .i32 0, .int .i64 0, .bool false] 71 (0, 0))) := by
      have := heap_alloc_new (w.alloc (.cells #[.int .i64 kd, .int .i64 ofv, .int .i64 wi, .int .i32 key, .int .i64 dt, .bool no, .int .i64 ca, .int .i64 cb, .int .i64 cc, .int .i64 cm, .int .i64 cr] 76)) (.cells #[.int .i32 0, .int .i64 0, .bool false] 71)
      rw [World.size_alloc] at this
      exact this
    have G0 : Hid (Good ((w.alloc (.cells #[.int .i64 kd, .int .i64 ofv, .int .i64 wi, .int .i32 key, .int .i64 dt, .bool no, .int .i64 ca, .int .i64 cb, .int .i64 cc, .int .i64 cm, .int .i64 cr] 76)).alloc (.cells #[.int .i32 0, .int .i64 0, .bool false] 71)) tb t) := GW.out _ (((Chg.refl _ w).alloc _).alloc _)
    have E0 := Lib.hid (show ((w.alloc (.cells #[.int .i64 kd, .int .i64 ofv, .int .i64 wi, .int .i32 key, .int .i64 dt, .bool no, .int .i64 ca, .int .i64 cb, .int .i64 cc, .int .i64 cm, .int .i64 cr] 76)).alloc (.cells #[.int .i32 0, .int .i64 0, .bool false] 71)).heap.size = w.heap.size + 2 by simp)
    refine (MI.out _ G0.out).mono ?_
    rintro e wN ⟨kk, kd', rfl, t', cN, gN, eN, EN⟩
    have EN2 := hF0.use G0.out EN
    have G1 := Lib.hid (And.intro gN (And.intro eN EN2))
    have BX := Lib.hid ((cN.block _ (by rw [E0.out]; omega) (by omega)).trans BX.out)
    have FB := Lib.hid ((cN.block _ (by rw [E0.out]; omega) (by omega)).trans FB.out)
    have CW := Lib.hid (CW.out.trans (cN.mono (fun k _ h => .inl h)))
    clear gN eN cN EN EN2
    go_wp2_with fail
    refine (found_any _ _).mono ?_
    rintro e wM ⟨rfl, bN⟩
    have G1 := Lib.hid (And.intro (G1.out.1.below bN) G1.out.2)
    have lt1 := (Array.getElem?_eq_some_iff.1 BX.out).1
    have lt2 := (Array.getElem?_eq_some_iff.1 FB.out).1
    have BX := Lib.hid ((bN.block _ lt1).trans BX.out)
    have FB := Lib.hid ((bN.block _ lt2).trans FB.out)
    have CW := Lib.hid (upd_below CW.out bN)
    clear bN lt1 lt2
    have m3 := ac_cell3 BX.out
    have m4 := ac_cell4 BX.out
    have z0 := fb_cell0 FB.out
    have z1 := fb_cell1 FB.out
    have z2 := fb_cell2 FB.out
    have f0 := fb_frz FB.out 0
    have f1 := fb_frz FB.out 1
    have f2 := fb_frz FB.out 2
    simp only [fnd]
    go_wp2_with fail
    (try simp only [Exit.inBlock, Exit.then])
    refine bodyPost_ret (results_cell_row (P := Try.prog) rfl _ _ (w.heap.size + 1) 71 #[_, _, _] (0, 0) _ rfl (found_block FB.out _ _ _) Try.underlying71 rfl (by kernel_rfl)) rfl ?_
    have cE := upd_set CW.out G1.out.1 FB.out
    exact ⟨_, rfl, t', cE.1 _ _ _, cE.2 _ _ _, by rw [G1.out.2.1, U.out]; rfl, by rw [G1.out.2.2, UE.out]; rfl⟩
  · have hA : bits .and .i64 kd 3 = 3 := by rw [and3, h4]
    have U := Lib.hid (UL.out 3 h4)
    have UE := Lib.hid (UEL.out 3 h4)
    clear h4 UL UEL
    go_enter Try.func70, Try.ntmps70
    go_wp2_with fail
    have CW : Hid (Chg (fun k => k = tb ∨ w.heap.size ≤ k) w ((w.alloc (.cells #[.int .i64 kd, .int .i64 ofv, .int .i64 wi, .int .i32 key, .int .i64 dt, .bool no, .int .i64 ca, .int .i64 cb, .int .i64 cc, .int .i64 cm, .int .i64 cr] 76)).alloc (.cells #[.int .i32 0, .int .i64 0, .bool false] 71))) := ((Chg.refl _ w).alloc _).alloc _
    have BX : Hid (((w.alloc (.cells #[.int .i64 kd, .int .i64 ofv, .int .i64 wi, .int .i32 key, .int .i64 dt, .bool no, .int .i64 ca, .int .i64 cb, .int .i64 cc, .int .i64 cm, .int .i64 cr] 76)).alloc (.cells #[.int .i32 0, .int .i64 0, .bool false] 71)).heap[w.heap.size]? = some (.cells #[.int .i64 kd, .int .i64 ofv, .int .i64 wi, .int .i32 key, .int .i64 dt, .bool no, .int .i64 ca, .int .i64 cb, .int .i64 cc, .int .i64 cm, .int .i64 cr] 76 (0, 0))) := (Below.heap_alloc _ _ _ (by simp)).trans (heap_alloc_new w _)
    have FB : Hid (((w.alloc (.cells #[.int .i64 kd, .int .i64 ofv, .int .i64 wi, .int .i32 key, .int .i64 dt, .bool no, .int .i64 ca, .int .i64 cb, .int .i64 cc, .int .i64 cm, .int .i64 cr] 76)).alloc (.cells #[.int .i32 0, .int .i64 0, .bool false] 71)).heap[w.heap.size + 1]? = some (.cells #[.int .i32 0, .int .i64 0, .bool false] 71 (0, 0))) := by
      have := heap_alloc_new (w.alloc (.cells #[.int .i64 kd, .int .i64 ofv, .int .i64 wi, .int .i32 key, .int .i64 dt, .bool no, .int .i64 ca, .int .i64 cb, .int .i64 cc, .int .i64 cm, .int .i64 cr] 76)) (.cells #[.int .i32 0, .int .i64 0, .bool false] 71)
      rw [World.size_alloc] at this
      exact this
    have G0 : Hid (Good ((w.alloc (.cells #[.int .i64 kd, .int .i64 ofv, .int .i64 wi, .int .i32 key, .int .i64 dt, .bool no, .int .i64 ca, .int .i64 cb, .int .i64 cc, .int .i64 cm, .int .i64 cr] 76)).alloc (.cells #[.int .i32 0, .int .i64 0, .bool false] 71)) tb t) := GW.out _ (((Chg.refl _ w).alloc _).alloc _)
    have E0 := Lib.hid (show ((w.alloc (.cells #[.int .i64 kd, .int .i64 ofv, .int .i64 wi, .int .i32 key, .int .i64 dt, .bool no, .int .i64 ca, .int .i64 cb, .int .i64 cc, .int .i64 cm, .int .i64 cr] 76)).alloc (.cells #[.int .i32 0, .int .i64 0, .bool false] 71)).heap.size = w.heap.size + 2 by simp)
    refine (MA.out _ G0.out).mono ?_
    rintro e wN ⟨kk, kd', rfl, t', cN, gN, eN, EN⟩
    have EN2 := hF0.use G0.out EN
    have G1 := Lib.hid (And.intro gN (And.intro eN EN2))
    have BX := Lib.hid ((cN.block _ (by rw [E0.out]; omega) (by omega)).trans BX.out)
    have FB := Lib.hid ((cN.block _ (by rw [E0.out]; omega) (by omega)).trans FB.out)
    have CW := Lib.hid (CW.out.trans (cN.mono (fun k _ h => .inl h)))
    clear gN eN cN EN EN2
    go_wp2_with fail
    refine (found_any _ _).mono ?_
    rintro e wM ⟨rfl, bN⟩
    have G1 := Lib.hid (And.intro (G1.out.1.below bN) G1.out.2)
    have lt1 := (Array.getElem?_eq_some_iff.1 BX.out).1
    have lt2 := (Array.getElem?_eq_some_iff.1 FB.out).1
    have BX := Lib.hid ((bN.block _ lt1).trans BX.out)
    have FB := Lib.hid ((bN.block _ lt2).trans FB.out)
    have CW := Lib.hid (upd_below CW.out bN)
    clear bN lt1 lt2
    have m3 := ac_cell3 BX.out
    have m4 := ac_cell4 BX.out
    have z0 := fb_cell0 FB.out
    have z1 := fb_cell1 FB.out
    have z2 := fb_cell2 FB.out
    have f0 := fb_frz FB.out 0
    have f1 := fb_frz FB.out 1
    have f2 := fb_frz FB.out 2
    simp only [fnd]
    go_wp2_with fail
    (try simp only [Exit.inBlock, Exit.then])
    refine bodyPost_ret (results_cell_row (P := Try.prog) rfl _ _ (w.heap.size + 1) 71 #[_, _, _] (0, 0) _ rfl (found_block FB.out _ _ _) Try.underlying71 rfl (by kernel_rfl)) rfl ?_
    have cE := upd_set CW.out G1.out.1 FB.out
    exact ⟨_, rfl, t', cE.1 _ _ _, cE.2 _ _ _, by rw [G1.out.2.1, U.out]; rfl, by rw [G1.out.2.2, UE.out]; rfl⟩

theorem update_any {w : World} {tb : Nat} {t : BT Nd} (a : Ac) (g : Good w tb t) (hlen : (prs t).length ≤ 300000) (hk : a.key ≠ -2147483648) :
    Calls Try.prog 70 #[.pointer (some ⟨tb, 0, none⟩), .agg a.cells] w (UpPost tb (updL a (prs t)) w) := by
  obtain ⟨F0, h0⟩ := delFun_ex
  exact (update_anyE h0 a g hlen hk).mono fun e w' ⟨v, h1, t', h2, h3, h4, _⟩ => ⟨v, h1, t', h2, h3, h4⟩

end Go.Proofs.Ytahghidbadpkeaa
