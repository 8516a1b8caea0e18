/- The walks of keyed, spec.Put, spec.Tree. -/
import Derived.Test.YtahghidbadpkeaaTrew
set_option linter.unusedVariables false
set_option linter.unusedSimpArgs false
namespace Go.Proofs.Ytahghidbadpkeaa
open Go.Deep Go.RowKit

def keyedB (L : List (Int × Int)) : Bool := L.all (fun p => !(p.1 == -2147483648))
theorem keyedB_spec {L : List (Int × Int)} (h : keyedB L = true) : ∀ p ∈ L, p.1 ≠ -2147483648 := by
  intro p hp
  have := List.all_eq_true.1 h p hp
  simpa using this

set_option maxRecDepth 100000 in
set_option maxHeartbeats 400000 in
theorem keyed_any {w : World} {v : Value} {L : List (Int × Int)} (h : Rd pc 2 w v L) (hn : L.length ≤ 140737488355328) : Calls Try.prog 14 #[v] w (fun e w' => e = .returned (.bool (keyedB L)) ∧ Below w.heap.size w w') := by
  obtain ⟨sa, cap, rfl⟩ := h.shape
  have RD := Lib.hid h
  clear h
  go_enter Try.func14, Try.ntmps14
  go_wp2_with fail
  go_loopg [7] (L.length) (fun k i wr => ∃ j : Nat, j ≤ L.length ∧ k = L.length - j ∧ i = .int .i64 j ∧ Hid (Below w.heap.size w wr ∧ keyedB L = keyedB (L.drop j)))
  case atStart => exact ⟨0, Nat.zero_le _, rfl, rfl, Below.refl _ w, rfl⟩
  case round =>
    obtain ⟨j, hj, rfl, rfl, ho⟩ := hrel
    by_cases hjn : j < L.length
    · obtain ⟨p, hp⟩ : ∃ p, L[j]? = some p := ⟨_, List.getElem?_eq_getElem hjn⟩
      obtain ⟨b, off, rfl, hc⟩ := (RD.out.below ho.out.1).at pc_len hp
      have k0 : wr.cell? ⟨b, off + j * 2, none⟩ = some (.int .i32 p.1) := hc 0 _ rfl
      have k1 : wr.cell? ⟨b, off + j * 2 + 1, none⟩ = some (.int .i64 p.2) := hc 1 _ rfl
      have ed : Hid (keyedB (L.drop j) = (!(p.1 == -2147483648) && keyedB (L.drop (j + 1)))) := by
        have e : L.drop j = p :: L.drop (j + 1) := by
          rw [List.drop_eq_getElem_cons hjn]; congr 1
          rw [List.getElem?_eq_getElem hjn] at hp; exact Option.some.inj hp
        show keyedB (L.drop j) = _
        rw [e]; rfl
      clear hc hp
      by_cases h0 : (p.1 == -2147483648) = true
      · go_wp2_with fail
        go_ret
        exact ⟨by rw [ho.out.2, ed.out, h0]; rfl, ho.out.1.alloc ho.out.1.size _⟩
      · have h0' : (p.1 == -2147483648) = false := by simpa using h0
        clear h0
        go_wp2_with fail
        go_roundg (L.length - (j + 1))
        case measure => omega
        case rel => exact ⟨j + 1, by omega, rfl, by go_num, ho.out.1.alloc ho.out.1.size _, by rw [ho.out.2, ed.out, h0']; rfl⟩
    · have hj' : j = L.length := by omega
      subst hj'
      go_wp2_with fail
      go_ret
      exact ⟨by rw [ho.out.2, List.drop_length]; rfl, ho.out.1⟩

/- Put on pairs, as the reference has it. -/
def pLo (x : Int) (S : List (Int × Int)) : List (Int × Int) := S.filter (fun p => decide (p.1 < x))
def pHi (x : Int) (S : List (Int × Int)) : List (Int × Int) := S.filter (fun p => decide (x < p.1))
def pPut (x v : Int) (S : List (Int × Int)) : List (Int × Int) := pLo x S ++ (x, v) :: pHi x S

theorem info31 : (Try.prog.info? 31).map (fun i => (i.zero, i.size, i.bytes)) = some (some (.agg #[.int .i32 0, .int .i64 0]), 2, 16) := by kernel_rfl

/-- One loop of Put, and of its like: the elements that pass a test are appended. -/
theorem filter_snoc {α : Type} {f : α → Bool} {L : List α} {j : Nat} {p : α} (hp : L[j]? = some p) : (L.take (j + 1)).filter f = (L.take j).filter f ++ if f p then [p] else [] := by
  rw [List.take_add_one, hp, List.filter_append]
  simp [List.filter_cons]

def OwnPost (L : List (Int × Int)) (w : World) (e : Ending) (w' : World) : Prop :=
  ∃ v, e = .returned v ∧ w'.ownsRow w.heap.size 31 2 v L.length (fl pc L) ∧ Below w.heap.size w w'

set_option maxRecDepth 100000 in
set_option maxHeartbeats 800000 in
theorem Put_any {w : World} {v : Value} {L : List (Int × Int)} (x d : Int) (h : Rd pc 2 w v L) (hn : L.length ≤ 300000) : Calls Try.prog 43 #[v, .int .i32 x, .int .i64 d] w (OwnPost (pPut x d L) w) := by
  obtain ⟨sa, cap, rfl⟩ := h.shape
  obtain ⟨i0, hi0, hz0, hz1, hz2⟩ := info_parts info31
  have RD := Lib.hid h
  clear h
  go_enter Try.func43, Try.ntmps43
  go_wp2_with fail
  go_loopg [7, 14] (L.length) (fun k out i wr => ∃ j : Nat, j ≤ L.length ∧ k = L.length - j ∧ i = .int .i64 j ∧ ∃ oa on ocap, out = .slice oa on ocap ∧ on ≤ j ∧ Hid (on = (pLo x (L.take j)).length ∧ wr.ownsRow w.heap.size 31 2 (.slice oa on ocap) on (fl pc (pLo x (L.take j))) ∧ Below w.heap.size w wr))
  case atStart => exact ⟨0, Nat.zero_le _, rfl, rfl, none, 0, 0, rfl, Nat.zero_le _, rfl, World.ownsRow_nil _ _ _ _, Below.refl _ w⟩
  case round =>
    obtain ⟨j, hj, rfl, rfl, oa, on, ocap, rfl, hon, ho⟩ := hrel
    by_cases hjn : j < L.length
    · obtain ⟨p, hp⟩ : ∃ p, L[j]? = some p := ⟨_, List.getElem?_eq_getElem hjn⟩
      obtain ⟨b, off, rfl, hc⟩ := (RD.out.below ho.out.2.2).at pc_len hp
      have k0 : wr.cell? ⟨b, off + j * 2, none⟩ = some (.int .i32 p.1) := hc 0 _ rfl
      have k1 : wr.cell? ⟨b, off + j * 2 + 1, none⟩ = some (.int .i64 p.2) := hc 1 _ rfl
      have FS := Lib.hid (filter_snoc (f := fun p : Int × Int => decide (p.1 < x)) hp)
      clear hc hp
      by_cases h0 : p.1 < x
      · go_wp2_with (at_builtin; refine wpList_append_lies _ rfl _ _ 22 rfl w.heap.size 31 i0 _ 2 16 Try.underlying22 hi0 hz0 hz1 hz2 rfl (by omega) (.slice oa on ocap) on (fl pc (pLo x (L.take j))) rfl ((ho.out.2.1.alloc _).alloc _) ⟨wr.heap.size + 1, 0, none⟩ 1 1 (pc p) rfl rfl ?cc1 (pc_one _) (by omega) (by unfold maxLen; omega) (by omega) ?cc2 (wr.heap.size + 2) (by simp) ?cc3)
        case cc1 => exact news1 wr _ #[.int .i32 p.1, .int .i64 p.2] 31
        case cc2 => have := ho.out.2.2.size; simp; omega
        case cc3 =>
          intro g3 cap3 w3 hown3 hgrow3 hat3 hlt3
          have R := Lib.hid (And.intro hown3 (And.intro hgrow3 hat3))
          clear hown3 hgrow3 hat3
          go_wp2_with fail
          go_roundg (L.length - (j + 1))
          case measure => omega
          case rel =>
            obtain ⟨r1, r2, r3⟩ := R.out
            obtain ⟨o0, o1, o2⟩ := ho.out
            have e : pLo x (L.take (j + 1)) = pLo x (L.take j) ++ [p] := by
              have := FS.out; simp only [h0, decide_true, if_true] at this; exact this
            refine ⟨j + 1, by omega, rfl, by go_num, _, _, _, rfl, by omega, ?_, ?_, ?_⟩
            · rw [e, o0]; simp
            · rw [e, fl_app, fl_one]; exact r1
            · exact ((o2.alloc o2.size _).alloc (by have := o2.size; simp; omega) _).grown r2 (by have := o2.size; simp; omega) (fun k hk => (o1.lt k hk).1)
      · go_wp2_with fail
        go_roundg (L.length - (j + 1))
        case measure => omega
        case rel =>
          obtain ⟨o0, o1, o2⟩ := ho.out
          have e : pLo x (L.take (j + 1)) = pLo x (L.take j) := by
            have h1 : decide (p.1 < x) = false := by simp; omega
            have := FS.out; simp only [h1, Bool.false_eq_true, if_false, List.append_nil] at this; exact this
          exact ⟨j + 1, by omega, rfl, by go_num, _, _, _, rfl, by omega, by rw [e]; exact o0, by rw [e]; exact o1.alloc _, o2.alloc o2.size _⟩
    · have hj' : j = L.length := by omega
      subst hj'
      rw [List.take_length] at ho
      go_wp2_with (at_builtin; refine wpList_append_lies _ rfl _ _ 22 rfl w.heap.size 31 i0 _ 2 16 Try.underlying22 hi0 hz0 hz1 hz2 rfl (by omega) (.slice oa on ocap) on (fl pc (pLo x L)) rfl (ho.out.2.1.alloc _) ⟨wr.heap.size, 0, none⟩ 1 1 (pc (x, d)) rfl rfl ?cd1 (pc_one _) (by omega) (by unfold maxLen; omega) (by omega) ?cd2 (wr.heap.size + 1) (by simp) ?cd3)
      case cd1 => exact news0 wr #[.int .i32 x, .int .i64 d] 31
      case cd2 => have := ho.out.2.2.size; simp; omega
      case cd3 =>
        intro g3 cap3 w3 hown3 hgrow3 hat3 hlt3
        have B3 : Below w.heap.size w w3 := (ho.out.2.2.alloc ho.out.2.2.size _).grown hgrow3 (by have := ho.out.2.2.size; simp; omega) (fun k hk => (ho.out.2.1.lt k hk).1)
        have R := Lib.hid (And.intro hown3 B3)
        have ON := Lib.hid ho.out.1
        clear hown3 hgrow3 hat3 B3
        go_wp2_with fail
        go_loopg [7, 35] (L.length) (fun k out i wr => ∃ j : Nat, j ≤ L.length ∧ k = L.length - j ∧ i = .int .i64 j ∧ ∃ oa o2 ocap, out = .slice oa o2 ocap ∧ o2 ≤ on + 1 + j ∧ Hid (o2 = (pLo x L ++ (x, d) :: pHi x (L.take j)).length ∧ wr.ownsRow w.heap.size 31 2 (.slice oa o2 ocap) o2 (fl pc (pLo x L ++ (x, d) :: pHi x (L.take j))) ∧ Below w.heap.size w wr))
        case atStart =>
          refine ⟨0, Nat.zero_le _, rfl, rfl, _, _, _, rfl, by omega, ?_, ?_, R.out.2⟩
          · rw [ON.out]; simp [pHi]
          · have := R.out.1
            have e : fl pc (pLo x L) ++ pc (x, d) = fl pc (pLo x L ++ (x, d) :: pHi x (L.take 0)) := by rw [fl_app]; simp [fl, pHi]
            rw [e] at this; exact this
        case round =>
          clear ho hjn
          obtain ⟨j, hj, rfl, rfl, oa2, o2, ocap2, rfl, hon2, ho⟩ := hrel
          by_cases hjn : j < L.length
          · obtain ⟨p, hp⟩ : ∃ p, L[j]? = some p := ⟨_, List.getElem?_eq_getElem hjn⟩
            obtain ⟨b, off, rfl, hc⟩ := (RD.out.below ho.out.2.2).at pc_len hp
            have k0 : wr.cell? ⟨b, off + j * 2, none⟩ = some (.int .i32 p.1) := hc 0 _ rfl
            have k1 : wr.cell? ⟨b, off + j * 2 + 1, none⟩ = some (.int .i64 p.2) := hc 1 _ rfl
            have FS := Lib.hid (filter_snoc (f := fun p : Int × Int => decide (x < p.1)) hp)
            clear hc hp
            by_cases h0 : x < p.1
            · go_wp2_with (at_builtin; refine wpList_append_lies _ rfl _ _ 22 rfl w.heap.size 31 i0 _ 2 16 Try.underlying22 hi0 hz0 hz1 hz2 rfl (by omega) (.slice oa2 o2 ocap2) o2 (fl pc (pLo x L ++ (x, d) :: pHi x (L.take j))) rfl ((ho.out.2.1.alloc _).alloc _) ⟨wr.heap.size + 1, 0, none⟩ 1 1 (pc p) rfl rfl ?ce1 (pc_one _) (by omega) (by unfold maxLen; omega) (by omega) ?ce2 (wr.heap.size + 2) (by simp) ?ce3)
              case ce1 => exact news1 wr _ #[.int .i32 p.1, .int .i64 p.2] 31
              case ce2 => have := ho.out.2.2.size; simp; omega
              case ce3 =>
                intro g4 cap4 w4 hown4 hgrow4 hat4 hlt4
                have R4 := Lib.hid (And.intro hown4 hgrow4)
                clear hown4 hgrow4 hat4
                go_wp2_with fail
                go_roundg (L.length - (j + 1))
                case measure => omega
                case rel =>
                  obtain ⟨r1, r2⟩ := R4.out
                  obtain ⟨q0, q1, q2⟩ := ho.out
                  have e : pHi x (L.take (j + 1)) = pHi x (L.take j) ++ [p] := by
                    have := FS.out; simp only [h0, decide_true, if_true] at this; exact this
                  refine ⟨j + 1, by omega, rfl, by go_num, _, _, _, rfl, by omega, ?_, ?_, ?_⟩
                  · rw [e, q0]; simp; omega
                  · rw [e, ← List.cons_append, ← List.append_assoc, fl_app, fl_one]; exact r1
                  · exact ((q2.alloc q2.size _).alloc (by have := q2.size; simp; omega) _).grown r2 (by have := q2.size; simp; omega) (fun k hk => (q1.lt k hk).1)
            · go_wp2_with fail
              go_roundg (L.length - (j + 1))
              case measure => omega
              case rel =>
                obtain ⟨q0, q1, q2⟩ := ho.out
                have e : pHi x (L.take (j + 1)) = pHi x (L.take j) := by
                  have h1 : decide (x < p.1) = false := by simp; omega
                  have := FS.out; simp only [h1, Bool.false_eq_true, if_false, List.append_nil] at this; exact this
                exact ⟨j + 1, by omega, rfl, by go_num, _, _, _, rfl, by omega, by rw [e]; exact q0, by rw [e]; exact q1.alloc _, q2.alloc q2.size _⟩
          · have hj' : j = L.length := by omega
            subst hj'
            rw [List.take_length] at ho
            go_wp2_with fail
            go_ret
            exact ⟨_, rfl, by show World.ownsRow _ _ _ _ _ (pPut x d L).length _; rw [pPut, ← ho.out.1]; exact ho.out.2.1, ho.out.2.2⟩

/-- The set of some pairs. -/
def pTree (L : List (Int × Int)) : List (Int × Int) := L.foldl (fun S p => pPut p.1 p.2 S) []
theorem pTree_snoc (L : List (Int × Int)) (p : Int × Int) : pTree (L ++ [p]) = pPut p.1 p.2 (pTree L) := by simp [pTree]
def opt (S : List (Int × Int)) : List (Int × Option Int) := S.map (fun p => (p.1, some p.2))
theorem opt_put (x v : Int) (S : List (Int × Int)) : opt (pPut x v S) = putL x v (opt S) := by
  simp only [opt, pPut, putL, List.map_append, List.map_cons, lo, hi, pLo, pHi, List.filter_map]
  rfl
theorem opt_tree (L : List (Int × Int)) : opt (pTree L) = treeL L := by
  have : ∀ (L : List (Int × Int)) (S : List (Int × Int)), opt (L.foldl (fun S p => pPut p.1 p.2 S) S) = L.foldl (fun S p => putL p.1 p.2 S) (opt S) := by
    intro L
    induction L with
    | nil => exact fun S => rfl
    | cons p L ih => intro S; simp only [List.foldl_cons]; rw [ih, opt_put]
  exact this L []
theorem opt_len (S : List (Int × Int)) : (opt S).length = S.length := by simp [opt]
theorem pTree_len (L : List (Int × Int)) : (pTree L).length ≤ L.length := by
  have := treeL_len L
  rw [← opt_tree, opt_len] at this
  exact this

set_option maxRecDepth 100000 in
set_option maxHeartbeats 400000 in
/-- spec.Tree. -/
theorem Tree_any {w : World} {v : Value} {L : List (Int × Int)} (h : Rd pc 2 w v L) (hn : L.length ≤ 300000) : Calls Try.prog 18 #[v] w (fun e w' => ∃ v', e = .returned v' ∧ Rd pc 2 w' v' (pTree L) ∧ Below w.heap.size w w') := by
  obtain ⟨sa, cap, rfl⟩ := h.shape
  have RD := Lib.hid h
  clear h
  go_enter Try.func18, Try.ntmps18
  go_wp2_with fail
  go_loopg [3, 8] (L.length) (fun k out i wr => ∃ j : Nat, j ≤ L.length ∧ k = L.length - j ∧ i = .int .i64 j ∧ ∃ oa on ocap, out = .slice oa on ocap ∧ Hid (Rd pc 2 wr (.slice oa on ocap) (pTree (L.take j)) ∧ Below w.heap.size w wr))
  case atStart => exact ⟨0, Nat.zero_le _, rfl, rfl, none, 0, 0, rfl, ⟨none, 0, rfl, .inl rfl⟩, Below.refl _ w⟩
  case round =>
    obtain ⟨j, hj, rfl, rfl, oa, on, ocap, rfl, ho⟩ := hrel
    by_cases hjn : j < L.length
    · obtain ⟨p, hp⟩ : ∃ p, L[j]? = some p := ⟨_, List.getElem?_eq_getElem hjn⟩
      obtain ⟨b, off, rfl, hc⟩ := (RD.out.below ho.out.2).at pc_len hp
      have k0 : wr.cell? ⟨b, off + j * 2, none⟩ = some (.int .i32 p.1) := hc 0 _ rfl
      have k1 : wr.cell? ⟨b, off + j * 2 + 1, none⟩ = some (.int .i64 p.2) := hc 1 _ rfl
      have hl : (pTree (L.take j)).length ≤ 300000 := by have := pTree_len (L.take j); simp at this; omega
      have PU := Lib.hid (fun o => Put_any (w := wr.alloc o) p.1 p.2 (ho.out.1.below ((Below.refl _ wr).alloc (Nat.le_refl _) o)) hl)
      have HP := Lib.hid hp
      clear hc hp hl
      go_wp2_with fail
      refine (PU.out _).mono ?_
      rintro e w2 ⟨v2, rfl, o2, b2⟩
      obtain ⟨sa2, cap2, rfl⟩ := owns_shape o2
      have Q := Lib.hid (And.intro o2 b2)
      clear o2 b2
      go_wp2_with fail
      go_roundg (L.length - (j + 1))
      case measure => omega
      case rel =>
        obtain ⟨o2, b2⟩ := Q.out
        have e : L.take (j + 1) = L.take j ++ [p] := by rw [List.take_add_one, HP.out]; rfl
        refine ⟨j + 1, by omega, rfl, by go_num, _, _, _, rfl, ?_, (ho.out.2.alloc ho.out.2.size _).trans (b2.mono (by have := ho.out.2.size; simp; omega))⟩
        rw [e, pTree_snoc]; exact Rd.of_own pc_len o2
    · have hj' : j = L.length := by omega
      subst hj'
      rw [List.take_length] at ho
      go_wp2_with fail
      go_ret
      exact ⟨_, rfl, ho.out.1, ho.out.2⟩

end Go.Proofs.Ytahghidbadpkeaa
