/- The walk of spec.root at the nodes of a tree. -/
import Derived.Test.YtahghidbadpkeaaSpeb
import Derived.Deep.OwnRows
set_option linter.unusedVariables false
set_option linter.unusedSimpArgs false
namespace Go.Proofs.Ytahghidbadpkeaa
open Go.Deep Go.RowKit

/-- A block that is a row of truths. -/
def Row (w : World) (g : Nat) (us : List Bool) : Prop := w.heap[g]? = some (.cells (us.map Value.bool).toArray 4 (0, 0))
section
variable {w : World} {g : Nat} {us : List Bool} (c : Row w g us)
include c
theorem Row.at {j : Nat} {b : Bool} (h : us[j]? = some b) : w.cell? ⟨g, j, none⟩ = some (.bool b) := by
  simp [World.cell?, show w.heap[g]? = _ from c, h]
theorem Row.fz (j : Nat) : w.frozen? ⟨g, j, none⟩ = false := by simp [World.frozen?, show w.heap[g]? = _ from c]
theorem Row.lt : g < w.heap.size := (Array.getElem?_eq_some_iff.1 (show w.heap[g]? = _ from c)).1
theorem Row.set (j : Nat) (b : Bool) : Row (w.setCell ⟨g, j, none⟩ (.bool b)) g (us.set j b) := by
  unfold Row at *
  simp [World.setCell, Array.getElem?_modify, c, List.map_set]
theorem Row.chg {S : Nat → Prop} {w' : World} (h : Chg S w w') (hs : ¬ S g) : Row w' g us := (h.block g (Row.lt c) hs).trans c
end
theorem Row.made (w : World) (n : Nat) : Row (w.alloc (.cells (madeCells #[.bool false] n) 4)) w.heap.size (List.replicate n false) := by
  unfold Row
  rw [heap_alloc_new]
  congr 2
  apply Array.ext_getElem?
  intro i
  by_cases h : i < n
  · simp [madeCells, h, Nat.mod_one]
  · simp [madeCells, h]

/-- The mark of a child. -/
def mk1 (n : Nat) (us : List Bool) (k : Int) : List Bool := if 0 ≤ k ∧ k < n then us.set k.toNat true else us
theorem mk1_len (n : Nat) (us : List Bool) (k : Int) : (mk1 n us k).length = us.length := by unfold mk1; split <;> simp
def marks (n : Nat) (us : List Bool) (L : List Nn) : List Bool := L.foldl (fun us z => mk1 n (mk1 n us z.l) z.r) us
theorem marks_len (n : Nat) : ∀ (L : List Nn) (us : List Bool), (marks n us L).length = us.length
  | [], _ => rfl
  | z :: L, us => by simp only [marks, List.foldl_cons]; have := marks_len n L (mk1 n (mk1 n us z.l) z.r); simp only [marks] at this; rw [this, mk1_len, mk1_len]
theorem marks_snoc (n : Nat) (us : List Bool) (L : List Nn) (z : Nn) : marks n us (L ++ [z]) = mk1 n (mk1 n (marks n us L) z.l) z.r := by simp [marks]

theorem mk1_get {n : Nat} {us : List Bool} {k : Int} {x : Nat} (hu : us.length = n) (hx : x < n) : (mk1 n us k)[x]? = some true ↔ us[x]? = some true ∨ k = x := by
  unfold mk1
  split
  · rename_i h
    rw [List.getElem?_set]
    by_cases e : k.toNat = x
    · have : k = x := by omega
      simp [e, hu, hx, this]
    · have : ¬ k = x := by omega
      simp [e, this]
  · rename_i h
    constructor
    · exact .inl
    · rintro (h1 | h1)
      · exact h1
      · omega
theorem marks_get {n : Nat} {x : Nat} (hx : x < n) : ∀ (L : List Nn) (us : List Bool), us.length = n → ((marks n us L)[x]? = some true ↔ us[x]? = some true ∨ ∃ z ∈ L, z.l = x ∨ z.r = x)
  | [], us, _ => by simp [marks]
  | z :: L, us, hu => by
    have ih := marks_get hx L (mk1 n (mk1 n us z.l) z.r) (by rw [mk1_len, mk1_len]; exact hu)
    simp only [marks, List.foldl_cons] at ih ⊢
    rw [ih, mk1_get (by rw [mk1_len]; exact hu) hx, mk1_get hu hx]
    simp only [List.mem_cons]
    constructor
    · rintro (((h | h) | h) | ⟨y, hy, h⟩)
      · exact .inl h
      · exact .inr ⟨z, .inl rfl, .inl h⟩
      · exact .inr ⟨z, .inl rfl, .inr h⟩
      · exact .inr ⟨y, .inr hy, h⟩
    · rintro (h | ⟨y, rfl | hy, h⟩)
      · exact .inl (.inl (.inl h))
      · rcases h with h | h
        · exact .inl (.inl (.inr h))
        · exact .inl (.inr h)
      · exact .inr ⟨y, hy, h⟩

theorem zi_pos {t : BT Nd} {i : Nat} {x : Nat} : zi t i = (x : Int) ↔ t ≠ .nil ∧ x = i := by
  cases t with
  | nil => simp [zi]
  | node => simp [zi]; omega
theorem sz_pos {t : BT Nd} (h : t ≠ .nil) : 0 < sz t := by
  cases t with
  | nil => exact absurd rfl h
  | node b o a l r => rw [sz_node]; omega

/-- The children of a tree's nodes are all of it but its root. -/
theorem kids (x : Nat) : ∀ (t : BT Nd) (i : Nat), (∃ z ∈ zlist t i, z.l = x ∨ z.r = x) ↔ i < x ∧ x < i + sz t
  | .nil, i => by simp [zlist, sz, prs]; omega
  | .node b o a l r, i => by
    have il := kids x l (i + 1)
    have ir := kids x r (i + 1 + sz l)
    rw [sz_node]
    simp only [zlist, List.mem_cons, List.mem_append]
    constructor
    · rintro ⟨z, rfl | hz | hz, h⟩
      · simp only [zi_pos] at h
        rcases h with ⟨h1, rfl⟩ | ⟨h1, rfl⟩
        · have := sz_pos h1; omega
        · have := sz_pos h1; omega
      · have := il.1 ⟨z, hz, h⟩; omega
      · have := ir.1 ⟨z, hz, h⟩; omega
    · intro h
      by_cases h1 : x < i + 1 + sz l
      · by_cases h2 : x = i + 1
        · refine ⟨_, .inl rfl, .inl (zi_pos.2 ⟨?_, h2⟩)⟩
          rintro rfl
          simp [sz, prs] at h1
          omega
        · obtain ⟨z, hz, h3⟩ := il.2 (by omega)
          exact ⟨z, .inr (.inl hz), h3⟩
      · by_cases h2 : x = i + 1 + sz l
        · refine ⟨_, .inl rfl, .inr (zi_pos.2 ⟨?_, h2⟩)⟩
          rintro rfl
          have : sz (.nil) = 0 := rfl
          omega
        · obtain ⟨z, hz, h3⟩ := ir.2 (by omega)
          exact ⟨z, .inr (.inr hz), h3⟩

/-- What is marked in the end. -/
theorem marks_tree (t : BT Nd) : ∀ x, x < sz t → (marks (sz t) (List.replicate (sz t) false) (nlist t))[x]? = some (decide (0 < x)) := by
  intro x hx
  have h := marks_get hx (nlist t) (List.replicate (sz t) false) (by simp)
  have h2 : (∃ z ∈ nlist t, z.l = x ∨ z.r = x) ↔ 0 < x := by
    have := kids x t 0
    simp only [nlist, List.mem_map]
    constructor
    · rintro ⟨_, ⟨z, hz, rfl⟩, h⟩
      exact (this.1 ⟨z, hz, h⟩).1
    · intro h
      obtain ⟨z, hz, h3⟩ := this.2 ⟨h, by omega⟩
      exact ⟨_, ⟨z, hz, rfl⟩, h3⟩
  rw [h2] at h
  have hl : x < (marks (sz t) (List.replicate (sz t) false) (nlist t)).length := by rw [marks_len]; simpa using hx
  rw [List.getElem?_eq_getElem hl] at h ⊢
  congr 1
  by_cases h0 : 0 < x
  · simpa [h0] using h.2 (.inr h0)
  · simp only [h0, decide_false]
    cases e : (marks (sz t) (List.replicate (sz t) false) (nlist t))[x] with
    | false => rfl
    | true =>
      rw [e] at h
      rcases h.1 rfl with h1 | h1
      · simp [List.getElem?_replicate] at h1
      · exact absurd h1 h0

theorem info4 : (Try.prog.info? 4).map (fun i => (i.zero, i.size, i.bytes)) = some (some (.bool false), 1, 1) := by kernel_rfl

/-- The two marks of a node, one behind the other. -/
def mk2 (n : Nat) (us : List Bool) (l r : Int) (jj : Nat) : List Bool := if jj = 0 then us else if jj = 1 then mk1 n us l else mk1 n (mk1 n us l) r

theorem mk1_in {n : Nat} {us : List Bool} {k : Int} (h0 : 0 ≤ k) (h1 : k < n) : mk1 n us k = us.set k.toNat true := by unfold mk1; rw [if_pos ⟨h0, h1⟩]
theorem mk1_out {n : Nat} {us : List Bool} {k : Int} (h : ¬ (0 ≤ k ∧ k < n)) : mk1 n us k = us := by unfold mk1; rw [if_neg h]

set_option maxRecDepth 100000 in
set_option maxHeartbeats 800000 in
theorem root_any {w : World} {v : Value} {t : BT Nd} (h : Rd Nn.cells 5 w v (nlist t)) (hn : sz t ≤ 300000) : Calls Try.prog 55 #[v] w (fun e w' => e = .returned (.int .i64 (zi t 0)) ∧ Below w.heap.size w w') := by
  obtain ⟨sa, cap, hv⟩ := h.shape
  rw [nlist_len] at hv
  subst hv
  have RD := Lib.hid h
  have hmk := run_make_row' (P := Try.prog) 34 4 (.bool false) 1 Try.underlying34 info4 rfl .i64 .i64 (sz t) (by omega) (by omega)
  clear h
  go_enter Try.func55, Try.ntmps55
  go_wp2_with fail
  go_loopg [16] (sz t) (fun k i wr => ∃ j : Nat, j ≤ sz t ∧ k = sz t - j ∧ i = .int .i64 j ∧ Hid (Row wr w.heap.size (marks (sz t) (List.replicate (sz t) false) ((nlist t).take j)) ∧ Below w.heap.size w wr))
  case atStart => exact ⟨0, Nat.zero_le _, rfl, rfl, Row.made w (sz t), (Below.refl _ w).alloc (Nat.le_refl _) _⟩
  case round =>
    clear hmk
    obtain ⟨j, hj, rfl, rfl, ho⟩ := hrel
    by_cases hjn : j < sz t
    · obtain ⟨z, hz⟩ : ∃ z, (nlist t)[j]? = some z := ⟨_, List.getElem?_eq_getElem (by rw [nlist_len]; exact hjn)⟩
      obtain ⟨b, off, rfl, hc⟩ := (RD.out.below ho.out.2).at Nn.len hz
      have k0 : wr.cell? ⟨b, off + j * 5, none⟩ = some (.int .i32 z.k) := hc 0 _ rfl
      have k1 : wr.cell? ⟨b, off + j * 5 + 1, none⟩ = some (.int .i64 z.x) := hc 1 _ rfl
      have k2 : wr.cell? ⟨b, off + j * 5 + 2, none⟩ = some (.int .i64 z.h) := hc 2 _ rfl
      have k3 : wr.cell? ⟨b, off + j * 5 + 3, none⟩ = some (.int .i64 z.l) := hc 3 _ rfl
      have k4 : wr.cell? ⟨b, off + j * 5 + 4, none⟩ = some (.int .i64 z.r) := hc 4 _ rfl
      have HZ := Lib.hid hz
      clear hc hz
      go_wp2_with fail
      obtain ⟨wo, hwo⟩ : ∃ wo : World, wo = wr := ⟨_, rfl⟩
      subst hwo
      obtain ⟨us, hus⟩ : ∃ us, us = marks (sz t) (List.replicate (sz t) false) ((nlist t).take j) := ⟨_, rfl⟩
      rw [← hus] at ho
      have HU := Lib.hid hus
      have hul : us.length = sz t := by rw [hus, marks_len]; simp
      clear hus k0 k1 k2 k3 k4
      go_loopg [26] 2 (fun k i wr => ∃ jj : Nat, jj ≤ 2 ∧ k = 2 - jj ∧ i = .int .i64 jj ∧ Hid (Row wr w.heap.size (mk2 (sz t) us z.l z.r jj) ∧ Below w.heap.size w wr ∧ wr.heap[wo.heap.size + 1]? = some (.cells #[.int .i64 z.l, .int .i64 z.r] 3 (0, 0))))
      case atStart =>
        refine ⟨0, by omega, rfl, rfl, ?_, ?_, ?_⟩
        · exact ho.out.1.chg (((Chg.refl (fun _ => False) wo).alloc _).alloc _) (fun h => h)
        · exact (ho.out.2.alloc ho.out.2.size _).alloc (by have := ho.out.2.size; simp; omega) _
        · have := heap_alloc_new (wo.alloc (.cells #[.int .i32 z.k, .int .i64 z.x, .int .i64 z.h, .int .i64 z.l, .int .i64 z.r] 84)) (.cells #[.int .i64 z.l, .int .i64 z.r] 3)
          rw [World.size_alloc] at this
          exact this
      case round =>
        obtain ⟨jj, hjj, rfl, rfl, hi⟩ := hrel
        have hj3 : jj = 0 ∨ jj = 1 ∨ jj = 2 := by omega
        have hrow := hi.out.1
        have p0 : wr.cell? ⟨wo.heap.size + 1, 0, none⟩ = some (.int .i64 z.l) := by simp [World.cell?, hi.out.2.2]
        have p1 : wr.cell? ⟨wo.heap.size + 1, 1, none⟩ = some (.int .i64 z.r) := by simp [World.cell?, hi.out.2.2]
        have gne : w.heap.size ≠ wo.heap.size + 1 := by have := ho.out.2.size; omega
        have NX : Hid (∀ (j2 : Nat) (x : Nat) (wn : World) (us' : List Bool), wn = wr.setCell ⟨w.heap.size, x, none⟩ (.bool true) → Row wn w.heap.size us' → Below w.heap.size w wn ∧ wn.heap[wo.heap.size + 1]? = some (.cells #[.int .i64 z.l, .int .i64 z.r] 3 (0, 0))) := by
          intro j2 x wn us' e _
          subst e
          exact ⟨hi.out.2.1.setCell (p := ⟨w.heap.size, x, none⟩) (Nat.le_refl _) _, (Below.heap_setCell _ _ _ _ (Ne.symm gne)).trans hi.out.2.2⟩
        rcases hj3 with rfl | rfl | rfl
        · have e0 : mk2 (sz t) us z.l z.r 0 = us := rfl
          rw [e0] at hrow
          have RW := Lib.hid hrow
          clear hrow
          by_cases hk1 : 0 ≤ z.l
          · by_cases hk2 : z.l < sz t
            · have q0 := RW.out.at (j := z.l.toNat) (List.getElem?_eq_getElem (by rw [hul]; omega))
              have q1 := RW.out.fz z.l.toNat
              go_wp2_with fail
              go_roundg 1
              case measure => omega
              case rel =>
                have r1 := RW.out.set z.l.toNat true
                exact ⟨1, by omega, rfl, by go_num, by show Row _ _ (mk1 _ _ _); rw [mk1_in hk1 hk2]; exact r1, NX.out 0 _ _ _ rfl r1⟩
            · go_wp2_with fail
              go_roundg 1
              case measure => omega
              case rel => exact ⟨1, by omega, rfl, by go_num, by show Row _ _ (mk1 _ _ _); rw [mk1_out (by omega)]; exact RW.out, hi.out.2⟩
          · go_wp2_with fail
            go_roundg 1
            case measure => omega
            case rel => exact ⟨1, by omega, rfl, by go_num, by show Row _ _ (mk1 _ _ _); rw [mk1_out (by omega)]; exact RW.out, hi.out.2⟩
        · have e0 : mk2 (sz t) us z.l z.r 1 = mk1 (sz t) us z.l := rfl
          rw [e0] at hrow
          have hul1 : (mk1 (sz t) us z.l).length = sz t := by rw [mk1_len]; exact hul
          have RW := Lib.hid hrow
          clear hrow
          by_cases hk1 : 0 ≤ z.r
          · by_cases hk2 : z.r < sz t
            · have q0 := RW.out.at (j := z.r.toNat) (List.getElem?_eq_getElem (by rw [hul1]; omega))
              have q1 := RW.out.fz z.r.toNat
              go_wp2_with fail
              go_roundg 0
              case measure => omega
              case rel =>
                have r1 := RW.out.set z.r.toNat true
                exact ⟨2, by omega, rfl, by go_num, by show Row _ _ (mk1 _ _ _); rw [mk1_in hk1 hk2]; exact r1, NX.out 0 _ _ _ rfl r1⟩
            · clear hul1
              go_wp2_with fail
              go_roundg 0
              case measure => omega
              case rel => exact ⟨2, by omega, rfl, by go_num, by show Row _ _ (mk1 _ _ _); rw [mk1_out (by omega)]; exact RW.out, hi.out.2⟩
          · clear hul1
            go_wp2_with fail
            go_roundg 0
            case measure => omega
            case rel => exact ⟨2, by omega, rfl, by go_num, by show Row _ _ (mk1 _ _ _); rw [mk1_out (by omega)]; exact RW.out, hi.out.2⟩
        · go_wp2_with fail
          go_roundg (sz t - (j + 1))
          case measure => omega
          case rel =>
            have e : (nlist t).take (j + 1) = (nlist t).take j ++ [z] := by rw [List.take_add_one, HZ.out]; rfl
            refine ⟨j + 1, by omega, rfl, by go_num, ?_, hi.out.2.1⟩
            rw [e, marks_snoc, ← HU.out]; exact hi.out.1
    · have hj' : j = sz t := by omega
      subst hj'
      have hl : (nlist t).take (sz t) = nlist t := List.take_of_length_le (by rw [nlist_len]; exact Nat.le_refl _)
      rw [hl] at ho
      go_wp2_with fail
      go_loopg [8, 45] (sz t) (fun k o i wr => ∃ j : Nat, j ≤ sz t ∧ k = sz t - j ∧ i = .int .i64 j ∧ o = .int .i64 (if j = 0 then -1 else 0) ∧ Hid (Row wr w.heap.size (marks (sz t) (List.replicate (sz t) false) (nlist t)) ∧ Below w.heap.size w wr))
      case atStart => exact ⟨0, Nat.zero_le _, rfl, rfl, rfl, ho.out⟩
      case round =>
        clear ho hjn
        obtain ⟨j, hj, rfl, rfl, rfl, ho⟩ := hrel
        by_cases hjn : j < sz t
        · have q0 := ho.out.1.at (marks_tree t j hjn)
          by_cases h0 : j = 0
          · subst h0
            simp only [Nat.lt_irrefl, decide_false] at q0
            simp only [if_true]
            go_wp2_with fail
            go_roundg (sz t - 1)
            case measure => omega
            case rel => exact ⟨1, by omega, rfl, by go_num, by rfl, ho.out⟩
          · have h1 : 0 < j := by omega
            simp only [h1, decide_true] at q0
            simp only [h0, if_false]
            go_wp2_with fail
            go_roundg (sz t - (j + 1))
            case measure => omega
            case rel => exact ⟨j + 1, by omega, rfl, by go_num, by simp, ho.out⟩
        · have hj' : j = sz t := by omega
          subst hj'
          have hz : zi t 0 = (if sz t = 0 then (-1 : Int) else 0) := by
            cases t with
            | nil => rfl
            | node b o a l r => rw [if_neg (by rw [sz_node]; omega)]; rfl
          have HZ := Lib.hid hz
          clear hz
          obtain ⟨q, hq⟩ : ∃ q : Int, q = (if sz t = 0 then (-1 : Int) else 0) := ⟨_, rfl⟩
          rw [← hq] at HZ ⊢
          clear hq
          go_wp2_with fail
          go_ret
          exact ⟨by rw [HZ.out]; rfl, ho.out.2⟩

end Go.Proofs.Ytahghidbadpkeaa
