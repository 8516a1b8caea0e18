/- The walks of spec.Drop, impl.Deleted and FnDeleted. -/
import Derived.Test.YtahghidbadpkeaaHas
set_option linter.unusedVariables false
set_option linter.unusedSimpArgs false
namespace Go.Proofs.Ytahghidbadpkeaa
open Go.Deep Go.RowKit

def kc (k : Int) : List Value := [.int .i32 k]
theorem kc_len (k : Int) : (kc k).length = 1 := rfl
def bc (b : Bool) : List Value := [.bool b]
theorem bc_len (b : Bool) : (bc b).length = 1 := rfl

def pDrop (x : Int) (S : List (Int × Int)) : List (Int × Int) := S.filter (fun p => decide (p.1 ≠ x))
theorem opt_drop (x : Int) : ∀ {S : List (Int × Int)}, PSrt S → opt (pDrop x S) = lo x (opt S) ++ hi x (opt S)
  | [], _ => rfl
  | p :: S, h => by
    have h1 := List.pairwise_cons.1 h
    have ih := opt_drop x h1.2
    have e : opt (p :: S) = (p.1, some p.2) :: opt S := rfl
    rw [e]
    by_cases c1 : p.1 < x
    · have : pDrop x (p :: S) = p :: pDrop x S := by simp [pDrop, show p.1 ≠ x by omega]
      rw [this]
      show (p.1, some p.2) :: opt (pDrop x S) = _
      rw [ih]
      simp [lo, hi, c1, show ¬ x < p.1 by omega]
    · have hlo : lo x (opt S) = [] := lo_none (fun q hq => by
        obtain ⟨q', hq', rfl⟩ := List.mem_map.1 hq
        have := h1.1 q' hq'
        show x ≤ q'.1
        omega)
      rw [hlo, List.nil_append] at ih
      by_cases c2 : p.1 = x
      · have : pDrop x (p :: S) = pDrop x S := by simp [pDrop, c2]
        rw [this, ih]
        have e2 : lo x ((p.1, some p.2) :: opt S) = [] := by
          have : lo x ((p.1, some p.2) :: opt S) = lo x (opt S) := by simp [lo, c1]
          rw [this, hlo]
        rw [e2]
        simp [hi, c2]
      · have : pDrop x (p :: S) = p :: pDrop x S := by simp [pDrop, c2]
        rw [this]
        show (p.1, some p.2) :: opt (pDrop x S) = _
        rw [ih]
        have e2 : lo x ((p.1, some p.2) :: opt S) = [] := by
          have : lo x ((p.1, some p.2) :: opt S) = lo x (opt S) := by simp [lo, c1]
          rw [this, hlo]
        rw [e2]
        simp [hi, show x < p.1 by omega]
theorem pDrop_srt {x : Int} {S : List (Int × Int)} (h : PSrt S) : PSrt (pDrop x S) := List.Pairwise.filter _ h
theorem pDrop_len (x : Int) (S : List (Int × Int)) : (pDrop x S).length ≤ S.length := List.length_filter_le _ _
def delP (S : List (Int × Int)) (K : List Int) : List (Int × Int) := K.foldl (fun S x => pDrop x S) S
theorem delP_snoc (S : List (Int × Int)) (K : List Int) (x : Int) : delP S (K ++ [x]) = pDrop x (delP S K) := by simp [delP]
theorem delP_ok : ∀ (K : List Int) {S : List (Int × Int)}, PSrt S → PSrt (delP S K) ∧ (delP S K).length ≤ S.length
  | [], S, h => ⟨h, Nat.le_refl _⟩
  | x :: K, S, h => by
    have := delP_ok K (pDrop_srt (x := x) h)
    exact ⟨this.1, Nat.le_trans this.2 (pDrop_len x S)⟩
def endS (S : List (Int × Int)) (b : Bool) : List (Int × Int) := if b then S.dropLast else S.tail
def endP (S : List (Int × Int)) (B : List Bool) : List (Int × Int) := B.foldl endS S
theorem endP_snoc (S : List (Int × Int)) (B : List Bool) (b : Bool) : endP S (B ++ [b]) = endS (endP S B) b := by simp [endP]
theorem endS_ok {S : List (Int × Int)} (b : Bool) (h : PSrt S) : PSrt (endS S b) ∧ (endS S b).length ≤ S.length := by
  cases b
  · exact ⟨List.Pairwise.sublist (List.tail_sublist S) h, by simp [endS]⟩
  · exact ⟨List.Pairwise.sublist (List.dropLast_sublist S) h, by simp [endS]⟩
theorem endP_ok : ∀ (B : List Bool) {S : List (Int × Int)}, PSrt S → PSrt (endP S B) ∧ (endP S B).length ≤ S.length
  | [], S, h => ⟨h, Nat.le_refl _⟩
  | b :: B, S, h => by
    have h1 := endS_ok b h
    have := endP_ok B h1.1
    exact ⟨this.1, Nat.le_trans this.2 h1.2⟩
theorem opt_tail (S : List (Int × Int)) : opt S.tail = (opt S).tail := by cases S <;> rfl
theorem opt_last (S : List (Int × Int)) : opt S.dropLast = (opt S).dropLast := by simp [opt, List.map_dropLast]

set_option maxRecDepth 100000 in
set_option maxHeartbeats 800000 in
theorem Drop_any {w : World} {v : Value} {L : List (Int × Int)} (x : Int) (h : Rd pc 2 w v L) (hn : L.length ≤ 300000) : Calls Try.prog 20 #[v, .int .i32 x] w (OwnPost (pDrop x L) w) := by
  obtain ⟨sa, cap, rfl⟩ := h.shape
  obtain ⟨i0, hi0, hz0, hz1, hz2⟩ := info_parts info31
  have RD := Lib.hid h
  clear h
  go_enter Try.func20, Try.ntmps20
  go_wp2_with fail
  go_loopg [5, 10] (L.length) (fun k out i wr => ∃ j : Nat, j ≤ L.length ∧ k = L.length - j ∧ i = .int .i64 j ∧ ∃ oa on ocap, out = .slice oa on ocap ∧ on ≤ j ∧ Hid (on = (pDrop x (L.take j)).length ∧ wr.ownsRow w.heap.size 31 2 (.slice oa on ocap) on (fl pc (pDrop x (L.take j))) ∧ Below w.heap.size w wr))
  case atStart => exact ⟨0, Nat.zero_le _, rfl, rfl, none, 0, 0, rfl, Nat.zero_le _, rfl, World.ownsRow_nil _ _ _ _, Below.refl _ w⟩
  case round =>
    obtain ⟨j, hj, rfl, rfl, oa, on, ocap, rfl, hon, ho⟩ := hrel
    by_cases hjn : j < L.length
    · obtain ⟨p, hp⟩ : ∃ p, L[j]? = some p := ⟨_, List.getElem?_eq_getElem hjn⟩
      obtain ⟨b, off, rfl, hc⟩ := (RD.out.below ho.out.2.2).at pc_len hp
      have k0 : wr.cell? ⟨b, off + j * 2, none⟩ = some (.int .i32 p.1) := hc 0 _ rfl
      have k1 : wr.cell? ⟨b, off + j * 2 + 1, none⟩ = some (.int .i64 p.2) := hc 1 _ rfl
      have FS := Lib.hid (filter_snoc (f := fun p : Int × Int => decide (p.1 ≠ x)) hp)
      clear hc hp
      by_cases h0 : (p.1 == x) = true
      · go_wp2_with fail
        go_roundg (L.length - (j + 1))
        case measure => omega
        case rel =>
          obtain ⟨o0, o1, o2⟩ := ho.out
          have e : pDrop x (L.take (j + 1)) = pDrop x (L.take j) := by
            have h1 : decide (p.1 ≠ x) = false := by simpa using h0
            have := FS.out; simp only [h1, Bool.false_eq_true, if_false, List.append_nil] at this; exact this
          exact ⟨j + 1, by omega, rfl, by go_num, _, _, _, rfl, by omega, by rw [e]; exact o0, by rw [e]; exact o1.alloc _, o2.alloc o2.size _⟩
      · have h0' : (p.1 == x) = false := by simpa using h0
        clear h0
        go_wp2_with (at_builtin; refine wpList_append_lies _ rfl _ _ 22 rfl w.heap.size 31 i0 _ 2 16 Try.underlying22 hi0 hz0 hz1 hz2 rfl (by omega) (.slice oa on ocap) on (fl pc (pDrop x (L.take j))) rfl ((ho.out.2.1.alloc _).alloc _) ⟨wr.heap.size + 1, 0, none⟩ 1 1 (pc p) rfl rfl ?cc1 (pc_one _) (by omega) (by unfold maxLen; omega) (by omega) ?cc2 (wr.heap.size + 2) (by simp) ?cc3)
        case cc1 => exact news1 wr _ #[.int .i32 p.1, .int .i64 p.2] 31
        case cc2 => have := ho.out.2.2.size; simp; omega
        case cc3 =>
          intro g3 cap3 w3 hown3 hgrow3 hat3 hlt3
          have R := Lib.hid (And.intro hown3 (And.intro hgrow3 hat3))
          clear hown3 hgrow3 hat3
          go_wp2_with fail
          go_roundg (L.length - (j + 1))
          case measure => omega
          case rel =>
            obtain ⟨r1, r2, r3⟩ := R.out
            obtain ⟨o0, o1, o2⟩ := ho.out
            have e : pDrop x (L.take (j + 1)) = pDrop x (L.take j) ++ [p] := by
              have h1 : decide (p.1 ≠ x) = true := by simpa using h0'
              have := FS.out; simp only [h1, if_true] at this; exact this
            refine ⟨j + 1, by omega, rfl, by go_num, _, _, _, rfl, by omega, ?_, ?_, ?_⟩
            · rw [e, o0]; simp
            · rw [e, fl_app, fl_one]; exact r1
            · exact ((o2.alloc o2.size _).alloc (by have := o2.size; simp; omega) _).grown r2 (by have := o2.size; simp; omega) (fun k hk => (o1.lt k hk).1)
    · have hj' : j = L.length := by omega
      subst hj'
      rw [List.take_length] at ho
      go_wp2_with fail
      go_ret
      exact ⟨_, rfl, by rw [← ho.out.1]; exact ho.out.2.1, ho.out.2.2⟩

theorem Rd.last {α : Type} {f : α → List Value} {s : Nat} {w : World} {a : Option Addr} {n cap : Nat} {L : List α} (h : Rd f s w (.slice a n cap) L) : Rd f s w (.slice a (n - 1) cap) L.dropLast := by
  obtain ⟨a', cap', e, h⟩ := h
  cases e
  refine ⟨a, cap, by simp, ?_⟩
  rcases h with rfl | ⟨b, off, rfl, h⟩
  · exact .inl rfl
  · refine .inr ⟨b, off, rfl, fun j x hx => h j x ?_⟩
    rcases List.eq_nil_or_concat L with rfl | ⟨L', p, rfl⟩
    · simp [fl] at hx
    · rw [List.concat_eq_append, List.dropLast_concat] at hx
      rw [List.concat_eq_append, fl_app, List.getElem?_append_left (List.getElem?_eq_some_iff.1 hx).1]
      exact hx
theorem Rd.rest {α : Type} {f : α → List Value} {s : Nat} (hs : ∀ a, (f a).length = s) {w : World} {b off : Nat} {n cap cap' : Nat} {L : List α} (h : Rd f s w (.slice (some ⟨b, off, none⟩) n cap) L) : Rd f s w (.slice (some ⟨b, off + s, none⟩) (n - 1) cap') L.tail := by
  obtain ⟨a', c', e, h⟩ := h
  cases e
  refine ⟨some ⟨b, off + s, none⟩, cap', by simp, ?_⟩
  rcases h with rfl | ⟨b', off', e, h⟩
  · exact .inl rfl
  · cases e
    refine .inr ⟨b, off + s, rfl, fun j x hx => ?_⟩
    cases L with
    | nil => simp [fl] at hx
    | cons p L =>
      have := h (s + j) x (by
        show (f p ++ fl f L)[s + j]? = some x
        rw [List.getElem?_append_right (by rw [hs]; omega), hs, show s + j - s = j by omega]; exact hx)
      rw [← Nat.add_assoc] at this
      exact this

def DlPost (S : List (Int × Int)) (w : World) (e : Ending) (w' : World) : Prop :=
  ∃ t v, e = .returned v ∧ Rd Nn.cells 5 w' v (nlist t) ∧ Below w.heap.size w w' ∧ prs t = opt S ∧ Avl t

theorem del_step {w wr w2 : World} {tb : Nat} (hb : Below w.heap.size w wr) (htb : w.heap.size ≤ tb) (c : Chg (fun k => k = tb) wr w2) : Below w.heap.size w w2 :=
  hb.trans ((c.mono (S' := fun k => w.heap.size ≤ k) (fun k _ e => by omega)).below hb.size (fun _ h => h))

theorem good_srt {w : World} {tb : Nat} {t : BT Nd} {S : List (Int × Int)} (g : Good w tb t) (e : prs t = opt S) : PSrt S := by
  have := g.S
  rw [e] at this
  simp only [Srt, opt, List.pairwise_map] at this
  exact this

set_option maxRecDepth 100000 in
set_option maxHeartbeats 800000 in
theorem Deleted_any {w : World} {v kv bv : Value} {L : List (Int × Int)} {K : List Int} {B : List Bool} (h : Rd pc 2 w v L) (hK : Rd kc 1 w kv K) (hB : Rd bc 1 w bv B) (hk : ∀ p ∈ L, p.1 ≠ -2147483648) (hn : L.length ≤ 300000) (hn2 : K.length ≤ 300000) (hn3 : B.length ≤ 300000) :
    Calls Try.prog 21 #[v, kv, bv] w (DlPost (endP (delP (pTree L) K) B) w) := by
  have T := Lib.hid (tree_any h hk hn)
  have hl0 := pTree_len L
  obtain ⟨sa, cap, rfl⟩ := h.shape
  obtain ⟨ka, kcap, rfl⟩ := hK.shape
  obtain ⟨ba, bcap, rfl⟩ := hB.shape
  have RD := Lib.hid (And.intro hK hB)
  have SS := Lib.hid (pTree_srt L)
  clear h hk hK hB
  go_enter Try.func21, Try.ntmps21
  go_wp2_with fail
  refine T.out.mono ?_
  rintro e w1 ⟨t0, rfl, b1, g1, e1⟩
  have T1 := Lib.hid (And.intro b1 (And.intro g1 (e1.trans (opt_tree L).symm)))
  clear b1 g1 e1
  go_wp2_with fail
  go_loopg [16] (K.length) (fun k i wr => ∃ j : Nat, j ≤ K.length ∧ k = K.length - j ∧ i = .int .i64 j ∧ Hid (∃ t, Below w.heap.size w wr ∧ Good wr w.heap.size t ∧ prs t = opt (delP (pTree L) (K.take j))))
  case atStart => exact ⟨0, Nat.zero_le _, rfl, rfl, t0, T1.out⟩
  case round =>
    obtain ⟨j, hj, rfl, rfl, ho⟩ := hrel
    by_cases hjn : j < K.length
    · obtain ⟨x, hp⟩ : ∃ x, K[j]? = some x := ⟨_, List.getElem?_eq_getElem hjn⟩
      obtain ⟨t, b2, g2, e2⟩ := ho.out
      obtain ⟨b, off, rfl, hc⟩ := (RD.out.1.below b2).at kc_len hp
      have k0 : wr.cell? ⟨b, off + j, none⟩ = some (.int .i32 x) := by have := hc 0 _ rfl; rw [Nat.mul_one] at this; exact this
      have hl : (prs t).length ≤ 300000 := by rw [e2, opt_len]; have := (delP_ok (K.take j) SS.out).2; omega
      have DL := Lib.hid (Delete_any g2 hl x)
      have Q := Lib.hid (And.intro b2 (And.intro g2 (And.intro e2 hp)))
      clear b2 g2 e2 hp hc hl
      go_wp2_with fail
      refine DL.out.mono ?_
      rintro e w2 ⟨rfl, t', c2, g3, e3⟩
      have Q2 := Lib.hid (And.intro c2 (And.intro g3 e3))
      clear c2 g3 e3
      go_wp2_with fail
      go_roundg (K.length - (j + 1))
      case measure => omega
      case rel =>
        obtain ⟨c2, g3, e3⟩ := Q2.out
        obtain ⟨b2, g2, e2, hp⟩ := Q.out
        refine ⟨j + 1, by omega, rfl, by go_num, t', del_step b2 (Nat.le_refl _) c2, g3, ?_⟩
        have e : K.take (j + 1) = K.take j ++ [x] := by rw [List.take_add_one, hp]; rfl
        rw [e3, e2, e, delP_snoc, opt_drop x (good_srt g2 e2)]
    · have hj' : j = K.length := by omega
      subst hj'
      rw [List.take_length] at ho
      go_wp2_with fail
      go_loopg [26] (B.length) (fun k i wr => ∃ j : Nat, j ≤ B.length ∧ k = B.length - j ∧ i = .int .i64 j ∧ Hid (∃ t, Below w.heap.size w wr ∧ Good wr w.heap.size t ∧ prs t = opt (endP (delP (pTree L) K) (B.take j))))
      case atStart => exact ⟨0, Nat.zero_le _, rfl, rfl, ho.out⟩
      case round =>
        clear ho hjn
        obtain ⟨j, hj, rfl, rfl, ho⟩ := hrel
        by_cases hjn : j < B.length
        · obtain ⟨x, hp⟩ : ∃ x, B[j]? = some x := ⟨_, List.getElem?_eq_getElem hjn⟩
          obtain ⟨t, b2, g2, e2⟩ := ho.out
          obtain ⟨b, off, rfl, hc⟩ := (RD.out.2.below b2).at bc_len hp
          have k0 : wr.cell? ⟨b, off + j, none⟩ = some (.bool x) := by have := hc 0 _ rfl; rw [Nat.mul_one] at this; exact this
          have hl : (prs t).length ≤ 300000 := by rw [e2, opt_len]; have := (delP_ok K SS.out); have := (endP_ok (B.take j) this.1).2; omega
          have DL := Lib.hid (DeleteMin_any g2 hl)
          have DM := Lib.hid (DeleteMax_any g2 hl)
          have Q := Lib.hid (And.intro b2 (And.intro g2 (And.intro e2 hp)))
          clear b2 g2 e2 hp hc hl
          cases x with
          | true =>
            go_wp2_with fail
            refine DM.out.mono ?_
            rintro e w2 ⟨mk, md, rfl, t', c2, g3, e3⟩
            have Q2 := Lib.hid (And.intro c2 (And.intro g3 e3))
            clear c2 g3 e3
            go_wp2_with fail
            go_roundg (B.length - (j + 1))
            case measure => omega
            case rel =>
              obtain ⟨c2, g3, e3⟩ := Q2.out
              obtain ⟨b2, g2, e2, hp⟩ := Q.out
              refine ⟨j + 1, by omega, rfl, by go_num, t', del_step b2 (Nat.le_refl _) c2, g3, ?_⟩
              have e : B.take (j + 1) = B.take j ++ [true] := by rw [List.take_add_one, hp]; rfl
              rw [e3, e2, e, endP_snoc]; exact (opt_last _).symm
          | false =>
            go_wp2_with fail
            refine DL.out.mono ?_
            rintro e w2 ⟨mk, md, rfl, t', c2, g3, e3⟩
            have Q2 := Lib.hid (And.intro c2 (And.intro g3 e3))
            clear c2 g3 e3
            go_wp2_with fail
            go_roundg (B.length - (j + 1))
            case measure => omega
            case rel =>
              obtain ⟨c2, g3, e3⟩ := Q2.out
              obtain ⟨b2, g2, e2, hp⟩ := Q.out
              refine ⟨j + 1, by omega, rfl, by go_num, t', del_step b2 (Nat.le_refl _) c2, g3, ?_⟩
              have e : B.take (j + 1) = B.take j ++ [false] := by rw [List.take_add_one, hp]; rfl
              rw [e3, e2, e, endP_snoc]; exact (opt_tail _).symm
        · have hj' : j = B.length := by omega
          subst hj'
          rw [List.take_length] at ho
          obtain ⟨t, b2, g2, e2⟩ := ho.out
          have S := Lib.hid (shape_good g2 (by rw [sz, e2, opt_len]; have := (delP_ok K SS.out); have := (endP_ok B this.1).2; omega))
          have Q := Lib.hid (And.intro b2 (And.intro g2 e2))
          clear b2 g2 e2
          go_wp2_with fail
          refine S.out.mono ?_
          rintro e w2 ⟨v2, rfl, o2, b3⟩
          have Q2 := Lib.hid (And.intro o2 b3)
          clear o2 b3
          go_wp2_with fail
          go_ret
          obtain ⟨b2, g2, e2⟩ := Q.out
          obtain ⟨o2, b3⟩ := Q2.out
          exact ⟨t, v2, rfl, Rd.of_own Nn.len (by rw [nlist_len]; exact o2), b2.trans (b3.mono b2.size), e2, g2.A⟩


end Go.Proofs.Ytahghidbadpkeaa
