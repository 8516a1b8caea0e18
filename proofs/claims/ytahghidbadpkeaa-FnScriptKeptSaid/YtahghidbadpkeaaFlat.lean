/- Lists of structs as lists of cells, and slices that are read. -/
import Derived.Test.YtahghidbadpkeaaHeap
import Derived.Deep.AppendLies
set_option linter.unusedVariables false
set_option linter.unusedSimpArgs false
namespace Go.Proofs.Ytahghidbadpkeaa
open Go.Deep Go.RowKit

def fl {α : Type} (f : α → List Value) : List α → List Value
  | [] => []
  | a :: L => f a ++ fl f L
section
variable {α : Type} {f : α → List Value}
theorem fl_app : ∀ (A B : List α), fl f (A ++ B) = fl f A ++ fl f B
  | [], B => rfl
  | a :: A, B => by simp only [List.cons_append, fl, fl_app A B, List.append_assoc]
theorem fl_one (a : α) : fl f [a] = f a := by simp [fl]
variable {s : Nat} (hs : ∀ a, (f a).length = s)
include hs
theorem fl_len : ∀ A : List α, (fl f A).length = A.length * s
  | [] => by simp [fl]
  | a :: A => by simp only [fl, List.length_append, fl_len A, hs, List.length_cons, Nat.add_mul]; omega
theorem fl_get : ∀ {A : List α} {j i : Nat} {a : α}, A[j]? = some a → i < s → (fl f A)[j * s + i]? = (f a)[i]?
  | [], j, i, a, h, _ => by simp at h
  | b :: A, 0, i, a, h, hi => by
    simp at h; subst h
    simp only [fl, Nat.zero_mul, Nat.zero_add]
    rw [List.getElem?_append_left (by rw [hs]; exact hi)]
  | b :: A, j + 1, i, a, h, hi => by
    simp at h
    simp only [fl]
    rw [List.getElem?_append_right (by rw [hs, Nat.add_mul]; omega), hs, Nat.add_mul, Nat.one_mul, show j * s + s + i - s = j * s + i by omega]
    exact fl_get h hi
end

/-- A slice value that reads as a list of structs of s cells each. -/
def Rd {α : Type} (f : α → List Value) (s : Nat) (w : World) (v : Value) (L : List α) : Prop :=
  ∃ a cap, v = .slice a L.length cap ∧ (L = [] ∨ ∃ b off, a = some ⟨b, off, none⟩ ∧ ∀ j x, (fl f L)[j]? = some x → w.cell? ⟨b, off + j, none⟩ = some x)

theorem Rd.of_own {α : Type} {f : α → List Value} {s : Nat} (hs : ∀ a, (f a).length = s) {w : World} {base : Nat} {e : TypeId} {v : Value} {L : List α} (h : w.ownsRow base e s v L.length (fl f L)) : Rd f s w v L := by
  rcases h.2 with ⟨rfl, hn⟩ | ⟨g, cap, cur, rfl, hb, hg, hnc, hcm, hcs, htake⟩
  · exact ⟨none, 0, by rw [hn], .inl (List.eq_nil_of_length_eq_zero hn)⟩
  · refine ⟨_, cap, rfl, .inr ⟨g, 0, rfl, fun j x hx => ?_⟩⟩
    have := h.cells (g := g) rfl j x hx
    have hadd : (⟨g, 0, none⟩ : Addr).add j = ⟨g, j, none⟩ := by unfold Addr.add; split <;> simp_all
    rw [hadd] at this
    simpa using this

theorem Rd.chg {α : Type} {f : α → List Value} {s : Nat} {w w' : World} {v : Value} {L : List α} {S : Nat → Prop} (h : Rd f s w v L) (hc : Chg S w w') (hs : ∀ b, v.ownBlock = some b → b < w.heap.size → ¬ S b) : Rd f s w' v L := by
  obtain ⟨a, cap, rfl, h⟩ := h
  refine ⟨a, cap, rfl, ?_⟩
  rcases h with h | ⟨b, off, rfl, h⟩
  · exact .inl h
  · refine .inr ⟨b, off, rfl, fun j x hx => ?_⟩
    have h0 := h j x hx
    have hlt := World.block_lt_of_cell? w _ h0
    exact (World.cell?_of_block (hc.block b hlt (hs b rfl hlt))).trans h0

theorem Rd.below {α : Type} {f : α → List Value} {s : Nat} {w w' : World} {v : Value} {L : List α} (h : Rd f s w v L) (hc : Below w.heap.size w w') : Rd f s w' v L :=
  h.chg (Chg.of_below hc) (fun b _ hlt => Nat.not_le.2 hlt)

theorem Rd.shape {α : Type} {f : α → List Value} {s : Nat} {w : World} {v : Value} {L : List α} (h : Rd f s w v L) : ∃ a cap, v = .slice a L.length cap := by
  obtain ⟨a, cap, rfl, _⟩ := h
  exact ⟨a, cap, rfl⟩

/-- An element's cells. -/
theorem Rd.at {α : Type} {f : α → List Value} {s : Nat} (hs : ∀ a, (f a).length = s) {w : World} {a : Option Addr} {n cap : Nat} {L : List α} (h : Rd f s w (.slice a n cap) L) {j : Nat} {x : α} (hj : L[j]? = some x) :
    ∃ b off, a = some ⟨b, off, none⟩ ∧ ∀ i y, (f x)[i]? = some y → w.cell? ⟨b, off + j * s + i, none⟩ = some y := by
  obtain ⟨a', cap', e, h⟩ := h
  cases e
  rcases h with rfl | ⟨b, off, rfl, h⟩
  · simp at hj
  · refine ⟨b, off, rfl, fun i y hy => ?_⟩
    have hi : i < s := by rw [← hs x]; exact (List.getElem?_eq_some_iff.1 hy).1
    have := h (j * s + i) y (by rw [fl_get hs hj hi]; exact hy)
    rw [← Nat.add_assoc] at this
    exact this

theorem Chg.grown {S : Nat → Prop} {w w1 w2 : World} {row : Option Nat} (h : Chg S w w1) (hg : w1.grownBy w2 row) (hr : ∀ k, row = some k → k < w.heap.size → S k) : Chg S w w2 :=
  ⟨hg.os.trans h.os, hg.tape.trans h.tape, hg.output.trans h.output, Nat.le_trans h.size hg.size, fun k hk hs => (hg.block k (Nat.lt_of_lt_of_le hk h.size) (fun e => hs (hr k e.symm hk))).trans (h.block k hk hs)⟩
theorem Below.chg {B : Nat} {w w' : World} (h : Below B w w') : Chg (fun k => B ≤ k) w w' := Chg.of_below h

theorem news0 (w : World) (cs : Array Value) (t : TypeId) : ∀ j u, cs.toList[j]? = some u → (w.alloc (.cells cs t)).cell? ((⟨w.heap.size, 0, none⟩ : Addr).add j) = some u :=
  World.news_of_block (heap_alloc_new w _)
theorem news1 (w : World) (o : Obj) (cs : Array Value) (t : TypeId) : ∀ j u, cs.toList[j]? = some u → ((w.alloc o).alloc (.cells cs t)).cell? ((⟨w.heap.size + 1, 0, none⟩ : Addr).add j) = some u := by
  have h := news0 (w.alloc o) cs t
  rw [World.size_alloc] at h
  exact h

/-- A node as the thin package shows it. -/
structure Nn where
  k : Int
  x : Int
  h : Int
  l : Int
  r : Int
def Nn.cells (z : Nn) : List Value := [.int .i32 z.k, .int .i64 z.x, .int .i64 z.h, .int .i64 z.l, .int .i64 z.r]
theorem Nn.len (z : Nn) : z.cells.length = 5 := rfl
theorem Nn.one (z : Nn) : ∀ u ∈ z.cells, u.oneCell' = true := by
  intro u hu
  simp only [Nn.cells, List.mem_cons, List.not_mem_nil, or_false] at hu
  rcases hu with rfl | rfl | rfl | rfl | rfl <;> rfl

/-- A pair. -/
def pc (p : Int × Int) : List Value := [.int .i32 p.1, .int .i64 p.2]
theorem pc_len (p : Int × Int) : (pc p).length = 2 := rfl
theorem pc_one (p : Int × Int) : ∀ u ∈ pc p, u.oneCell' = true := by
  intro u hu
  simp only [pc, List.mem_cons, List.not_mem_nil, or_false] at hu
  rcases hu with rfl | rfl <;> rfl

end Go.Proofs.Ytahghidbadpkeaa
