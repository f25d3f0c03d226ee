/-
  What an Int in memory says: its words, its sign; and small laws on worlds with new blocks.
-/
import Derived.Test.Qxb6605800aNorm
namespace Go.Proofs.Qxb6605800a.Walks
open Go.RowKit

/-- The slice s holds the words of N, the highest not nought. -/
def NumIs (w : World) (s : Value) (N : Int) : Prop :=
  (N = 0 ∧ ∃ a c, s = .slice a 0 c) ∨
  (∃ b c C, s = .slice (some ⟨b, 0, none⟩) 1 c ∧ 1 ≤ c ∧ w.heap[b]? = some (.cells C 47 (0, 0)) ∧ C[0]? = some (.int .u64 N) ∧ Wd N ∧ 1 ≤ N) ∨
  (∃ b C x0 x1, s = .slice (some ⟨b, 0, none⟩) 2 7 ∧ w.heap[b]? = some (.cells C 47 (0, 0)) ∧ C[0]? = some (.int .u64 x0) ∧ C[1]? = some (.int .u64 x1) ∧ Wd x0 ∧ Wd x1 ∧ 1 ≤ x1 ∧ N = two x0 x1)

/-- The Int in block p is V. -/
def IntIs (w : World) (p : Nat) (V : Int) : Prop :=
  ∃ s, w.heap[p]? = some (.cells #[.bool (decide (V < 0)), s] 32 (0, 0)) ∧ NumIs w s (if V < 0 then -V else V)

theorem lt_of_blk {w : World} {b : Nat} {o : Obj} (h : w.heap[b]? = some o) : b < w.heap.size := (Array.getElem?_eq_some_iff.1 h).1

theorem NumIs.below {w w' : World} {s : Value} {N : Int} (h : NumIs w s N) (hb : Below w.heap.size w w') : NumIs w' s N := by
  rcases h with h | ⟨b, c, C, h1, h2, h3, h4⟩ | ⟨b, C, x0, x1, h1, h3, h4⟩
  · exact .inl h
  · exact .inr (.inl ⟨b, c, C, h1, h2, (hb.block b (lt_of_blk h3)).trans h3, h4⟩)
  · exact .inr (.inr ⟨b, C, x0, x1, h1, (hb.block b (lt_of_blk h3)).trans h3, h4⟩)

theorem IntIs.below {w w' : World} {p : Nat} {V : Int} (h : IntIs w p V) (hb : Below w.heap.size w w') : IntIs w' p V := by
  obtain ⟨s, h1, h2⟩ := h
  exact ⟨s, (hb.block p (lt_of_blk h1)).trans h1, h2.below hb⟩

theorem IntIs.lt {w : World} {p : Nat} {V : Int} (h : IntIs w p V) : p < w.heap.size := by
  obtain ⟨s, h1, _⟩ := h
  exact lt_of_blk h1

theorem below_draws {B : Nat} {a w : World} (h : Below B a w) (n : Nat) : Below B a (w.drewN n) := ⟨h.os, h.tape, h.output, h.size, h.block⟩

/-! ### worlds with new blocks -/
theorem setRow_drewN (w : World) (n b : Nat) (C : Array Value) : (w.drewN n).setRow b C = (w.setRow b C).drewN n := rfl
theorem setRow_drew (w : World) (b : Nat) (C : Array Value) : w.drew.setRow b C = (w.setRow b C).drew := rfl
theorem heap_at (w : World) (o : Obj) (k : Nat) (hk : k = w.heap.size) : (w.alloc o).heap[k]? = some o := by
  subst hk
  show (w.heap.push o)[w.heap.size]? = _
  simp
theorem heap_past (w : World) (o : Obj) (k : Nat) (hk : k < w.heap.size) : (w.alloc o).heap[k]? = w.heap[k]? := by
  show (w.heap.push o)[k]? = _
  rw [Array.getElem?_push, if_neg (by omega)]
theorem setRow_at (w : World) (D C : Array Value) (t : TypeId) (k : Nat) (hk : k = w.heap.size) : (w.alloc (.cells D t)).setRow k C = w.alloc (.cells C t) := by
  subst hk
  have h1 : (w.alloc (.cells D t)) = { w with heap := w.heap.push (.cells D t) } := rfl
  have h2 : (w.alloc (.cells C t)) = { w with heap := w.heap.push (.cells C t) } := rfl
  rw [h1, h2]
  unfold World.setRow
  congr 1
  apply Array.ext
  · simp
  · intro i hi1 hi2
    simp only [Array.getElem_modify, Array.getElem_push]
    split
    · rename_i h; subst h; simp
    · rename_i h
      have : i < w.heap.size := by simp at hi2; omega
      simp [this]
theorem setRow_past (w : World) (o : Obj) (C : Array Value) (k : Nat) (hk : k < w.heap.size) : (w.alloc o).setRow k C = (w.setRow k C).alloc o := by
  have h1 : (w.alloc o) = { w with heap := w.heap.push o } := rfl
  have h2 : ((w.setRow k C).alloc o) = { (w.setRow k C) with heap := (w.setRow k C).heap.push o } := rfl
  rw [h1, h2]
  unfold World.setRow
  congr 1
  apply Array.ext
  · simp
  · intro i hi1 hi2
    simp only [Array.getElem_modify, Array.getElem_push]
    by_cases h : i < w.heap.size
    · simp [h]
    · have : k ≠ i := by omega
      simp [h, this]

/-! ### a block among the new ones -/
theorem A1_0 (w : World) (o0 : Obj) : (w.alloc o0).heap[w.heap.size]? = some o0 := by
  rw [heap_at _ _ _ (by simp)]
theorem A2_0 (w : World) (o0 o1 : Obj) : ((w.alloc o0).alloc o1).heap[w.heap.size]? = some o0 := by
  rw [heap_past _ _ _ (by simp; try omega), heap_at _ _ _ (by simp)]
theorem A2_1 (w : World) (o0 o1 : Obj) : ((w.alloc o0).alloc o1).heap[w.heap.size + 1]? = some o1 := by
  rw [heap_at _ _ _ (by simp)]
theorem A3_0 (w : World) (o0 o1 o2 : Obj) : (((w.alloc o0).alloc o1).alloc o2).heap[w.heap.size]? = some o0 := by
  rw [heap_past _ _ _ (by simp; try omega), heap_past _ _ _ (by simp; try omega), heap_at _ _ _ (by simp)]
theorem A3_1 (w : World) (o0 o1 o2 : Obj) : (((w.alloc o0).alloc o1).alloc o2).heap[w.heap.size + 1]? = some o1 := by
  rw [heap_past _ _ _ (by simp; try omega), heap_at _ _ _ (by simp)]
theorem A3_2 (w : World) (o0 o1 o2 : Obj) : (((w.alloc o0).alloc o1).alloc o2).heap[w.heap.size + 1 + 1]? = some o2 := by
  rw [heap_at _ _ _ (by simp)]
theorem A4_0 (w : World) (o0 o1 o2 o3 : Obj) : ((((w.alloc o0).alloc o1).alloc o2).alloc o3).heap[w.heap.size]? = some o0 := by
  rw [heap_past _ _ _ (by simp; try omega), heap_past _ _ _ (by simp; try omega), heap_past _ _ _ (by simp; try omega), heap_at _ _ _ (by simp)]
theorem A4_1 (w : World) (o0 o1 o2 o3 : Obj) : ((((w.alloc o0).alloc o1).alloc o2).alloc o3).heap[w.heap.size + 1]? = some o1 := by
  rw [heap_past _ _ _ (by simp; try omega), heap_past _ _ _ (by simp; try omega), heap_at _ _ _ (by simp)]
theorem A4_2 (w : World) (o0 o1 o2 o3 : Obj) : ((((w.alloc o0).alloc o1).alloc o2).alloc o3).heap[w.heap.size + 1 + 1]? = some o2 := by
  rw [heap_past _ _ _ (by simp; try omega), heap_at _ _ _ (by simp)]
theorem A4_3 (w : World) (o0 o1 o2 o3 : Obj) : ((((w.alloc o0).alloc o1).alloc o2).alloc o3).heap[w.heap.size + 1 + 1 + 1]? = some o3 := by
  rw [heap_at _ _ _ (by simp)]
theorem A5_0 (w : World) (o0 o1 o2 o3 o4 : Obj) : (((((w.alloc o0).alloc o1).alloc o2).alloc o3).alloc o4).heap[w.heap.size]? = some o0 := by
  rw [heap_past _ _ _ (by simp; try omega), heap_past _ _ _ (by simp; try omega), heap_past _ _ _ (by simp; try omega), heap_past _ _ _ (by simp; try omega), heap_at _ _ _ (by simp)]
theorem A5_1 (w : World) (o0 o1 o2 o3 o4 : Obj) : (((((w.alloc o0).alloc o1).alloc o2).alloc o3).alloc o4).heap[w.heap.size + 1]? = some o1 := by
  rw [heap_past _ _ _ (by simp; try omega), heap_past _ _ _ (by simp; try omega), heap_past _ _ _ (by simp; try omega), heap_at _ _ _ (by simp)]
theorem A5_2 (w : World) (o0 o1 o2 o3 o4 : Obj) : (((((w.alloc o0).alloc o1).alloc o2).alloc o3).alloc o4).heap[w.heap.size + 1 + 1]? = some o2 := by
  rw [heap_past _ _ _ (by simp; try omega), heap_past _ _ _ (by simp; try omega), heap_at _ _ _ (by simp)]
theorem A5_3 (w : World) (o0 o1 o2 o3 o4 : Obj) : (((((w.alloc o0).alloc o1).alloc o2).alloc o3).alloc o4).heap[w.heap.size + 1 + 1 + 1]? = some o3 := by
  rw [heap_past _ _ _ (by simp; try omega), heap_at _ _ _ (by simp)]
theorem A5_4 (w : World) (o0 o1 o2 o3 o4 : Obj) : (((((w.alloc o0).alloc o1).alloc o2).alloc o3).alloc o4).heap[w.heap.size + 1 + 1 + 1 + 1]? = some o4 := by
  rw [heap_at _ _ _ (by simp)]

/-! ### the closing of each way -/
theorem int_zero {w : World} {p : Nat} {a : Option Addr} {c : Nat} (h : w.heap[p]? = some (.cells #[.bool false, .slice a 0 c] 32 (0, 0))) : IntIs w p 0 :=
  ⟨_, h, .inl ⟨rfl, a, c, rfl⟩⟩
theorem int_one {w : World} {p b c : Nat} {C : Array Value} {V x0 : Int} (h : w.heap[p]? = some (.cells #[.bool (decide (V < 0)), .slice (some ⟨b, 0, none⟩) 1 c] 32 (0, 0))) (hc : 1 ≤ c) (hb : w.heap[b]? = some (.cells C 47 (0, 0))) (h0 : C[0]? = some (.int .u64 x0)) (hx : Wd x0) (h1 : 1 ≤ x0)
    (hV : (if V < 0 then -V else V) = x0) : IntIs w p V :=
  ⟨_, h, .inr (.inl ⟨b, c, C, rfl, hc, hb, by rw [hV]; exact h0, by rw [hV]; exact hx, by rw [hV]; exact h1⟩)⟩
theorem int_two {w : World} {p b : Nat} {C : Array Value} {V x0 x1 : Int} (h : w.heap[p]? = some (.cells #[.bool (decide (V < 0)), .slice (some ⟨b, 0, none⟩) 2 7] 32 (0, 0))) (hb : w.heap[b]? = some (.cells C 47 (0, 0))) (h0 : C[0]? = some (.int .u64 x0)) (h1 : C[1]? = some (.int .u64 x1)) (hx0 : Wd x0) (hx1 : Wd x1) (h2 : 1 ≤ x1)
    (hV : (if V < 0 then -V else V) = two x0 x1) : IntIs w p V :=
  ⟨_, h, .inr (.inr ⟨b, C, x0, x1, rfl, hb, h0, h1, hx0, hx1, h2, hV⟩)⟩

end Go.Proofs.Qxb6605800a.Walks
