/-
  (*Int).Add where the receiver is the first operand, at the values that (*sum).big meets, by its contracts.
-/
import Derived.Test.Qxb6605800aInt
namespace Go.Proofs.Qxb6605800a.Walks
open Go.ChangeShapes Go.WideShapes Go.ChangeAt Go.RowKit
attribute [local go_sem] setCell_drewN alloc_drewN
attribute [local go_sem ↓] Go.wp_at_zero Go.wp_at_succ

set_option maxHeartbeats 4000000 in
theorem add_A1 (p q : Nat) (w : World) (hp : w.heap[p]? = some (.cells #[.bool false, .slice none 0 0] 32 (0, 0))) (hq : w.heap[q]? = some (.cells #[.bool false, .slice none 0 0] 32 (0, 0))) :
    Calls Try.prog 23 #[.pointer (some ⟨p, 0, none⟩), .pointer (some ⟨p, 0, none⟩), .pointer (some ⟨q, 0, none⟩)] w fun e w' => e = .returned (.pointer (some ⟨p, 0, none⟩)) ∧ ∃ k, w' = w.drewN k := by
  have c0 : w.cell? ⟨p, 0, none⟩ = some (.bool false) := by simp [World.cell?, hp]
  have c1 : w.cell? ⟨p, 1, none⟩ = some (.slice none 0 0) := by simp [World.cell?, hp]
  have d0 : w.cell? ⟨q, 0, none⟩ = some (.bool false) := by simp [World.cell?, hq]
  have d1 : w.cell? ⟨q, 1, none⟩ = some (.slice none 0 0) := by simp [World.cell?, hq]
  have f0 : w.frozen? ⟨p, 0, none⟩ = false := by simp [World.frozen?, hp]
  have f1 : w.frozen? ⟨p, 1, none⟩ = false := by simp [World.frozen?, hp]
  have s0 : (w).setCell ⟨p, 0, none⟩ (.bool false) = w := setCell_self (w) p 0 _ 32 (0, 0) _ hp rfl
  have s1 : (w).setCell ⟨p, 1, none⟩ (.slice none 0 0) = w := setCell_self (w) p 1 _ 32 (0, 0) _ hp rfl
  clear hp hq
  go_enter Try.func23, Try.ntmps23
  go_wp2_with (first | (go_at_call 19; fail) | (go_at_call 18; fail) | (go_at_call 20; fail) | go_in)
  go_quiet (fail)
  go_wp2_with (first | (go_at_call 19; fail) | (go_at_call 18; fail) | (go_at_call 20; fail) | go_in)
  go_region_with (first | (go_at_call 19; refine (add_00 _).mono ?_; rintro e w' ⟨rfl, rfl⟩))
  all_goals go_wp2
  all_goals go_ret
  all_goals exact ⟨rfl, _, rfl⟩

set_option maxHeartbeats 4000000 in
theorem add_A2 (p q yb : Nat) (l : Int) (w : World) (hp : w.heap[p]? = some (.cells #[.bool false, .slice none 0 0] 32 (0, 0))) (hq : w.heap[q]? = some (.cells #[.bool false, .slice (some ⟨yb, 0, none⟩) 1 1] 32 (0, 0))) (hy : w.heap[yb]? = some (.cells #[.int .u64 l] 47 (0, 0))) :
    Calls Try.prog 23 #[.pointer (some ⟨p, 0, none⟩), .pointer (some ⟨p, 0, none⟩), .pointer (some ⟨q, 0, none⟩)] w fun e w' => e = .returned (.pointer (some ⟨p, 0, none⟩)) ∧ ∃ k, w' = ((w.setRow p #[.bool false, .slice (some ⟨w.heap.size, 0, none⟩) 1 1]).alloc (.cells #[.int .u64 l] 47)).drewN k := by
  have c0 : w.cell? ⟨p, 0, none⟩ = some (.bool false) := by simp [World.cell?, hp]
  have c1 : w.cell? ⟨p, 1, none⟩ = some (.slice none 0 0) := by simp [World.cell?, hp]
  have d0 : w.cell? ⟨q, 0, none⟩ = some (.bool false) := by simp [World.cell?, hq]
  have d1 : w.cell? ⟨q, 1, none⟩ = some (.slice (some ⟨yb, 0, none⟩) 1 1) := by simp [World.cell?, hq]
  have f0 : w.frozen? ⟨p, 0, none⟩ = false := by simp [World.frozen?, hp]
  have f1 : w.frozen? ⟨p, 1, none⟩ = false := by simp [World.frozen?, hp]
  have hpl : p < w.heap.size := (Array.getElem?_eq_some_iff.1 hp).1
  have hyl : yb < w.heap.size := (Array.getElem?_eq_some_iff.1 hy).1
  have y0 : w.cell? ⟨yb, 0, none⟩ = some (.int .u64 l) := by simp [World.cell?, hy]
  have HR : Hid ((w.setCell ⟨p, 1, none⟩ (.slice (some ⟨w.heap.size, 0, none⟩) 1 1)).setCell ⟨p, 0, none⟩ (.bool false) = w.setRow p #[.bool false, .slice (some ⟨w.heap.size, 0, none⟩) 1 1]) := rowI w p _ _ _ _ hp
  clear hp hq hy
  go_enter Try.func23, Try.ntmps23
  go_wp2_with (first | (go_at_call 19; fail) | (go_at_call 18; fail) | (go_at_call 20; fail) | go_in)
  go_quiet (fail)
  go_wp2_with (first | (go_at_call 19; fail) | (go_at_call 18; fail) | (go_at_call 20; fail) | go_in)
  go_region_with (first | (go_at_call 19; refine (add_01 yb 1 none 0 l _ ?_ ?_).mono ?_; (go_simp); (go_simp); rintro e w' ⟨rfl, rfl⟩))
  all_goals go_wp2
  all_goals go_ret
  all_goals exact ⟨rfl, _, congrArg (fun x : World => (x.alloc (.cells #[.int .u64 l] 47)).drewN _) HR.out⟩

set_option maxHeartbeats 4000000 in
theorem add_A3 (p q b : Nat) (u : Int) (w : World) (hp : w.heap[p]? = some (.cells #[.bool false, .slice (some ⟨b, 0, none⟩) 2 7] 32 (0, 0))) (hq : w.heap[q]? = some (.cells #[.bool false, .slice none 0 0] 32 (0, 0))) (hb : w.heap[b]? = some (.cells #[.int .u64 0, .int .u64 u, .int .u64 0, .int .u64 0, .int .u64 0, .int .u64 0, .int .u64 0] 47 (0, 0))) :
    Calls Try.prog 23 #[.pointer (some ⟨p, 0, none⟩), .pointer (some ⟨p, 0, none⟩), .pointer (some ⟨q, 0, none⟩)] w fun e w' => e = .returned (.pointer (some ⟨p, 0, none⟩)) ∧ ∃ k, w' = w.drewN k := by
  have c0 : w.cell? ⟨p, 0, none⟩ = some (.bool false) := by simp [World.cell?, hp]
  have c1 : w.cell? ⟨p, 1, none⟩ = some (.slice (some ⟨b, 0, none⟩) 2 7) := by simp [World.cell?, hp]
  have d0 : w.cell? ⟨q, 0, none⟩ = some (.bool false) := by simp [World.cell?, hq]
  have d1 : w.cell? ⟨q, 1, none⟩ = some (.slice none 0 0) := by simp [World.cell?, hq]
  have f0 : w.frozen? ⟨p, 0, none⟩ = false := by simp [World.frozen?, hp]
  have f1 : w.frozen? ⟨p, 1, none⟩ = false := by simp [World.frozen?, hp]
  have s0 : (w).setCell ⟨p, 0, none⟩ (.bool false) = w := setCell_self (w) p 0 _ 32 (0, 0) _ hp rfl
  have s1 : (w).setCell ⟨p, 1, none⟩ (.slice (some ⟨b, 0, none⟩) 2 7) = w := setCell_self (w) p 1 _ 32 (0, 0) _ hp rfl
  have HS : Hid (∀ k, Calls Try.prog 19 #[.slice (some ⟨b, 0, none⟩) 2 7, .slice (some ⟨b, 0, none⟩) 2 7, .slice none 0 0] (w.drewN k) fun e w' => e = .returned (.slice (some ⟨b, 0, none⟩) 2 7) ∧ w' = w.drewN k) := fun k => add_20 b none 0 0 u _ _ _ _ _ (w.drewN k) hb
  clear hp hq hb
  go_enter Try.func23, Try.ntmps23
  go_wp2_with (first | (go_at_call 19; fail) | (go_at_call 18; fail) | (go_at_call 20; fail) | go_in)
  go_quiet (fail)
  go_wp2_with (first | (go_at_call 19; fail) | (go_at_call 18; fail) | (go_at_call 20; fail) | go_in)
  go_region_with (first | (go_at_call 19; refine (HS.out _).mono ?_; rintro e w' ⟨rfl, rfl⟩))
  all_goals go_wp2
  all_goals go_ret
  all_goals exact ⟨rfl, _, rfl⟩

set_option maxHeartbeats 4000000 in
theorem add_A4 (p q b yb : Nat) (u l : Int) (hu : Wd u) (hl : Wd l) (h0 : (u == 0) = false) (hpb : p ≠ b) (w : World) (hp : w.heap[p]? = some (.cells #[.bool false, .slice (some ⟨b, 0, none⟩) 2 7] 32 (0, 0))) (hq : w.heap[q]? = some (.cells #[.bool false, .slice (some ⟨yb, 0, none⟩) 1 1] 32 (0, 0))) (hb : w.heap[b]? = some (.cells #[.int .u64 0, .int .u64 u, .int .u64 0, .int .u64 0, .int .u64 0, .int .u64 0, .int .u64 0] 47 (0, 0))) (hy : w.heap[yb]? = some (.cells #[.int .u64 l] 47 (0, 0))) :
    Calls Try.prog 23 #[.pointer (some ⟨p, 0, none⟩), .pointer (some ⟨p, 0, none⟩), .pointer (some ⟨q, 0, none⟩)] w fun e w' => e = .returned (.pointer (some ⟨p, 0, none⟩)) ∧ ∃ k, w' = (w.setRow b #[.int .u64 l, .int .u64 u, .int .u64 0, .int .u64 0, .int .u64 0, .int .u64 0, .int .u64 0]).drewN k := by
  have c0 : w.cell? ⟨p, 0, none⟩ = some (.bool false) := by simp [World.cell?, hp]
  have c1 : w.cell? ⟨p, 1, none⟩ = some (.slice (some ⟨b, 0, none⟩) 2 7) := by simp [World.cell?, hp]
  have d0 : w.cell? ⟨q, 0, none⟩ = some (.bool false) := by simp [World.cell?, hq]
  have d1 : w.cell? ⟨q, 1, none⟩ = some (.slice (some ⟨yb, 0, none⟩) 1 1) := by simp [World.cell?, hq]
  have f0 : w.frozen? ⟨p, 0, none⟩ = false := by simp [World.frozen?, hp]
  have f1 : w.frozen? ⟨p, 1, none⟩ = false := by simp [World.frozen?, hp]
  have y0 : w.cell? ⟨yb, 0, none⟩ = some (.int .u64 l) := by simp [World.cell?, hy]
  have hp' : (w.setRow b #[.int .u64 l, .int .u64 u, .int .u64 0, .int .u64 0, .int .u64 0, .int .u64 0, .int .u64 0]).heap[p]? = some (.cells #[.bool false, .slice (some ⟨b, 0, none⟩) 2 7] 32 (0, 0)) := (setRow_other w b p _ hpb).trans hp
  have c1' : (w.setRow b #[.int .u64 l, .int .u64 u, .int .u64 0, .int .u64 0, .int .u64 0, .int .u64 0, .int .u64 0]).cell? ⟨p, 1, none⟩ = some (.slice (some ⟨b, 0, none⟩) 2 7) := by simp [World.cell?, hp']
  have f0' : (w.setRow b #[.int .u64 l, .int .u64 u, .int .u64 0, .int .u64 0, .int .u64 0, .int .u64 0, .int .u64 0]).frozen? ⟨p, 0, none⟩ = false := by simp [World.frozen?, hp']
  have f1' : (w.setRow b #[.int .u64 l, .int .u64 u, .int .u64 0, .int .u64 0, .int .u64 0, .int .u64 0, .int .u64 0]).frozen? ⟨p, 1, none⟩ = false := by simp [World.frozen?, hp']
  have c0' : (w.setRow b #[.int .u64 l, .int .u64 u, .int .u64 0, .int .u64 0, .int .u64 0, .int .u64 0, .int .u64 0]).cell? ⟨p, 0, none⟩ = some (.bool false) := by simp [World.cell?, hp']
  have s0 : (w.setRow b #[.int .u64 l, .int .u64 u, .int .u64 0, .int .u64 0, .int .u64 0, .int .u64 0, .int .u64 0]).setCell ⟨p, 0, none⟩ (.bool false) = w.setRow b #[.int .u64 l, .int .u64 u, .int .u64 0, .int .u64 0, .int .u64 0, .int .u64 0, .int .u64 0] := setCell_self (w.setRow b #[.int .u64 l, .int .u64 u, .int .u64 0, .int .u64 0, .int .u64 0, .int .u64 0, .int .u64 0]) p 0 _ 32 (0, 0) _ hp' rfl
  have s1 : (w.setRow b #[.int .u64 l, .int .u64 u, .int .u64 0, .int .u64 0, .int .u64 0, .int .u64 0, .int .u64 0]).setCell ⟨p, 1, none⟩ (.slice (some ⟨b, 0, none⟩) 2 7) = w.setRow b #[.int .u64 l, .int .u64 u, .int .u64 0, .int .u64 0, .int .u64 0, .int .u64 0, .int .u64 0] := setCell_self (w.setRow b #[.int .u64 l, .int .u64 u, .int .u64 0, .int .u64 0, .int .u64 0, .int .u64 0, .int .u64 0]) p 1 _ 32 (0, 0) _ hp' rfl
  have HS : Hid (∀ k, Calls Try.prog 19 #[.slice (some ⟨b, 0, none⟩) 2 7, .slice (some ⟨b, 0, none⟩) 2 7, .slice (some ⟨yb, 0, none⟩) 1 1] (w.drewN k) fun e w' => e = .returned (.slice (some ⟨b, 0, none⟩) 2 7) ∧ ∃ j, w' = (w.setRow b #[.int .u64 l, .int .u64 u, .int .u64 0, .int .u64 0, .int .u64 0, .int .u64 0, .int .u64 0]).drewN j) := fun k =>
    (add_21 b yb u l hu hl h0 _ _ _ _ _ (w.drewN k) hb y0).mono fun e w' ⟨he, j, hj⟩ => ⟨he, k + j, hj.trans (World.drewN_drewN (w.setRow b #[.int .u64 l, .int .u64 u, .int .u64 0, .int .u64 0, .int .u64 0, .int .u64 0, .int .u64 0]) k j)⟩
  clear hp hq hb hp' hy
  go_enter Try.func23, Try.ntmps23
  go_wp2_with (first | (go_at_call 19; fail) | (go_at_call 18; fail) | (go_at_call 20; fail) | go_in)
  go_quiet (fail)
  go_wp2_with (first | (go_at_call 19; fail) | (go_at_call 18; fail) | (go_at_call 20; fail) | go_in)
  go_region_with (first | (go_at_call 19; refine (HS.out _).mono ?_; rintro e w' ⟨rfl, k, rfl⟩))
  all_goals go_wp2
  all_goals go_ret
  all_goals exact ⟨rfl, _, rfl⟩

set_option maxHeartbeats 4000000 in
theorem add_A5 (p q b : Nat) (u : Int) (w : World) (hp : w.heap[p]? = some (.cells #[.bool true, .slice (some ⟨b, 0, none⟩) 2 7] 32 (0, 0))) (hq : w.heap[q]? = some (.cells #[.bool false, .slice none 0 0] 32 (0, 0))) (hb : w.heap[b]? = some (.cells #[.int .u64 0, .int .u64 u, .int .u64 0, .int .u64 0, .int .u64 0, .int .u64 0, .int .u64 0] 47 (0, 0))) :
    Calls Try.prog 23 #[.pointer (some ⟨p, 0, none⟩), .pointer (some ⟨p, 0, none⟩), .pointer (some ⟨q, 0, none⟩)] w fun e w' => e = .returned (.pointer (some ⟨p, 0, none⟩)) ∧ ∃ k, w' = w.drewN k := by
  have c0 : w.cell? ⟨p, 0, none⟩ = some (.bool true) := by simp [World.cell?, hp]
  have c1 : w.cell? ⟨p, 1, none⟩ = some (.slice (some ⟨b, 0, none⟩) 2 7) := by simp [World.cell?, hp]
  have d0 : w.cell? ⟨q, 0, none⟩ = some (.bool false) := by simp [World.cell?, hq]
  have d1 : w.cell? ⟨q, 1, none⟩ = some (.slice none 0 0) := by simp [World.cell?, hq]
  have f0 : w.frozen? ⟨p, 0, none⟩ = false := by simp [World.frozen?, hp]
  have f1 : w.frozen? ⟨p, 1, none⟩ = false := by simp [World.frozen?, hp]
  have s0 : (w).setCell ⟨p, 0, none⟩ (.bool true) = w := setCell_self (w) p 0 _ 32 (0, 0) _ hp rfl
  have s1 : (w).setCell ⟨p, 1, none⟩ (.slice (some ⟨b, 0, none⟩) 2 7) = w := setCell_self (w) p 1 _ 32 (0, 0) _ hp rfl
  have HS : Hid (∀ k, Calls Try.prog 20 #[.slice (some ⟨b, 0, none⟩) 2 7, .slice (some ⟨b, 0, none⟩) 2 7, .slice none 0 0] (w.drewN k) fun e w' => e = .returned (.slice (some ⟨b, 0, none⟩) 2 7) ∧ w' = w.drewN k) := fun k => sub_20 b none 0 0 u _ _ _ _ _ (w.drewN k) hb
  clear hp hq hb
  go_enter Try.func23, Try.ntmps23
  go_wp2_with (first | (go_at_call 19; fail) | (go_at_call 18; fail) | (go_at_call 20; fail) | go_in)
  go_quiet (fail)
  go_wp2_with (first | (go_at_call 19; fail) | (go_at_call 18; fail) | (go_at_call 20; fail) | go_in)
  go_quiet ((go_at_call 18; first | exact Calls.quiet_of_same (cmp_gt _ _ 2 0 _ _ (by decide) _) | exact quiet_later (cmp_gt _ _ 2 0 _ _ (by decide) _)))
  go_wp2_with (first | (go_at_call 19; fail) | (go_at_call 18; fail) | (go_at_call 20; fail) | go_in)
  go_region_with (first | (go_at_call 20; refine (HS.out _).mono ?_; rintro e w' ⟨rfl, rfl⟩))
  all_goals go_wp2
  all_goals go_ret
  all_goals exact ⟨rfl, _, rfl⟩

set_option maxHeartbeats 4000000 in
theorem add_A6 (p q b yb n : Nat) (u l : Int) (hu : Wd u) (hl : Wd l) (hu0 : 1 ≤ u) (hl0 : 1 ≤ l) (hn : n = if u = 1 then 1 else 2) (hpb : p ≠ b) (w : World) (hp : w.heap[p]? = some (.cells #[.bool true, .slice (some ⟨b, 0, none⟩) 2 7] 32 (0, 0))) (hq : w.heap[q]? = some (.cells #[.bool false, .slice (some ⟨yb, 0, none⟩) 1 1] 32 (0, 0))) (hb : w.heap[b]? = some (.cells #[.int .u64 0, .int .u64 u, .int .u64 0, .int .u64 0, .int .u64 0, .int .u64 0, .int .u64 0] 47 (0, 0))) (hy : w.heap[yb]? = some (.cells #[.int .u64 l] 47 (0, 0))) :
    Calls Try.prog 23 #[.pointer (some ⟨p, 0, none⟩), .pointer (some ⟨p, 0, none⟩), .pointer (some ⟨q, 0, none⟩)] w fun e w' => e = .returned (.pointer (some ⟨p, 0, none⟩)) ∧ ∃ k, w' = ((w.setRow b #[.int .u64 (18446744073709551616 - l), .int .u64 (u - 1), .int .u64 0, .int .u64 0, .int .u64 0, .int .u64 0, .int .u64 0]).setRow p #[.bool true, .slice (some ⟨b, 0, none⟩) n 7]).drewN k := by
  have c0 : w.cell? ⟨p, 0, none⟩ = some (.bool true) := by simp [World.cell?, hp]
  have c1 : w.cell? ⟨p, 1, none⟩ = some (.slice (some ⟨b, 0, none⟩) 2 7) := by simp [World.cell?, hp]
  have d0 : w.cell? ⟨q, 0, none⟩ = some (.bool false) := by simp [World.cell?, hq]
  have d1 : w.cell? ⟨q, 1, none⟩ = some (.slice (some ⟨yb, 0, none⟩) 1 1) := by simp [World.cell?, hq]
  have f0 : w.frozen? ⟨p, 0, none⟩ = false := by simp [World.frozen?, hp]
  have f1 : w.frozen? ⟨p, 1, none⟩ = false := by simp [World.frozen?, hp]
  have y0 : w.cell? ⟨yb, 0, none⟩ = some (.int .u64 l) := by simp [World.cell?, hy]
  obtain ⟨W, hW⟩ : ∃ W, W = w.setRow b #[.int .u64 (18446744073709551616 - l), .int .u64 (u - 1), .int .u64 0, .int .u64 0, .int .u64 0, .int .u64 0, .int .u64 0] := ⟨_, rfl⟩
  have hp' : W.heap[p]? = some (.cells #[.bool true, .slice (some ⟨b, 0, none⟩) 2 7] 32 (0, 0)) := by rw [hW]; exact (setRow_other w b p _ hpb).trans hp
  have c1' : W.cell? ⟨p, 1, none⟩ = some (.slice (some ⟨b, 0, none⟩) 2 7) := by simp [World.cell?, hp']
  have f0' : W.frozen? ⟨p, 0, none⟩ = false := by simp [World.frozen?, hp']
  have f1' : W.frozen? ⟨p, 1, none⟩ = false := by simp [World.frozen?, hp']
  have c0' : W.cell? ⟨p, 0, none⟩ = some (.bool true) := by simp [World.cell?, hp']
  have HR : Hid ((W.setCell ⟨p, 1, none⟩ (.slice (some ⟨b, 0, none⟩) n 7)).setCell ⟨p, 0, none⟩ (.bool true) = W.setRow p #[.bool true, .slice (some ⟨b, 0, none⟩) n 7]) := rowI W p _ _ _ _ hp'
  have n1 : (0 : Int) < (n : Int) := by rw [hn]; split <;> decide
  have hsub : ∀ k, Calls Try.prog 20 #[.slice (some ⟨b, 0, none⟩) 2 7, .slice (some ⟨b, 0, none⟩) 2 7, .slice (some ⟨yb, 0, none⟩) 1 1] (w.drewN k) fun e w' => e = .returned (.slice (some ⟨b, 0, none⟩) n 7) ∧ ∃ j, w' = W.drewN j := fun k => by
    rw [hW]
    exact (sub_21 b yb n u l hu hl hu0 hl0 hn _ _ _ _ _ (w.drewN k) hb y0).mono fun e w' ⟨he, j, hj⟩ => ⟨he, k + j, hj.trans (World.drewN_drewN (w.setRow b #[.int .u64 (18446744073709551616 - l), .int .u64 (u - 1), .int .u64 0, .int .u64 0, .int .u64 0, .int .u64 0, .int .u64 0]) k j)⟩
  have HS : Hid (∀ k, Calls Try.prog 20 #[.slice (some ⟨b, 0, none⟩) 2 7, .slice (some ⟨b, 0, none⟩) 2 7, .slice (some ⟨yb, 0, none⟩) 1 1] (w.drewN k) fun e w' => e = .returned (.slice (some ⟨b, 0, none⟩) n 7) ∧ ∃ j, w' = W.drewN j) := hsub
  rw [← hW]
  clear hp hq hb hp' hy hn hW hsub
  go_enter Try.func23, Try.ntmps23
  go_wp2_with (first | (go_at_call 19; fail) | (go_at_call 18; fail) | (go_at_call 20; fail) | go_in)
  go_quiet (fail)
  go_wp2_with (first | (go_at_call 19; fail) | (go_at_call 18; fail) | (go_at_call 20; fail) | go_in)
  go_quiet ((go_at_call 18; first | exact Calls.quiet_of_same (cmp_gt _ _ 2 1 _ _ (by decide) _) | exact quiet_later (cmp_gt _ _ 2 1 _ _ (by decide) _)))
  go_wp2_with (first | (go_at_call 19; fail) | (go_at_call 18; fail) | (go_at_call 20; fail) | go_in)
  go_region_with (first | (go_at_call 20; refine (HS.out _).mono ?_; rintro e w' ⟨rfl, k, rfl⟩))
  all_goals go_wp2
  all_goals go_ret
  all_goals exact ⟨rfl, _, congrArg (fun x : World => x.drewN _) HR.out⟩

end Go.Proofs.Qxb6605800a.Walks
