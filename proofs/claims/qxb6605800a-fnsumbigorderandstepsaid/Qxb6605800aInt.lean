/-
  math/big.NewInt, (*Int).Lsh by 64, (*Int).SetUint64, by their contracts.
-/
import Derived.Test.Qxb6605800aNatSub
import Derived.Deep.RegionWith
import Derived.Deep.DrawnRows
namespace Go.Proofs.Qxb6605800a.Walks
open Go.ChangeShapes Go.WideShapes Go.ChangeAt Go.RowKit
attribute [local go_sem] setCell_drewN alloc_drewN mk1 mk2 mk3
attribute [local go_sem ↓] Go.wp_at_zero Go.wp_at_succ

/-- Both fields of an Int, stored. -/
theorem rowI (w : World) (p : Nat) (s b v0 v1 : Value) (hp : w.heap[p]? = some (.cells #[v0, v1] 32 (0, 0))) :
    (w.setCell ⟨p, 1, none⟩ s).setCell ⟨p, 0, none⟩ b = w.setRow p #[b, s] := by
  rw [setCell_eq_setRow w p 1 _ 32 (0, 0) s hp, row_setCell w p 0 _ _ 32 (0, 0) b hp]
  rfl

set_option maxHeartbeats 1000000 in
theorem ni_zero (w : World) : Calls Try.prog 22 #[.int .i64 0] w fun e w' =>
    e = .returned (.pointer (some ⟨w.heap.size, 0, none⟩)) ∧ w' = w.alloc (.cells #[.bool false, .slice none 0 0] 32) := by
  go_enter Try.func22, Try.ntmps22
  go_wp2
  go_ret
  exact ⟨rfl, rfl⟩

set_option maxHeartbeats 1000000 in
theorem ni_pos (x : Int) (h1 : 1 ≤ x) (h2 : x ≤ 9223372036854775807) (w : World) : Calls Try.prog 22 #[.int .i64 x] w fun e w' =>
    e = .returned (.pointer (some ⟨w.heap.size + 1, 0, none⟩)) ∧ w' = (w.alloc (.cells #[.int .u64 x] 47)).alloc (.cells #[.bool false, .slice (some ⟨w.heap.size, 0, none⟩) 1 1] 32) := by
  have h0 : (x == 0) = false := by simp; omega
  have hd : decide (x < 0) = false := decide_eq_false (by omega)
  go_enter Try.func22, Try.ntmps22
  go_wp2
  go_ret
  exact ⟨rfl, rfl⟩

set_option maxHeartbeats 1000000 in
theorem ni_neg (x : Int) (h1 : x ≤ -1) (h2 : -9223372036854775808 ≤ x) (w : World) : Calls Try.prog 22 #[.int .i64 x] w fun e w' =>
    e = .returned (.pointer (some ⟨w.heap.size + 1, 0, none⟩)) ∧ w' = (w.alloc (.cells #[.int .u64 (-x)] 47)).alloc (.cells #[.bool true, .slice (some ⟨w.heap.size, 0, none⟩) 1 1] 32) := by
  have h0 : (x == 0) = false := by simp; omega
  have HW : Hid (IntKind.u64.wrap (-IntKind.u64.wrap x) = -x) := by
    show IntKind.u64.wrap (-IntKind.u64.wrap x) = -x
    simp only [IntKind.wrap, IntKind.signed, IntKind.bits, Bool.false_and, Bool.false_eq_true, if_false]
    omega
  go_enter Try.func22, Try.ntmps22
  go_wp2
  go_ret
  exact ⟨rfl, by rw [HW.out]⟩

/-! ### Lsh by 64 -/
set_option maxHeartbeats 2000000 in
theorem lsh_zero (p : Nat) (w : World) (hp : w.heap[p]? = some (.cells #[.bool false, .slice none 0 0] 32 (0, 0))) :
    Calls Try.prog 24 #[.pointer (some ⟨p, 0, none⟩), .pointer (some ⟨p, 0, none⟩), .int .u64 64] w fun e w' => e = .returned (.pointer (some ⟨p, 0, none⟩)) ∧ ∃ k, w' = w.drewN k := by
  have c0 : w.cell? ⟨p, 0, none⟩ = some (.bool false) := by simp [World.cell?, hp]
  have c1 : w.cell? ⟨p, 1, none⟩ = some (.slice none 0 0) := by simp [World.cell?, hp]
  have f0 : w.frozen? ⟨p, 0, none⟩ = false := by simp [World.frozen?, hp]
  have f1 : w.frozen? ⟨p, 1, none⟩ = false := by simp [World.frozen?, hp]
  have s0 : w.setCell ⟨p, 0, none⟩ (.bool false) = w := setCell_self w p 0 _ 32 (0, 0) _ hp rfl
  have s1 : w.setCell ⟨p, 1, none⟩ (.slice none 0 0) = w := setCell_self w p 1 _ 32 (0, 0) _ hp rfl
  clear hp
  go_enter Try.func24, Try.ntmps24
  go_wp2_with (first | (go_at_call 35; fail) | go_in)
  go_region_held3 (fun w' => w'.cell? ⟨p, 1, none⟩ = some (.slice none 0 0)) (go_keep) (first | (go_at_call 35; refine (lsh_nil _).mono ?_; rintro e w' ⟨rfl, rfl⟩))
  go_wp2
  go_ret
  exact ⟨rfl, _, rfl⟩

set_option maxHeartbeats 2000000 in
theorem lshI_one (p b : Nat) (neg : Bool) (u : Int) (hu : (u == 0) = false) (w : World) (hp : w.heap[p]? = some (.cells #[.bool neg, .slice (some ⟨b, 0, none⟩) 1 1] 32 (0, 0))) (hb : w.heap[b]? = some (.cells #[.int .u64 u] 47 (0, 0))) :
    Calls Try.prog 24 #[.pointer (some ⟨p, 0, none⟩), .pointer (some ⟨p, 0, none⟩), .int .u64 64] w fun e w' => e = .returned (.pointer (some ⟨p, 0, none⟩)) ∧
      ∃ k, w' = ((w.setRow p #[.bool neg, .slice (some ⟨w.heap.size, 0, none⟩) 2 7]).alloc (.cells #[.int .u64 0, .int .u64 u, .int .u64 0, .int .u64 0, .int .u64 0, .int .u64 0, .int .u64 0] 47)).drewN k := by
  have hpl : p < w.heap.size := (Array.getElem?_eq_some_iff.1 hp).1
  have hbl : b < w.heap.size := (Array.getElem?_eq_some_iff.1 hb).1
  have c0 : w.cell? ⟨p, 0, none⟩ = some (.bool neg) := by simp [World.cell?, hp]
  have c1 : w.cell? ⟨p, 1, none⟩ = some (.slice (some ⟨b, 0, none⟩) 1 1) := by simp [World.cell?, hp]
  have cb : w.cell? ⟨b, 0, none⟩ = some (.int .u64 u) := by simp [World.cell?, hb]
  have f0 : w.frozen? ⟨p, 0, none⟩ = false := by simp [World.frozen?, hp]
  have f1 : w.frozen? ⟨p, 1, none⟩ = false := by simp [World.frozen?, hp]
  have hr := rowI w p (.slice (some ⟨w.heap.size, 0, none⟩) 2 7) (.bool neg) _ _ hp
  have HR : Hid ((w.setCell ⟨p, 1, none⟩ (.slice (some ⟨w.heap.size, 0, none⟩) 2 7)).setCell ⟨p, 0, none⟩ (.bool neg) = w.setRow p #[.bool neg, .slice (some ⟨w.heap.size, 0, none⟩) 2 7]) := hr
  clear hp hb hr
  go_enter Try.func24, Try.ntmps24
  go_wp2_with (first | (go_at_call 35; fail) | go_in)
  go_region_with (first | (go_at_call 35; refine (lsh_one b u _ ?_ ?_ hu).mono ?_; (go_simp); (go_simp); rintro e w' ⟨rfl, rfl⟩))
  all_goals go_wp2
  all_goals go_ret
  all_goals exact ⟨rfl, 1, by rw [← HR.out]; rfl⟩

/-! ### SetUint64 on a new Int -/
set_option maxHeartbeats 2000000 in
theorem suI_zero (q : Nat) (w : World) (hq : w.heap[q]? = some (.cells #[.bool false, .slice none 0 0] 32 (0, 0))) :
    Calls Try.prog 25 #[.pointer (some ⟨q, 0, none⟩), .int .u64 0] w fun e w' => e = .returned (.pointer (some ⟨q, 0, none⟩)) ∧ ∃ k, w' = w.drewN k := by
  have c0 : w.cell? ⟨q, 0, none⟩ = some (.bool false) := by simp [World.cell?, hq]
  have c1 : w.cell? ⟨q, 1, none⟩ = some (.slice none 0 0) := by simp [World.cell?, hq]
  have f0 : w.frozen? ⟨q, 0, none⟩ = false := by simp [World.frozen?, hq]
  have f1 : w.frozen? ⟨q, 1, none⟩ = false := by simp [World.frozen?, hq]
  have s0 : w.setCell ⟨q, 0, none⟩ (.bool false) = w := setCell_self w q 0 _ 32 (0, 0) _ hq rfl
  have s1 : w.setCell ⟨q, 1, none⟩ (.slice none 0 0) = w := setCell_self w q 1 _ 32 (0, 0) _ hq rfl
  clear hq
  go_enter Try.func25, Try.ntmps25
  go_wp2_with (go_at_call 36; refine (su_zero _).mono ?_; rintro e w' ⟨rfl, rfl⟩)
  go_ret
  exact ⟨rfl, 0, rfl⟩

set_option maxHeartbeats 2000000 in
theorem suI_one (q : Nat) (x : Int) (hx : Wd x) (h0 : (x == 0) = false) (w : World) (hq : w.heap[q]? = some (.cells #[.bool false, .slice none 0 0] 32 (0, 0))) :
    Calls Try.prog 25 #[.pointer (some ⟨q, 0, none⟩), .int .u64 x] w fun e w' => e = .returned (.pointer (some ⟨q, 0, none⟩)) ∧
      ∃ k, w' = ((w.setRow q #[.bool false, .slice (some ⟨w.heap.size, 0, none⟩) 1 1]).alloc (.cells #[.int .u64 x] 47)).drewN k := by
  have hql : q < w.heap.size := (Array.getElem?_eq_some_iff.1 hq).1
  have c0 : w.cell? ⟨q, 0, none⟩ = some (.bool false) := by simp [World.cell?, hq]
  have c1 : w.cell? ⟨q, 1, none⟩ = some (.slice none 0 0) := by simp [World.cell?, hq]
  have f0 : w.frozen? ⟨q, 0, none⟩ = false := by simp [World.frozen?, hq]
  have f1 : w.frozen? ⟨q, 1, none⟩ = false := by simp [World.frozen?, hq]
  have hr := rowI w q (.slice (some ⟨w.heap.size, 0, none⟩) 1 1) (.bool false) _ _ hq
  have HR : Hid ((w.setCell ⟨q, 1, none⟩ (.slice (some ⟨w.heap.size, 0, none⟩) 1 1)).setCell ⟨q, 0, none⟩ (.bool false) = w.setRow q #[.bool false, .slice (some ⟨w.heap.size, 0, none⟩) 1 1]) := hr
  clear hq hr
  go_enter Try.func25, Try.ntmps25
  go_wp2_with (go_at_call 36; refine (su_one x hx h0 _).mono ?_; rintro e w' ⟨rfl, rfl⟩)
  go_ret
  exact ⟨rfl, 0, by rw [← HR.out]; rfl⟩

end Go.Proofs.Qxb6605800a.Walks
