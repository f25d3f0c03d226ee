/-
  (nat).norm and (nat).cmp at lengths up to three and two, by their contracts.
-/
import Derived.Test.Qxb6605800aVec
namespace Go.Proofs.Qxb6605800a.Walks
open Go.ChangeShapes Go.WideShapes Go.ChangeAt Go.RowKit

set_option maxHeartbeats 1000000 in
theorem norm22 (b c : Nat) (u1 : Int) (w : World) (c1 : w.cell? ⟨b, 1, none⟩ = some (.int .u64 u1)) (h1 : (u1 == 0) = false) (hc : 2 ≤ c) (hc' : c ≤ 7) :
    Calls Try.prog 30 #[.slice (some ⟨b, 0, none⟩) 2 c] w fun e w' => e = .returned (.slice (some ⟨b, 0, none⟩) 2 c) ∧ w' = w := by
  go_enter Try.func30, Try.ntmps30
  go_wp2
  refine wp_loop_rounds 1 ?_
  rw [rounds_succ]
  go_wp2
  go_ret
  exact ⟨rfl, rfl⟩

set_option maxHeartbeats 1000000 in
theorem norm21 (b c : Nat) (u0 : Int) (w : World) (c0 : w.cell? ⟨b, 0, none⟩ = some (.int .u64 u0)) (c1 : w.cell? ⟨b, 1, none⟩ = some (.int .u64 0)) (h0 : (u0 == 0) = false) (hc : 2 ≤ c) (hc' : c ≤ 7) :
    Calls Try.prog 30 #[.slice (some ⟨b, 0, none⟩) 2 c] w fun e w' => e = .returned (.slice (some ⟨b, 0, none⟩) 1 c) ∧ w' = w := by
  go_enter Try.func30, Try.ntmps30
  go_wp2
  refine wp_loop_rounds 2 ?_
  rw [rounds_succ]
  go_wp2
  rw [rounds_succ]
  go_wp2
  go_ret
  exact ⟨rfl, rfl⟩

set_option maxHeartbeats 1000000 in
theorem norm11 (b c : Nat) (u0 : Int) (w : World) (c0 : w.cell? ⟨b, 0, none⟩ = some (.int .u64 u0)) (h0 : (u0 == 0) = false) (hc : 1 ≤ c) (hc' : c ≤ 7) :
    Calls Try.prog 30 #[.slice (some ⟨b, 0, none⟩) 1 c] w fun e w' => e = .returned (.slice (some ⟨b, 0, none⟩) 1 c) ∧ w' = w := by
  go_enter Try.func30, Try.ntmps30
  go_wp2
  refine wp_loop_rounds 1 ?_
  rw [rounds_succ]
  go_wp2
  go_ret
  exact ⟨rfl, rfl⟩

set_option maxHeartbeats 1000000 in
theorem norm32 (b c : Nat) (u1 : Int) (w : World) (c1 : w.cell? ⟨b, 1, none⟩ = some (.int .u64 u1)) (c2 : w.cell? ⟨b, 2, none⟩ = some (.int .u64 0)) (h1 : (u1 == 0) = false) (hc : 3 ≤ c) (hc' : c ≤ 7) :
    Calls Try.prog 30 #[.slice (some ⟨b, 0, none⟩) 3 c] w fun e w' => e = .returned (.slice (some ⟨b, 0, none⟩) 2 c) ∧ w' = w := by
  go_enter Try.func30, Try.ntmps30
  go_wp2
  refine wp_loop_rounds 2 ?_
  rw [rounds_succ]
  go_wp2
  rw [rounds_succ]
  go_wp2
  go_ret
  exact ⟨rfl, rfl⟩

/-! ### cmp -/
def sg (d : Int) : Int := if d < 0 then -1 else if 0 < d then 1 else 0

set_option maxHeartbeats 1000000 in
theorem cmp_lt (a b : Option Addr) (m n cm cn : Nat) (h : m < n) (w : World) :
    Calls Try.prog 18 #[.slice a m cm, .slice b n cn] w fun e w' => e = .returned (.int .i64 (-1)) ∧ w' = w := by
  have h' : ((m : Int) == (n : Int)) = false := by simp; omega
  go_enter Try.func18, Try.ntmps18
  go_wp2
  go_ret
  exact ⟨rfl, rfl⟩

set_option maxHeartbeats 1000000 in
theorem cmp_gt (a b : Option Addr) (m n cm cn : Nat) (h : n < m) (w : World) :
    Calls Try.prog 18 #[.slice a m cm, .slice b n cn] w fun e w' => e = .returned (.int .i64 1) ∧ w' = w := by
  have h' : ((m : Int) == (n : Int)) = false := by simp; omega
  go_enter Try.func18, Try.ntmps18
  go_wp2
  go_ret
  exact ⟨rfl, rfl⟩

set_option maxHeartbeats 1000000 in
theorem cmp00 (a b : Option Addr) (cm cn : Nat) (w : World) :
    Calls Try.prog 18 #[.slice a 0 cm, .slice b 0 cn] w fun e w' => e = .returned (.int .i64 0) ∧ w' = w := by
  go_enter Try.func18, Try.ntmps18
  go_wp2
  go_ret
  exact ⟨rfl, rfl⟩

set_option maxHeartbeats 1000000 in
theorem cmp11 (a b cm cn : Nat) (x0 y0 : Int) (w : World) (cx0 : w.cell? ⟨a, 0, none⟩ = some (.int .u64 x0)) (cy0 : w.cell? ⟨b, 0, none⟩ = some (.int .u64 y0)) :
    Calls Try.prog 18 #[.slice (some ⟨a, 0, none⟩) 1 cm, .slice (some ⟨b, 0, none⟩) 1 cn] w fun e w' => e = .returned (.int .i64 (sg (x0 - y0))) ∧ ∃ k, w' = w.drewN k := by
  rcases (show x0 < y0 ∨ x0 = y0 ∨ y0 < x0 from by omega) with h | h | h
  · have e : sg (x0 - y0) = -1 := by unfold sg; rw [if_pos (by omega)]
    rw [e]
    have hd : decide (x0 < y0) = true := decide_eq_true h
    go_enter Try.func18, Try.ntmps18
    go_wp2
    refine wp_loop_rounds 1 ?_
    rw [rounds_succ]
    go_wp2
    go_quiet (fail)
    go_wp2
    go_quiet (fail)
    go_wp2
    go_ret
    exact ⟨rfl, _, World.drewN_drewN _ _ _⟩
  · have e : sg (x0 - y0) = 0 := by unfold sg; rw [if_neg (by omega), if_neg (by omega)]
    rw [e]
    subst h
    go_enter Try.func18, Try.ntmps18
    go_wp2
    refine wp_loop_rounds 1 ?_
    rw [rounds_succ]
    go_wp2
    go_quiet (fail)
    go_wp2
    go_quiet (fail)
    go_wp2
    go_quiet (fail)
    go_wp2
    go_ret
    exact ⟨rfl, _, by rw [World.drewN_drewN, World.drewN_drewN]⟩
  · have e : sg (x0 - y0) = 1 := by unfold sg; rw [if_neg (by omega), if_pos (by omega)]
    rw [e]
    have hd : decide (y0 < x0) = true := decide_eq_true h
    have hd2 : decide (x0 < y0) = false := decide_eq_false (by omega)
    go_enter Try.func18, Try.ntmps18
    go_wp2
    refine wp_loop_rounds 1 ?_
    rw [rounds_succ]
    go_wp2
    go_quiet (fail)
    go_wp2
    go_quiet (fail)
    go_wp2
    go_quiet (fail)
    go_wp2
    go_ret
    exact ⟨rfl, _, by rw [World.drewN_drewN, World.drewN_drewN]⟩

/-- The value of two words. -/
def two (x0 x1 : Int) : Int := x1 * 18446744073709551616 + x0

set_option maxHeartbeats 2000000 in
theorem cmp22 (a b cm cn : Nat) (x0 y0 x1 y1 : Int) (hx0 : Wd x0) (hy0 : Wd y0) (w : World) (cx0 : w.cell? ⟨a, 0, none⟩ = some (.int .u64 x0)) (cy0 : w.cell? ⟨b, 0, none⟩ = some (.int .u64 y0))
    (cx1 : w.cell? ⟨a, 1, none⟩ = some (.int .u64 x1)) (cy1 : w.cell? ⟨b, 1, none⟩ = some (.int .u64 y1)) :
    Calls Try.prog 18 #[.slice (some ⟨a, 0, none⟩) 2 cm, .slice (some ⟨b, 0, none⟩) 2 cn] w fun e w' => e = .returned (.int .i64 (sg (two x0 x1 - two y0 y1))) ∧ ∃ k, w' = w.drewN k := by
  obtain ⟨a0, a1⟩ := hx0
  obtain ⟨b0, b1⟩ := hy0
  by_cases he : x1 = y1
  · subst he
    have e0 : sg (two x0 x1 - two y0 x1) = sg (x0 - y0) := by unfold two; congr 1; omega
    rw [e0]
    clear e0 a0 a1 b0 b1
    rcases (show x0 < y0 ∨ x0 = y0 ∨ y0 < x0 from by omega) with h | h | h
    · have e : sg (x0 - y0) = -1 := by unfold sg; rw [if_pos (by omega)]
      rw [e]
      have hd : decide (x0 < y0) = true := decide_eq_true h
      go_enter Try.func18, Try.ntmps18
      go_wp2
      refine wp_loop_rounds 2 ?_
      rw [rounds_succ]
      go_wp2
      go_quiet (fail)
      go_wp2
      rw [rounds_succ]
      go_wp2
      go_quiet (fail)
      go_wp2
      go_quiet (fail)
      go_wp2
      go_ret
      exact ⟨rfl, _, by rw [World.drewN_drewN, World.drewN_drewN]⟩
    · have e : sg (x0 - y0) = 0 := by unfold sg; rw [if_neg (by omega), if_neg (by omega)]
      rw [e]
      subst h
      go_enter Try.func18, Try.ntmps18
      go_wp2
      refine wp_loop_rounds 2 ?_
      rw [rounds_succ]
      go_wp2
      go_quiet (fail)
      go_wp2
      rw [rounds_succ]
      go_wp2
      go_quiet (fail)
      go_wp2
      go_quiet (fail)
      go_wp2
      go_quiet (fail)
      go_wp2
      go_ret
      exact ⟨rfl, _, by rw [World.drewN_drewN, World.drewN_drewN, World.drewN_drewN]⟩
    · have e : sg (x0 - y0) = 1 := by unfold sg; rw [if_neg (by omega), if_pos (by omega)]
      rw [e]
      have hd : decide (y0 < x0) = true := decide_eq_true h
      have hd2 : decide (x0 < y0) = false := decide_eq_false (by omega)
      go_enter Try.func18, Try.ntmps18
      go_wp2
      refine wp_loop_rounds 2 ?_
      rw [rounds_succ]
      go_wp2
      go_quiet (fail)
      go_wp2
      rw [rounds_succ]
      go_wp2
      go_quiet (fail)
      go_wp2
      go_quiet (fail)
      go_wp2
      go_quiet (fail)
      go_wp2
      go_ret
      exact ⟨rfl, _, by rw [World.drewN_drewN, World.drewN_drewN, World.drewN_drewN]⟩
  · have hne : (x1 == y1) = false := by simp [he]
    rcases (show x1 < y1 ∨ y1 < x1 from by omega) with h | h
    · have e : sg (two x0 x1 - two y0 y1) = -1 := by unfold sg two; rw [if_pos (by omega)]
      rw [e]
      clear e a0 a1 b0 b1
      have hd : decide (x1 < y1) = true := decide_eq_true h
      go_enter Try.func18, Try.ntmps18
      go_wp2
      refine wp_loop_rounds 1 ?_
      rw [rounds_succ]
      go_wp2
      go_quiet (fail)
      go_wp2
      go_quiet (fail)
      go_wp2
      go_ret
      exact ⟨rfl, _, World.drewN_drewN _ _ _⟩
    · have e : sg (two x0 x1 - two y0 y1) = 1 := by unfold sg two; rw [if_neg (by omega), if_pos (by omega)]
      rw [e]
      clear e a0 a1 b0 b1
      have hd : decide (y1 < x1) = true := decide_eq_true h
      have hd2 : decide (x1 < y1) = false := decide_eq_false (by omega)
      go_enter Try.func18, Try.ntmps18
      go_wp2
      refine wp_loop_rounds 1 ?_
      rw [rounds_succ]
      go_wp2
      go_quiet (fail)
      go_wp2
      go_quiet (fail)
      go_wp2
      go_quiet (fail)
      go_wp2
      go_ret
      exact ⟨rfl, _, by rw [World.drewN_drewN, World.drewN_drewN]⟩

end Go.Proofs.Qxb6605800a.Walks
