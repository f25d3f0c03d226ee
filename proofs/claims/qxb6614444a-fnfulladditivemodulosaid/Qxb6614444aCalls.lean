/-
  The callees by their contracts: Grid, Full, b1FullInRange, b1FullCode.
-/
import Derived.Test.Qxb6614444aRows
import Derived.Test.Qxb6614444aFloat
import Derived.WalkKit
import Derived.ProofKit
import Derived.WalkSpells
import Derived.WalkLawsBesides
import Derived.Laws.FloatArith
namespace Go.Proofs.Qxb6614444a.Walks
open Go.ChangeShapes Go.WideShapes Go.ChangeAt Go.RowKit
open Go.Proofs.Qxb6614444a.Fl

/-- The bits of n / 1024, of n / 2 ^ 23. -/
def gridB (n : Int) : Nat := (Ieee.single.div (floatOfInt .f32 n) 1149239296).getD 0
def fullB (n : Int) : Nat := (Ieee.single.div (floatOfInt .f32 n) 1258291200).getD 0

theorem ofInt_val (n : Int) (hn : n.natAbs ≤ 16777216) : Fv (floatOfInt .f32 n) (n * 2 ^ 149) := fl_val n 0 hn (by omega) (by omega)

theorem gridB_val (n : Int) (hn : n.natAbs ≤ 16777216) : floatBits .quo .f32 (floatOfInt .f32 n) 1149239296 = some (gridB n) ∧ Fv (gridB n) (n * 2 ^ 139) := by
  obtain ⟨s, hd, hs⟩ := div_val (ofInt_val n hn) read1024
  have e : gridB n = Ieee.single.nearest s n.natAbs (-23 - -13) := by unfold gridB; rw [hd]; rfl
  refine ⟨by rw [e]; exact hd, ?_⟩
  rw [e]
  exact val_nearest s n (-23 - -13) hs hn (by omega) (by omega)

theorem fullB_val (n : Int) (hn : n.natAbs ≤ 16777216) : floatBits .quo .f32 (floatOfInt .f32 n) 1258291200 = some (fullB n) ∧ Fv (fullB n) (n * 2 ^ 126) := by
  obtain ⟨s, hd, hs⟩ := div_val (ofInt_val n hn) read2p23
  have e : fullB n = Ieee.single.nearest s n.natAbs (-23 - 0) := by unfold fullB; rw [hd]; rfl
  refine ⟨by rw [e]; exact hd, ?_⟩
  rw [e]
  exact val_nearest s n (-23 - 0) hs hn (by omega) (by omega)

set_option maxHeartbeats 400000 in
theorem grid_any (h : Int) (h1 : -8387589 ≤ h) (h2 : h ≤ 8389627) (w : World) :
    Calls Try.prog 6 #[.int .i64 h] w fun e w' => e = .returned (.float .f32 (gridB (h - 1019))) ∧ w' = w := by
  have hq := fun w => run_float_arith (P := Try.prog) w .quo 22 .f32 _ _ _ (gridB_val (h - 1019) (by omega)).1
  go_enter Try.func6, Try.ntmps6
  go_wp2
  go_ret
  exact ⟨rfl, rfl⟩

/-- What Full divides: (h * 2654435761) mod 2 ^ 24 - 2 ^ 23. -/
def code (h : Int) : Int := h * 2654435761 % 16777216
theorem code_bd (h : Int) : 0 ≤ code h ∧ code h < 16777216 := by unfold code; omega

set_option maxHeartbeats 400000 in
theorem full_any (h : Int) (h1 : 0 ≤ h) (h2 : h ≤ 3221225472) (w : World) :
    Calls Try.prog 7 #[.int .i64 h] w fun e w' => e = .returned (.float .f32 (fullB (code h - 8388608))) ∧ w' = w := by
  have hb := code_bd h
  have hq := fun w => run_float_arith (P := Try.prog) w .quo 22 .f32 _ _ _ (fullB_val (code h - 8388608) (by omega)).1
  unfold code at hq hb ⊢
  go_enter Try.func7, Try.ntmps7
  go_wp2
  go_ret
  exact ⟨rfl, rfl⟩

/-- b1FullInRange of what Full gives. -/
theorem range_walk (n : Int) (h1 : -8388608 ≤ n) (h2 : n < 8388608) (w : World) :
    Calls Try.prog 8 #[.float .f32 (fullB n)] w fun e w' => e = .returned (.bool true) ∧ w' = w := by
  have hv := (fullB_val n (by omega)).2
  have hlo : FloatKind.f32.format.order (fullB n) 3212836864 = some (compare (n * 2 ^ 126) (-2 ^ 149)) := order_val hv val_minusOne
  have hhi : FloatKind.f32.format.order (fullB n) 1065353216 = some (compare (n * 2 ^ 126) (2 ^ 149)) := order_val hv val_one
  have e1 : (compare (n * 2 ^ 126) (2 ^ 149) : Ordering) = .lt := by
    rw [show (2 : Int) ^ 149 = 8388608 * 2 ^ 126 from by decide, compare_mul]
    exact Int.compare_eq_lt.2 h2
  have e0 : (FloatKind.f32.format.order (fullB n) 3212836864 == some .gt || FloatKind.f32.format.order (fullB n) 3212836864 == some .eq) = true := by
    rw [hlo, show (-(2 ^ 149) : Int) = (-8388608) * 2 ^ 126 from by decide, compare_mul]
    rcases Int.lt_or_eq_of_le h1 with h | h
    · rw [Int.compare_eq_gt.2 h]; rfl
    · rw [← h]; rfl
  have e2 : FloatKind.f32.format.order (fullB n) 1065353216 = some .lt := by rw [hhi, e1]
  clear hv hlo hhi e1
  go_enter Try.func8, Try.ntmps8
  go_wp2
  go_ret
  exact ⟨rfl, rfl⟩

/-- b1FullCode of what Full gives. -/
theorem code_walk (n : Int) (h1 : -8388608 ≤ n) (h2 : n < 8388608) (w : World) :
    Calls Try.prog 9 #[.float .f32 (fullB n)] w fun e w' => e = .returned (.int .i64 (n + 8388608)) ∧ w' = w := by
  obtain ⟨r, hm, hr⟩ := mul_val (fullB_val n (by omega)).2 (by omega)
  have hq := fun w => run_float_arith (P := Try.prog) w .mul 22 .f32 (fullB n) 1258291200 r hm
  have ht : floatToIntVal .f32 r .i64 = some n := by
    have h0 : (FloatKind.f32.decode r).toInt .zero = some n := toInt_val hr
    unfold floatToIntVal
    rw [h0]
    have hmin : IntKind.i64.min = -9223372036854775808 := by decide
    have hmax : IntKind.i64.max = 9223372036854775807 := by decide
    dsimp only
    rw [if_pos]
    rw [hmin, hmax]
    omega
  have hc := fun w => run_convert_float_int (P := Try.prog) w 22 2 .f32 .i64 r n (by rw [Try.underlying22]; rfl) Try.underlying2 ht
  clear hm hr ht
  go_enter Try.func9, Try.ntmps9
  go_wp2
  go_ret
  exact ⟨rfl, rfl⟩

theorem order_eq {a b : Nat} {A B : Int} {k : Nat} (ha : Fv a (A * 2 ^ k)) (hb : Fv b (B * 2 ^ k)) : (FloatKind.f32.format.order a b == some .eq) = (A == B) := by
  have h : FloatKind.f32.format.order a b = some (compare (A * 2 ^ k) (B * 2 ^ k)) := order_val ha hb
  rw [h, compare_mul]
  rcases Int.lt_trichotomy A B with h | h | h
  · rw [Int.compare_eq_lt.2 h, beq_eq_false_iff_ne.2 (show A ≠ B from by omega)]; rfl
  · subst h; simp
  · rw [Int.compare_eq_gt.2 h, beq_eq_false_iff_ne.2 (show A ≠ B from by omega)]; rfl

end Go.Proofs.Qxb6614444a.Walks
