/-
  The proof of 'Rows.FnGridAffineAndMirrorSaid'. The frame is the guide's template as its tool wrote it for this function; the walk is ours.
-/
import Derived.Test.Qxb6614444aRows
import Derived.WalkKit
import Derived.ProofKit
import Derived.OpenShut
import Derived.ShutString
import Derived.Test.Qxb6614444aCalls
namespace Go.Proofs.Qxb6614444a.fnGridAffineAndMirror
open Go.ChangeShapes Go.WideShapes Go.ChangeAt Go.RowKit
open Go.ChangeMaps (open_string shut_string)
set_option linter.unusedVariables false      -- a walk need not use every 'w<i>' (that an integer argument fits its kind)

theorem own : ownKnob Try.prog.godebug = none := by kernel_rfl

/-! ### the walk -/
open Go.Proofs.Qxb6614444a.Walks Go.Proofs.Qxb6614444a.Fl

/-- Strictly between -1 and 1. -/
theorem grid_lt (n : Int) (h1 : -1024 < n) (h2 : n < 1024) : FloatKind.f32.format.order (gridB n) 3212836864 = some .gt ∧ FloatKind.f32.format.order (gridB n) 1065353216 = some .lt := by
  have hv := (gridB_val n (by omega)).2
  have hlo : FloatKind.f32.format.order (gridB n) 3212836864 = some (compare (n * 2 ^ 139) (-2 ^ 149)) := order_val hv val_minusOne
  have hhi : FloatKind.f32.format.order (gridB n) 1065353216 = some (compare (n * 2 ^ 139) (2 ^ 149)) := order_val hv val_one
  rw [hlo, hhi, show (-(2 ^ 149) : Int) = (-1024) * 2 ^ 139 from by decide, show (2 : Int) ^ 149 = 1024 * 2 ^ 139 from by decide, compare_mul, compare_mul, Int.compare_eq_gt.2 h1, Int.compare_eq_lt.2 h2]
  exact ⟨rfl, rfl⟩

set_option maxHeartbeats 800000 in
theorem walk_in (a0 a1 : Int) (h1 : -8387589 ≤ a0) (h2 : a0 ≤ 8389627) (g1 : -8387589 ≤ a1) (g2 : a1 ≤ 8389627) (w : World) :
    Calls Try.prog 3 #[.int .i64 a0, .int .i64 a1] w fun e w' => e = .returned (.bool true) ∧ w' = w := by
  have v0 := (gridB_val (a0 - 1019) (by omega)).2
  have v1 := (gridB_val (a1 - 1019) (by omega)).2
  have vm := (gridB_val (2038 - a0 - 1019) (by omega)).2
  have vd := gridB_val (a1 - a0) (by omega)
  obtain ⟨r, hsub, hr⟩ := sub_val (by omega) v1 v0 (by omega)
  have q1 := fun w => run_float_arith (P := Try.prog) w .sub 22 .f32 (gridB (a1 - 1019)) (gridB (a0 - 1019)) r hsub
  have q2 := fun w => run_float_arith (P := Try.prog) w .quo 22 .f32 _ _ _ vd.1
  have o1 : (FloatKind.f32.format.order r (gridB (a1 - a0)) == some .eq) = true := by
    rw [order_eq hr vd.2]
    exact beq_iff_eq.2 (by omega)
  have o2 : (FloatKind.f32.format.order (gridB (2038 - a0 - 1019)) (Op.negFloat .f32 (gridB (a0 - 1019))) == some .eq) = true := by
    have hn := neg_val v0
    rw [← Int.neg_mul] at hn
    have := order_eq vm hn
    rw [show Op.negFloat .f32 (gridB (a0 - 1019)) = gridB (a0 - 1019) ^^^ 2 ^ 31 from rfl, this]
    exact beq_iff_eq.2 (by omega)
  have q3 : ∀ w, Sem.run Try.prog (Op.unary .neg (.float .f32 (gridB (a0 - 1019)))) w = .ok (.float .f32 (Op.negFloat .f32 (gridB (a0 - 1019)))) w := fun _ => rfl
  clear v0 v1 vm vd hsub hr
  by_cases hin : 0 ≤ a0 ∧ a0 ≤ 2038
  · obtain ⟨i1, i2⟩ := hin
    obtain ⟨o3, o4⟩ := grid_lt (a0 - 1019) (by omega) (by omega)
    go_enter Try.func3, Try.ntmps3
    go_wp2_with (first | (go_at_call 6; refine (grid_any _ (by omega) (by omega) _).mono ?_; rintro e w' ⟨rfl, rfl⟩))
    go_ret
    exact ⟨rfl, rfl⟩
  · rcases (show a0 < 0 ∨ (0 ≤ a0 ∧ 2038 < a0) from by omega) with i1 | ⟨i1, i2⟩
    all_goals
      go_enter Try.func3, Try.ntmps3
      go_wp2_with (first | (go_at_call 6; refine (grid_any _ (by omega) (by omega) _).mono ?_; rintro e w' ⟨rfl, rfl⟩))
      go_ret
      exact ⟨rfl, rfl⟩

set_option maxHeartbeats 800000 in
theorem walk_out (a0 a1 : Int) (ho : a0 < -8387589 ∨ 8389627 < a0 ∨ a1 < -8387589 ∨ 8389627 < a1) (w : World) :
    Calls Try.prog 3 #[.int .i64 a0, .int .i64 a1] w fun e w' => e = .returned (.bool true) ∧ w' = w := by
  go_enter Try.func3, Try.ntmps3
  go_wp2_with fail
  all_goals go_ret
  all_goals exact ⟨rfl, rfl⟩

theorem walk (a0 : Int) (a1 : Int) (w0 : (Lit.int .i64 a0).wf = true) (w1 : (Lit.int .i64 a1).wf = true) (w : World) :
    Calls Try.prog 3 #[.int .i64 a0, .int .i64 a1] w fun e w' => e = .returned (.bool true) ∧ Grown w w' := by
  by_cases ho : a0 < -8387589 ∨ 8389627 < a0 ∨ a1 < -8387589 ∨ 8389627 < a1
  · exact (walk_out a0 a1 ho w).mono fun e w' ⟨he, hw⟩ => ⟨he, by rw [hw]; exact Grown.refl _⟩
  · exact (walk_in a0 a1 (by omega) (by omega) (by omega) (by omega) w).mono fun e w' ⟨he, hw⟩ => ⟨he, by rw [hw]; exact Grown.refl _⟩

/-! ### THE ROW's STEP: WRITTEN OUT: LEAVE IT -/
set_option maxRecDepth 100000 in
theorem lifted (os : Os) (started : os.Started) (H : Type) (enc : TypeId × Value → H) :
    ReturnsInHanded {} Try.checked os 3 .any (Rows.fnGridAffineAndMirrorSpec.pre6 enc Try.prog Try.f3 Rows.fnGridAffineAndMirrorRow.domain false) (Rows.fnGridAffineAndMirrorSpec.post enc Try.prog Try.f3 false true false false) := by
  refine returnsInHanded_of_change (C := Try.checked) own started (by kernel_rfl) Try.func3
    (ChangeSpec.witness6 (enc := enc) (C := Try.checked) false ⟨#[], #[.int .i64 0, .int .i64 0], []⟩ 8 (by kernel_rfl) (by kernel_rfl) (by kernel_rfl) (by kernel_rfl)) ?_
  intro W base args ds gs before hval0 hW hcnd _
  have hval : ∀ (j : Nat) t v, Try.f3.params[j]? = some t → args[j]? = some v → Value.okWide Try.prog W .any base t v := hval0
  have hW' := hW
  obtain ⟨p, q, hA0, hV, rfl, hfz, hnd⟩ := hW
  have hA : DataW.TrodAll enc Try.prog W 0 (fun _ => true) true Try.f3.params.toList args.toList ds p := hA0
  rw [Try.params3] at hA hval
  obtain ⟨v0, vs0, d0, ds0, p0, q0, hargs, rfl, rfl, h0, r0⟩ := trodAll_cons hA
  obtain ⟨v1, vs1, d1, ds1, p1, q1, rfl, rfl, rfl, h1, r1⟩ := trodAll_cons r0
  obtain ⟨rfl, rfl, rfl⟩ := trodAll_nil r1
  obtain rfl : args = #[v0, v1] := by cases args; simp_all
  obtain ⟨rfl, rfl⟩ := trodVars_none hV
  obtain ⟨a0, rfl, rfl, rfl, w0⟩ := open_int Try.underlying2 (hval 0 2 v0 rfl rfl) h0
  obtain ⟨a1, rfl, rfl, rfl, w1⟩ := open_int Try.underlying2 (hval 1 2 v1 rfl rfl) h1
  clear hA0 hval0
  simp only [List.append_nil] at hW'
  refine (walk a0 a1 w0 w1 W).mono fun e W' ⟨he, hg⟩ => ?_
  subst he
  exact ⟨_, rfl, post_of_same (pa := []) (pv := []) hW' (fun _ _ _ => (trodAll_cons_mk (shut_bool Try.underlying4 _) trodAll_mk0)) (fun sp _ => (trodAll_cons_mk (shut_int Try.underlying2 w0) (trodAll_cons_mk (shut_int Try.underlying2 w1) trodAll_mk0))) (fun _ _ => rfl) rfl
    (hg.frame _) hg.2.1 (ok_one (by kernel_rfl) rfl (okWide_bool_mk Try.underlying4 _))⟩

theorem over : Rows.fnGridAffineAndMirrorRow.holds Try.pinned (OpenSpec.ofChange Rows.fnGridAffineAndMirrorSpec) :=
  OpenClaim.holds_of_wide 3 Try.f3 rfl rfl rfl rfl rfl rfl rfl ⟨rfl, rfl, rfl, rfl, rfl⟩ rfl rfl rfl rfl rfl (by kernel_rfl) Try.func3 (by kernel_rfl)
    (of_decide_eq_true (by kernel_rfl)) (by unfold Func.isWrapper; first | (rw [if_pos (by decide +kernel)]; kernel_rfl) | (rw [if_neg (by decide +kernel)]; exact ⟨rfl, rfl⟩))
    (fun os started H enc _ => lifted os started H enc)

/-- ████ THE STATEMENT ████ -/
theorem proved : Rows.FnGridAffineAndMirrorSaid :=
  over
end Go.Proofs.Qxb6614444a.fnGridAffineAndMirror
