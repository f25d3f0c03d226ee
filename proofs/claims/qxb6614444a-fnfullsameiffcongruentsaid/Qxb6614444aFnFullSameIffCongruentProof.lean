/-
  The proof of 'Rows.FnFullSameIffCongruentSaid'. The frame is the guide's template as its tool wrote it for this function; the walk and the plain law are ours.
-/
import Derived.Test.Qxb6614444aRows
import Derived.WalkKit
import Derived.ProofKit
import Derived.OpenShut
import Derived.ShutString
import Derived.Test.Qxb6614444aCalls
namespace Go.Proofs.Qxb6614444a.fnFullSameIffCongruent
open Go.ChangeShapes Go.WideShapes Go.ChangeAt Go.RowKit
open Go.ChangeMaps (open_string shut_string)
set_option linter.unusedVariables false      -- a walk need not use every 'w<i>' (that an integer argument fits its kind)

theorem own : ownKnob Try.prog.godebug = none := by kernel_rfl

/-! ### the plain law, the walk -/
open Go.Proofs.Qxb6614444a.Walks Go.Proofs.Qxb6614444a.Fl

theorem inv_gen (c M d k x q : Int) (hcd : c * d = 1 + k * M) (h : x * c = M * q) : x = M * (d * q - k * x) := by
  have h2 : x * c * d = M * q * d := by rw [h]
  rw [Int.mul_assoc, hcd, Int.mul_add, Int.mul_one] at h2
  have e1 : M * (d * q) = M * q * d := by rw [Int.mul_assoc, Int.mul_comm d q]
  have e2 : M * (k * x) = x * (k * M) := by rw [Int.mul_comm x, Int.mul_assoc, Int.mul_left_comm]
  rw [Int.mul_sub, e1, e2]
  omega

theorem cong_gen (c M d k h g : Int) (hcd : c * d = 1 + k * M) : h * c % M = g * c % M ↔ M ∣ h - g := by
  rw [Int.emod_eq_emod_iff_emod_sub_eq_zero, ← Int.sub_mul]
  constructor
  · intro e
    obtain ⟨q, hq⟩ := Int.dvd_of_emod_eq_zero e
    exact ⟨_, inv_gen c M d k (h - g) q hcd hq⟩
  · intro e
    obtain ⟨q, hq⟩ := e
    rw [hq, Int.mul_assoc]
    exact Int.mul_emod_right _ _

theorem cong_fb (h g : Int) : h * 2654435761 % 16777216 = g * 2654435761 % 16777216 ↔ (16777216 : Int) ∣ h - g :=
  cong_gen 2654435761 16777216 9121617 1443192146 h g (by decide)

theorem cong (h g : Int) : (code h - 8388608 == code g - 8388608) = ((h - g).tmod 16777216 == 0) := by
  rw [Bool.eq_iff_iff, beq_iff_eq, beq_iff_eq, ← Int.dvd_iff_tmod_eq_zero, ← cong_fb]
  show code h - 8388608 = code g - 8388608 ↔ code h = code g
  omega

set_option maxHeartbeats 800000 in
theorem walk_in (a0 a1 : Int) (h1 : 0 ≤ a0) (h2 : a0 ≤ 3221225472) (g1 : 0 ≤ a1) (g2 : a1 ≤ 3221225472) (w : World) :
    Calls Try.prog 5 #[.int .i64 a0, .int .i64 a1] w fun e w' => e = .returned (.bool true) ∧ w' = w := by
  have c0 := code_bd a0
  have c1 := code_bd a1
  have ho := (order_eq (fullB_val (code a0 - 8388608) (by omega)).2 (fullB_val (code a1 - 8388608) (by omega)).2).trans (cong a0 a1)
  go_enter Try.func5, Try.ntmps5
  go_wp2_with (first | (go_at_call 7; refine (full_any _ (by omega) (by omega) _).mono ?_; rintro e w' ⟨rfl, rfl⟩) | (go_at_call 8; refine (range_walk _ (by omega) (by omega) _).mono ?_; rintro e w' ⟨rfl, rfl⟩))
  go_ret
  exact ⟨rfl, rfl⟩

set_option maxHeartbeats 800000 in
theorem walk_out (a0 a1 : Int) (ho : a0 < 0 ∨ a1 < 0 ∨ 3221225472 < a0 ∨ 3221225472 < a1) (w : World) :
    Calls Try.prog 5 #[.int .i64 a0, .int .i64 a1] w fun e w' => e = .returned (.bool true) ∧ w' = w := by
  go_enter Try.func5, Try.ntmps5
  go_wp2_with fail
  all_goals go_ret
  all_goals exact ⟨rfl, rfl⟩

theorem walk (a0 : Int) (a1 : Int) (w0 : (Lit.int .i64 a0).wf = true) (w1 : (Lit.int .i64 a1).wf = true) (w : World) :
    Calls Try.prog 5 #[.int .i64 a0, .int .i64 a1] w fun e w' => e = .returned (.bool true) ∧ Grown w w' := by
  by_cases ho : a0 < 0 ∨ a1 < 0 ∨ 3221225472 < a0 ∨ 3221225472 < a1
  · exact (walk_out a0 a1 ho w).mono fun e w' ⟨he, hw⟩ => ⟨he, by rw [hw]; exact Grown.refl _⟩
  · exact (walk_in a0 a1 (by omega) (by omega) (by omega) (by omega) w).mono fun e w' ⟨he, hw⟩ => ⟨he, by rw [hw]; exact Grown.refl _⟩

/-! ### THE ROW's STEP: WRITTEN OUT: LEAVE IT -/
set_option maxRecDepth 100000 in
theorem lifted (os : Os) (started : os.Started) (H : Type) (enc : TypeId × Value → H) :
    ReturnsInHanded {} Try.checked os 5 .any (Rows.fnFullSameIffCongruentSpec.pre6 enc Try.prog Try.f5 Rows.fnFullSameIffCongruentRow.domain false) (Rows.fnFullSameIffCongruentSpec.post enc Try.prog Try.f5 false true false false) := by
  refine returnsInHanded_of_change (C := Try.checked) own started (by kernel_rfl) Try.func5
    (ChangeSpec.witness6 (enc := enc) (C := Try.checked) false ⟨#[], #[.int .i64 0, .int .i64 0], []⟩ 8 (by kernel_rfl) (by kernel_rfl) (by kernel_rfl) (by kernel_rfl)) ?_
  intro W base args ds gs before hval0 hW hcnd _
  have hval : ∀ (j : Nat) t v, Try.f5.params[j]? = some t → args[j]? = some v → Value.okWide Try.prog W .any base t v := hval0
  have hW' := hW
  obtain ⟨p, q, hA0, hV, rfl, hfz, hnd⟩ := hW
  have hA : DataW.TrodAll enc Try.prog W 0 (fun _ => true) true Try.f5.params.toList args.toList ds p := hA0
  rw [Try.params5] at hA hval
  obtain ⟨v0, vs0, d0, ds0, p0, q0, hargs, rfl, rfl, h0, r0⟩ := trodAll_cons hA
  obtain ⟨v1, vs1, d1, ds1, p1, q1, rfl, rfl, rfl, h1, r1⟩ := trodAll_cons r0
  obtain ⟨rfl, rfl, rfl⟩ := trodAll_nil r1
  obtain rfl : args = #[v0, v1] := by cases args; simp_all
  obtain ⟨rfl, rfl⟩ := trodVars_none hV
  obtain ⟨a0, rfl, rfl, rfl, w0⟩ := open_int Try.underlying2 (hval 0 2 v0 rfl rfl) h0
  obtain ⟨a1, rfl, rfl, rfl, w1⟩ := open_int Try.underlying2 (hval 1 2 v1 rfl rfl) h1
  clear hA0 hval0
  simp only [List.append_nil] at hW'
  refine (walk a0 a1 w0 w1 W).mono fun e W' ⟨he, hg⟩ => ?_
  subst he
  exact ⟨_, rfl, post_of_same (pa := []) (pv := []) hW' (fun _ _ _ => (trodAll_cons_mk (shut_bool Try.underlying4 _) trodAll_mk0)) (fun sp _ => (trodAll_cons_mk (shut_int Try.underlying2 w0) (trodAll_cons_mk (shut_int Try.underlying2 w1) trodAll_mk0))) (fun _ _ => rfl) rfl
    (hg.frame _) hg.2.1 (ok_one (by kernel_rfl) rfl (okWide_bool_mk Try.underlying4 _))⟩

theorem over : Rows.fnFullSameIffCongruentRow.holds Try.pinned (OpenSpec.ofChange Rows.fnFullSameIffCongruentSpec) :=
  OpenClaim.holds_of_wide 5 Try.f5 rfl rfl rfl rfl rfl rfl rfl ⟨rfl, rfl, rfl, rfl, rfl⟩ rfl rfl rfl rfl rfl (by kernel_rfl) Try.func5 (by kernel_rfl)
    (of_decide_eq_true (by kernel_rfl)) (by unfold Func.isWrapper; first | (rw [if_pos (by decide +kernel)]; kernel_rfl) | (rw [if_neg (by decide +kernel)]; exact ⟨rfl, rfl⟩))
    (fun os started H enc _ => lifted os started H enc)

/-- ████ THE STATEMENT ████ -/
theorem proved : Rows.FnFullSameIffCongruentSaid :=
  over
end Go.Proofs.Qxb6614444a.fnFullSameIffCongruent
