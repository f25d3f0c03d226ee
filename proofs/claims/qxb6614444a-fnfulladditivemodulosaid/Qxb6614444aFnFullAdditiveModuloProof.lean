/-
  The proof of 'Rows.FnFullAdditiveModuloSaid'. The frame is the guide's template as its tool wrote it for this function; the walk and the plain law are ours.
-/
import Derived.Test.Qxb6614444aRows
import Derived.WalkKit
import Derived.ProofKit
import Derived.OpenShut
import Derived.ShutString
import Derived.Test.Qxb6614444aCalls
namespace Go.Proofs.Qxb6614444a.fnFullAdditiveModulo
open Go.ChangeShapes Go.WideShapes Go.ChangeAt Go.RowKit
open Go.ChangeMaps (open_string shut_string)
set_option linter.unusedVariables false      -- a walk need not use every 'w<i>' (that an integer argument fits its kind)

theorem own : ownKnob Try.prog.godebug = none := by kernel_rfl

/-! ### the plain law, the walk -/
open Go.Proofs.Qxb6614444a.Walks Go.Proofs.Qxb6614444a.Fl

/-- '& (1<<24 - 1)' is the remainder by 2 ^ 24. -/
theorem and24 (n : Int) : bits .and .i64 n 16777215 = n % 16777216 := by
  have h24 : (BitVec.ofInt 64 16777215).toNat = 2 ^ 24 - 1 := by decide
  have key : (BitVec.ofInt 64 n &&& BitVec.ofInt 64 16777215).toNat = (n % ((2 ^ 64 : Nat) : Int)).toNat % 2 ^ 24 := by
    rw [BitVec.toNat_and, BitVec.toNat_ofInt, h24, Nat.and_two_pow_sub_one_eq_mod]
  show IntKind.i64.wrap ((BitVec.ofInt 64 n &&& BitVec.ofInt 64 16777215).toNat : Nat) = n % 16777216
  rw [key, IntKind.wrap_i64]
  omega

theorem code_add (a b : Int) : code (a + b) = (code a + code b) % 16777216 := by
  unfold code
  rw [Int.add_mul, Int.add_emod]

theorem wrap64_mod (x : Int) : wrap64 x % 16777216 = x % 16777216 := by unfold wrap64; omega

theorem code_low (a : Int) : code a = wrap64 (a % 16777216 * 3635633) % 16777216 := by
  unfold code
  rw [wrap64_mod, Int.mul_emod, show (2654435761 : Int) % 16777216 = 3635633 from by decide]

set_option maxHeartbeats 800000 in
theorem walk_in (a0 a1 : Int) (h1 : 0 ≤ a0) (h2 : a0 ≤ 1610612736) (g1 : 0 ≤ a1) (g2 : a1 ≤ 1610612736) (w : World) :
    Calls Try.prog 4 #[.int .i64 a0, .int .i64 a1] w fun e w' => e = .returned (.bool true) ∧ w' = w := by
  have c0 := code_bd a0
  have c1 := code_bd a1
  have c2 := code_bd (a0 + a1)
  have t1 : (code (a0 + a1) == bits .and .i64 (code a0 + code a1) 16777215) = true := by rw [and24, code_add]; exact beq_iff_eq.2 rfl
  have t2 : (code a0 == bits .and .i64 (wrap64 (bits .and .i64 a0 16777215 * 3635633)) 16777215) = true := by
    rw [and24, and24, ← code_low]; exact beq_iff_eq.2 rfl
  go_enter Try.func4, Try.ntmps4
  go_wp2_with (first | (go_at_call 7; refine (full_any _ (by omega) (by omega) _).mono ?_; rintro e w' ⟨rfl, rfl⟩) | (go_at_call 8; refine (range_walk _ (by omega) (by omega) _).mono ?_; rintro e w' ⟨rfl, rfl⟩) | (go_at_call 9; refine (code_walk _ (by omega) (by omega) _).mono ?_; rintro e w' ⟨rfl, rfl⟩))
  go_ret
  exact ⟨rfl, rfl⟩

set_option maxHeartbeats 800000 in
theorem walk_out (a0 a1 : Int) (ho : a0 < 0 ∨ a1 < 0 ∨ 1610612736 < a0 ∨ 1610612736 < a1) (w : World) :
    Calls Try.prog 4 #[.int .i64 a0, .int .i64 a1] w fun e w' => e = .returned (.bool true) ∧ w' = w := by
  go_enter Try.func4, Try.ntmps4
  go_wp2_with fail
  all_goals go_ret
  all_goals exact ⟨rfl, rfl⟩

theorem walk (a0 : Int) (a1 : Int) (w0 : (Lit.int .i64 a0).wf = true) (w1 : (Lit.int .i64 a1).wf = true) (w : World) :
    Calls Try.prog 4 #[.int .i64 a0, .int .i64 a1] w fun e w' => e = .returned (.bool true) ∧ Grown w w' := by
  by_cases ho : a0 < 0 ∨ a1 < 0 ∨ 1610612736 < a0 ∨ 1610612736 < a1
  · exact (walk_out a0 a1 ho w).mono fun e w' ⟨he, hw⟩ => ⟨he, by rw [hw]; exact Grown.refl _⟩
  · exact (walk_in a0 a1 (by omega) (by omega) (by omega) (by omega) w).mono fun e w' ⟨he, hw⟩ => ⟨he, by rw [hw]; exact Grown.refl _⟩

/-! ### THE ROW's STEP: WRITTEN OUT: LEAVE IT -/
set_option maxRecDepth 100000 in
theorem lifted (os : Os) (started : os.Started) (H : Type) (enc : TypeId × Value → H) :
    ReturnsInHanded {} Try.checked os 4 .any (Rows.fnFullAdditiveModuloSpec.pre6 enc Try.prog Try.f4 Rows.fnFullAdditiveModuloRow.domain false) (Rows.fnFullAdditiveModuloSpec.post enc Try.prog Try.f4 false true false false) := by
  refine returnsInHanded_of_change (C := Try.checked) own started (by kernel_rfl) Try.func4
    (ChangeSpec.witness6 (enc := enc) (C := Try.checked) false ⟨#[], #[.int .i64 0, .int .i64 0], []⟩ 8 (by kernel_rfl) (by kernel_rfl) (by kernel_rfl) (by kernel_rfl)) ?_
  intro W base args ds gs before hval0 hW hcnd _
  have hval : ∀ (j : Nat) t v, Try.f4.params[j]? = some t → args[j]? = some v → Value.okWide Try.prog W .any base t v := hval0
  have hW' := hW
  obtain ⟨p, q, hA0, hV, rfl, hfz, hnd⟩ := hW
  have hA : DataW.TrodAll enc Try.prog W 0 (fun _ => true) true Try.f4.params.toList args.toList ds p := hA0
  rw [Try.params4] at hA hval
  obtain ⟨v0, vs0, d0, ds0, p0, q0, hargs, rfl, rfl, h0, r0⟩ := trodAll_cons hA
  obtain ⟨v1, vs1, d1, ds1, p1, q1, rfl, rfl, rfl, h1, r1⟩ := trodAll_cons r0
  obtain ⟨rfl, rfl, rfl⟩ := trodAll_nil r1
  obtain rfl : args = #[v0, v1] := by cases args; simp_all
  obtain ⟨rfl, rfl⟩ := trodVars_none hV
  obtain ⟨a0, rfl, rfl, rfl, w0⟩ := open_int Try.underlying2 (hval 0 2 v0 rfl rfl) h0
  obtain ⟨a1, rfl, rfl, rfl, w1⟩ := open_int Try.underlying2 (hval 1 2 v1 rfl rfl) h1
  clear hA0 hval0
  simp only [List.append_nil] at hW'
  refine (walk a0 a1 w0 w1 W).mono fun e W' ⟨he, hg⟩ => ?_
  subst he
  exact ⟨_, rfl, post_of_same (pa := []) (pv := []) hW' (fun _ _ _ => (trodAll_cons_mk (shut_bool Try.underlying4 _) trodAll_mk0)) (fun sp _ => (trodAll_cons_mk (shut_int Try.underlying2 w0) (trodAll_cons_mk (shut_int Try.underlying2 w1) trodAll_mk0))) (fun _ _ => rfl) rfl
    (hg.frame _) hg.2.1 (ok_one (by kernel_rfl) rfl (okWide_bool_mk Try.underlying4 _))⟩

theorem over : Rows.fnFullAdditiveModuloRow.holds Try.pinned (OpenSpec.ofChange Rows.fnFullAdditiveModuloSpec) :=
  OpenClaim.holds_of_wide 4 Try.f4 rfl rfl rfl rfl rfl rfl rfl ⟨rfl, rfl, rfl, rfl, rfl⟩ rfl rfl rfl rfl rfl (by kernel_rfl) Try.func4 (by kernel_rfl)
    (of_decide_eq_true (by kernel_rfl)) (by unfold Func.isWrapper; first | (rw [if_pos (by decide +kernel)]; kernel_rfl) | (rw [if_neg (by decide +kernel)]; exact ⟨rfl, rfl⟩))
    (fun os started H enc _ => lifted os started H enc)

/-- ████ THE STATEMENT ████ -/
theorem proved : Rows.FnFullAdditiveModuloSaid :=
  over
end Go.Proofs.Qxb6614444a.fnFullAdditiveModulo
