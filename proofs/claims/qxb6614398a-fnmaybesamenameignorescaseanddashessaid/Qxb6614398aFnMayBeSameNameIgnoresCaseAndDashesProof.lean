/-
  The proof of 'Rows.FnMayBeSameNameIgnoresCaseAndDashesSaid'. The frame is the guide's template as its tool wrote it for this function; the walk and the plain laws are ours.
-/
import Derived.Test.Qxb6614398aRows
import Derived.WalkKit
import Derived.ProofKit
import Derived.OpenShut
import Derived.ShutString
import Derived.Test.Qxb6614398aSwap
namespace Go.Proofs.Qxb6614398a.fnMayBeSameNameIgnoresCaseAndDashes
open Go.ChangeShapes Go.WideShapes Go.ChangeAt Go.RowKit
open Go.ChangeMaps (open_string shut_string)
set_option linter.unusedVariables false      -- a walk need not use every 'w<i>' (that an integer argument fits its kind)

theorem own : ownKnob Try.prog.godebug = none := by kernel_rfl

/-! ### the plain laws -/
open Go.Proofs.Qxb6614398a.Walks

theorem or128 (c d : UInt8) : decide ((128 : Int) ≤ bits .or .u8 c.toNat d.toNat) = (decide (128 ≤ c.toNat) || decide (128 ≤ d.toNat)) := by
  have hb : ∀ x : BitVec 8, decide (128 ≤ x.toNat) = x.msb := fun x => by rw [BitVec.msb_eq_decide]
  have hc : (BitVec.ofInt 8 (c.toNat : Int)).toNat = c.toNat := by
    have := c.toNat_lt; simp
  have hd : (BitVec.ofInt 8 (d.toNat : Int)).toNat = d.toNat := by
    have := d.toNat_lt; simp
  have hw : bits .or .u8 (c.toNat : Int) (d.toNat : Int) = ((BitVec.ofInt 8 (c.toNat : Int) ||| BitVec.ofInt 8 (d.toNat : Int)).toNat : Int) := by
    have hlt := (BitVec.ofInt 8 (c.toNat : Int) ||| BitVec.ofInt 8 (d.toNat : Int)).isLt
    show IntKind.wrap .u8 ((BitVec.ofInt 8 (c.toNat : Int) ||| BitVec.ofInt 8 (d.toNat : Int)).toNat : Int) = _
    generalize (BitVec.ofInt 8 (c.toNat : Int) ||| BitVec.ofInt 8 (d.toNat : Int)).toNat = n at hlt ⊢
    simp only [IntKind.wrap, IntKind.signed, IntKind.bits, Bool.false_and, Bool.false_eq_true, if_false]
    omega
  rw [hw]
  rw [← hc, ← hd, hb, hb, ← BitVec.msb_or, ← hb]
  rw [decide_eq_decide, hc, hd]
  omega

theorem ini_sw_tab : ∀ n, n < 256 → ini ((sw8 (UInt8.ofNat n)).toNat : Int) = ini ((UInt8.ofNat n).toNat : Int) ∧ decide (128 ≤ (sw8 (UInt8.ofNat n)).toNat) = decide (128 ≤ (UInt8.ofNat n).toNat) := by decide +kernel

theorem ini_sw (c : UInt8) : ini ((sw8 c).toNat : Int) = ini (c.toNat : Int) ∧ decide (128 ≤ (sw8 c).toNat) = decide (128 ≤ c.toNat) := by
  have h := ini_sw_tab c.toNat c.toNat_lt
  rwa [UInt8.ofNat_toNat] at h

theorem mbc_sw (c d : UInt8) : mbc (sw8 c) d = mbc c d := by
  unfold mbc
  rw [or128, or128, (ini_sw c).1, (ini_sw c).2]

theorem mb_sw (a b : ByteArray) : mb (swS a) b = mb a b := by
  unfold mb swS
  cases a.data.toList with
  | nil => rfl
  | cons c t => cases b.data.toList with
    | nil => rfl
    | cons d u => exact mbc_sw c d

theorem mb_self (a : ByteArray) : mb a a = true := by
  unfold mb
  cases a.data.toList with
  | nil => rfl
  | cons c t => exact mbc_self c

theorem grown_drewN {w w' : World} (h : Grown w w') (n : Nat) : Grown w (w'.drewN n) := h

/-! ### the walk -/
theorem walk (a0 : ByteArray) (a1 : ByteArray) (w0 : a0.size ≤ maxLen) (w1 : a1.size ≤ maxLen) (w : World) :
    Calls Try.prog 4 #[.string a0, .string a1] w fun e w' => e = .returned (.bool true) ∧ Grown w w' := by
  unfold maxLen at w0 w1
  have m1 : mb (swS a0) a1 = mb a0 a1 := mb_sw a0 a1
  have m2 : mb a1 (swS a0) = mb a1 a0 := by rw [mb_comm, mb_sw, mb_comm]
  have m3 : mb a0 (swS a0) = true := by rw [mb_comm, mb_sw, mb_self]
  have m4 : mb (swS a0) a0 = true := by rw [mb_sw, mb_self]
  go_enter Try.func4, Try.ntmps4
  go_wp2_with (first | (go_at_call 11; refine (swap_any _ (by omega) _).mono ?_; rintro e w' ⟨rfl, hg⟩) | (go_at_call 7; refine (mb_any _ _ _).mono ?_; rintro e w' ⟨rfl, n, rfl⟩) | go_in)
  all_goals go_ret
  all_goals first
    | exact ⟨rfl, Grown.refl _⟩
    | exact ⟨rfl, by assumption⟩

/-! ### THE ROW's STEP: WRITTEN OUT: LEAVE IT -/
set_option maxRecDepth 100000 in
theorem lifted (os : Os) (started : os.Started) (H : Type) (enc : TypeId × Value → H) :
    ReturnsInHanded {} Try.checked os 4 .any (Rows.fnMayBeSameNameIgnoresCaseAndDashesSpec.pre6 enc Try.prog Try.f4 Rows.fnMayBeSameNameIgnoresCaseAndDashesRow.domain false) (Rows.fnMayBeSameNameIgnoresCaseAndDashesSpec.post enc Try.prog Try.f4 false true false false) := by
  refine returnsInHanded_of_change (C := Try.checked) own started (by kernel_rfl) Try.func4
    (ChangeSpec.witness6 (enc := enc) (C := Try.checked) false ⟨#[], #[.string ByteArray.empty, .string ByteArray.empty], []⟩ 8 (by kernel_rfl) (by kernel_rfl) (by kernel_rfl) (by kernel_rfl)) ?_
  intro W base args ds gs before hval0 hW hcnd _
  have hval : ∀ (j : Nat) t v, Try.f4.params[j]? = some t → args[j]? = some v → Value.okWide Try.prog W .any base t v := hval0
  have hW' := hW
  obtain ⟨p, q, hA0, hV, rfl, hfz, hnd⟩ := hW
  have hA : DataW.TrodAll enc Try.prog W 0 (fun _ => true) true Try.f4.params.toList args.toList ds p := hA0
  rw [Try.params4] at hA hval
  obtain ⟨v0, vs0, d0, ds0, p0, q0, hargs, rfl, rfl, h0, r0⟩ := trodAll_cons hA
  obtain ⟨v1, vs1, d1, ds1, p1, q1, rfl, rfl, rfl, h1, r1⟩ := trodAll_cons r0
  obtain ⟨rfl, rfl, rfl⟩ := trodAll_nil r1
  obtain rfl : args = #[v0, v1] := by cases args; simp_all
  obtain ⟨rfl, rfl⟩ := trodVars_none hV
  obtain ⟨a0, rfl, rfl, rfl, w0⟩ := open_string Try.underlying9 (hval 0 9 v0 rfl rfl) h0
  obtain ⟨a1, rfl, rfl, rfl, w1⟩ := open_string Try.underlying9 (hval 1 9 v1 rfl rfl) h1
  clear hA0 hval0
  simp only [List.append_nil] at hW'
  refine (walk a0 a1 w0 w1 W).mono fun e W' ⟨he, hg⟩ => ?_
  subst he
  exact ⟨_, rfl, post_of_same (pa := []) (pv := []) hW' (fun _ _ _ => (trodAll_cons_mk (shut_bool Try.underlying4 _) trodAll_mk0)) (fun sp _ => (trodAll_cons_mk (shut_string Try.underlying9 w0) (trodAll_cons_mk (shut_string Try.underlying9 w1) trodAll_mk0))) (fun _ _ => rfl) rfl
    (hg.frame _) hg.2.1 (ok_one (by kernel_rfl) rfl (okWide_bool_mk Try.underlying4 _))⟩

theorem over : Rows.fnMayBeSameNameIgnoresCaseAndDashesRow.holds Try.pinned (OpenSpec.ofChange Rows.fnMayBeSameNameIgnoresCaseAndDashesSpec) :=
  OpenClaim.holds_of_wide 4 Try.f4 rfl rfl rfl rfl rfl rfl rfl ⟨rfl, rfl, rfl, rfl, rfl⟩ rfl rfl rfl rfl rfl (by kernel_rfl) Try.func4 (by kernel_rfl)
    (of_decide_eq_true (by kernel_rfl)) (by unfold Func.isWrapper; first | (rw [if_pos (by decide +kernel)]; kernel_rfl) | (rw [if_neg (by decide +kernel)]; exact ⟨rfl, rfl⟩))
    (fun os started H enc _ => lifted os started H enc)

/-- ████ THE STATEMENT ████ -/
theorem proved : Rows.FnMayBeSameNameIgnoresCaseAndDashesSaid :=
  over
end Go.Proofs.Qxb6614398a.fnMayBeSameNameIgnoresCaseAndDashes
