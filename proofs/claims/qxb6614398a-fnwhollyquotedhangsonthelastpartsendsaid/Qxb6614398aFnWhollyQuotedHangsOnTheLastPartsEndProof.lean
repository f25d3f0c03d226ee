/-
  The proof of 'Rows.FnWhollyQuotedHangsOnTheLastPartsEndSaid'. The frame is the guide's template as its tool wrote it for this function; the walk and the plain laws are ours.
-/
import Derived.Test.Qxb6614398aRows
import Derived.WalkKit
import Derived.ProofKit
import Derived.OpenShut
import Derived.ShutString
import Derived.WalkSpells
import Derived.Lib.Strings
import Derived.WalkLawsBesides
namespace Go.Proofs.Qxb6614398a.fnWhollyQuotedHangsOnTheLastPartsEnd
open Go.ChangeShapes Go.WideShapes Go.ChangeAt Go.RowKit
open Go.ChangeMaps (open_string shut_string)
set_option linter.unusedVariables false      -- a walk need not use every 'w<i>' (that an integer argument fits its kind)

theorem own : ownKnob Try.prog.godebug = none := by kernel_rfl

/-! ### the plain functions, and the callees by their contracts -/
def qf (f : ByteArray) : Bool := f.data.toList.head? == some 34
def wq (f l : ByteArray) (m k : Int) : Bool := qf f && (k == 2) && (m == (l.size : Int) - 1)

theorem qf_walk (f : ByteArray) (hf : f.size ≤ 4194304) (w : World) :
    Calls Try.prog 18 #[.string f, .string ⟨#[34]⟩] w fun e w' => e = .returned (.bool (qf f)) ∧ w' = w := by
  by_cases pf : 1 ≤ f.size
  · have e : qf f = ((f.extract 0 1).toList == [34]) := by
      unfold qf
      rw [ByteArray.toList_eq, Lib.extract_data]
      cases h : f.data.toList with
      | nil => simp [ByteArray.size, ← Array.length_toList, h] at pf
      | cons c t => simp
    rw [e]
    go_enter Try.func18, Try.ntmps18
    go_wp2
    go_ret
    exact ⟨rfl, rfl⟩
  · have e : qf f = false := by
      unfold qf
      cases h : f.data.toList with
      | nil => rfl
      | cons c t => exfalso; apply pf; simp [ByteArray.size, ← Array.length_toList, h]
    rw [e]
    go_enter Try.func18, Try.ntmps18
    go_wp2
    go_ret
    exact ⟨rfl, rfl⟩

set_option maxHeartbeats 400000 in
theorem wq_walk (f l : ByteArray) (m k : Int) (hf : f.size ≤ 4194304) (hl : l.size ≤ 4194304) (w : World) :
    Calls Try.prog 14 #[.string f, .string l, .int .i64 m, .int .i64 k] w fun e w' => e = .returned (.bool (wq f l m k)) ∧ Grown w w' := by
  unfold wq
  cases h1 : qf f with
  | false =>
    go_enter Try.func14, Try.ntmps14
    go_wp2_with (first | (go_at_call 18; refine (qf_walk _ (by omega) _).mono ?_; rintro e w' ⟨rfl, rfl⟩) | go_in)
    go_ret
    exact ⟨rfl, ((Grown.refl _).alloc _ _).alloc _ _⟩
  | true =>
    cases h2 : (k == 2) with
    | false =>
      go_enter Try.func14, Try.ntmps14
      go_wp2_with (first | (go_at_call 18; refine (qf_walk _ (by omega) _).mono ?_; rintro e w' ⟨rfl, rfl⟩) | go_in)
      go_ret
      exact ⟨rfl, ((Grown.refl _).alloc _ _).alloc _ _⟩
    | true =>
      go_enter Try.func14, Try.ntmps14
      go_wp2_with (first | (go_at_call 18; refine (qf_walk _ (by omega) _).mono ?_; rintro e w' ⟨rfl, rfl⟩) | go_in)
      go_ret
      exact ⟨rfl, ((Grown.refl _).alloc _ _).alloc _ _⟩

theorem wq_moved (f l y : ByteArray) (m k : Int) : wq f (y ++ l) (m + (y.size : Int)) k = wq f l m k := by
  have e : (m + (y.size : Int) == ((y ++ l).size : Int) - 1) = (m == (l.size : Int) - 1) := by
    rw [ByteArray.size_append, Bool.eq_iff_iff, beq_iff_eq, beq_iff_eq]
    omega
  unfold wq
  rw [e]

theorem wq_whole (f l : ByteArray) : wq (⟨#[34]⟩ ++ f) (l ++ ⟨#[34]⟩) (l.size : Int) 2 = true := by
  have e : qf (⟨#[34]⟩ ++ f) = true := by
    unfold qf
    simp [ByteArray.data_append]
  have e2 : ((l.size : Int) == ((l ++ ⟨#[34]⟩).size : Int) - 1) = true := by
    rw [ByteArray.size_append, beq_iff_eq]
    have : (ByteArray.mk #[34]).size = 1 := rfl
    omega
  unfold wq
  rw [e, e2]
  rfl

/-- A value that is wholly quoted opens with a quote. -/
theorem wq_open (f l : ByteArray) (m k : Int) (h : wq f l m k = true) : ∃ pf : 0 < f.size, f.toList.isEmpty = false ∧ ((f[0].toNat : Int) == 34) = true := by
  unfold wq at h
  simp only [Bool.and_eq_true] at h
  have h1 := h.1.1
  unfold qf at h1
  obtain ⟨⟨d⟩⟩ := f
  cases d with
  | nil => simp at h1
  | cons c t =>
    have hc : c = 34 := by simpa using h1
    refine ⟨by simp [ByteArray.size], by rw [ByteArray.toList_eq]; rfl, ?_⟩
    subst hc
    rfl

set_option maxHeartbeats 800000 in
theorem walk_long (a0 : ByteArray) (a1 : ByteArray) (a2 : ByteArray) (a3 : Int) (a4 : Int) (w0 : a0.size ≤ 9223372036854775807) (w1 : a1.size ≤ 9223372036854775807) (w2 : a2.size ≤ 9223372036854775807) (hl : 262144 < a0.size ∨ 262144 < a1.size ∨ 262144 < a2.size) (w : World) :
    Calls Try.prog 5 #[.string a0, .string a1, .string a2, .int .i64 a3, .int .i64 a4] w fun e w' => e = .returned (.bool true) ∧ Grown w w' := by
  go_enter Try.func5, Try.ntmps5
  go_wp2_with (first | (go_at_call 14; fail) | go_in)
  all_goals go_ret
  all_goals exact ⟨rfl, Grown.refl _⟩

set_option maxHeartbeats 800000 in
theorem walk_far (a0 : ByteArray) (a1 : ByteArray) (a2 : ByteArray) (a3 : Int) (a4 : Int) (w0 : a0.size ≤ 262144) (w1 : a1.size ≤ 262144) (w2 : a2.size ≤ 262144) (hm : 9223372036854775807 - (a2.size : Int) < a3) (w : World) :
    Calls Try.prog 5 #[.string a0, .string a1, .string a2, .int .i64 a3, .int .i64 a4] w fun e w' => e = .returned (.bool true) ∧ Grown w w' := by
  go_enter Try.func5, Try.ntmps5
  go_wp2_with (first | (go_at_call 14; fail) | go_in)
  go_ret
  exact ⟨rfl, Grown.refl _⟩

theorem grown_trans {a b c : World} (h1 : Grown a b) (h2 : Grown b c) : Grown a c := by
  refine ⟨World.keptBut_trans h1.1 h2.1, fun x => (h2.2.1 x).trans (h1.2.1 x), Nat.le_trans h1.2.2 h2.2.2⟩
theorem grown_4 {a b c d : World} (h1 : Grown a b) (h2 : Grown b c) (h3 : Grown c d) : Grown a d := grown_trans (grown_trans h1 h2) h3

set_option maxHeartbeats 800000 in
theorem walk_near (a0 : ByteArray) (a1 : ByteArray) (a2 : ByteArray) (a3 : Int) (a4 : Int) (w0 : a0.size ≤ 262144) (w1 : a1.size ≤ 262144) (w2 : a2.size ≤ 262144) (lo : -9223372036854775808 ≤ a3) (hm : a3 ≤ 9223372036854775807 - (a2.size : Int)) (w : World) :
    Calls Try.prog 5 #[.string a0, .string a1, .string a2, .int .i64 a3, .int .i64 a4] w fun e w' => e = .returned (.bool true) ∧ Grown w w' := by
  have e1 := wq_moved a0 a1 a2 a3 a4
  have e2 := wq_whole a0 a1
  have s1 : (a2 ++ a1).size ≤ 4194304 := by rw [ByteArray.size_append]; omega
  have s2 : ((⟨#[34]⟩ : ByteArray) ++ a0).size ≤ 4194304 := by
    rw [ByteArray.size_append]; have : (ByteArray.mk #[34]).size = 1 := rfl; omega
  have s3 : (a1 ++ (⟨#[34]⟩ : ByteArray)).size ≤ 4194304 := by
    rw [ByteArray.size_append]; have : (ByteArray.mk #[34]).size = 1 := rfl; omega
  have S1 : Hid ((a2 ++ a1).size ≤ 4194304) := s1
  have S2 : Hid (((⟨#[34]⟩ : ByteArray) ++ a0).size ≤ 4194304) := s2
  have S3 : Hid ((a1 ++ (⟨#[34]⟩ : ByteArray)).size ≤ 4194304) := s3
  clear s1 s2 s3
  cases g : wq a0 a1 a3 a4 with
  | false =>
    rw [g] at e1
    go_enter Try.func5, Try.ntmps5
    go_wp2_with (first | (go_at_call 14; refine (wq_walk _ _ _ _ ?_ ?_ _).mono ?_; (first | exact S1.out | exact S2.out | omega); (first | exact S1.out | exact S3.out | omega); rintro e w' ⟨rfl, hg⟩) | go_in)
    go_ret
    exact ⟨rfl, grown_4 (by assumption) (by assumption) (by assumption)⟩
  | true =>
    rw [g] at e1
    obtain ⟨pf, hne, h34⟩ := wq_open _ _ _ _ g
    go_enter Try.func5, Try.ntmps5
    go_wp2_with (first | (go_at_call 14; refine (wq_walk _ _ _ _ ?_ ?_ _).mono ?_; (first | exact S1.out | exact S2.out | omega); (first | exact S1.out | exact S3.out | omega); rintro e w' ⟨rfl, hg⟩) | go_in)
    go_ret
    exact ⟨rfl, grown_4 (by assumption) (by assumption) (by assumption)⟩

theorem walk (a0 : ByteArray) (a1 : ByteArray) (a2 : ByteArray) (a3 : Int) (a4 : Int) (w0 : a0.size ≤ maxLen) (w1 : a1.size ≤ maxLen) (w2 : a2.size ≤ maxLen) (w3 : (Lit.int .i64 a3).wf = true) (w4 : (Lit.int .i64 a4).wf = true) (w : World) :
    Calls Try.prog 5 #[.string a0, .string a1, .string a2, .int .i64 a3, .int .i64 a4] w fun e w' => e = .returned (.bool true) ∧ Grown w w' := by
  unfold maxLen at w0 w1 w2
  obtain ⟨lo, hi⟩ := bounds_i64 w3
  by_cases hl : 262144 < a0.size ∨ 262144 < a1.size ∨ 262144 < a2.size
  · exact walk_long a0 a1 a2 a3 a4 w0 w1 w2 hl w
  · by_cases hm : 9223372036854775807 - (a2.size : Int) < a3
    · exact walk_far a0 a1 a2 a3 a4 (by omega) (by omega) (by omega) hm w
    · exact walk_near a0 a1 a2 a3 a4 (by omega) (by omega) (by omega) lo (by omega) w

/-! ### THE ROW's STEP: WRITTEN OUT: LEAVE IT -/
set_option maxRecDepth 100000 in
theorem lifted (os : Os) (started : os.Started) (H : Type) (enc : TypeId × Value → H) :
    ReturnsInHanded {} Try.checked os 5 .any (Rows.fnWhollyQuotedHangsOnTheLastPartsEndSpec.pre6 enc Try.prog Try.f5 Rows.fnWhollyQuotedHangsOnTheLastPartsEndRow.domain false) (Rows.fnWhollyQuotedHangsOnTheLastPartsEndSpec.post enc Try.prog Try.f5 false true false false) := by
  refine returnsInHanded_of_change (C := Try.checked) own started (by kernel_rfl) Try.func5
    (ChangeSpec.witness6 (enc := enc) (C := Try.checked) false ⟨#[], #[.string ByteArray.empty, .string ByteArray.empty, .string ByteArray.empty, .int .i64 0, .int .i64 0], []⟩ 8 (by kernel_rfl) (by kernel_rfl) (by kernel_rfl) (by kernel_rfl)) ?_
  intro W base args ds gs before hval0 hW hcnd _
  have hval : ∀ (j : Nat) t v, Try.f5.params[j]? = some t → args[j]? = some v → Value.okWide Try.prog W .any base t v := hval0
  have hW' := hW
  obtain ⟨p, q, hA0, hV, rfl, hfz, hnd⟩ := hW
  have hA : DataW.TrodAll enc Try.prog W 0 (fun _ => true) true Try.f5.params.toList args.toList ds p := hA0
  rw [Try.params5] at hA hval
  obtain ⟨v0, vs0, d0, ds0, p0, q0, hargs, rfl, rfl, h0, r0⟩ := trodAll_cons hA
  obtain ⟨v1, vs1, d1, ds1, p1, q1, rfl, rfl, rfl, h1, r1⟩ := trodAll_cons r0
  obtain ⟨v2, vs2, d2, ds2, p2, q2, rfl, rfl, rfl, h2, r2⟩ := trodAll_cons r1
  obtain ⟨v3, vs3, d3, ds3, p3, q3, rfl, rfl, rfl, h3, r3⟩ := trodAll_cons r2
  obtain ⟨v4, vs4, d4, ds4, p4, q4, rfl, rfl, rfl, h4, r4⟩ := trodAll_cons r3
  obtain ⟨rfl, rfl, rfl⟩ := trodAll_nil r4
  obtain rfl : args = #[v0, v1, v2, v3, v4] := by cases args; simp_all
  obtain ⟨rfl, rfl⟩ := trodVars_none hV
  obtain ⟨a0, rfl, rfl, rfl, w0⟩ := open_string Try.underlying9 (hval 0 9 v0 rfl rfl) h0
  obtain ⟨a1, rfl, rfl, rfl, w1⟩ := open_string Try.underlying9 (hval 1 9 v1 rfl rfl) h1
  obtain ⟨a2, rfl, rfl, rfl, w2⟩ := open_string Try.underlying9 (hval 2 9 v2 rfl rfl) h2
  obtain ⟨a3, rfl, rfl, rfl, w3⟩ := open_int Try.underlying3 (hval 3 3 v3 rfl rfl) h3
  obtain ⟨a4, rfl, rfl, rfl, w4⟩ := open_int Try.underlying3 (hval 4 3 v4 rfl rfl) h4
  clear hA0 hval0
  simp only [List.append_nil] at hW'
  refine (walk a0 a1 a2 a3 a4 w0 w1 w2 w3 w4 W).mono fun e W' ⟨he, hg⟩ => ?_
  subst he
  exact ⟨_, rfl, post_of_same (pa := []) (pv := []) hW' (fun _ _ _ => (trodAll_cons_mk (shut_bool Try.underlying4 _) trodAll_mk0)) (fun sp _ => (trodAll_cons_mk (shut_string Try.underlying9 w0) (trodAll_cons_mk (shut_string Try.underlying9 w1) (trodAll_cons_mk (shut_string Try.underlying9 w2) (trodAll_cons_mk (shut_int Try.underlying3 w3) (trodAll_cons_mk (shut_int Try.underlying3 w4) trodAll_mk0)))))) (fun _ _ => rfl) rfl
    (hg.frame _) hg.2.1 (ok_one (by kernel_rfl) rfl (okWide_bool_mk Try.underlying4 _))⟩

theorem over : Rows.fnWhollyQuotedHangsOnTheLastPartsEndRow.holds Try.pinned (OpenSpec.ofChange Rows.fnWhollyQuotedHangsOnTheLastPartsEndSpec) :=
  OpenClaim.holds_of_wide 5 Try.f5 rfl rfl rfl rfl rfl rfl rfl ⟨rfl, rfl, rfl, rfl, rfl⟩ rfl rfl rfl rfl rfl (by kernel_rfl) Try.func5 (by kernel_rfl)
    (of_decide_eq_true (by kernel_rfl)) (by unfold Func.isWrapper; first | (rw [if_pos (by decide +kernel)]; kernel_rfl) | (rw [if_neg (by decide +kernel)]; exact ⟨rfl, rfl⟩))
    (fun os started H enc _ => lifted os started H enc)

/-- ████ THE STATEMENT ████ -/
theorem proved : Rows.FnWhollyQuotedHangsOnTheLastPartsEndSaid :=
  over
end Go.Proofs.Qxb6614398a.fnWhollyQuotedHangsOnTheLastPartsEnd
