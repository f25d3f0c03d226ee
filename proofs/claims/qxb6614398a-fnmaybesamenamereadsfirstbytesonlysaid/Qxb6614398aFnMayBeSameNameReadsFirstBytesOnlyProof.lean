/-
  The proof of 'Rows.FnMayBeSameNameReadsFirstBytesOnlySaid'. The frame is the guide's template as its tool wrote it for this function; the walk and the plain laws are ours.
-/
import Derived.Test.Qxb6614398aRows
import Derived.WalkKit
import Derived.ProofKit
import Derived.OpenShut
import Derived.ShutString
import Derived.Test.Qxb6614398aMay
namespace Go.Proofs.Qxb6614398a.fnMayBeSameNameReadsFirstBytesOnly
open Go.ChangeShapes Go.WideShapes Go.ChangeAt Go.RowKit
open Go.ChangeMaps (open_string shut_string)
set_option linter.unusedVariables false      -- a walk need not use every 'w<i>' (that an integer argument fits its kind)

theorem own : ownKnob Try.prog.godebug = none := by kernel_rfl

/-! ### the plain laws -/
open Go.Proofs.Qxb6614398a.Walks

def isl (c : Int) : Bool := decide ((97 ≤ c ∧ c ≤ 122) ∨ (65 ≤ c ∧ c ≤ 90))
def low (c : Int) : Int := if 65 ≤ c ∧ c ≤ 90 then c + 32 else c

theorem isl_t {c : Int} (h : (97 ≤ c ∧ c ≤ 122) ∨ (65 ≤ c ∧ c ≤ 90)) : isl c = true := decide_eq_true h
theorem isl_f {c : Int} (h : ¬ ((97 ≤ c ∧ c ≤ 122) ∨ (65 ≤ c ∧ c ≤ 90))) : isl c = false := decide_eq_false h
theorem low_up {c : Int} (h1 : 65 ≤ c) (h2 : c ≤ 90) : low c = c + 32 := if_pos ⟨h1, h2⟩
theorem low_no {c : Int} (h : ¬ (65 ≤ c ∧ c ≤ 90)) : low c = c := if_neg h

theorem isl_walk (c : Int) (w : World) :
    Calls Try.prog 8 #[.int .u8 c] w fun e w' => e = .returned (.bool (isl c)) ∧ w' = w := by
  by_cases h1 : 97 ≤ c
  · by_cases h2 : c ≤ 122
    · rw [isl_t (by omega)]
      go_enter Try.func8, Try.ntmps8
      go_wp2
      go_ret
      exact ⟨by simp, rfl⟩
    · have h3 : ¬ c ≤ 90 := by omega
      have h4 : 65 ≤ c := by omega
      rw [isl_f (by omega)]
      go_enter Try.func8, Try.ntmps8
      go_wp2
      go_ret
      exact ⟨by simp, rfl⟩
  · by_cases h2 : 65 ≤ c
    · by_cases h3 : c ≤ 90
      · rw [isl_t (by omega)]
        go_enter Try.func8, Try.ntmps8
        go_wp2
        go_ret
        exact ⟨by simp, rfl⟩
      · rw [isl_f (by omega)]
        go_enter Try.func8, Try.ntmps8
        go_wp2
        go_ret
        exact ⟨by simp, rfl⟩
    · rw [isl_f (by omega)]
      go_enter Try.func8, Try.ntmps8
      go_wp2
      go_ret
      exact ⟨rfl, rfl⟩

theorem low_any (c : Int) (h0 : 0 ≤ c) (w : World) :
    Calls Try.prog 9 #[.int .u8 c] w fun e w' => e = .returned (.int .u8 (low c)) ∧ w' = w := by
  by_cases h1 : 65 ≤ c
  · by_cases h2 : c ≤ 90
    · rw [low_up h1 h2]
      go_enter Try.func9, Try.ntmps9
      go_wp2
      go_ret
      exact ⟨rfl, rfl⟩
    · rw [low_no (by omega)]
      go_enter Try.func9, Try.ntmps9
      go_wp2
      go_ret
      exact ⟨rfl, rfl⟩
  · rw [low_no (by omega)]
    go_enter Try.func9, Try.ntmps9
    go_wp2
    go_ret
    exact ⟨rfl, rfl⟩

theorem mb_app (a b x y : ByteArray) (pa : 0 < a.size) (pb : 0 < b.size) : mb (a ++ x) (b ++ y) = mb a b := by
  obtain ⟨t, ht⟩ := head_of a pa
  obtain ⟨u, hu⟩ := head_of b pb
  unfold mb
  simp [ByteArray.data_append, ht, hu, mbl]

theorem mb_ext (a y : ByteArray) : mb a (a ++ y) = true := by
  unfold mb
  simp only [ByteArray.data_append, Array.toList_append]
  cases a.data.toList with
  | nil => rfl
  | cons c t => exact mbc_self c

theorem mb_self (a : ByteArray) : mb a a = true := by
  unfold mb
  cases a.data.toList with
  | nil => rfl
  | cons c t => exact mbc_self c

theorem or128 (c d : UInt8) : decide ((128 : Int) ≤ bits .or .u8 c.toNat d.toNat) = (decide (128 ≤ c.toNat) || decide (128 ≤ d.toNat)) := by
  have hb : ∀ x : BitVec 8, decide (128 ≤ x.toNat) = x.msb := fun x => by rw [BitVec.msb_eq_decide]
  have hc : (BitVec.ofInt 8 (c.toNat : Int)).toNat = c.toNat := by
    have := c.toNat_lt; simp
  have hd : (BitVec.ofInt 8 (d.toNat : Int)).toNat = d.toNat := by
    have := d.toNat_lt; simp
  have hw : bits .or .u8 (c.toNat : Int) (d.toNat : Int) = ((BitVec.ofInt 8 (c.toNat : Int) ||| BitVec.ofInt 8 (d.toNat : Int)).toNat : Int) := by
    have hlt := (BitVec.ofInt 8 (c.toNat : Int) ||| BitVec.ofInt 8 (d.toNat : Int)).isLt
    show IntKind.wrap .u8 ((BitVec.ofInt 8 (c.toNat : Int) ||| BitVec.ofInt 8 (d.toNat : Int)).toNat : Int) = _
    generalize (BitVec.ofInt 8 (c.toNat : Int) ||| BitVec.ofInt 8 (d.toNat : Int)).toNat = n at hlt ⊢
    simp only [IntKind.wrap, IntKind.signed, IntKind.bits, Bool.false_and, Bool.false_eq_true, if_false]
    omega
  rw [hw]
  rw [← hc, ← hd, hb, hb, ← BitVec.msb_or, ← hb]
  rw [decide_eq_decide, hc, hd]
  omega

theorem low_tab : ∀ n, n < 256 → isl ((UInt8.ofNat n).toNat : Int) = true → ini ((UInt8.ofNat n).toNat : Int) = low ((UInt8.ofNat n).toNat : Int) ∧ decide (128 ≤ (UInt8.ofNat n).toNat) = false := by decide +kernel

theorem low_ini (c : UInt8) (h : isl (c.toNat : Int) = true) : ini (c.toNat : Int) = low (c.toNat : Int) ∧ decide (128 ≤ c.toNat) = false := by
  have t := low_tab c.toNat c.toNat_lt
  rw [UInt8.ofNat_toNat] at t
  exact t h

/-- Two letters that may open one name: alike in lower case. -/
theorem low_same (c d : UInt8) (hc : isl (c.toNat : Int) = true) (hd : isl (d.toNat : Int) = true) (h : mbc c d = true) : low (c.toNat : Int) = low (d.toNat : Int) := by
  unfold mbc at h
  rw [or128, (low_ini c hc).2, (low_ini d hd).2, (low_ini c hc).1, (low_ini d hd).1] at h
  simpa using h

theorem grown_drewN (w : World) (n : Nat) : Grown w (w.drewN n) := Grown.refl w

/-- A callee that draws nothing, met behind draws. -/
theorem quiet_later {P : Program} {f : FuncId} {args : Array Value} {w : World} {k n : Nat} {v : Value}
    (h : Calls P f args (w.drewN (k + n)) fun e w' => e = .returned v ∧ w' = w.drewN (k + n)) : Calls P f args (w.drewN (k + n)) fun e w'' => e = .returned v ∧ ∃ m, w'' = w.drewN (k + m) :=
  h.mono fun _ _ ⟨he, hm⟩ => ⟨he, n, hm⟩

/-! ### the walk -/
set_option maxHeartbeats 800000 in
theorem walk_some (a0 : ByteArray) (a1 : ByteArray) (a2 : ByteArray) (a3 : ByteArray) (w0 : a0.size ≤ 262144) (w1 : a1.size ≤ 262144) (w2 : a2.size ≤ 262144) (w3 : a3.size ≤ 262144) (pa : 0 < a0.size) (pb : 0 < a1.size) (w : World) :
    Calls Try.prog 3 #[.string a0, .string a1, .string a2, .string a3] w fun e w' => e = .returned (.bool true) ∧ ∃ n, w' = w.drewN n := by
  have m1 : mb a1 a0 = mb a0 a1 := mb_comm _ _
  have m2 : mb (a0 ++ a2) (a1 ++ a3) = mb a0 a1 := mb_app _ _ _ _ pa pb
  have m3 : mb (a0 ++ a2) (a0 ++ a3) = true := by rw [mb_app _ _ _ _ pa pa, mb_self]
  have m4 : mb a0 (a0 ++ a3) = true := mb_ext _ _
  have ha : a0.toList.isEmpty = false := by
    rw [ByteArray.toList_eq]; obtain ⟨t, ht⟩ := head_of a0 pa; rw [ht]; rfl
  have hb : a1.toList.isEmpty = false := by
    rw [ByteArray.toList_eq]; obtain ⟨t, ht⟩ := head_of a1 pb; rw [ht]; rfl
  have hgo : mb a0 a1 = false ∨ (mb a0 a1 = true ∧ isl (a0[0].toNat : Int) = false) ∨ (mb a0 a1 = true ∧ isl (a0[0].toNat : Int) = true ∧ isl (a1[0].toNat : Int) = false) ∨
      (mb a0 a1 = true ∧ isl (a0[0].toNat : Int) = true ∧ isl (a1[0].toNat : Int) = true ∧ (low (a0[0].toNat : Int) == low (a1[0].toNat : Int)) = true) := by
    cases g : mb a0 a1 with
    | false => exact .inl rfl
    | true =>
      refine .inr ?_
      cases g1 : isl (a0[0].toNat : Int) with
      | false => exact .inl ⟨rfl, rfl⟩
      | true =>
        cases g2 : isl (a1[0].toNat : Int) with
        | false => exact .inr (.inl ⟨rfl, rfl, rfl⟩)
        | true => exact .inr (.inr ⟨rfl, rfl, rfl, beq_iff_eq.2 (low_same _ _ g1 g2 (by rw [← mb_pos a0 a1 pa pb]; exact g))⟩)
  rcases hgo with g | ⟨g, g1⟩ | ⟨g, g1, g2⟩ | ⟨g, g1, g2, g3⟩
  all_goals
    rw [g] at m1 m2
    go_enter Try.func3, Try.ntmps3
    go_wp2_with (first | (go_at_call 7; refine (mb_any _ _ _).mono ?_; rintro e w' ⟨rfl, n, rfl⟩) | go_in)
    go_quiet (first | (go_at_call 8; exact quiet_later (isl_walk _ _)) | (go_at_call 9; exact quiet_later (low_any _ (by omega) _)))
    go_wp2_with (first | (go_at_call 7; refine (mb_any _ _ _).mono ?_; rintro e w' ⟨rfl, n, rfl⟩) | go_in)
    go_ret
    exact ⟨rfl, _, rfl⟩

set_option maxHeartbeats 800000 in
theorem walk_none (a0 : ByteArray) (a1 : ByteArray) (a2 : ByteArray) (a3 : ByteArray) (w0 : a0.size ≤ 262144) (w1 : a1.size ≤ 262144) (w2 : a2.size ≤ 262144) (w3 : a3.size ≤ 262144) (hz : a0.toList.isEmpty = true ∨ a0.toList.isEmpty = false ∧ a1.toList.isEmpty = true) (w : World) :
    Calls Try.prog 3 #[.string a0, .string a1, .string a2, .string a3] w fun e w' => e = .returned (.bool true) ∧ ∃ n, w' = w.drewN n := by
  have m1 : mb a1 a0 = mb a0 a1 := mb_comm _ _
  have m4 : mb a0 (a0 ++ a3) = true := mb_ext _ _
  rcases hz with hz | ⟨hz, hz'⟩
  all_goals
    go_enter Try.func3, Try.ntmps3
    go_wp2_with (first | (go_at_call 7; refine (mb_any _ _ _).mono ?_; rintro e w' ⟨rfl, n, rfl⟩) | go_in)
    go_ret
    exact ⟨rfl, _, rfl⟩

set_option maxHeartbeats 800000 in
theorem walk_long (a0 : ByteArray) (a1 : ByteArray) (a2 : ByteArray) (a3 : ByteArray) (w0 : a0.size ≤ 9223372036854775807) (w1 : a1.size ≤ 9223372036854775807) (w2 : a2.size ≤ 9223372036854775807) (w3 : a3.size ≤ 9223372036854775807) (hl : 262144 < a0.size ∨ 262144 < a1.size ∨ 262144 < a2.size ∨ 262144 < a3.size) (w : World) :
    Calls Try.prog 3 #[.string a0, .string a1, .string a2, .string a3] w fun e w' => e = .returned (.bool true) ∧ ∃ n, w' = w.drewN n := by
  go_enter Try.func3, Try.ntmps3
  go_wp2_with (first | (go_at_call 7; fail) | go_in)
  all_goals go_ret
  all_goals exact ⟨rfl, 0, rfl⟩

theorem walk (a0 : ByteArray) (a1 : ByteArray) (a2 : ByteArray) (a3 : ByteArray) (w0 : a0.size ≤ maxLen) (w1 : a1.size ≤ maxLen) (w2 : a2.size ≤ maxLen) (w3 : a3.size ≤ maxLen) (w : World) :
    Calls Try.prog 3 #[.string a0, .string a1, .string a2, .string a3] w fun e w' => e = .returned (.bool true) ∧ Grown w w' := by
  unfold maxLen at w0 w1 w2 w3
  suffices h : Calls Try.prog 3 #[.string a0, .string a1, .string a2, .string a3] w fun e w' => e = .returned (.bool true) ∧ ∃ n, w' = w.drewN n from
    h.mono fun e w' ⟨he, n, hn⟩ => ⟨he, by rw [hn]; exact grown_drewN _ _⟩
  by_cases hl : 262144 < a0.size ∨ 262144 < a1.size ∨ 262144 < a2.size ∨ 262144 < a3.size
  · exact walk_long a0 a1 a2 a3 w0 w1 w2 w3 hl w
  · by_cases hp : 0 < a0.size ∧ 0 < a1.size
    · exact walk_some a0 a1 a2 a3 (by omega) (by omega) (by omega) (by omega) hp.1 hp.2 w
    · refine walk_none a0 a1 a2 a3 (by omega) (by omega) (by omega) (by omega) ?_ w
      have he : ∀ s : ByteArray, ¬ 0 < s.size → s.toList.isEmpty = true := by
        intro s hs
        rw [ByteArray.toList_eq]
        obtain ⟨⟨l⟩⟩ := s
        cases l with
        | nil => rfl
        | cons c t => simp [ByteArray.size] at hs
      cases e0 : a0.toList.isEmpty with
      | true => exact .inl rfl
      | false => 
        have h0 : 0 < a0.size := Nat.pos_of_ne_zero fun h0 => by
          rw [he a0 (by omega)] at e0
          exact Bool.noConfusion e0
        exact .inr ⟨rfl, he _ (fun h1 => hp ⟨h0, h1⟩)⟩

/-! ### THE ROW's STEP: WRITTEN OUT: LEAVE IT -/
set_option maxRecDepth 100000 in
theorem lifted (os : Os) (started : os.Started) (H : Type) (enc : TypeId × Value → H) :
    ReturnsInHanded {} Try.checked os 3 .any (Rows.fnMayBeSameNameReadsFirstBytesOnlySpec.pre6 enc Try.prog Try.f3 Rows.fnMayBeSameNameReadsFirstBytesOnlyRow.domain false) (Rows.fnMayBeSameNameReadsFirstBytesOnlySpec.post enc Try.prog Try.f3 false true false false) := by
  refine returnsInHanded_of_change (C := Try.checked) own started (by kernel_rfl) Try.func3
    (ChangeSpec.witness6 (enc := enc) (C := Try.checked) false ⟨#[], #[.string ByteArray.empty, .string ByteArray.empty, .string ByteArray.empty, .string ByteArray.empty], []⟩ 8 (by kernel_rfl) (by kernel_rfl) (by kernel_rfl) (by kernel_rfl)) ?_
  intro W base args ds gs before hval0 hW hcnd _
  have hval : ∀ (j : Nat) t v, Try.f3.params[j]? = some t → args[j]? = some v → Value.okWide Try.prog W .any base t v := hval0
  have hW' := hW
  obtain ⟨p, q, hA0, hV, rfl, hfz, hnd⟩ := hW
  have hA : DataW.TrodAll enc Try.prog W 0 (fun _ => true) true Try.f3.params.toList args.toList ds p := hA0
  rw [Try.params3] at hA hval
  obtain ⟨v0, vs0, d0, ds0, p0, q0, hargs, rfl, rfl, h0, r0⟩ := trodAll_cons hA
  obtain ⟨v1, vs1, d1, ds1, p1, q1, rfl, rfl, rfl, h1, r1⟩ := trodAll_cons r0
  obtain ⟨v2, vs2, d2, ds2, p2, q2, rfl, rfl, rfl, h2, r2⟩ := trodAll_cons r1
  obtain ⟨v3, vs3, d3, ds3, p3, q3, rfl, rfl, rfl, h3, r3⟩ := trodAll_cons r2
  obtain ⟨rfl, rfl, rfl⟩ := trodAll_nil r3
  obtain rfl : args = #[v0, v1, v2, v3] := by cases args; simp_all
  obtain ⟨rfl, rfl⟩ := trodVars_none hV
  obtain ⟨a0, rfl, rfl, rfl, w0⟩ := open_string Try.underlying9 (hval 0 9 v0 rfl rfl) h0
  obtain ⟨a1, rfl, rfl, rfl, w1⟩ := open_string Try.underlying9 (hval 1 9 v1 rfl rfl) h1
  obtain ⟨a2, rfl, rfl, rfl, w2⟩ := open_string Try.underlying9 (hval 2 9 v2 rfl rfl) h2
  obtain ⟨a3, rfl, rfl, rfl, w3⟩ := open_string Try.underlying9 (hval 3 9 v3 rfl rfl) h3
  clear hA0 hval0
  simp only [List.append_nil] at hW'
  refine (walk a0 a1 a2 a3 w0 w1 w2 w3 W).mono fun e W' ⟨he, hg⟩ => ?_
  subst he
  exact ⟨_, rfl, post_of_same (pa := []) (pv := []) hW' (fun _ _ _ => (trodAll_cons_mk (shut_bool Try.underlying4 _) trodAll_mk0)) (fun sp _ => (trodAll_cons_mk (shut_string Try.underlying9 w0) (trodAll_cons_mk (shut_string Try.underlying9 w1) (trodAll_cons_mk (shut_string Try.underlying9 w2) (trodAll_cons_mk (shut_string Try.underlying9 w3) trodAll_mk0))))) (fun _ _ => rfl) rfl
    (hg.frame _) hg.2.1 (ok_one (by kernel_rfl) rfl (okWide_bool_mk Try.underlying4 _))⟩

theorem over : Rows.fnMayBeSameNameReadsFirstBytesOnlyRow.holds Try.pinned (OpenSpec.ofChange Rows.fnMayBeSameNameReadsFirstBytesOnlySpec) :=
  OpenClaim.holds_of_wide 3 Try.f3 rfl rfl rfl rfl rfl rfl rfl ⟨rfl, rfl, rfl, rfl, rfl⟩ rfl rfl rfl rfl rfl (by kernel_rfl) Try.func3 (by kernel_rfl)
    (of_decide_eq_true (by kernel_rfl)) (by unfold Func.isWrapper; first | (rw [if_pos (by decide +kernel)]; kernel_rfl) | (rw [if_neg (by decide +kernel)]; exact ⟨rfl, rfl⟩))
    (fun os started H enc _ => lifted os started H enc)

/-- ████ THE STATEMENT ████ -/
theorem proved : Rows.FnMayBeSameNameReadsFirstBytesOnlySaid :=
  over
end Go.Proofs.Qxb6614398a.fnMayBeSameNameReadsFirstBytesOnly
