/-
  FnTrancheIndexGrowsWithPlan by its callees' contracts: it returns true, for every F (fmt's text is never looked at).
-/
import Derived.Test.Qxb6605800aFmtWalks
namespace Go.Proofs.Qxb6605800aFmt.Walks
open Go.ChangeShapes Go.WideShapes Go.ChangeAt Go.RowKit
open Go.Extern.Stop Go.Stop Go.Extern

theorem new_int (m : Int) (h0 : 0 ≤ m) (hm : m ≤ 65536) (w : World) :
    Calls Tryf.prog 4 #[.int .i64 m] w fun e w' => (∃ v, e = .returned v ∧ Books w' v m.toNat) ∧ Below w.heap.size w w' := by
  obtain ⟨M, rfl⟩ := Int.eq_ofNat_of_zero_le h0
  rw [Int.toNat_natCast]
  exact new_any M (by omega) w

/-- What stands all along: the two books, the old memory, the tape. -/
structure St (F : Interp) (w0 w : World) (v1 v2 : Value) (m l : Int) : Prop where
  b1 : Books w v1 m.toNat
  b2 : Books w v2 l.toNat
  low : Below w0.heap.size w0 w
  tape : F.answers w.tape

theorem St.next {F : Interp} {w0 w w' : World} {v1 v2 : Value} {m l : Int} (h : St F w0 w v1 v2 m l) (hb : Below w.heap.size w w') : St F w0 w' v1 v2 m l :=
  ⟨h.b1.below hb, h.b2.below hb, h.low.trans (hb.mono h.low.size), by rw [hb.tape]; exact h.tape⟩

theorem yes1 {F : Interp} {w0 w : World} {v1 v2 : Value} {m l : Int} (S : St F w0 w v1 v2 m l) (n : Int) (hm : 0 ≤ m ∧ m ≤ 65536) (h1 : 1 ≤ n) (h2 : n ≤ m) :
    Calls Tryf.prog 5 #[v1, .int .i64 n] w fun e w' => e = .returned (.tuple #[.int .i64 (n - 1), .nilIface]) ∧ w' = w :=
  ti_yes v1 m.toNat n w S.b1 (by omega) h1 (by omega)
theorem yes2 {F : Interp} {w0 w : World} {v1 v2 : Value} {m l : Int} (S : St F w0 w v1 v2 m l) (n : Int) (hm : 0 ≤ l ∧ l ≤ 65536) (h1 : 1 ≤ n) (h2 : n ≤ l) :
    Calls Tryf.prog 5 #[v2, .int .i64 n] w fun e w' => e = .returned (.tuple #[.int .i64 (n - 1), .nilIface]) ∧ w' = w :=
  ti_yes v2 l.toNat n w S.b2 (by omega) h1 (by omega)
theorem no1 {F : Interp} {w0 w : World} {v1 v2 : Value} {m l : Int} (S : St F w0 w v1 v2 m l) (n : Int) (hm : 0 ≤ m ∧ m ≤ 65536) (h : n < 1 ∨ m < n) :
    Calls Tryf.prog 5 #[v1, .int .i64 n] w fun e w' => (∃ a, e = .returned (.tuple #[.int .i64 0, .iface 65 (.pointer a)])) ∧ St F w0 w' v1 v2 m l :=
  (ti_no F v1 m.toNat n w S.tape S.b1 (by omega) (by omega)).mono fun _ _ ⟨he, hb⟩ => ⟨he, S.next hb⟩
theorem no2 {F : Interp} {w0 w : World} {v1 v2 : Value} {m l : Int} (S : St F w0 w v1 v2 m l) (n : Int) (hm : 0 ≤ l ∧ l ≤ 65536) (h : n < 1 ∨ l < n) :
    Calls Tryf.prog 5 #[v2, .int .i64 n] w fun e w' => (∃ a, e = .returned (.tuple #[.int .i64 0, .iface 65 (.pointer a)])) ∧ St F w0 w' v1 v2 m l :=
  (ti_no F v2 l.toNat n w S.tape S.b2 (by omega) (by omega)).mono fun _ _ ⟨he, hb⟩ => ⟨he, S.next hb⟩

set_option maxHeartbeats 4000000 in
theorem law_in (F : Interp) (n m k : Int) (w : World) (hF : F.answers w.tape) (h1 : 1 ≤ m) (h2 : 0 ≤ k) (h3 : m + k ≤ 65536) :
    Calls Tryf.prog 3 #[.int .i64 n, .int .i64 m, .int .i64 k] w fun e w' => e = .returned (.bool true) ∧ Below w.heap.size w w' := by
  have h4 : m ≤ 65536 := by omega
  have h5 : k ≤ 65536 := by omega
  go_enter Tryf.func3, Tryf.ntmps3
  go_wp2_with fail
  refine (new_int m (by omega) (by omega) _).mono ?_
  rintro e w1 ⟨⟨v1, rfl, B1⟩, L1⟩
  go_wp2_with fail
  refine (new_int (m + k) (by omega) (by omega) _).mono ?_
  rintro e w2 ⟨⟨v2, rfl, B2⟩, L2⟩
  have S : St F w w2 v1 v2 m (m + k) := ⟨B1.below L2, B2, L1.trans (L2.mono L1.size), by rw [L2.tape, L1.tape]; exact hF⟩
  clear L1 L2 B1 B2 hF w1
  go_wp2_with fail
  refine (yes1 S m (by omega) (by omega) (by omega)).mono ?_
  rintro e w' ⟨rfl, rfl⟩
  go_wp2_with fail
  refine (yes2 S (m + k) (by omega) (by omega) (by omega)).mono ?_
  rintro e w3 ⟨rfl, rfl⟩
  go_wp2_with fail
  refine (no1 S (m + 1) (by omega) (by omega)).mono ?_
  rintro e w4 ⟨⟨a4, rfl⟩, S⟩
  go_wp2_with fail
  refine (no2 S (m + k + 1) (by omega) (by omega)).mono ?_
  rintro e w5 ⟨⟨a5, rfl⟩, S⟩
  go_wp2_with fail
  refine (no1 S 0 (by omega) (by omega)).mono ?_
  rintro e w6 ⟨⟨a6, rfl⟩, S⟩
  go_wp2_with fail
  refine (no2 S 0 (by omega) (by omega)).mono ?_
  rintro e w7 ⟨⟨a7, rfl⟩, S⟩
  go_wp2_with fail
  rcases (show (1 ≤ n ∧ n ≤ m) ∨ (m < n ∧ n ≤ m + k) ∨ (n < 1 ∨ m + k < n) from by omega) with hn | hn | hn
  · refine (yes1 S n (by omega) (by omega) (by omega)).mono ?_
    rintro e w8 ⟨rfl, rfl⟩
    go_wp2_with fail
    refine (yes2 S n (by omega) (by omega) (by omega)).mono ?_
    rintro e w9 ⟨rfl, rfl⟩
    go_wp2_with fail
    go_ret
    exact ⟨rfl, S.low⟩
  · refine (no1 S n (by omega) (by omega)).mono ?_
    rintro e w8 ⟨⟨a8, rfl⟩, S⟩
    go_wp2_with fail
    refine (yes2 S n (by omega) (by omega) (by omega)).mono ?_
    rintro e w9 ⟨rfl, rfl⟩
    have hlt : decide (n - 1 < m + k) = true := decide_eq_true (by omega)
    go_wp2_with fail
    go_ret
    exact ⟨rfl, S.low⟩
  · refine (no1 S n (by omega) (by omega)).mono ?_
    rintro e w8 ⟨⟨a8, rfl⟩, S⟩
    go_wp2_with fail
    refine (no2 S n (by omega) (by omega)).mono ?_
    rintro e w9 ⟨⟨a9, rfl⟩, S⟩
    go_wp2_with fail
    go_ret
    exact ⟨rfl, S.low⟩

set_option maxHeartbeats 1000000 in
theorem law_out (n m k : Int) (w : World) (h : m < 1 ∨ 65536 < m ∨ k < 0 ∨ 65536 < k ∨ 65536 < m + k) :
    Calls Tryf.prog 3 #[.int .i64 n, .int .i64 m, .int .i64 k] w fun e w' => e = .returned (.bool true) ∧ Below w.heap.size w w' := by
  go_enter Tryf.func3, Tryf.ntmps3
  go_wp2_with fail
  all_goals go_ret
  all_goals exact ⟨rfl, Below.refl _ _⟩

theorem law_any (F : Interp) (n m k : Int) (w : World) (hF : F.answers w.tape) :
    Calls Tryf.prog 3 #[.int .i64 n, .int .i64 m, .int .i64 k] w fun e w' => e = .returned (.bool true) ∧ Below w.heap.size w w' := by
  by_cases h : m < 1 ∨ 65536 < m ∨ k < 0 ∨ 65536 < k ∨ 65536 < m + k
  · exact law_out n m k w h
  · exact law_in F n m k w hF (by omega) (by omega) (by omega)

end Go.Proofs.Qxb6605800aFmt.Walks
