/-
  (*Int).Cmp by its contract: the sign of the difference.
-/
import Derived.Test.Qxb6605800aNum
namespace Go.Proofs.Qxb6605800a.Walks
open Go.ChangeShapes Go.WideShapes Go.ChangeAt Go.RowKit

theorem sg_neg {d : Int} (h : d < 0) : sg d = -1 := by unfold sg; rw [if_pos h]
theorem sg_pos {d : Int} (h : 0 < d) : sg d = 1 := by unfold sg; rw [if_neg (by omega), if_pos h]
theorem sg_zero : sg 0 = 0 := by unfold sg; simp

theorem blk_cell {w : World} {b i : Nat} {C : Array Value} {t : TypeId} {v : Value} (h : w.heap[b]? = some (.cells C t (0, 0))) (hv : C[i]? = some v) : w.cell? ⟨b, i, none⟩ = some v := by
  simp [World.cell?, h, hv]

theorem cmp_any (w : World) (s1 s2 : Value) (N1 N2 : Int) (h1 : NumIs w s1 N1) (h2 : NumIs w s2 N2) :
    Calls Try.prog 18 #[s1, s2] w fun e w' => e = .returned (.int .i64 (sg (N1 - N2))) ∧ ∃ k, w' = w.drewN k := by
  rcases h1 with ⟨rfl, a, c, rfl⟩ | ⟨b, c, C, rfl, hc, hb, hv, hw, hp⟩ | ⟨b, C, x0, x1, rfl, hb, hv0, hv1, hw0, hw1, hp, rfl⟩
  · rcases h2 with ⟨rfl, a', c', rfl⟩ | ⟨b', c', C', rfl, hc', hb', hv', hw', hp'⟩ | ⟨b', C', y0, y1, rfl, hb', hv0', hv1', hw0', hw1', hp', rfl⟩
    · exact (cmp00 a a' c c' w).mono fun e w' ⟨he, hw⟩ => ⟨by rw [he]; rfl, 0, hw⟩
    · rw [sg_neg (by omega)]
      exact (cmp_lt a _ 0 1 c c' (by decide) w).mono fun e w' ⟨he, hw⟩ => ⟨he, 0, hw⟩
    · rw [sg_neg (by unfold two; unfold Wd at hw0'; omega)]
      exact (cmp_lt a _ 0 2 c 7 (by decide) w).mono fun e w' ⟨he, hw⟩ => ⟨he, 0, hw⟩
  · rcases h2 with ⟨rfl, a', c', rfl⟩ | ⟨b', c', C', rfl, hc', hb', hv', hw', hp'⟩ | ⟨b', C', y0, y1, rfl, hb', hv0', hv1', hw0', hw1', hp', rfl⟩
    · rw [sg_pos (by omega)]
      exact (cmp_gt _ a' 1 0 c c' (by decide) w).mono fun e w' ⟨he, hw⟩ => ⟨he, 0, hw⟩
    · exact cmp11 b b' c c' N1 N2 w (blk_cell hb hv) (blk_cell hb' hv')
    · rw [sg_neg (by unfold two; unfold Wd at hw hw0'; omega)]
      exact (cmp_lt _ _ 1 2 c 7 (by decide) w).mono fun e w' ⟨he, hw⟩ => ⟨he, 0, hw⟩
  · rcases h2 with ⟨rfl, a', c', rfl⟩ | ⟨b', c', C', rfl, hc', hb', hv', hw', hp'⟩ | ⟨b', C', y0, y1, rfl, hb', hv0', hv1', hw0', hw1', hp', rfl⟩
    · rw [sg_pos (by unfold two; unfold Wd at hw0; omega)]
      exact (cmp_gt _ a' 2 0 7 c' (by decide) w).mono fun e w' ⟨he, hw⟩ => ⟨he, 0, hw⟩
    · rw [sg_pos (by unfold two; unfold Wd at hw0 hw'; omega)]
      exact (cmp_gt _ _ 2 1 7 c' (by decide) w).mono fun e w' ⟨he, hw⟩ => ⟨he, 0, hw⟩
    · exact cmp22 b b' 7 7 x0 y0 x1 y1 hw0 hw0' w (blk_cell hb hv0) (blk_cell hb' hv0') (blk_cell hb hv1) (blk_cell hb' hv1')

/-- A callee that draws, met behind draws. -/
theorem quiet_later_d {P : Program} {f : FuncId} {args : Array Value} {w : World} {k n : Nat} {v : Value}
    (h : Calls P f args (w.drewN (k + n)) fun e w' => e = .returned v ∧ ∃ m, w' = (w.drewN (k + n)).drewN m) : Calls P f args (w.drewN (k + n)) fun e w'' => e = .returned v ∧ ∃ m, w'' = w.drewN (k + m) :=
  h.mono fun _ _ ⟨he, m, hm⟩ => ⟨he, n + m, by rw [hm, World.drewN_drewN, Nat.add_assoc]⟩

theorem info32 : (Try.prog.info? 32).map (fun i => (i.zero, i.size, i.bytes)) = some (some (.agg #[.bool false, .slice none 0 0]), 2, 32) := by kernel_rfl

set_option maxHeartbeats 2000000 in
theorem cmpI (p q : Nat) (V1 V2 : Int) (w : World) (h1 : IntIs w p V1) (h2 : IntIs w q V2) (hne : p ≠ q) :
    Calls Try.prog 6 #[.pointer (some ⟨p, 0, none⟩), .pointer (some ⟨q, 0, none⟩)] w fun e w' => e = .returned (.int .i64 (sg (V1 - V2))) ∧ ∃ k, w' = w.drewN k := by
  obtain ⟨s1, hp, n1⟩ := h1
  obtain ⟨s2, hq, n2⟩ := h2
  obtain ⟨j, hj, _, hs, _⟩ := info_parts info32
  have hpp := run_eql_ptr_other (P := Try.prog) w (tp := 23) (te := 32) (a := ⟨p, 0, none⟩) (b := ⟨q, 0, none⟩) Try.underlying23 hj (by omega) (fun h => hne (by injection h)) hp hq
  have c0 : w.cell? ⟨p, 0, none⟩ = some (.bool (decide (V1 < 0))) := blk_cell hp rfl
  have c1 : w.cell? ⟨p, 1, none⟩ = some s1 := blk_cell hp rfl
  have d0 : w.cell? ⟨q, 0, none⟩ = some (.bool (decide (V2 < 0))) := blk_cell hq rfl
  have d1 : w.cell? ⟨q, 1, none⟩ = some s2 := blk_cell hq rfl
  have HC : Hid (∀ k, Calls Try.prog 18 #[s1, s2] (w.drewN k) fun e w' => e = .returned (.int .i64 (sg ((if V1 < 0 then -V1 else V1) - (if V2 < 0 then -V2 else V2)))) ∧ ∃ m, w' = (w.drewN k).drewN m) := fun k => cmp_any (w.drewN k) s1 s2 _ _ n1 n2
  clear hj hs hp hq n1 n2
  by_cases a1 : V1 < 0
  · have e1 : decide (V1 < 0) = true := decide_eq_true a1
    by_cases a2 : V2 < 0
    · have e2 : decide (V2 < 0) = true := decide_eq_true a2
      rw [if_pos a1, if_pos a2] at HC
      obtain ⟨r, hr⟩ : ∃ r, r = sg (-V1 - -V2) := ⟨_, rfl⟩
      rw [← hr] at HC
      have hres : sg (V1 - V2) = -r := by
        rw [hr]
        rcases (show V1 < V2 ∨ V1 = V2 ∨ V2 < V1 from by omega) with h | h | h
        · rw [sg_neg (by omega), sg_pos (by omega)]
        · rw [h, show V2 - V2 = 0 from by omega, show -V2 - -V2 = 0 from by omega, sg_zero]; rfl
        · rw [sg_pos (by omega), sg_neg (by omega)]; rfl
      rw [hres]
      have rb : -1 ≤ r := by rw [hr]; unfold sg; split <;> (try split) <;> omega
      have rb' : r ≤ 1 := by rw [hr]; unfold sg; split <;> (try split) <;> omega
      clear hr hres
      rw [e1] at c0
      rw [e2] at d0
      clear a1 a2 e1 e2
      go_enter Try.func6, Try.ntmps6
      go_wp2_with (first | (go_at_call 18; fail))
      go_quiet (fail)
      go_wp2_with (first | (go_at_call 18; fail))
      go_quiet ((go_at_call 18; first | exact Calls.quiet_of (HC.out _) | exact quiet_later_d (HC.out _)))
      go_wp2
      go_ret
      exact ⟨rfl, _, rfl⟩
    · have e2 : decide (V2 < 0) = false := decide_eq_false a2
      rw [sg_neg (by omega)]
      rw [e1] at c0
      rw [e2] at d0
      clear a1 a2 e1 e2 HC
      go_enter Try.func6, Try.ntmps6
      go_wp2_with (first | (go_at_call 18; fail))
      go_quiet (fail)
      go_wp2_with (first | (go_at_call 18; fail))
      go_ret
      exact ⟨rfl, _, rfl⟩
  · have e1 : decide (V1 < 0) = false := decide_eq_false a1
    by_cases a2 : V2 < 0
    · have e2 : decide (V2 < 0) = true := decide_eq_true a2
      rw [sg_pos (by omega)]
      rw [e1] at c0
      rw [e2] at d0
      clear a1 a2 e1 e2 HC
      go_enter Try.func6, Try.ntmps6
      go_wp2_with (first | (go_at_call 18; fail))
      go_quiet (fail)
      go_wp2_with (first | (go_at_call 18; fail))
      go_ret
      exact ⟨rfl, _, rfl⟩
    · have e2 : decide (V2 < 0) = false := decide_eq_false a2
      rw [if_neg a1, if_neg a2] at HC
      obtain ⟨r, hr⟩ : ∃ r, r = sg (V1 - V2) := ⟨_, rfl⟩
      rw [← hr] at HC ⊢
      rw [e1] at c0
      rw [e2] at d0
      clear hr a1 a2 e1 e2
      go_enter Try.func6, Try.ntmps6
      go_wp2_with (first | (go_at_call 18; fail))
      go_quiet (fail)
      go_wp2_with (first | (go_at_call 18; fail))
      go_quiet ((go_at_call 18; first | exact Calls.quiet_of (HC.out _) | exact quiet_later_d (HC.out _)))
      go_wp2
      go_ret
      exact ⟨rfl, _, rfl⟩

end Go.Proofs.Qxb6605800a.Walks
