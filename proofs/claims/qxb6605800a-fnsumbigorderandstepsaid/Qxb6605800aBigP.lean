/-
  (*sum).big by its contract: the Int that it makes is hi * 2 ^ 64 + lo.
-/
import Derived.Test.Qxb6605800aAdd
import Derived.Test.Qxb6605800aBigZ
namespace Go.Proofs.Qxb6605800a.Walks
open Go.ChangeShapes Go.WideShapes Go.ChangeAt Go.RowKit
attribute [local go_sem] setCell_drewN alloc_drewN setRow_drewN setRow_drew setRow_at setRow_past
attribute [local go_sem ↓] Go.wp_at_zero Go.wp_at_succ
set_option linter.unusedSimpArgs false
set_option maxHeartbeats 4000000 in
theorem big_pz (s : Nat) (hi : Int) (h1 : 1 ≤ hi) (h2 : hi ≤ 9223372036854775807) (w : World) (hs : w.heap[s]? = some (.cells #[.int .i64 hi, .int .u64 0] 39 (0, 0))) :
    Calls Try.prog 11 #[.pointer (some ⟨s, 0, none⟩)] w fun e w' => ∃ p, e = .returned (.pointer (some ⟨p, 0, none⟩)) ∧ IntIs w' p (two 0 hi) ∧ Below w.heap.size w w' ∧ w.heap.size ≤ p := by
  have hsl : s < w.heap.size := lt_of_blk hs
  have hs1 : s < w.heap.size + 1 := by omega
  have hs2 : s < w.heap.size + 1 + 1 := by omega
  have hs3 : s < w.heap.size + 1 + 1 + 1 := by omega
  have hs4 : s < w.heap.size + 1 + 1 + 1 + 1 := by omega
  have c0 : w.cell? ⟨s, 0, none⟩ = some (.int .i64 hi) := by simp [World.cell?, hs]
  have c1 : w.cell? ⟨s, 1, none⟩ = some (.int .u64 0) := by simp [World.cell?, hs]
  have hu0 : (hi == 0) = false := by simp; omega
  have hu : Wd hi := by unfold Wd; omega
  have h00 : Wd 0 := by unfold Wd; omega
  have HV : Hid (decide (two 0 hi < 0) = false) := decide_eq_false (by unfold two; omega)
  have HN : Hid ((if two 0 hi < 0 then -two 0 hi else two 0 hi) = two 0 hi) := if_neg (by unfold two; omega)
  clear hs
  go_enter Try.func11, Try.ntmps11
  go_wp2_with (first | (go_at_call 22; refine (ni_pos hi h1 h2 _).mono ?_; rintro e w' ⟨rfl, rfl⟩; (go_simp)) | (go_at_call 24; fail))
  go_region_with (first | (go_at_call 24; refine (lshI_one (w.heap.size + 1) w.heap.size false hi hu0 _ ?_ ?_).mono ?_; (focus (simp only [World.heap_drewN, heap_drew1, A1_0, A2_0, A2_1, A3_0, A3_1, A3_2, A4_0, A4_1, A4_2, A4_3, A5_0, A5_1, A5_2, A5_3, A5_4]; done)); (focus (simp only [World.heap_drewN, heap_drew1, A1_0, A2_0, A2_1, A3_0, A3_1, A3_2, A4_0, A4_1, A4_2, A4_3, A5_0, A5_1, A5_2, A5_3, A5_4]; done)); rintro e w' ⟨rfl, k, rfl⟩; (go_simp)) | (go_at_call 25; refine (suI_zero _ _ ?_).mono ?_; (focus (simp only [World.heap_drewN, heap_drew1, A1_0, A2_0, A2_1, A3_0, A3_1, A3_2, A4_0, A4_1, A4_2, A4_3, A5_0, A5_1, A5_2, A5_3, A5_4]; done)); rintro e w' ⟨rfl, k, rfl⟩; (go_simp)) | (go_at_call 23; refine (add_A3 (w.heap.size + 1) _ (w.heap.size + 1 + 1 + 1) hi _ ?_ ?_ ?_).mono ?_; (focus (simp only [World.heap_drewN, heap_drew1, A1_0, A2_0, A2_1, A3_0, A3_1, A3_2, A4_0, A4_1, A4_2, A4_3, A5_0, A5_1, A5_2, A5_3, A5_4]; done)); (focus (simp only [World.heap_drewN, heap_drew1, A1_0, A2_0, A2_1, A3_0, A3_1, A3_2, A4_0, A4_1, A4_2, A4_3, A5_0, A5_1, A5_2, A5_3, A5_4]; done)); (focus (simp only [World.heap_drewN, heap_drew1, A1_0, A2_0, A2_1, A3_0, A3_1, A3_2, A4_0, A4_1, A4_2, A4_3, A5_0, A5_1, A5_2, A5_3, A5_4]; done)); rintro e w' ⟨rfl, k, rfl⟩; (go_simp)) | (go_at_call 23; refine (add_A3 (w.heap.size + 1) _ (w.heap.size + 1 + 1) hi _ ?_ ?_ ?_).mono ?_; (focus (simp only [World.heap_drewN, heap_drew1, A1_0, A2_0, A2_1, A3_0, A3_1, A3_2, A4_0, A4_1, A4_2, A4_3, A5_0, A5_1, A5_2, A5_3, A5_4]; done)); (focus (simp only [World.heap_drewN, heap_drew1, A1_0, A2_0, A2_1, A3_0, A3_1, A3_2, A4_0, A4_1, A4_2, A4_3, A5_0, A5_1, A5_2, A5_3, A5_4]; done)); (focus (simp only [World.heap_drewN, heap_drew1, A1_0, A2_0, A2_1, A3_0, A3_1, A3_2, A4_0, A4_1, A4_2, A4_3, A5_0, A5_1, A5_2, A5_3, A5_4]; done)); rintro e w' ⟨rfl, k, rfl⟩; (go_simp)))
  all_goals go_wp2
  all_goals go_ret
  all_goals first
    | (refine ⟨(w.heap.size + 1), rfl, int_two (b := (w.heap.size + 1 + 1 + 1)) (C := #[.int .u64 0, .int .u64 hi, .int .u64 0, .int .u64 0, .int .u64 0, .int .u64 0, .int .u64 0]) (x0 := 0) (x1 := hi) ?_ ?_ rfl rfl h00 hu ?_ ?_, ?_, ?_⟩; (focus (rw [HV.out]; simp only [World.heap_drewN, heap_drew1, A1_0, A2_0, A2_1, A3_0, A3_1, A3_2, A4_0, A4_1, A4_2, A4_3, A5_0, A5_1, A5_2, A5_3, A5_4]; done)); (focus (simp only [World.heap_drewN, heap_drew1, A1_0, A2_0, A2_1, A3_0, A3_1, A3_2, A4_0, A4_1, A4_2, A4_3, A5_0, A5_1, A5_2, A5_3, A5_4]; done)); (omega); (exact HN.out); (exact below_draws (bel4 w _ _ _ _) _); (omega))
    | (refine ⟨(w.heap.size + 1), rfl, int_two (b := (w.heap.size + 1 + 1)) (C := #[.int .u64 0, .int .u64 hi, .int .u64 0, .int .u64 0, .int .u64 0, .int .u64 0, .int .u64 0]) (x0 := 0) (x1 := hi) ?_ ?_ rfl rfl h00 hu ?_ ?_, ?_, ?_⟩; (focus (rw [HV.out]; simp only [World.heap_drewN, heap_drew1, A1_0, A2_0, A2_1, A3_0, A3_1, A3_2, A4_0, A4_1, A4_2, A4_3, A5_0, A5_1, A5_2, A5_3, A5_4]; done)); (focus (simp only [World.heap_drewN, heap_drew1, A1_0, A2_0, A2_1, A3_0, A3_1, A3_2, A4_0, A4_1, A4_2, A4_3, A5_0, A5_1, A5_2, A5_3, A5_4]; done)); (omega); (exact HN.out); (exact below_draws (bel4 w _ _ _ _) _); (omega))

set_option maxHeartbeats 4000000 in
theorem big_pp (s : Nat) (hi lo : Int) (h1 : 1 ≤ hi) (h2 : hi ≤ 9223372036854775807) (hl : Wd lo) (hl1 : 1 ≤ lo) (w : World) (hs : w.heap[s]? = some (.cells #[.int .i64 hi, .int .u64 lo] 39 (0, 0))) :
    Calls Try.prog 11 #[.pointer (some ⟨s, 0, none⟩)] w fun e w' => ∃ p, e = .returned (.pointer (some ⟨p, 0, none⟩)) ∧ IntIs w' p (two lo hi) ∧ Below w.heap.size w w' ∧ w.heap.size ≤ p := by
  have hsl : s < w.heap.size := lt_of_blk hs
  have hs1 : s < w.heap.size + 1 := by omega
  have hs2 : s < w.heap.size + 1 + 1 := by omega
  have hs3 : s < w.heap.size + 1 + 1 + 1 := by omega
  have hs4 : s < w.heap.size + 1 + 1 + 1 + 1 := by omega
  have c0 : w.cell? ⟨s, 0, none⟩ = some (.int .i64 hi) := by simp [World.cell?, hs]
  have c1 : w.cell? ⟨s, 1, none⟩ = some (.int .u64 lo) := by simp [World.cell?, hs]
  have hu0 : (hi == 0) = false := by simp; omega
  have hu : Wd hi := by unfold Wd; omega
  have hl0 : (lo == 0) = false := by simp; omega
  have HV : Hid (decide (two lo hi < 0) = false) := decide_eq_false (by unfold two; omega)
  have HN : Hid ((if two lo hi < 0 then -two lo hi else two lo hi) = two lo hi) := if_neg (by unfold two; omega)
  clear hs
  go_enter Try.func11, Try.ntmps11
  go_wp2_with (first | (go_at_call 22; refine (ni_pos hi h1 h2 _).mono ?_; rintro e w' ⟨rfl, rfl⟩; (go_simp)) | (go_at_call 24; fail))
  go_region_with (first | (go_at_call 24; refine (lshI_one (w.heap.size + 1) w.heap.size false hi hu0 _ ?_ ?_).mono ?_; (focus (simp only [World.heap_drewN, heap_drew1, A1_0, A2_0, A2_1, A3_0, A3_1, A3_2, A4_0, A4_1, A4_2, A4_3, A5_0, A5_1, A5_2, A5_3, A5_4]; done)); (focus (simp only [World.heap_drewN, heap_drew1, A1_0, A2_0, A2_1, A3_0, A3_1, A3_2, A4_0, A4_1, A4_2, A4_3, A5_0, A5_1, A5_2, A5_3, A5_4]; done)); rintro e w' ⟨rfl, k, rfl⟩; (go_simp)) | (go_at_call 25; refine (suI_one _ lo hl hl0 _ ?_).mono ?_; (focus (simp only [World.heap_drewN, heap_drew1, A1_0, A2_0, A2_1, A3_0, A3_1, A3_2, A4_0, A4_1, A4_2, A4_3, A5_0, A5_1, A5_2, A5_3, A5_4]; done)); rintro e w' ⟨rfl, k, rfl⟩; (go_simp)) | (go_at_call 23; refine (add_A4 (w.heap.size + 1) _ (w.heap.size + 1 + 1 + 1) (w.heap.size + 1 + 1 + 1 + 1) hi lo hu hl hu0 ?_ _ ?_ ?_ ?_ ?_).mono ?_; (omega); (focus (simp only [World.heap_drewN, heap_drew1, A1_0, A2_0, A2_1, A3_0, A3_1, A3_2, A4_0, A4_1, A4_2, A4_3, A5_0, A5_1, A5_2, A5_3, A5_4]; done)); (focus (simp only [World.heap_drewN, heap_drew1, A1_0, A2_0, A2_1, A3_0, A3_1, A3_2, A4_0, A4_1, A4_2, A4_3, A5_0, A5_1, A5_2, A5_3, A5_4]; done)); (focus (simp only [World.heap_drewN, heap_drew1, A1_0, A2_0, A2_1, A3_0, A3_1, A3_2, A4_0, A4_1, A4_2, A4_3, A5_0, A5_1, A5_2, A5_3, A5_4]; done)); (focus (simp only [World.heap_drewN, heap_drew1, A1_0, A2_0, A2_1, A3_0, A3_1, A3_2, A4_0, A4_1, A4_2, A4_3, A5_0, A5_1, A5_2, A5_3, A5_4]; done)); rintro e w' ⟨rfl, k, rfl⟩; (go_simp)) | (go_at_call 23; refine (add_A4 (w.heap.size + 1) _ (w.heap.size + 1 + 1) (w.heap.size + 1 + 1 + 1 + 1) hi lo hu hl hu0 ?_ _ ?_ ?_ ?_ ?_).mono ?_; (omega); (focus (simp only [World.heap_drewN, heap_drew1, A1_0, A2_0, A2_1, A3_0, A3_1, A3_2, A4_0, A4_1, A4_2, A4_3, A5_0, A5_1, A5_2, A5_3, A5_4]; done)); (focus (simp only [World.heap_drewN, heap_drew1, A1_0, A2_0, A2_1, A3_0, A3_1, A3_2, A4_0, A4_1, A4_2, A4_3, A5_0, A5_1, A5_2, A5_3, A5_4]; done)); (focus (simp only [World.heap_drewN, heap_drew1, A1_0, A2_0, A2_1, A3_0, A3_1, A3_2, A4_0, A4_1, A4_2, A4_3, A5_0, A5_1, A5_2, A5_3, A5_4]; done)); (focus (simp only [World.heap_drewN, heap_drew1, A1_0, A2_0, A2_1, A3_0, A3_1, A3_2, A4_0, A4_1, A4_2, A4_3, A5_0, A5_1, A5_2, A5_3, A5_4]; done)); rintro e w' ⟨rfl, k, rfl⟩; (go_simp)))
  all_goals go_wp2
  all_goals go_ret
  all_goals first
    | (refine ⟨(w.heap.size + 1), rfl, int_two (b := (w.heap.size + 1 + 1 + 1)) (C := #[.int .u64 lo, .int .u64 hi, .int .u64 0, .int .u64 0, .int .u64 0, .int .u64 0, .int .u64 0]) (x0 := lo) (x1 := hi) ?_ ?_ rfl rfl hl hu ?_ ?_, ?_, ?_⟩; (focus (rw [HV.out]; simp only [World.heap_drewN, heap_drew1, A1_0, A2_0, A2_1, A3_0, A3_1, A3_2, A4_0, A4_1, A4_2, A4_3, A5_0, A5_1, A5_2, A5_3, A5_4]; done)); (focus (simp only [World.heap_drewN, heap_drew1, A1_0, A2_0, A2_1, A3_0, A3_1, A3_2, A4_0, A4_1, A4_2, A4_3, A5_0, A5_1, A5_2, A5_3, A5_4]; done)); (omega); (exact HN.out); (exact below_draws (bel5 w _ _ _ _ _) _); (omega))
    | (refine ⟨(w.heap.size + 1), rfl, int_two (b := (w.heap.size + 1 + 1)) (C := #[.int .u64 lo, .int .u64 hi, .int .u64 0, .int .u64 0, .int .u64 0, .int .u64 0, .int .u64 0]) (x0 := lo) (x1 := hi) ?_ ?_ rfl rfl hl hu ?_ ?_, ?_, ?_⟩; (focus (rw [HV.out]; simp only [World.heap_drewN, heap_drew1, A1_0, A2_0, A2_1, A3_0, A3_1, A3_2, A4_0, A4_1, A4_2, A4_3, A5_0, A5_1, A5_2, A5_3, A5_4]; done)); (focus (simp only [World.heap_drewN, heap_drew1, A1_0, A2_0, A2_1, A3_0, A3_1, A3_2, A4_0, A4_1, A4_2, A4_3, A5_0, A5_1, A5_2, A5_3, A5_4]; done)); (omega); (exact HN.out); (exact below_draws (bel5 w _ _ _ _ _) _); (omega))

end Go.Proofs.Qxb6605800a.Walks
