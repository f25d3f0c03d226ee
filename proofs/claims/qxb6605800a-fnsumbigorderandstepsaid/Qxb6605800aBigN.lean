/-
  (*sum).big by its contract: the Int that it makes is hi * 2 ^ 64 + lo.
-/
import Derived.Test.Qxb6605800aAdd
import Derived.Test.Qxb6605800aBigZ
namespace Go.Proofs.Qxb6605800a.Walks
open Go.ChangeShapes Go.WideShapes Go.ChangeAt Go.RowKit
attribute [local go_sem] setCell_drewN alloc_drewN setRow_drewN setRow_drew setRow_at setRow_past
attribute [local go_sem ↓] Go.wp_at_zero Go.wp_at_succ
set_option linter.unusedSimpArgs false
set_option maxHeartbeats 4000000 in
theorem big_nz (s : Nat) (u : Int) (h1 : 1 ≤ u) (h2 : u ≤ 9223372036854775808) (w : World) (hs : w.heap[s]? = some (.cells #[.int .i64 (-u), .int .u64 0] 39 (0, 0))) :
    Calls Try.prog 11 #[.pointer (some ⟨s, 0, none⟩)] w fun e w' => ∃ p, e = .returned (.pointer (some ⟨p, 0, none⟩)) ∧ IntIs w' p (two 0 (-u)) ∧ Below w.heap.size w w' ∧ w.heap.size ≤ p := by
  have hsl : s < w.heap.size := lt_of_blk hs
  have hs1 : s < w.heap.size + 1 := by omega
  have hs2 : s < w.heap.size + 1 + 1 := by omega
  have hs3 : s < w.heap.size + 1 + 1 + 1 := by omega
  have hs4 : s < w.heap.size + 1 + 1 + 1 + 1 := by omega
  have c0 : w.cell? ⟨s, 0, none⟩ = some (.int .i64 (-u)) := by simp [World.cell?, hs]
  have c1 : w.cell? ⟨s, 1, none⟩ = some (.int .u64 0) := by simp [World.cell?, hs]
  have hu0 : (u == 0) = false := by simp; omega
  have hu : Wd u := by unfold Wd; omega
  have h00 : Wd 0 := by unfold Wd; omega
  have HI : Hid (∀ w, Calls Try.prog 22 #[.int .i64 (-u)] w fun e w' => e = .returned (.pointer (some ⟨w.heap.size + 1, 0, none⟩)) ∧ w' = (w.alloc (.cells #[.int .u64 u] 47)).alloc (.cells #[.bool true, .slice (some ⟨w.heap.size, 0, none⟩) 1 1] 32)) := fun w => by
    have h := ni_neg (-u) (by omega) (by omega) w
    rwa [Int.neg_neg] at h
  have HV : Hid (decide (two 0 (-u) < 0) = true) := decide_eq_true (by unfold two; omega)
  have HN : Hid ((if two 0 (-u) < 0 then -two 0 (-u) else two 0 (-u)) = two 0 u) := by
    show (if two 0 (-u) < 0 then -two 0 (-u) else two 0 (-u)) = two 0 u
    rw [if_pos (by unfold two; omega)]; unfold two; omega
  clear hs
  go_enter Try.func11, Try.ntmps11
  go_wp2_with (first | (go_at_call 22; refine (HI.out _).mono ?_; rintro e w' ⟨rfl, rfl⟩; (go_simp)) | (go_at_call 24; fail))
  go_region_with (first | (go_at_call 24; refine (lshI_one (w.heap.size + 1) w.heap.size true u hu0 _ ?_ ?_).mono ?_; (focus (simp only [World.heap_drewN, heap_drew1, A1_0, A2_0, A2_1, A3_0, A3_1, A3_2, A4_0, A4_1, A4_2, A4_3, A5_0, A5_1, A5_2, A5_3, A5_4]; done)); (focus (simp only [World.heap_drewN, heap_drew1, A1_0, A2_0, A2_1, A3_0, A3_1, A3_2, A4_0, A4_1, A4_2, A4_3, A5_0, A5_1, A5_2, A5_3, A5_4]; done)); rintro e w' ⟨rfl, k, rfl⟩; (go_simp)) | (go_at_call 25; refine (suI_zero _ _ ?_).mono ?_; (focus (simp only [World.heap_drewN, heap_drew1, A1_0, A2_0, A2_1, A3_0, A3_1, A3_2, A4_0, A4_1, A4_2, A4_3, A5_0, A5_1, A5_2, A5_3, A5_4]; done)); rintro e w' ⟨rfl, k, rfl⟩; (go_simp)) | (go_at_call 23; refine (add_A5 (w.heap.size + 1) _ (w.heap.size + 1 + 1 + 1) u _ ?_ ?_ ?_).mono ?_; (focus (simp only [World.heap_drewN, heap_drew1, A1_0, A2_0, A2_1, A3_0, A3_1, A3_2, A4_0, A4_1, A4_2, A4_3, A5_0, A5_1, A5_2, A5_3, A5_4]; done)); (focus (simp only [World.heap_drewN, heap_drew1, A1_0, A2_0, A2_1, A3_0, A3_1, A3_2, A4_0, A4_1, A4_2, A4_3, A5_0, A5_1, A5_2, A5_3, A5_4]; done)); (focus (simp only [World.heap_drewN, heap_drew1, A1_0, A2_0, A2_1, A3_0, A3_1, A3_2, A4_0, A4_1, A4_2, A4_3, A5_0, A5_1, A5_2, A5_3, A5_4]; done)); rintro e w' ⟨rfl, k, rfl⟩; (go_simp)) | (go_at_call 23; refine (add_A5 (w.heap.size + 1) _ (w.heap.size + 1 + 1) u _ ?_ ?_ ?_).mono ?_; (focus (simp only [World.heap_drewN, heap_drew1, A1_0, A2_0, A2_1, A3_0, A3_1, A3_2, A4_0, A4_1, A4_2, A4_3, A5_0, A5_1, A5_2, A5_3, A5_4]; done)); (focus (simp only [World.heap_drewN, heap_drew1, A1_0, A2_0, A2_1, A3_0, A3_1, A3_2, A4_0, A4_1, A4_2, A4_3, A5_0, A5_1, A5_2, A5_3, A5_4]; done)); (focus (simp only [World.heap_drewN, heap_drew1, A1_0, A2_0, A2_1, A3_0, A3_1, A3_2, A4_0, A4_1, A4_2, A4_3, A5_0, A5_1, A5_2, A5_3, A5_4]; done)); rintro e w' ⟨rfl, k, rfl⟩; (go_simp)))
  all_goals go_wp2
  all_goals go_ret
  all_goals first
    | (refine ⟨(w.heap.size + 1), rfl, int_two (b := (w.heap.size + 1 + 1 + 1)) (C := #[.int .u64 0, .int .u64 u, .int .u64 0, .int .u64 0, .int .u64 0, .int .u64 0, .int .u64 0]) (x0 := 0) (x1 := u) ?_ ?_ rfl rfl h00 hu ?_ ?_, ?_, ?_⟩; (focus (rw [HV.out]; simp only [World.heap_drewN, heap_drew1, A1_0, A2_0, A2_1, A3_0, A3_1, A3_2, A4_0, A4_1, A4_2, A4_3, A5_0, A5_1, A5_2, A5_3, A5_4]; done)); (focus (simp only [World.heap_drewN, heap_drew1, A1_0, A2_0, A2_1, A3_0, A3_1, A3_2, A4_0, A4_1, A4_2, A4_3, A5_0, A5_1, A5_2, A5_3, A5_4]; done)); (omega); (exact HN.out); (exact below_draws (bel4 w _ _ _ _) _); (omega))
    | (refine ⟨(w.heap.size + 1), rfl, int_two (b := (w.heap.size + 1 + 1)) (C := #[.int .u64 0, .int .u64 u, .int .u64 0, .int .u64 0, .int .u64 0, .int .u64 0, .int .u64 0]) (x0 := 0) (x1 := u) ?_ ?_ rfl rfl h00 hu ?_ ?_, ?_, ?_⟩; (focus (rw [HV.out]; simp only [World.heap_drewN, heap_drew1, A1_0, A2_0, A2_1, A3_0, A3_1, A3_2, A4_0, A4_1, A4_2, A4_3, A5_0, A5_1, A5_2, A5_3, A5_4]; done)); (focus (simp only [World.heap_drewN, heap_drew1, A1_0, A2_0, A2_1, A3_0, A3_1, A3_2, A4_0, A4_1, A4_2, A4_3, A5_0, A5_1, A5_2, A5_3, A5_4]; done)); (omega); (exact HN.out); (exact below_draws (bel4 w _ _ _ _) _); (omega))

end Go.Proofs.Qxb6605800a.Walks
