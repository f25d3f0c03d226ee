/-
  (*sum).big by its contract: the Int that it makes is hi * 2 ^ 64 + lo.
-/
import Derived.Test.Qxb6605800aAdd
import Derived.Test.Qxb6605800aNum
namespace Go.Proofs.Qxb6605800a.Walks
open Go.ChangeShapes Go.WideShapes Go.ChangeAt Go.RowKit
attribute [local go_sem] setCell_drewN alloc_drewN setRow_drewN setRow_drew setRow_at setRow_past
attribute [local go_sem ↓] Go.wp_at_zero Go.wp_at_succ
set_option linter.unusedSimpArgs false
theorem heap_drew1 (w : World) : w.drew.heap = w.heap := rfl

theorem bel2 (w : World) (o0 o1 : Obj) : Below w.heap.size w ((w.alloc o0).alloc o1) := ((((Below.refl _ _).alloc (Nat.le_refl _) _)).alloc (by simp; try omega) _)
theorem bel4 (w : World) (o0 o1 o2 o3 : Obj) : Below w.heap.size w ((((w.alloc o0).alloc o1).alloc o2).alloc o3) := ((((((((Below.refl _ _).alloc (Nat.le_refl _) _)).alloc (by simp; try omega) _)).alloc (by simp; try omega) _)).alloc (by simp; try omega) _)
theorem bel5 (w : World) (o0 o1 o2 o3 o4 : Obj) : Below w.heap.size w (((((w.alloc o0).alloc o1).alloc o2).alloc o3).alloc o4) := ((((((((((Below.refl _ _).alloc (Nat.le_refl _) _)).alloc (by simp; try omega) _)).alloc (by simp; try omega) _)).alloc (by simp; try omega) _)).alloc (by simp; try omega) _)

theorem add_A6' (p q b yb n : Nat) (u l D E : Int) (hu : Wd u) (hl : Wd l) (hu0 : 1 ≤ u) (hl0 : 1 ≤ l) (hn : n = if u = 1 then 1 else 2) (hpb : p ≠ b) (hD : 18446744073709551616 - l = D) (hE : u - 1 = E) (w : World) (hp : w.heap[p]? = some (.cells #[.bool true, .slice (some ⟨b, 0, none⟩) 2 7] 32 (0, 0))) (hq : w.heap[q]? = some (.cells #[.bool false, .slice (some ⟨yb, 0, none⟩) 1 1] 32 (0, 0))) (hb : w.heap[b]? = some (.cells #[.int .u64 0, .int .u64 u, .int .u64 0, .int .u64 0, .int .u64 0, .int .u64 0, .int .u64 0] 47 (0, 0))) (hy : w.heap[yb]? = some (.cells #[.int .u64 l] 47 (0, 0))) :
    Calls Try.prog 23 #[.pointer (some ⟨p, 0, none⟩), .pointer (some ⟨p, 0, none⟩), .pointer (some ⟨q, 0, none⟩)] w fun e w' => e = .returned (.pointer (some ⟨p, 0, none⟩)) ∧ ∃ k, w' = ((w.setRow b #[.int .u64 D, .int .u64 E, .int .u64 0, .int .u64 0, .int .u64 0, .int .u64 0, .int .u64 0]).setRow p #[.bool true, .slice (some ⟨b, 0, none⟩) n 7]).drewN k := by
  rw [← hD, ← hE]
  exact add_A6 p q b yb n u l hu hl hu0 hl0 hn hpb w hp hq hb hy

set_option maxHeartbeats 4000000 in
theorem big_zz (s : Nat)  (w : World) (hs : w.heap[s]? = some (.cells #[.int .i64 0, .int .u64 0] 39 (0, 0))) :
    Calls Try.prog 11 #[.pointer (some ⟨s, 0, none⟩)] w fun e w' => ∃ p, e = .returned (.pointer (some ⟨p, 0, none⟩)) ∧ IntIs w' p (0) ∧ Below w.heap.size w w' ∧ w.heap.size ≤ p := by
  have hsl : s < w.heap.size := lt_of_blk hs
  have hs1 : s < w.heap.size + 1 := by omega
  have hs2 : s < w.heap.size + 1 + 1 := by omega
  have hs3 : s < w.heap.size + 1 + 1 + 1 := by omega
  have hs4 : s < w.heap.size + 1 + 1 + 1 + 1 := by omega
  have c0 : w.cell? ⟨s, 0, none⟩ = some (.int .i64 0) := by simp [World.cell?, hs]
  have c1 : w.cell? ⟨s, 1, none⟩ = some (.int .u64 0) := by simp [World.cell?, hs]
  clear hs
  go_enter Try.func11, Try.ntmps11
  go_wp2_with (first | (go_at_call 22; refine (ni_zero _).mono ?_; rintro e w' ⟨rfl, rfl⟩; (go_simp)) | (go_at_call 24; fail))
  go_region_with (first | (go_at_call 24; refine (lsh_zero w.heap.size _ ?_).mono ?_; (focus (simp only [World.heap_drewN, heap_drew1, A1_0, A2_0, A2_1, A3_0, A3_1, A3_2, A4_0, A4_1, A4_2, A4_3, A5_0, A5_1, A5_2, A5_3, A5_4]; done)); rintro e w' ⟨rfl, k, rfl⟩; (go_simp)) | (go_at_call 25; refine (suI_zero _ _ ?_).mono ?_; (focus (simp only [World.heap_drewN, heap_drew1, A1_0, A2_0, A2_1, A3_0, A3_1, A3_2, A4_0, A4_1, A4_2, A4_3, A5_0, A5_1, A5_2, A5_3, A5_4]; done)); rintro e w' ⟨rfl, k, rfl⟩; (go_simp)) | (go_at_call 23; refine (add_A1 w.heap.size _ _ ?_ ?_).mono ?_; (focus (simp only [World.heap_drewN, heap_drew1, A1_0, A2_0, A2_1, A3_0, A3_1, A3_2, A4_0, A4_1, A4_2, A4_3, A5_0, A5_1, A5_2, A5_3, A5_4]; done)); (focus (simp only [World.heap_drewN, heap_drew1, A1_0, A2_0, A2_1, A3_0, A3_1, A3_2, A4_0, A4_1, A4_2, A4_3, A5_0, A5_1, A5_2, A5_3, A5_4]; done)); rintro e w' ⟨rfl, k, rfl⟩; (go_simp)))
  all_goals go_wp2
  all_goals go_ret
  all_goals first
    | (refine ⟨w.heap.size, rfl, int_zero (a := none) (c := 0) ?_, ?_, ?_⟩; (focus (simp only [World.heap_drewN, heap_drew1, A1_0, A2_0, A2_1, A3_0, A3_1, A3_2, A4_0, A4_1, A4_2, A4_3, A5_0, A5_1, A5_2, A5_3, A5_4]; done)); (exact below_draws (bel2 w _ _) _); (omega))

set_option maxHeartbeats 4000000 in
theorem big_zl (s : Nat) (lo : Int) (hl : Wd lo) (hl1 : 1 ≤ lo) (w : World) (hs : w.heap[s]? = some (.cells #[.int .i64 0, .int .u64 lo] 39 (0, 0))) :
    Calls Try.prog 11 #[.pointer (some ⟨s, 0, none⟩)] w fun e w' => ∃ p, e = .returned (.pointer (some ⟨p, 0, none⟩)) ∧ IntIs w' p (two lo 0) ∧ Below w.heap.size w w' ∧ w.heap.size ≤ p := by
  have hsl : s < w.heap.size := lt_of_blk hs
  have hs1 : s < w.heap.size + 1 := by omega
  have hs2 : s < w.heap.size + 1 + 1 := by omega
  have hs3 : s < w.heap.size + 1 + 1 + 1 := by omega
  have hs4 : s < w.heap.size + 1 + 1 + 1 + 1 := by omega
  have c0 : w.cell? ⟨s, 0, none⟩ = some (.int .i64 0) := by simp [World.cell?, hs]
  have c1 : w.cell? ⟨s, 1, none⟩ = some (.int .u64 lo) := by simp [World.cell?, hs]
  have hl0 : (lo == 0) = false := by simp; omega
  have HV : Hid (decide (two lo 0 < 0) = false) := decide_eq_false (by unfold two; omega)
  have HN : Hid ((if two lo 0 < 0 then -two lo 0 else two lo 0) = lo) := by
    show (if two lo 0 < 0 then -two lo 0 else two lo 0) = lo
    rw [if_neg (by unfold two; omega)]; unfold two; omega
  clear hs
  go_enter Try.func11, Try.ntmps11
  go_wp2_with (first | (go_at_call 22; refine (ni_zero _).mono ?_; rintro e w' ⟨rfl, rfl⟩; (go_simp)) | (go_at_call 24; fail))
  go_region_with (first | (go_at_call 24; refine (lsh_zero w.heap.size _ ?_).mono ?_; (focus (simp only [World.heap_drewN, heap_drew1, A1_0, A2_0, A2_1, A3_0, A3_1, A3_2, A4_0, A4_1, A4_2, A4_3, A5_0, A5_1, A5_2, A5_3, A5_4]; done)); rintro e w' ⟨rfl, k, rfl⟩; (go_simp)) | (go_at_call 25; refine (suI_one _ lo hl hl0 _ ?_).mono ?_; (focus (simp only [World.heap_drewN, heap_drew1, A1_0, A2_0, A2_1, A3_0, A3_1, A3_2, A4_0, A4_1, A4_2, A4_3, A5_0, A5_1, A5_2, A5_3, A5_4]; done)); rintro e w' ⟨rfl, k, rfl⟩; (go_simp)) | (go_at_call 23; refine (add_A2 w.heap.size _ (w.heap.size + 1 + 1) lo _ ?_ ?_ ?_).mono ?_; (focus (simp only [World.heap_drewN, heap_drew1, A1_0, A2_0, A2_1, A3_0, A3_1, A3_2, A4_0, A4_1, A4_2, A4_3, A5_0, A5_1, A5_2, A5_3, A5_4]; done)); (focus (simp only [World.heap_drewN, heap_drew1, A1_0, A2_0, A2_1, A3_0, A3_1, A3_2, A4_0, A4_1, A4_2, A4_3, A5_0, A5_1, A5_2, A5_3, A5_4]; done)); (focus (simp only [World.heap_drewN, heap_drew1, A1_0, A2_0, A2_1, A3_0, A3_1, A3_2, A4_0, A4_1, A4_2, A4_3, A5_0, A5_1, A5_2, A5_3, A5_4]; done)); rintro e w' ⟨rfl, k, rfl⟩; (go_simp)))
  all_goals go_wp2
  all_goals go_ret
  all_goals first
    | (refine ⟨w.heap.size, rfl, int_one (b := (w.heap.size + 1 + 1 + 1)) (c := 1) (C := #[.int .u64 lo]) (x0 := lo) ?_ (by decide) ?_ rfl hl ?_ ?_, ?_, ?_⟩; (focus (rw [HV.out]; simp only [World.heap_drewN, heap_drew1, A1_0, A2_0, A2_1, A3_0, A3_1, A3_2, A4_0, A4_1, A4_2, A4_3, A5_0, A5_1, A5_2, A5_3, A5_4]; done)); (focus (simp only [World.heap_drewN, heap_drew1, A1_0, A2_0, A2_1, A3_0, A3_1, A3_2, A4_0, A4_1, A4_2, A4_3, A5_0, A5_1, A5_2, A5_3, A5_4]; done)); (omega); (exact HN.out); (exact below_draws (bel4 w _ _ _ _) _); (omega))

end Go.Proofs.Qxb6605800a.Walks
