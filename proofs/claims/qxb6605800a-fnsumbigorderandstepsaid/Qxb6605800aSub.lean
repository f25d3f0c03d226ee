/-
  (*Int).Sub where the difference is one, into a new Int; IsInt64 and Int64 of one.
-/
import Derived.Test.Qxb6605800aCmp
import Derived.Test.Qxb6605800aInt
namespace Go.Proofs.Qxb6605800a.Walks
open Go.ChangeShapes Go.WideShapes Go.ChangeAt Go.RowKit
attribute [local go_sem] setCell_drewN alloc_drewN
attribute [local go_sem ↓] Go.wp_at_zero Go.wp_at_succ

theorem sub_one (w : World) (s1 s2 : Value) (N : Int) (h1 : NumIs w s1 (N + 1)) (h2 : NumIs w s2 N) :
    Calls Try.prog 20 #[.slice none 0 0, s1, s2] w fun e w' => ∃ c C k, e = .returned (.slice (some ⟨w.heap.size, 0, none⟩) 1 c) ∧ 1 ≤ c ∧ C[0]? = some (.int .u64 1) ∧ w' = (w.alloc (.cells C 47)).drewN k := by
  rcases h2 with ⟨rfl, a', c', rfl⟩ | ⟨b', c', C', rfl, hc', hb', hv', hw', hp'⟩ | ⟨b', C', y0, y1, rfl, hb', hv0', hv1', hw0', hw1', hp', rfl⟩
  · rcases h1 with ⟨h, a, c, rfl⟩ | ⟨b, c, C, rfl, hc, hb, hv, hw, hp⟩ | ⟨b, C, x0, x1, rfl, hb, hv0, hv1, hw0, hw1, hp, h⟩
    · omega
    · exact (subf_10 b c a' c' 1 w (lt_of_blk hb) (blk_cell hb hv)).mono fun e w' ⟨he, hw⟩ => ⟨1, #[.int .u64 1], 0, he, by decide, rfl, hw⟩
    · unfold two at h; unfold Wd at hw0; omega
  · rcases h1 with ⟨h, a, c, rfl⟩ | ⟨b, c, C, rfl, hc, hb, hv, hw, hp⟩ | ⟨b, C, x0, x1, rfl, hb, hv0, hv1, hw0, hw1, hp, h⟩
    · omega
    · exact (subf_11 b b' c c' (N + 1) N hw hw' rfl w (lt_of_blk hb) (lt_of_blk hb') (by omega) (by omega) (blk_cell hb hv) (blk_cell hb' hv')).mono fun e w' ⟨he, k, hk⟩ => ⟨1, _, k, he, by decide, rfl, hk⟩
    · exact (subf_21 b b' c' C x0 N x1 hw0 hw' hw1 h.symm w (lt_of_blk hb) (lt_of_blk hb') (by omega) hb (blk_cell hb hv0) (blk_cell hb' hv') (blk_cell hb hv1)).mono fun e w' ⟨he, k, hk⟩ => ⟨6, _, k, he, by decide, rfl, hk⟩
  · rcases h1 with ⟨h, a, c, rfl⟩ | ⟨b, c, C, rfl, hc, hb, hv, hw, hp⟩ | ⟨b, C, x0, x1, rfl, hb, hv0, hv1, hw0, hw1, hp, h⟩
    · unfold two at h; unfold Wd at hw0'; omega
    · unfold two at hw; unfold Wd at hw hw0'; omega
    · exact (subf_22 b b' x0 y0 x1 y1 hw0 hw0' hw1 hw1' h.symm w (lt_of_blk hb) (lt_of_blk hb') (blk_cell hb hv0) (blk_cell hb' hv0') (blk_cell hb hv1) (blk_cell hb' hv1')).mono fun e w' ⟨he, k, hk⟩ => ⟨6, _, k, he, by decide, rfl, hk⟩

theorem add_one (w : World) (s1 s2 : Value) (h1 : NumIs w s1 0) (h2 : NumIs w s2 1) :
    Calls Try.prog 19 #[.slice none 0 0, s1, s2] w fun e w' => ∃ c C k, e = .returned (.slice (some ⟨w.heap.size, 0, none⟩) 1 c) ∧ 1 ≤ c ∧ C[0]? = some (.int .u64 1) ∧ w' = (w.alloc (.cells C 47)).drewN k := by
  rcases h1 with ⟨_, a, c, rfl⟩ | ⟨b, c, C, rfl, hc, hb, hv, hw, hp⟩ | ⟨b, C, x0, x1, rfl, hb, hv0, hv1, hw0, hw1, hp, h⟩
  · rcases h2 with ⟨h, a', c', rfl⟩ | ⟨b', c', C', rfl, hc', hb', hv', hw', hp'⟩ | ⟨b', C', y0, y1, rfl, hb', hv0', hv1', hw0', hw1', hp', h⟩
    · omega
    · exact (add_01 b' c' a c 1 w (lt_of_blk hb') (blk_cell hb' hv')).mono fun e w' ⟨he, hw⟩ => ⟨1, #[.int .u64 1], 0, he, by decide, rfl, hw⟩
    · unfold two at h; unfold Wd at hw0'; omega
  · omega
  · unfold two at h; unfold Wd at hw0; omega

/-! ### Sub -/
set_option maxHeartbeats 4000000 in
theorem subI_pos (q pc pa : Nat) (V : Int) (h : 0 ≤ V) (w : World) (hq : w.heap[q]? = some (.cells #[.bool false, .slice none 0 0] 32 (0, 0))) (hc : IntIs w pc (V + 1)) (ha : IntIs w pa V) :
    Calls Try.prog 8 #[.pointer (some ⟨q, 0, none⟩), .pointer (some ⟨pc, 0, none⟩), .pointer (some ⟨pa, 0, none⟩)] w fun e w' => e = .returned (.pointer (some ⟨q, 0, none⟩)) ∧
      ∃ c C k, 1 ≤ c ∧ C[0]? = some (.int .u64 1) ∧ w' = ((w.setRow q #[.bool false, .slice (some ⟨w.heap.size, 0, none⟩) 1 c]).alloc (.cells C 47)).drewN k := by
  have hql : q < w.heap.size := lt_of_blk hq
  have g0 : w.cell? ⟨q, 0, none⟩ = some (.bool false) := blk_cell hq rfl
  have g1 : w.cell? ⟨q, 1, none⟩ = some (.slice none 0 0) := blk_cell hq rfl
  have f0 : w.frozen? ⟨q, 0, none⟩ = false := by simp [World.frozen?, hq]
  have f1 : w.frozen? ⟨q, 1, none⟩ = false := by simp [World.frozen?, hq]
  have HR : Hid (∀ c, (w.setCell ⟨q, 1, none⟩ (.slice (some ⟨w.heap.size, 0, none⟩) 1 c)).setCell ⟨q, 0, none⟩ (.bool false) = w.setRow q #[.bool false, .slice (some ⟨w.heap.size, 0, none⟩) 1 c]) := fun c => rowI w q _ _ _ _ hq
  obtain ⟨s1, hp, n1⟩ := hc
  obtain ⟨s2, hr, n2⟩ := ha
  have e1 : ¬ V + 1 < 0 := by omega
  have e2 : ¬ V < 0 := by omega
  rw [if_neg e1] at n1
  rw [if_neg e2] at n2
  have HM : Hid (∀ k, Calls Try.prog 18 #[s1, s2] (w.drewN k) fun e w' => e = .returned (.int .i64 (1)) ∧ ∃ m, w' = (w.drewN k).drewN m) := fun k => by
    have h := cmp_any (w.drewN k) s1 s2 _ _ n1 n2
    rwa [sg_pos (by omega)] at h
  have HS : Hid (∀ k, Calls Try.prog 20 #[.slice none 0 0, s1, s2] (w.drewN k) fun e w' => ∃ c C j, e = .returned (.slice (some ⟨w.heap.size, 0, none⟩) 1 c) ∧ 1 ≤ c ∧ C[0]? = some (.int .u64 1) ∧ w' = (w.alloc (.cells C 47)).drewN j) := fun k => (sub_one (w.drewN k) s1 s2 V n1 n2).mono fun e w' ⟨c, C, j, he, h1, h2, h3⟩ => ⟨c, C, k + j, he, h1, h2, h3.trans (World.drewN_drewN (w.alloc (.cells C 47)) k j)⟩
  have c0 : w.cell? ⟨pc, 0, none⟩ = some (.bool false) := by have h := blk_cell (i := 0) hp rfl; rwa [decide_eq_false e1] at h
  have c1 : w.cell? ⟨pc, 1, none⟩ = some s1 := blk_cell hp rfl
  have d0 : w.cell? ⟨pa, 0, none⟩ = some (.bool false) := by have h := blk_cell (i := 0) hr rfl; rwa [decide_eq_false e2] at h
  have d1 : w.cell? ⟨pa, 1, none⟩ = some s2 := blk_cell hr rfl
  clear hq hp hr n1 n2 e1 e2 h
  go_enter Try.func8, Try.ntmps8
  go_wp2_with (first | (go_at_call 19; fail) | (go_at_call 18; fail) | (go_at_call 20; fail) | go_in)
  go_quiet (fail)
  go_wp2_with (first | (go_at_call 19; fail) | (go_at_call 18; fail) | (go_at_call 20; fail) | go_in)
  go_quiet ((go_at_call 18; first | exact Calls.quiet_of (HM.out _) | exact quiet_later_d (HM.out _)))
  go_wp2_with (first | (go_at_call 19; fail) | (go_at_call 18; fail) | (go_at_call 20; fail) | go_in)
  go_region_with (first | (go_at_call 20; refine (HS.out _).mono ?_; rintro e w' ⟨c, C, j, rfl, hc1, hC0, rfl⟩; (have HC0 : Hid (C[0]? = some (.int .u64 1)) := hC0); (clear hC0)))
  all_goals go_wp2
  all_goals go_ret
  all_goals exact ⟨rfl, c, C, _, hc1, HC0.out, congrArg (fun x : World => (x.alloc (.cells C 47)).drewN _) (HR.out c)⟩

set_option maxHeartbeats 4000000 in
theorem subI_mid (q pc pa : Nat) (V : Int) (h : V = -1) (w : World) (hq : w.heap[q]? = some (.cells #[.bool false, .slice none 0 0] 32 (0, 0))) (hc : IntIs w pc (V + 1)) (ha : IntIs w pa V) :
    Calls Try.prog 8 #[.pointer (some ⟨q, 0, none⟩), .pointer (some ⟨pc, 0, none⟩), .pointer (some ⟨pa, 0, none⟩)] w fun e w' => e = .returned (.pointer (some ⟨q, 0, none⟩)) ∧
      ∃ c C k, 1 ≤ c ∧ C[0]? = some (.int .u64 1) ∧ w' = ((w.setRow q #[.bool false, .slice (some ⟨w.heap.size, 0, none⟩) 1 c]).alloc (.cells C 47)).drewN k := by
  have hql : q < w.heap.size := lt_of_blk hq
  have g0 : w.cell? ⟨q, 0, none⟩ = some (.bool false) := blk_cell hq rfl
  have g1 : w.cell? ⟨q, 1, none⟩ = some (.slice none 0 0) := blk_cell hq rfl
  have f0 : w.frozen? ⟨q, 0, none⟩ = false := by simp [World.frozen?, hq]
  have f1 : w.frozen? ⟨q, 1, none⟩ = false := by simp [World.frozen?, hq]
  have HR : Hid (∀ c, (w.setCell ⟨q, 1, none⟩ (.slice (some ⟨w.heap.size, 0, none⟩) 1 c)).setCell ⟨q, 0, none⟩ (.bool false) = w.setRow q #[.bool false, .slice (some ⟨w.heap.size, 0, none⟩) 1 c]) := fun c => rowI w q _ _ _ _ hq
  obtain ⟨s1, hp, n1⟩ := hc
  obtain ⟨s2, hr, n2⟩ := ha
  have e1 : ¬ V + 1 < 0 := by omega
  have e2 : V < 0 := by omega
  rw [if_neg e1, show V + 1 = 0 from by omega] at n1
  rw [if_pos e2, show -V = 1 from by omega] at n2
  have HS : Hid (∀ k, Calls Try.prog 19 #[.slice none 0 0, s1, s2] (w.drewN k) fun e w' => ∃ c C j, e = .returned (.slice (some ⟨w.heap.size, 0, none⟩) 1 c) ∧ 1 ≤ c ∧ C[0]? = some (.int .u64 1) ∧ w' = (w.alloc (.cells C 47)).drewN j) := fun k => (add_one (w.drewN k) s1 s2 n1 n2).mono fun e w' ⟨c, C, j, he, h1, h2, h3⟩ => ⟨c, C, k + j, he, h1, h2, h3.trans (World.drewN_drewN (w.alloc (.cells C 47)) k j)⟩
  have c0 : w.cell? ⟨pc, 0, none⟩ = some (.bool false) := by have h := blk_cell (i := 0) hp rfl; rwa [decide_eq_false e1] at h
  have c1 : w.cell? ⟨pc, 1, none⟩ = some s1 := blk_cell hp rfl
  have d0 : w.cell? ⟨pa, 0, none⟩ = some (.bool true) := by have h := blk_cell (i := 0) hr rfl; rwa [decide_eq_true e2] at h
  have d1 : w.cell? ⟨pa, 1, none⟩ = some s2 := blk_cell hr rfl
  clear hq hp hr n1 n2 e1 e2 h
  go_enter Try.func8, Try.ntmps8
  go_wp2_with (first | (go_at_call 19; fail) | (go_at_call 18; fail) | (go_at_call 20; fail) | go_in)
  go_quiet (fail)
  go_wp2_with (first | (go_at_call 19; fail) | (go_at_call 18; fail) | (go_at_call 20; fail) | go_in)
  go_region_with (first | (go_at_call 19; refine (HS.out _).mono ?_; rintro e w' ⟨c, C, j, rfl, hc1, hC0, rfl⟩; (have HC0 : Hid (C[0]? = some (.int .u64 1)) := hC0); (clear hC0)))
  all_goals go_wp2
  all_goals go_ret
  all_goals exact ⟨rfl, c, C, _, hc1, HC0.out, congrArg (fun x : World => (x.alloc (.cells C 47)).drewN _) (HR.out c)⟩

set_option maxHeartbeats 4000000 in
theorem subI_neg (q pc pa : Nat) (V : Int) (h : V < -1) (w : World) (hq : w.heap[q]? = some (.cells #[.bool false, .slice none 0 0] 32 (0, 0))) (hc : IntIs w pc (V + 1)) (ha : IntIs w pa V) :
    Calls Try.prog 8 #[.pointer (some ⟨q, 0, none⟩), .pointer (some ⟨pc, 0, none⟩), .pointer (some ⟨pa, 0, none⟩)] w fun e w' => e = .returned (.pointer (some ⟨q, 0, none⟩)) ∧
      ∃ c C k, 1 ≤ c ∧ C[0]? = some (.int .u64 1) ∧ w' = ((w.setRow q #[.bool false, .slice (some ⟨w.heap.size, 0, none⟩) 1 c]).alloc (.cells C 47)).drewN k := by
  have hql : q < w.heap.size := lt_of_blk hq
  have g0 : w.cell? ⟨q, 0, none⟩ = some (.bool false) := blk_cell hq rfl
  have g1 : w.cell? ⟨q, 1, none⟩ = some (.slice none 0 0) := blk_cell hq rfl
  have f0 : w.frozen? ⟨q, 0, none⟩ = false := by simp [World.frozen?, hq]
  have f1 : w.frozen? ⟨q, 1, none⟩ = false := by simp [World.frozen?, hq]
  have HR : Hid (∀ c, (w.setCell ⟨q, 1, none⟩ (.slice (some ⟨w.heap.size, 0, none⟩) 1 c)).setCell ⟨q, 0, none⟩ (.bool false) = w.setRow q #[.bool false, .slice (some ⟨w.heap.size, 0, none⟩) 1 c]) := fun c => rowI w q _ _ _ _ hq
  obtain ⟨s1, hp, n1⟩ := hc
  obtain ⟨s2, hr, n2⟩ := ha
  have e1 : V + 1 < 0 := by omega
  have e2 : V < 0 := by omega
  rw [if_pos e1] at n1
  rw [if_pos e2] at n2
  have HM : Hid (∀ k, Calls Try.prog 18 #[s1, s2] (w.drewN k) fun e w' => e = .returned (.int .i64 (-1)) ∧ ∃ m, w' = (w.drewN k).drewN m) := fun k => by
    have h := cmp_any (w.drewN k) s1 s2 _ _ n1 n2
    rwa [sg_neg (by omega)] at h
  have HS : Hid (∀ k, Calls Try.prog 20 #[.slice none 0 0, s2, s1] (w.drewN k) fun e w' => ∃ c C j, e = .returned (.slice (some ⟨w.heap.size, 0, none⟩) 1 c) ∧ 1 ≤ c ∧ C[0]? = some (.int .u64 1) ∧ w' = (w.alloc (.cells C 47)).drewN j) := fun k => (sub_one (w.drewN k) s2 s1 (-(V + 1)) (by rw [show -(V + 1) + 1 = -V from by omega]; exact n2) n1).mono fun e w' ⟨c, C, j, he, h1, h2, h3⟩ => ⟨c, C, k + j, he, h1, h2, h3.trans (World.drewN_drewN (w.alloc (.cells C 47)) k j)⟩
  have c0 : w.cell? ⟨pc, 0, none⟩ = some (.bool true) := by have h := blk_cell (i := 0) hp rfl; rwa [decide_eq_true e1] at h
  have c1 : w.cell? ⟨pc, 1, none⟩ = some s1 := blk_cell hp rfl
  have d0 : w.cell? ⟨pa, 0, none⟩ = some (.bool true) := by have h := blk_cell (i := 0) hr rfl; rwa [decide_eq_true e2] at h
  have d1 : w.cell? ⟨pa, 1, none⟩ = some s2 := blk_cell hr rfl
  clear hq hp hr n1 n2 e1 e2 h
  go_enter Try.func8, Try.ntmps8
  go_wp2_with (first | (go_at_call 19; fail) | (go_at_call 18; fail) | (go_at_call 20; fail) | go_in)
  go_quiet (fail)
  go_wp2_with (first | (go_at_call 19; fail) | (go_at_call 18; fail) | (go_at_call 20; fail) | go_in)
  go_quiet ((go_at_call 18; first | exact Calls.quiet_of (HM.out _) | exact quiet_later_d (HM.out _)))
  go_wp2_with (first | (go_at_call 19; fail) | (go_at_call 18; fail) | (go_at_call 20; fail) | go_in)
  go_region_with (first | (go_at_call 20; refine (HS.out _).mono ?_; rintro e w' ⟨c, C, j, rfl, hc1, hC0, rfl⟩; (have HC0 : Hid (C[0]? = some (.int .u64 1)) := hC0); (clear hC0)))
  all_goals go_wp2
  all_goals go_ret
  all_goals exact ⟨rfl, c, C, _, hc1, HC0.out, congrArg (fun x : World => (x.alloc (.cells C 47)).drewN _) (HR.out c)⟩

theorem subI (q pc pa : Nat) (V : Int) (w : World) (hq : w.heap[q]? = some (.cells #[.bool false, .slice none 0 0] 32 (0, 0))) (hc : IntIs w pc (V + 1)) (ha : IntIs w pa V) :
    Calls Try.prog 8 #[.pointer (some ⟨q, 0, none⟩), .pointer (some ⟨pc, 0, none⟩), .pointer (some ⟨pa, 0, none⟩)] w fun e w' => e = .returned (.pointer (some ⟨q, 0, none⟩)) ∧
      ∃ c C k, 1 ≤ c ∧ C[0]? = some (.int .u64 1) ∧ w' = ((w.setRow q #[.bool false, .slice (some ⟨w.heap.size, 0, none⟩) 1 c]).alloc (.cells C 47)).drewN k := by
  rcases (show 0 ≤ V ∨ V = -1 ∨ V < -1 from by omega) with h | h | h
  · exact subI_pos q pc pa V h w hq hc ha
  · exact subI_mid q pc pa V h w hq hc ha
  · exact subI_neg q pc pa V h w hq hc ha

/-! ### IsInt64, Int64 of one -/
set_option maxHeartbeats 1000000 in
theorem isInt64_one (q r c : Nat) (w : World) (hq1 : w.cell? ⟨q, 1, none⟩ = some (.slice (some ⟨r, 0, none⟩) 1 c)) (hr : w.cell? ⟨r, 0, none⟩ = some (.int .u64 1)) :
    Calls Try.prog 9 #[.pointer (some ⟨q, 0, none⟩)] w fun e w' => e = .returned (.bool true) ∧ w' = w := by
  go_enter Try.func9, Try.ntmps9
  go_wp2
  go_ret
  exact ⟨rfl, rfl⟩

set_option maxHeartbeats 1000000 in
theorem int64_one (q r c : Nat) (w : World) (hq0 : w.cell? ⟨q, 0, none⟩ = some (.bool false)) (hq1 : w.cell? ⟨q, 1, none⟩ = some (.slice (some ⟨r, 0, none⟩) 1 c)) (hr : w.cell? ⟨r, 0, none⟩ = some (.int .u64 1)) :
    Calls Try.prog 10 #[.pointer (some ⟨q, 0, none⟩)] w fun e w' => e = .returned (.int .i64 1) ∧ w' = w := by
  go_enter Try.func10, Try.ntmps10
  go_wp2
  go_ret
  exact ⟨rfl, rfl⟩

end Go.Proofs.Qxb6605800a.Walks
