/-
  (nat).sub at the lengths that this law meets, by its contracts.
-/
import Derived.Test.Qxb6605800aNat
namespace Go.Proofs.Qxb6605800a.Walks
open Go.ChangeShapes Go.WideShapes Go.ChangeAt Go.RowKit
attribute [local go_sem] setCell_drewN alloc_drewN mk1 mk2 mk3

set_option maxHeartbeats 1000000 in
theorem sub_20 (b : Nat) (a : Option Addr) (ca : Nat) (u0 u1 : Int) (v2 v3 v4 v5 v6 : Value) (w : World) (hb : w.heap[b]? = some (.cells #[.int .u64 u0, .int .u64 u1, v2, v3, v4, v5, v6] 47 (0, 0))) :
    Calls Try.prog 20 #[.slice (some ⟨b, 0, none⟩) 2 7, .slice (some ⟨b, 0, none⟩) 2 7, .slice a 0 ca] w fun e w' => e = .returned (.slice (some ⟨b, 0, none⟩) 2 7) ∧ w' = w := by
  have H : Hid (w.heap[b]? = some (.cells #[.int .u64 u0, .int .u64 u1, v2, v3, v4, v5, v6] 47 (0, 0))) := hb
  clear hb
  go_enter Try.func20, Try.ntmps20
  go_wp2_with (go_at_call 26; refine (set_self b u0 u1 v2 v3 v4 v5 v6 _ H.out).mono ?_; rintro e w' ⟨rfl, rfl⟩)
  go_ret
  exact ⟨rfl, rfl⟩

set_option maxHeartbeats 1000000 in
theorem subf_10 (b c : Nat) (a : Option Addr) (ca : Nat) (u : Int) (w : World) (hb : b < w.heap.size) (c0 : w.cell? ⟨b, 0, none⟩ = some (.int .u64 u)) :
    Calls Try.prog 20 #[.slice none 0 0, .slice (some ⟨b, 0, none⟩) 1 c, .slice a 0 ca] w fun e w' => e = .returned (.slice (some ⟨w.heap.size, 0, none⟩) 1 1) ∧ w' = w.alloc (.cells #[.int .u64 u] 47) := by
  go_enter Try.func20, Try.ntmps20
  go_wp2_with (go_at_call 26; refine (set_new b c u _ hb c0).mono ?_; rintro e w' ⟨rfl, rfl⟩)
  go_ret
  exact ⟨rfl, rfl⟩

/-- The words of [0, u] - [l], l not nought: n is how many are left. -/
theorem sub_21 (b yb n : Nat) (u l : Int) (hu : Wd u) (hl : Wd l) (hu0 : 1 ≤ u) (hl0 : 1 ≤ l) (hn : n = if u = 1 then 1 else 2) (v2 v3 v4 v5 v6 : Value) (w : World) (hb : w.heap[b]? = some (.cells #[.int .u64 0, .int .u64 u, v2, v3, v4, v5, v6] 47 (0, 0)))
    (cy0 : w.cell? ⟨yb, 0, none⟩ = some (.int .u64 l)) :
    Calls Try.prog 20 #[.slice (some ⟨b, 0, none⟩) 2 7, .slice (some ⟨b, 0, none⟩) 2 7, .slice (some ⟨yb, 0, none⟩) 1 1] w fun e w' => e = .returned (.slice (some ⟨b, 0, none⟩) n 7) ∧
      ∃ k, w' = (w.setRow b #[.int .u64 (18446744073709551616 - l), .int .u64 (u - 1), v2, v3, v4, v5, v6]).drewN k := by
  have c0 : w.cell? ⟨b, 0, none⟩ = some (.int .u64 0) := by simp [World.cell?, hb]
  have c1 : w.cell? ⟨b, 1, none⟩ = some (.int .u64 u) := by simp [World.cell?, hb]
  have f0 : w.frozen? ⟨b, 0, none⟩ = false := by simp [World.frozen?, hb]
  have f1 : w.frozen? ⟨b, 1, none⟩ = false := by simp [World.frozen?, hb]
  have H : Hid (w.heap[b]? = some (.cells #[.int .u64 0, .int .u64 u, v2, v3, v4, v5, v6] 47 (0, 0))) := hb
  obtain ⟨D, hD⟩ : ∃ D, D = 18446744073709551616 - l := ⟨_, rfl⟩
  have e1 : dif 0 l 0 = D := by unfold dif; unfold Wd at hl; omega
  have e2 : bor 0 l 0 = 1 := by unfold bor; rw [if_pos (by omega)]
  have e3 : dif u 1 0 = u - 1 := by unfold dif; unfold Wd at hu; omega
  have e4 : bor u 1 0 = 0 := by unfold bor; rw [if_neg (by omega)]
  have hD0 : (D == 0) = false := by unfold Wd at hl; simp; omega
  have h00 : Wd 0 := by unfold Wd; omega
  have h01 : Wd 1 := by unfold Wd; omega
  have hen := subVV_enters
  rw [← hD]
  clear hb hD
  by_cases h1 : u = 1
  · rw [if_pos h1] at hn
    subst hn h1
    have e5 : dif 1 1 0 = 0 := e3
    go_enter Try.func20, Try.ntmps20
    go_wp2_with (first | (go_at_call 32; fail) | (go_at_call 33; fail) | (go_at_call 30; fail) | go_in)
    go_region_held3 (fun _ => True) (go_keep) (first | (go_at_call 13; refine (subVV1 b b yb _ _ _ 0 l h00 hl (.int .u64 0) _ ?_ ?_ ?_ ?_).mono ?_; (go_simp); (go_simp); (go_simp); (go_simp); rintro e w' ⟨rfl, k, rfl⟩))
    go_wp2_with (first | (go_at_call 33; fail) | (go_at_call 30; fail) | go_in)
    go_region_held3 (fun _ => True) (go_keep) (first | (go_at_call 33; refine (subVW_same b _ _ 1 1 h01 h01 e4 _ ?_ ?_).mono ?_; (go_simp); (go_simp); rintro e w' ⟨rfl, k, rfl⟩))
    go_wp2_with (first | (go_at_call 30; refine (norm21 b 7 D _ (by go_simp) (by go_simp) hD0 (by decide) (by decide)).mono ?_; rintro e w' ⟨rfl, rfl⟩) | go_in)
    go_ret
    exact ⟨rfl, _, congrArg (fun x : World => x.drewN _) (row2 w b _ _ _ _ v2 v3 v4 v5 v6 H.out)⟩
  · rw [if_neg h1] at hn
    subst hn
    have h10 : (u - 1 == 0) = false := by simp; omega
    go_enter Try.func20, Try.ntmps20
    go_wp2_with (first | (go_at_call 32; fail) | (go_at_call 33; fail) | (go_at_call 30; fail) | go_in)
    go_region_held3 (fun _ => True) (go_keep) (first | (go_at_call 13; refine (subVV1 b b yb _ _ _ 0 l h00 hl (.int .u64 0) _ ?_ ?_ ?_ ?_).mono ?_; (go_simp); (go_simp); (go_simp); (go_simp); rintro e w' ⟨rfl, k, rfl⟩))
    go_wp2_with (first | (go_at_call 33; fail) | (go_at_call 30; fail) | go_in)
    go_region_held3 (fun _ => True) (go_keep) (first | (go_at_call 33; refine (subVW_same b _ _ u 1 hu h01 e4 _ ?_ ?_).mono ?_; (go_simp); (go_simp); rintro e w' ⟨rfl, k, rfl⟩))
    go_wp2_with (first | (go_at_call 30; refine (norm22 b 7 (u - 1) _ (by go_simp) h10 (by decide) (by decide)).mono ?_; rintro e w' ⟨rfl, rfl⟩) | go_in)
    go_ret
    exact ⟨rfl, _, congrArg (fun x : World => x.drewN _) (row2 w b _ _ _ _ v2 v3 v4 v5 v6 H.out)⟩

set_option maxHeartbeats 2000000 in
/-- [x0] - [y0] = [1]. -/
theorem subf_11 (bx yb cx cy : Nat) (x0 y0 : Int) (hx : Wd x0) (hy : Wd y0) (h1 : x0 = y0 + 1) (w : World) (hbx : bx < w.heap.size) (hby : yb < w.heap.size) (kx : (1 : Int) ≤ (cx : Int)) (ky : (1 : Int) ≤ (cy : Int))
    (cx0 : w.cell? ⟨bx, 0, none⟩ = some (.int .u64 x0)) (cy0 : w.cell? ⟨yb, 0, none⟩ = some (.int .u64 y0)) :
    Calls Try.prog 20 #[.slice none 0 0, .slice (some ⟨bx, 0, none⟩) 1 cx, .slice (some ⟨yb, 0, none⟩) 1 cy] w fun e w' => e = .returned (.slice (some ⟨w.heap.size, 0, none⟩) 1 1) ∧
      ∃ k, w' = (w.alloc (.cells #[.int .u64 1] 47)).drewN k := by
  have e1 : dif x0 y0 0 = 1 := by unfold dif; rw [h1]; omega
  have e2 : bor x0 y0 0 = 0 := by unfold bor; rw [if_neg (by omega)]
  have hen := subVV_enters
  clear h1
  go_enter Try.func20, Try.ntmps20
  go_wp2_with (first | (go_at_call 32; fail) | (go_at_call 33; fail) | (go_at_call 30; fail) | go_in)
  go_region_held3 (fun _ => True) (go_keep) (first | (go_at_call 13; refine (subVV1 w.heap.size bx yb _ _ _ x0 y0 hx hy (.int .u64 0) _ ?_ ?_ ?_ ?_).mono ?_; (go_simp); (go_simp); (go_simp); (go_simp); rintro e w' ⟨rfl, k, rfl⟩))
  go_wp2_with (first | (go_at_call 30; refine (norm11 w.heap.size 1 1 _ (by go_simp) (by decide) (by decide) (by decide)).mono ?_; rintro e w' ⟨rfl, rfl⟩) | go_in)
  go_ret
  exact ⟨rfl, _, rfl⟩

set_option maxHeartbeats 2000000 in
/-- [x0, x1] - [y0, y1] = [1]. -/
theorem subf_22 (bx yb : Nat) (x0 y0 x1 y1 : Int) (hx : Wd x0) (hy : Wd y0) (hx1 : Wd x1) (hy1 : Wd y1) (h1 : two x0 x1 = two y0 y1 + 1) (w : World) (hbx : bx < w.heap.size) (hby : yb < w.heap.size)
    (cx0 : w.cell? ⟨bx, 0, none⟩ = some (.int .u64 x0)) (cy0 : w.cell? ⟨yb, 0, none⟩ = some (.int .u64 y0)) (cx1 : w.cell? ⟨bx, 1, none⟩ = some (.int .u64 x1)) (cy1 : w.cell? ⟨yb, 1, none⟩ = some (.int .u64 y1)) :
    Calls Try.prog 20 #[.slice none 0 0, .slice (some ⟨bx, 0, none⟩) 2 7, .slice (some ⟨yb, 0, none⟩) 2 7] w fun e w' => e = .returned (.slice (some ⟨w.heap.size, 0, none⟩) 1 6) ∧
      ∃ k, w' = (w.alloc (.cells #[.int .u64 1, .int .u64 0, .int .u64 0, .int .u64 0, .int .u64 0, .int .u64 0] 47)).drewN k := by
  have e1 : dif x0 y0 0 = 1 := by unfold dif; unfold two at h1; unfold Wd at *; omega
  have e2 : dif x1 y1 (bor x0 y0 0) = 0 := by unfold dif bor; unfold two at h1; unfold Wd at *; split <;> omega
  have e3 : bor x1 y1 (bor x0 y0 0) = 0 := by unfold bor; unfold two at h1; unfold Wd at *; split <;> split <;> omega
  have hen := subVV_enters
  clear h1
  go_enter Try.func20, Try.ntmps20
  go_wp2_with (first | (go_at_call 32; fail) | (go_at_call 33; fail) | (go_at_call 30; fail) | go_in)
  go_region_held3 (fun _ => True) (go_keep) (first | (go_at_call 13; refine (subVV2 w.heap.size bx yb _ _ _ x0 y0 x1 y1 hx hy hx1 hy1 (.int .u64 0) (.int .u64 0) _ ?_ ?_ ?_ ?_ ?_ ?_ ?_ ?_).mono ?_; (go_simp); (go_simp); (go_simp); (go_simp); (go_simp); (go_simp); (go_simp); (go_simp); rintro e w' ⟨rfl, k, rfl⟩))
  go_wp2_with (first | (go_at_call 30; refine (norm21 w.heap.size 6 1 _ (by go_simp) (by go_simp) (by decide) (by decide) (by decide)).mono ?_; rintro e w' ⟨rfl, rfl⟩) | go_in)
  go_ret
  exact ⟨rfl, _, rfl⟩

set_option maxHeartbeats 2000000 in
/-- [0, 1] - [2 ^ 64 - 1] = [1]. -/
theorem subf_21 (bx yb cy : Nat) (Cx : Array Value) (x0 y0 x1 : Int) (hx : Wd x0) (hy : Wd y0) (hx1 : Wd x1) (h1 : two x0 x1 = y0 + 1) (w : World) (hbx : bx < w.heap.size) (hby : yb < w.heap.size) (ky : (1 : Int) ≤ (cy : Int))
    (hxb : w.heap[bx]? = some (.cells Cx 47 (0, 0)))
    (cx0 : w.cell? ⟨bx, 0, none⟩ = some (.int .u64 x0)) (cy0 : w.cell? ⟨yb, 0, none⟩ = some (.int .u64 y0)) (cx1 : w.cell? ⟨bx, 1, none⟩ = some (.int .u64 x1)) :
    Calls Try.prog 20 #[.slice none 0 0, .slice (some ⟨bx, 0, none⟩) 2 7, .slice (some ⟨yb, 0, none⟩) 1 cy] w fun e w' => e = .returned (.slice (some ⟨w.heap.size, 0, none⟩) 1 6) ∧
      ∃ k, w' = (w.alloc (.cells #[.int .u64 1, .int .u64 0, .int .u64 0, .int .u64 0, .int .u64 0, .int .u64 0] 47)).drewN k := by
  have e1 : dif x0 y0 0 = 1 := by unfold dif; unfold two at h1; unfold Wd at *; omega
  obtain ⟨B, hB⟩ : ∃ B, bor x0 y0 0 = B := ⟨_, rfl⟩
  have hBw : Wd B := by rw [← hB]; have := bor_bd x0 y0 0; unfold Wd; omega
  have e2 : dif x1 B 0 = 0 := by rw [← hB]; unfold dif bor; unfold two at h1; unfold Wd at *; split <;> omega
  have e3 : bor x1 B 0 = 0 := by rw [← hB]; unfold bor; unfold two at h1; unfold Wd at *; split <;> split <;> omega
  have hen := subVV_enters
  have hneb : w.heap.size ≠ bx := by omega
  have HO : Hid (∀ o : Obj, (w.alloc o).heap[bx]? = w.heap[bx]?) := fun o => (World.grownBy_alloc w o none).block bx hbx (by simp)
  have HX : Hid (w.heap[bx]? = some (.cells Cx 47 (0, 0))) := hxb
  clear h1 hxb
  go_enter Try.func20, Try.ntmps20
  go_wp2_with (first | (go_at_call 32; fail) | (go_at_call 33; fail) | (go_at_call 30; fail) | go_in)
  go_region_held3 (fun _ => True) (go_keep) (first | (go_at_call 13; refine (subVV1 w.heap.size bx yb _ _ _ x0 y0 hx hy (.int .u64 0) _ ?_ ?_ ?_ ?_).mono ?_; (go_simp); (go_simp); (go_simp); (go_simp); rintro e w' ⟨rfl, k, rfl⟩))
  go_wp2_with (first | (go_at_call 33; fail) | (go_at_call 30; fail) | go_in)
  go_region_held3 (fun _ => True) (go_keep) (first | (go_at_call 33; refine (subVW_other w.heap.size bx #[.int .u64 1, .int .u64 0, .int .u64 0, .int .u64 0, .int .u64 0, .int .u64 0] Cx x1 B hx1 hBw e3 hneb (.int .u64 0) _ ?_ ?_ ?_ ?_ ?_).mono ?_; (exact heap_alloc_new w _); (exact (HO.out _).trans HX.out); (go_simp); (go_simp); (go_simp); rintro e w' ⟨rfl, k, rfl⟩))
  go_wp2_with (first | (go_at_call 30; refine (norm21 w.heap.size 6 1 _ (by go_simp) (by go_simp) (by decide) (by decide) (by decide)).mono ?_; rintro e w' ⟨rfl, rfl⟩) | go_in)
  go_ret
  exact ⟨rfl, _, rfl⟩

end Go.Proofs.Qxb6605800a.Walks
