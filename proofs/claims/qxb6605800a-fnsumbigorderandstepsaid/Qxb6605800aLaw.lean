/-
  FnSumBigOrderAndStep by its callees' contracts: it returns true.
-/
import Derived.Test.Qxb6605800aSum
import Derived.Test.Qxb6605800aSub
namespace Go.Proofs.Qxb6605800a.Walks
open Go.ChangeShapes Go.WideShapes Go.ChangeAt Go.RowKit

theorem cmp128 (h1 l1 h2 l2 : Int) (a1 : Wd l1) (a2 : Wd l2) (w : World) :
    Calls Try.prog 7 #[.int .i64 h1, .int .u64 l1, .int .i64 h2, .int .u64 l2] w fun e w' => e = .returned (.int .i64 (sg (two l1 h1 - two l2 h2))) ∧ w' = w := by
  unfold Wd at a1 a2
  rcases (show h1 < h2 ∨ h2 < h1 ∨ h1 = h2 from by omega) with h | h | h
  · rw [sg_neg (by unfold two; omega)]
    clear a1 a2
    go_enter Try.func7, Try.ntmps7
    go_wp2
    go_ret
    exact ⟨rfl, rfl⟩
  · rw [sg_pos (by unfold two; omega)]
    clear a1 a2
    go_enter Try.func7, Try.ntmps7
    go_wp2
    go_ret
    exact ⟨rfl, rfl⟩
  · subst h
    rcases (show l1 < l2 ∨ l2 < l1 ∨ l1 = l2 from by omega) with h | h | h
    · rw [sg_neg (by unfold two; omega)]
      clear a1 a2
      go_enter Try.func7, Try.ntmps7
      go_wp2
      go_ret
      exact ⟨rfl, rfl⟩
    · rw [sg_pos (by unfold two; omega)]
      clear a1 a2
      go_enter Try.func7, Try.ntmps7
      go_wp2
      go_ret
      exact ⟨rfl, rfl⟩
    · subst h
      rw [Int.sub_self, sg_zero]
      clear a1 a2
      go_enter Try.func7, Try.ntmps7
      go_wp2
      go_ret
      exact ⟨rfl, rfl⟩

theorem subS (q pc pa : Nat) (V : Int) (w : World) (hq : w.heap[q]? = some (.cells #[.bool false, .slice none 0 0] 32 (0, 0))) (hc : IntIs w pc (V + 1)) (ha : IntIs w pa V) :
    Calls Try.prog 8 #[.pointer (some ⟨q, 0, none⟩), .pointer (some ⟨pc, 0, none⟩), .pointer (some ⟨pa, 0, none⟩)] w fun e w' => e = .returned (.pointer (some ⟨q, 0, none⟩)) ∧
      ∃ r c, w'.cell? ⟨q, 0, none⟩ = some (.bool false) ∧ w'.cell? ⟨q, 1, none⟩ = some (.slice (some ⟨r, 0, none⟩) 1 c) ∧ w'.cell? ⟨r, 0, none⟩ = some (.int .u64 1) ∧ w.grownBy w' (some q) := by
  have hql := lt_of_blk hq
  refine (subI q pc pa V w hq hc ha).mono fun e w' ⟨he, c, C, k, h1, h2, hw⟩ => ⟨he, w.heap.size, c, ?_, ?_, ?_, ?_⟩
  · rw [hw, World.cell?_drewN, World.cell?_alloc_past _ _ _ (by simpa using hql), cell_setRow_same w q 0 _ _ 32 (0, 0) hq]; rfl
  · rw [hw, World.cell?_drewN, World.cell?_alloc_past _ _ _ (by simpa using hql), cell_setRow_same w q 1 _ _ 32 (0, 0) hq]; rfl
  · rw [hw, World.cell?_drewN, World.cell?_alloc_at _ _ _ _ (by simp)]; exact h2
  · rw [hw]
    refine ⟨rfl, rfl, rfl, by simp, fun i hi hne => ?_⟩
    show ((w.setRow q _).alloc _).heap[i]? = _
    rw [heap_past _ _ _ (by simpa using hi), setRow_other _ _ _ _ (fun h => hne (by rw [h]))]

/-- One sum made big. -/
theorem one_sum {w0 w : World} (hB : Below w0.heap.size w0 w) (hi lo : Int) (h1 : -9223372036854775808 ≤ hi) (h2 : hi ≤ 9223372036854775807) (hl : Wd lo) :
    Calls Try.prog 4 #[.pointer (some ⟨w.heap.size, 0, none⟩)] (w.alloc (.cells #[.int .i64 hi, .int .u64 lo] 39)) fun e w' => ∃ p, e = .returned (.pointer (some ⟨p, 0, none⟩)) ∧ IntIs w' p (two lo hi) ∧ Below w.heap.size w w' ∧ Below w0.heap.size w0 w' ∧ w.heap.size < p :=
  (zzbig w.heap.size hi lo h1 h2 hl _ (heap_at _ _ _ rfl)).mono fun e w' ⟨p, he, hI, hb, hp⟩ => by
    have hb2 : Below w.heap.size w w' := ((Below.refl _ w).alloc (Nat.le_refl _) _).trans (hb.mono (by simp))
    exact ⟨p, he, hI, hb2, hB.trans (hb2.mono hB.size), by simp at hp; omega⟩

set_option maxHeartbeats 800000 in
theorem law_top (a0 a1 a2 a3 : Int) (h1 : -9223372036854775808 ≤ a0) (h2 : a0 ≤ 9223372036854775807) (g1 : -9223372036854775808 ≤ a2) (g2 : a2 ≤ 9223372036854775807) (hl : Wd a1) (gl : Wd a3) (t0 : (a0 == 9223372036854775807) = true) (t1 : (a1 == 18446744073709551615) = true) (w : World) :
    Calls Try.prog 3 #[.int .i64 a0, .int .u64 a1, .int .i64 a2, .int .u64 a3] w fun e w' => e = .returned (.bool true) ∧ Below w.heap.size w w' := by
  go_enter Try.func3, Try.ntmps3
  go_wp2_with fail
  refine (zznew a0 a1 _).mono ?_
  rintro e w' ⟨rfl, rfl⟩
  go_wp2_with fail
  refine (one_sum (Below.refl w.heap.size w) a0 a1 h1 h2 hl).mono ?_
  rintro e w1 ⟨p1, rfl, I1, L1, B1, q1⟩
  go_wp2_with fail
  refine (zznew a2 a3 _).mono ?_
  rintro e w' ⟨rfl, rfl⟩
  go_wp2_with fail
  refine (one_sum B1 a2 a3 g1 g2 gl).mono ?_
  rintro e w2 ⟨p2, rfl, I2, L2, B2, q2⟩
  have hne : p1 ≠ p2 := by have := I1.lt; omega
  have I1 := I1.below L2
  go_wp2_with fail
  refine (cmpI p1 p2 _ _ _ I1 I2 hne).mono ?_
  rintro e w' ⟨rfl, k, rfl⟩
  go_wp2_with fail
  refine (cmp128 a0 a1 a2 a3 hl gl _).mono ?_
  rintro e w' ⟨rfl, rfl⟩
  go_wp2_with fail
  go_ret
  exact ⟨rfl, below_draws B2 _⟩

set_option maxHeartbeats 800000 in
theorem law_step_t (a0 a1 a2 a3 : Int) (h1 : -9223372036854775808 ≤ a0) (h2 : a0 ≤ 9223372036854775807) (g1 : -9223372036854775808 ≤ a2) (g2 : a2 ≤ 9223372036854775807) (hl : Wd a1) (gl : Wd a3) (hs : a1 ≤ 18446744073709551614) (h0 : 0 ≤ a1) (t0 : (a0 == 9223372036854775807) = true) (w : World) :
    Calls Try.prog 3 #[.int .i64 a0, .int .u64 a1, .int .i64 a2, .int .u64 a3] w fun e w' => e = .returned (.bool true) ∧ Below w.heap.size w w' := by
  have t1 : (a1 == 18446744073709551615) = false := by simp; omega
  have t2 : (a1 + 1 == 0) = false := by simp; omega
  have hn : Wd (a1 + 1) := by unfold Wd; omega
  have hv : two (a1 + 1) a0 = two a1 a0 + 1 := by unfold two; omega
  have HV : Hid (two (a1 + 1) a0 = two a1 a0 + 1) := hv
  clear hv
  go_enter Try.func3, Try.ntmps3
  go_wp2_with fail
  refine (zznew a0 a1 _).mono ?_
  rintro e w' ⟨rfl, rfl⟩
  go_wp2_with fail
  refine (one_sum (Below.refl w.heap.size w) a0 a1 h1 h2 hl).mono ?_
  rintro e w1 ⟨p1, rfl, I1, L1, B1, q1⟩
  go_wp2_with fail
  refine (zznew a2 a3 _).mono ?_
  rintro e w' ⟨rfl, rfl⟩
  go_wp2_with fail
  refine (one_sum B1 a2 a3 g1 g2 gl).mono ?_
  rintro e w2 ⟨p2, rfl, I2, L2, B2, q2⟩
  have hne : p1 ≠ p2 := by have := I1.lt; omega
  have J1 := I1.below L2
  clear I1 L1 L2 B1 q1 q2
  go_wp2_with fail
  refine (cmpI p1 p2 _ _ _ J1 I2 hne).mono ?_
  rintro e w' ⟨rfl, k, rfl⟩
  have K1 : IntIs (w2.drewN k) p1 (two a1 a0) := J1
  have B2' : Below w.heap.size w (w2.drewN k) := below_draws B2 k
  clear J1 I2 B2 hne
  generalize w2.drewN k = w3 at K1 B2' ⊢
  go_wp2_with fail
  refine (cmp128 a0 a1 a2 a3 hl gl _).mono ?_
  rintro e w' ⟨rfl, rfl⟩
  go_wp2_with fail
  refine (zznew a0 (a1 + 1) _).mono ?_
  rintro e w'' ⟨rfl, rfl⟩
  go_wp2_with fail
  refine (one_sum B2' a0 (a1 + 1) (by omega) (by omega) hn).mono ?_
  rintro e w4 ⟨p4, rfl, I4, L4, B4, q4⟩
  have J1 := K1.below L4
  rw [HV.out] at I4
  clear K1 L4 q4 B2'
  go_wp2_with fail
  have J4 : IntIs (w4.alloc (.cells #[.bool false, .slice none 0 0] 32)) p4 (two a1 a0 + 1) := I4.below ((Below.refl _ _).alloc (Nat.le_refl _) _)
  have J5 : IntIs (w4.alloc (.cells #[.bool false, .slice none 0 0] 32)) p1 (two a1 a0) := J1.below ((Below.refl _ _).alloc (Nat.le_refl _) _)
  refine (subS w4.heap.size p4 p1 (two a1 a0) _ (heap_at _ _ _ rfl) J4 J5).mono ?_
  rintro e w5 ⟨rfl, r, c, d0, d1, d2, hg⟩
  have B5 : Below w.heap.size w w5 := ((B4.alloc B4.size _).grown hg (Nat.le_trans B4.size (by simp)) (fun k hk => by injection hk with hk; rw [← hk]; exact B4.size))
  clear J1 I4 J4 J5 B4 hg
  go_wp2_with (first | (go_at_call 9; refine (isInt64_one _ r c _ d1 d2).mono ?_; rintro e w' ⟨rfl, rfl⟩) | (go_at_call 10; refine (int64_one _ r c _ d0 d1 d2).mono ?_; rintro e w' ⟨rfl, rfl⟩))
  go_ret
  exact ⟨rfl, B5⟩

set_option maxHeartbeats 800000 in
theorem law_step_f (a0 a1 a2 a3 : Int) (h1 : -9223372036854775808 ≤ a0) (h2 : a0 ≤ 9223372036854775807) (g1 : -9223372036854775808 ≤ a2) (g2 : a2 ≤ 9223372036854775807) (hl : Wd a1) (gl : Wd a3) (hs : a1 ≤ 18446744073709551614) (h0 : 0 ≤ a1) (t0 : (a0 == 9223372036854775807) = false) (w : World) :
    Calls Try.prog 3 #[.int .i64 a0, .int .u64 a1, .int .i64 a2, .int .u64 a3] w fun e w' => e = .returned (.bool true) ∧ Below w.heap.size w w' := by
  have t1 : (a1 == 18446744073709551615) = false := by simp; omega
  have t2 : (a1 + 1 == 0) = false := by simp; omega
  have hn : Wd (a1 + 1) := by unfold Wd; omega
  have hv : two (a1 + 1) a0 = two a1 a0 + 1 := by unfold two; omega
  have HV : Hid (two (a1 + 1) a0 = two a1 a0 + 1) := hv
  clear hv
  go_enter Try.func3, Try.ntmps3
  go_wp2_with fail
  refine (zznew a0 a1 _).mono ?_
  rintro e w' ⟨rfl, rfl⟩
  go_wp2_with fail
  refine (one_sum (Below.refl w.heap.size w) a0 a1 h1 h2 hl).mono ?_
  rintro e w1 ⟨p1, rfl, I1, L1, B1, q1⟩
  go_wp2_with fail
  refine (zznew a2 a3 _).mono ?_
  rintro e w' ⟨rfl, rfl⟩
  go_wp2_with fail
  refine (one_sum B1 a2 a3 g1 g2 gl).mono ?_
  rintro e w2 ⟨p2, rfl, I2, L2, B2, q2⟩
  have hne : p1 ≠ p2 := by have := I1.lt; omega
  have J1 := I1.below L2
  clear I1 L1 L2 B1 q1 q2
  go_wp2_with fail
  refine (cmpI p1 p2 _ _ _ J1 I2 hne).mono ?_
  rintro e w' ⟨rfl, k, rfl⟩
  have K1 : IntIs (w2.drewN k) p1 (two a1 a0) := J1
  have B2' : Below w.heap.size w (w2.drewN k) := below_draws B2 k
  clear J1 I2 B2 hne
  generalize w2.drewN k = w3 at K1 B2' ⊢
  go_wp2_with fail
  refine (cmp128 a0 a1 a2 a3 hl gl _).mono ?_
  rintro e w' ⟨rfl, rfl⟩
  go_wp2_with fail
  refine (zznew a0 (a1 + 1) _).mono ?_
  rintro e w'' ⟨rfl, rfl⟩
  go_wp2_with fail
  refine (one_sum B2' a0 (a1 + 1) (by omega) (by omega) hn).mono ?_
  rintro e w4 ⟨p4, rfl, I4, L4, B4, q4⟩
  have J1 := K1.below L4
  rw [HV.out] at I4
  clear K1 L4 q4 B2'
  go_wp2_with fail
  have J4 : IntIs (w4.alloc (.cells #[.bool false, .slice none 0 0] 32)) p4 (two a1 a0 + 1) := I4.below ((Below.refl _ _).alloc (Nat.le_refl _) _)
  have J5 : IntIs (w4.alloc (.cells #[.bool false, .slice none 0 0] 32)) p1 (two a1 a0) := J1.below ((Below.refl _ _).alloc (Nat.le_refl _) _)
  refine (subS w4.heap.size p4 p1 (two a1 a0) _ (heap_at _ _ _ rfl) J4 J5).mono ?_
  rintro e w5 ⟨rfl, r, c, d0, d1, d2, hg⟩
  have B5 : Below w.heap.size w w5 := ((B4.alloc B4.size _).grown hg (Nat.le_trans B4.size (by simp)) (fun k hk => by injection hk with hk; rw [← hk]; exact B4.size))
  clear J1 I4 J4 J5 B4 hg
  go_wp2_with (first | (go_at_call 9; refine (isInt64_one _ r c _ d1 d2).mono ?_; rintro e w' ⟨rfl, rfl⟩) | (go_at_call 10; refine (int64_one _ r c _ d0 d1 d2).mono ?_; rintro e w' ⟨rfl, rfl⟩))
  go_ret
  exact ⟨rfl, B5⟩

set_option maxHeartbeats 800000 in
theorem law_step_over (a0 a1 a2 a3 : Int) (h1 : -9223372036854775808 ≤ a0) (h2 : a0 ≤ 9223372036854775807) (h2s : a0 ≤ 9223372036854775806) (g1 : -9223372036854775808 ≤ a2) (g2 : a2 ≤ 9223372036854775807) (hl : Wd a1) (gl : Wd a3) (hs : a1 = 18446744073709551615) (w : World) :
    Calls Try.prog 3 #[.int .i64 a0, .int .u64 a1, .int .i64 a2, .int .u64 a3] w fun e w' => e = .returned (.bool true) ∧ Below w.heap.size w w' := by
  have t0 : (a0 == 9223372036854775807) = false := by simp; omega
  have hn : Wd 0 := by unfold Wd; omega
  have hv : two 0 (a0 + 1) = two a1 a0 + 1 := by unfold two; omega
  have HV : Hid (two 0 (a0 + 1) = two a1 a0 + 1) := hv
  have HA : Hid (IntKind.u64.wrap (a1 + 1) = 0) := by
    show IntKind.u64.wrap (a1 + 1) = 0
    rw [hs]; rfl
  have hz := HA.out
  clear hv hs HA
  go_enter Try.func3, Try.ntmps3
  go_wp2_with fail
  refine (zznew a0 a1 _).mono ?_
  rintro e w' ⟨rfl, rfl⟩
  go_wp2_with fail
  refine (one_sum (Below.refl w.heap.size w) a0 a1 h1 h2 hl).mono ?_
  rintro e w1 ⟨p1, rfl, I1, L1, B1, q1⟩
  go_wp2_with fail
  refine (zznew a2 a3 _).mono ?_
  rintro e w' ⟨rfl, rfl⟩
  go_wp2_with fail
  refine (one_sum B1 a2 a3 g1 g2 gl).mono ?_
  rintro e w2 ⟨p2, rfl, I2, L2, B2, q2⟩
  have hne : p1 ≠ p2 := by have := I1.lt; omega
  have J1 := I1.below L2
  clear I1 L1 L2 B1 q1 q2
  go_wp2_with fail
  refine (cmpI p1 p2 _ _ _ J1 I2 hne).mono ?_
  rintro e w' ⟨rfl, k, rfl⟩
  have K1 : IntIs (w2.drewN k) p1 (two a1 a0) := J1
  have B2' : Below w.heap.size w (w2.drewN k) := below_draws B2 k
  clear J1 I2 B2 hne
  generalize w2.drewN k = w3 at K1 B2' ⊢
  go_wp2_with fail
  refine (cmp128 a0 a1 a2 a3 hl gl _).mono ?_
  rintro e w' ⟨rfl, rfl⟩
  go_wp2_with fail
  refine (zznew (a0 + 1) 0 _).mono ?_
  rintro e w'' ⟨rfl, rfl⟩
  go_wp2_with fail
  refine (one_sum B2' (a0 + 1) 0 (by omega) (by omega) hn).mono ?_
  rintro e w4 ⟨p4, rfl, I4, L4, B4, q4⟩
  have J1 := K1.below L4
  rw [HV.out] at I4
  clear K1 L4 q4 B2'
  go_wp2_with fail
  have J4 : IntIs (w4.alloc (.cells #[.bool false, .slice none 0 0] 32)) p4 (two a1 a0 + 1) := I4.below ((Below.refl _ _).alloc (Nat.le_refl _) _)
  have J5 : IntIs (w4.alloc (.cells #[.bool false, .slice none 0 0] 32)) p1 (two a1 a0) := J1.below ((Below.refl _ _).alloc (Nat.le_refl _) _)
  refine (subS w4.heap.size p4 p1 (two a1 a0) _ (heap_at _ _ _ rfl) J4 J5).mono ?_
  rintro e w5 ⟨rfl, r, c, d0, d1, d2, hg⟩
  have B5 : Below w.heap.size w w5 := ((B4.alloc B4.size _).grown hg (Nat.le_trans B4.size (by simp)) (fun k hk => by injection hk with hk; rw [← hk]; exact B4.size))
  clear J1 I4 J4 J5 B4 hg
  go_wp2_with (first | (go_at_call 9; refine (isInt64_one _ r c _ d1 d2).mono ?_; rintro e w' ⟨rfl, rfl⟩) | (go_at_call 10; refine (int64_one _ r c _ d0 d1 d2).mono ?_; rintro e w' ⟨rfl, rfl⟩))
  go_ret
  exact ⟨rfl, B5⟩

theorem law_any (a0 a1 a2 a3 : Int) (h1 : -9223372036854775808 ≤ a0) (h2 : a0 ≤ 9223372036854775807) (g1 : -9223372036854775808 ≤ a2) (g2 : a2 ≤ 9223372036854775807) (hl : Wd a1) (gl : Wd a3) (w : World) :
    Calls Try.prog 3 #[.int .i64 a0, .int .u64 a1, .int .i64 a2, .int .u64 a3] w fun e w' => e = .returned (.bool true) ∧ Below w.heap.size w w' := by
  have l0 := hl.1
  have l1 := hl.2
  by_cases hs : a1 ≤ 18446744073709551614
  · cases t0 : (a0 == 9223372036854775807) with
    | true => exact law_step_t a0 a1 a2 a3 h1 h2 g1 g2 hl gl hs l0 t0 w
    | false => exact law_step_f a0 a1 a2 a3 h1 h2 g1 g2 hl gl hs l0 t0 w
  · by_cases h3 : a0 ≤ 9223372036854775806
    · exact law_step_over a0 a1 a2 a3 h1 h2 h3 g1 g2 hl gl (by omega) w
    · exact law_top a0 a1 a2 a3 h1 h2 g1 g2 hl gl (beq_iff_eq.2 (by omega)) (beq_iff_eq.2 (by omega)) w

end Go.Proofs.Qxb6605800a.Walks
