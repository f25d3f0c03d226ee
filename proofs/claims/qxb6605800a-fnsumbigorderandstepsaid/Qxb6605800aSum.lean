/-
  (*sum).big, its shim, and the shim that makes a sum, by their contracts, for every hi and lo.
-/
import Derived.Test.Qxb6605800aBigP
import Derived.Test.Qxb6605800aBigN
import Derived.Test.Qxb6605800aBigM
namespace Go.Proofs.Qxb6605800a.Walks
open Go.ChangeShapes Go.WideShapes Go.ChangeAt Go.RowKit

theorem big_any (s : Nat) (hi lo : Int) (h1 : -9223372036854775808 ≤ hi) (h2 : hi ≤ 9223372036854775807) (hl : Wd lo) (w : World) (hs : w.heap[s]? = some (.cells #[.int .i64 hi, .int .u64 lo] 39 (0, 0))) :
    Calls Try.prog 11 #[.pointer (some ⟨s, 0, none⟩)] w fun e w' => ∃ p, e = .returned (.pointer (some ⟨p, 0, none⟩)) ∧ IntIs w' p (two lo hi) ∧ Below w.heap.size w w' ∧ w.heap.size ≤ p := by
  have hl0 := hl.1
  rcases (show hi = 0 ∨ 1 ≤ hi ∨ hi ≤ -1 from by omega) with h | h | h
  · subst h
    rcases (show lo = 0 ∨ 1 ≤ lo from by omega) with h' | h'
    · subst h'
      exact big_zz s w hs
    · exact big_zl s lo hl h' w hs
  · rcases (show lo = 0 ∨ 1 ≤ lo from by omega) with h' | h'
    · subst h'
      exact big_pz s hi h h2 w hs
    · exact big_pp s hi lo h h2 hl h' w hs
  · obtain ⟨u, rfl⟩ : ∃ u, hi = -u := ⟨-hi, by omega⟩
    rcases (show lo = 0 ∨ 1 ≤ lo from by omega) with h' | h'
    · subst h'
      exact big_nz s u (by omega) (by omega) w hs
    · by_cases hu : 2 ≤ u
      · exact big_np s u lo (by omega) hu (by omega) hl h' w hs
      · exact big_nq s u lo (by omega) (by omega) hl h' w hs

theorem zzbig (s : Nat) (hi lo : Int) (h1 : -9223372036854775808 ≤ hi) (h2 : hi ≤ 9223372036854775807) (hl : Wd lo) (w : World) (hs : w.heap[s]? = some (.cells #[.int .i64 hi, .int .u64 lo] 39 (0, 0))) :
    Calls Try.prog 4 #[.pointer (some ⟨s, 0, none⟩)] w fun e w' => ∃ p, e = .returned (.pointer (some ⟨p, 0, none⟩)) ∧ IntIs w' p (two lo hi) ∧ Below w.heap.size w w' ∧ w.heap.size ≤ p := by
  have HB : Hid (Calls Try.prog 11 #[.pointer (some ⟨s, 0, none⟩)] w fun e w' => ∃ p, e = .returned (.pointer (some ⟨p, 0, none⟩)) ∧ IntIs w' p (two lo hi) ∧ Below w.heap.size w w' ∧ w.heap.size ≤ p) := big_any s hi lo h1 h2 hl w hs
  clear hs h1 h2 hl
  go_enter Try.func4, Try.ntmps4
  go_wp2_with fail
  refine HB.out.mono ?_
  rintro e w' ⟨p, rfl, hI, hB, hp⟩
  go_wp2
  go_ret
  exact ⟨p, rfl, hI, hB, hp⟩

theorem zznew (hi lo : Int) (w : World) :
    Calls Try.prog 5 #[.int .i64 hi, .int .u64 lo] w fun e w' => e = .returned (.pointer (some ⟨w.heap.size, 0, none⟩)) ∧ w' = w.alloc (.cells #[.int .i64 hi, .int .u64 lo] 39) := by
  go_enter Try.func5, Try.ntmps5
  go_wp2
  go_ret
  exact ⟨rfl, rfl⟩

end Go.Proofs.Qxb6605800a.Walks
