/-
  (nat).lsh, set, setUint64, add, sub at the lengths that this law meets, by their contracts.
-/
import Derived.Test.Qxb6605800aNorm
import Derived.Deep.RegionHeld3
namespace Go.Proofs.Qxb6605800a.Walks
open Go.ChangeShapes Go.WideShapes Go.ChangeAt Go.RowKit

abbrev U (n : Int) : Value := .int .u64 n

theorem mk1 (w : World) : (Instr.makeSlice 30 (.int .i64 1) (.int .i64 1)).run Try.prog w = .ok (.slice (some ⟨w.heap.size, 0, none⟩) 1 1) (w.alloc (.cells #[.int .u64 0] 47)) := by kernel_rfl
theorem mk2 (w : World) : (Instr.makeSlice 30 (.int .i64 2) (.int .i64 6)).run Try.prog w = .ok (.slice (some ⟨w.heap.size, 0, none⟩) 2 6) (w.alloc (.cells #[.int .u64 0, .int .u64 0, .int .u64 0, .int .u64 0, .int .u64 0, .int .u64 0] 47)) := by kernel_rfl
theorem mk3 (w : World) : (Instr.makeSlice 30 (.int .i64 3) (.int .i64 7)).run Try.prog w = .ok (.slice (some ⟨w.heap.size, 0, none⟩) 3 7) (w.alloc (.cells #[.int .u64 0, .int .u64 0, .int .u64 0, .int .u64 0, .int .u64 0, .int .u64 0, .int .u64 0] 47)) := by kernel_rfl

attribute [local go_sem] setCell_drewN alloc_drewN mk1 mk2 mk3

set_option maxHeartbeats 1000000 in
theorem lsh_nil (w : World) :
    Calls Try.prog 35 #[.slice none 0 0, .slice none 0 0, .int .u64 64] w fun e w' => e = .returned (.slice none 0 0) ∧ w' = w := by
  go_enter Try.func35, Try.ntmps35
  go_wp2
  go_ret
  exact ⟨rfl, rfl⟩

theorem copy_lsh (b : Nat) (u : Int) (w : World) (hb : b < w.heap.size) (c0 : w.cell? ⟨b, 0, none⟩ = some (.int .u64 u)) :
    (Builtin.copy_ #[30, 30] 3 #[.slice (some ⟨w.heap.size, 1, none⟩) 1 6, .slice (some ⟨b, 0, none⟩) 1 1]).run Try.prog (w.alloc (.cells #[.int .u64 0, .int .u64 0, .int .u64 0, .int .u64 0, .int .u64 0, .int .u64 0, .int .u64 0] 47)) =
      .ok (.int .i64 1) (w.alloc (.cells #[.int .u64 0, .int .u64 u, .int .u64 0, .int .u64 0, .int .u64 0, .int .u64 0, .int .u64 0] 47)) := by
  rw [copy1 w.heap.size 1 b 6 1 (.int .u64 0) u _ (by go_simp) (by go_simp) (by go_simp), World.setCell_alloc_at _ _ _ _ _ rfl]
  rfl
theorem clear_lsh (u : Int) (w : World) :
    (Builtin.clear_ #[30] 0 #[.slice (some ⟨w.heap.size, 0, none⟩) 1 7]).run Try.prog (w.alloc (.cells #[.int .u64 0, .int .u64 u, .int .u64 0, .int .u64 0, .int .u64 0, .int .u64 0, .int .u64 0] 47)) =
      .ok (.tuple #[]) (w.alloc (.cells #[.int .u64 0, .int .u64 u, .int .u64 0, .int .u64 0, .int .u64 0, .int .u64 0, .int .u64 0] 47)) := by
  rw [clear1 w.heap.size 7 (.int .u64 0) _ (by go_simp) (by go_simp), World.setCell_alloc_at _ _ _ _ _ rfl]
  rfl

set_option maxHeartbeats 1000000 in
theorem lsh_one (b : Nat) (u : Int) (w : World) (hb : b < w.heap.size) (c0 : w.cell? ⟨b, 0, none⟩ = some (.int .u64 u)) (hu : (u == 0) = false) :
    Calls Try.prog 35 #[.slice (some ⟨b, 0, none⟩) 1 1, .slice (some ⟨b, 0, none⟩) 1 1, .int .u64 64] w fun e w' =>
      e = .returned (.slice (some ⟨w.heap.size, 0, none⟩) 2 7) ∧ w' = w.alloc (.cells #[.int .u64 0, .int .u64 u, .int .u64 0, .int .u64 0, .int .u64 0, .int .u64 0, .int .u64 0] 47) := by
  have h1 := copy_lsh b u w hb c0
  have h2 := clear_lsh u w
  go_enter Try.func35, Try.ntmps35
  go_wp2_with (first | (go_at_call 30; refine (norm32 w.heap.size 7 u _ (by go_simp) (by go_simp) hu (by decide) (by decide)).mono ?_; rintro e w' ⟨rfl, rfl⟩) | go_in)
  go_ret
  exact ⟨rfl, rfl⟩

theorem copy_new (b c : Nat) (u : Int) (w : World) (hb : b < w.heap.size) (c0 : w.cell? ⟨b, 0, none⟩ = some (.int .u64 u)) :
    (Builtin.copy_ #[30, 30] 3 #[.slice (some ⟨w.heap.size, 0, none⟩) 1 1, .slice (some ⟨b, 0, none⟩) 1 c]).run Try.prog (w.alloc (.cells #[.int .u64 0] 47)) =
      .ok (.int .i64 1) (w.alloc (.cells #[.int .u64 u] 47)) := by
  rw [copy1 w.heap.size 0 b 1 c (.int .u64 0) u _ (by go_simp) (by go_simp) (by go_simp), World.setCell_alloc_at _ _ _ _ _ rfl]
  rfl

set_option maxHeartbeats 1000000 in
theorem set_new (b c : Nat) (u : Int) (w : World) (hb : b < w.heap.size) (c0 : w.cell? ⟨b, 0, none⟩ = some (.int .u64 u)) :
    Calls Try.prog 26 #[.slice none 0 0, .slice (some ⟨b, 0, none⟩) 1 c] w fun e w' =>
      e = .returned (.slice (some ⟨w.heap.size, 0, none⟩) 1 1) ∧ w' = w.alloc (.cells #[.int .u64 u] 47) := by
  have h1 := copy_new b c u w hb c0
  go_enter Try.func26, Try.ntmps26
  go_wp2
  go_ret
  exact ⟨rfl, rfl⟩

/-- A store of what is there. -/
theorem setCell_self (w : World) (b o : Nat) (C : Array Value) (t : TypeId) (fr : Nat × Nat) (v : Value) (hb : w.heap[b]? = some (.cells C t fr)) (hv : C[o]? = some v) : w.setCell ⟨b, o, none⟩ v = w := by
  have e : C.setIfInBounds o v = C := by
    apply Array.ext_getElem?
    intro i
    rw [Array.getElem?_setIfInBounds]
    split
    · rename_i h; subst h
      split
      · exact hv.symm
      · rename_i h2; rw [Array.getElem?_eq_none (by omega)]
    · rfl
  rw [setCell_eq_setRow w b o C t fr v hb, e, setRow_self w b C t fr hb]

set_option maxHeartbeats 1000000 in
theorem set_self (b : Nat) (u0 u1 : Int) (v2 v3 v4 v5 v6 : Value) (w : World) (hb : w.heap[b]? = some (.cells #[.int .u64 u0, .int .u64 u1, v2, v3, v4, v5, v6] 47 (0, 0))) :
    Calls Try.prog 26 #[.slice (some ⟨b, 0, none⟩) 2 7, .slice (some ⟨b, 0, none⟩) 2 7] w fun e w' => e = .returned (.slice (some ⟨b, 0, none⟩) 2 7) ∧ w' = w := by
  have c0 : w.cell? ⟨b, 0, none⟩ = some (.int .u64 u0) := by simp [World.cell?, hb]
  have c1 : w.cell? ⟨b, 1, none⟩ = some (.int .u64 u1) := by simp [World.cell?, hb]
  have f0 : w.frozen? ⟨b, 0, none⟩ = false := by simp [World.frozen?, hb]
  have f1 : w.frozen? ⟨b, 1, none⟩ = false := by simp [World.frozen?, hb]
  have h1 := copy2 b 7 7 u0 u1 w c0 c1 f0 f1
  rw [setCell_self w b 0 _ 47 (0, 0) (.int .u64 u0) hb rfl, setCell_self w b 1 _ 47 (0, 0) (.int .u64 u1) hb rfl] at h1
  clear hb
  go_enter Try.func26, Try.ntmps26
  go_wp2
  go_ret
  exact ⟨rfl, rfl⟩

set_option maxHeartbeats 1000000 in
theorem su_zero (w : World) : Calls Try.prog 36 #[.slice none 0 0, .int .u64 0] w fun e w' => e = .returned (.slice none 0 0) ∧ w' = w := by
  go_enter Try.func36, Try.ntmps36
  go_wp2
  go_ret
  exact ⟨rfl, rfl⟩

set_option maxHeartbeats 1000000 in
theorem su_one (x : Int) (hx : Wd x) (h0 : (x == 0) = false) (w : World) : Calls Try.prog 36 #[.slice none 0 0, .int .u64 x] w fun e w' =>
    e = .returned (.slice (some ⟨w.heap.size, 0, none⟩) 1 1) ∧ w' = w.alloc (.cells #[.int .u64 x] 47) := by
  obtain ⟨x0, x1⟩ := hx
  go_enter Try.func36, Try.ntmps36
  go_wp2
  go_ret
  exact ⟨rfl, rfl⟩

theorem row_setCell (w : World) (b i : Nat) (C D : Array Value) (t : TypeId) (fr : Nat × Nat) (v : Value) (hb : w.heap[b]? = some (.cells D t fr)) : (w.setRow b C).setCell ⟨b, i, none⟩ v = w.setRow b (C.setIfInBounds i v) := by
  rw [setCell_eq_setRow _ b i C t fr v (setRow_heap w b D C t fr hb), setRow_setRow]

theorem row3 (w : World) (b : Nat) (x0 x1 x2 v0 v1 v2 v3 v4 v5 v6 : Value) (hb : w.heap[b]? = some (.cells #[v0, v1, v2, v3, v4, v5, v6] 47 (0, 0))) :
    ((w.setCell ⟨b, 0, none⟩ x0).setCell ⟨b, 1, none⟩ x1).setCell ⟨b, 2, none⟩ x2 = w.setRow b #[x0, x1, x2, v3, v4, v5, v6] := by
  rw [setCell_eq_setRow w b 0 _ 47 (0, 0) x0 hb, row_setCell w b 1 _ _ 47 (0, 0) x1 hb, row_setCell w b 2 _ _ 47 (0, 0) x2 hb]
  rfl
theorem row2 (w : World) (b : Nat) (x0 x1 v0 v1 v2 v3 v4 v5 v6 : Value) (hb : w.heap[b]? = some (.cells #[v0, v1, v2, v3, v4, v5, v6] 47 (0, 0))) :
    (w.setCell ⟨b, 0, none⟩ x0).setCell ⟨b, 1, none⟩ x1 = w.setRow b #[x0, x1, v2, v3, v4, v5, v6] := by
  rw [setCell_eq_setRow w b 0 _ 47 (0, 0) x0 hb, row_setCell w b 1 _ _ 47 (0, 0) x1 hb]
  rfl

/-! ### add -/
set_option maxHeartbeats 1000000 in
theorem add_00 (w : World) : Calls Try.prog 19 #[.slice none 0 0, .slice none 0 0, .slice none 0 0] w fun e w' => e = .returned (.slice none 0 0) ∧ w' = w := by
  go_enter Try.func19, Try.ntmps19
  go_wp2
  go_ret
  exact ⟨rfl, rfl⟩

set_option maxHeartbeats 1000000 in
theorem add_10 (b c : Nat) (a : Option Addr) (ca : Nat) (u : Int) (w : World) (hb : b < w.heap.size) (c0 : w.cell? ⟨b, 0, none⟩ = some (.int .u64 u)) :
    Calls Try.prog 19 #[.slice none 0 0, .slice (some ⟨b, 0, none⟩) 1 c, .slice a 0 ca] w fun e w' => e = .returned (.slice (some ⟨w.heap.size, 0, none⟩) 1 1) ∧ w' = w.alloc (.cells #[.int .u64 u] 47) := by
  go_enter Try.func19, Try.ntmps19
  go_wp2_with (go_at_call 26; refine (set_new b c u _ hb c0).mono ?_; rintro e w' ⟨rfl, rfl⟩)
  go_ret
  exact ⟨rfl, rfl⟩

set_option maxHeartbeats 1000000 in
theorem add_01 (b c : Nat) (a : Option Addr) (ca : Nat) (u : Int) (w : World) (hb : b < w.heap.size) (c0 : w.cell? ⟨b, 0, none⟩ = some (.int .u64 u)) :
    Calls Try.prog 19 #[.slice none 0 0, .slice a 0 ca, .slice (some ⟨b, 0, none⟩) 1 c] w fun e w' => e = .returned (.slice (some ⟨w.heap.size, 0, none⟩) 1 1) ∧ w' = w.alloc (.cells #[.int .u64 u] 47) := by
  go_enter Try.func19, Try.ntmps19
  go_wp2_with (go_at_call 19; refine (add_10 b c a ca u _ hb c0).mono ?_; rintro e w' ⟨rfl, rfl⟩)
  go_ret
  exact ⟨rfl, rfl⟩

set_option maxHeartbeats 1000000 in
theorem add_20 (b : Nat) (a : Option Addr) (ca : Nat) (u0 u1 : Int) (v2 v3 v4 v5 v6 : Value) (w : World) (hb : w.heap[b]? = some (.cells #[.int .u64 u0, .int .u64 u1, v2, v3, v4, v5, v6] 47 (0, 0))) :
    Calls Try.prog 19 #[.slice (some ⟨b, 0, none⟩) 2 7, .slice (some ⟨b, 0, none⟩) 2 7, .slice a 0 ca] w fun e w' => e = .returned (.slice (some ⟨b, 0, none⟩) 2 7) ∧ w' = w := by
  have H : Hid (w.heap[b]? = some (.cells #[.int .u64 u0, .int .u64 u1, v2, v3, v4, v5, v6] 47 (0, 0))) := hb
  clear hb
  go_enter Try.func19, Try.ntmps19
  go_wp2_with (go_at_call 26; refine (set_self b u0 u1 v2 v3 v4 v5 v6 _ H.out).mono ?_; rintro e w' ⟨rfl, rfl⟩)
  go_ret
  exact ⟨rfl, rfl⟩

set_option maxHeartbeats 2000000 in
theorem add_21 (b yb : Nat) (u l : Int) (hu : Wd u) (hl : Wd l) (h0 : (u == 0) = false) (v2 v3 v4 v5 v6 : Value) (w : World) (hb : w.heap[b]? = some (.cells #[.int .u64 0, .int .u64 u, v2, v3, v4, v5, v6] 47 (0, 0)))
    (cy0 : w.cell? ⟨yb, 0, none⟩ = some (.int .u64 l)) :
    Calls Try.prog 19 #[.slice (some ⟨b, 0, none⟩) 2 7, .slice (some ⟨b, 0, none⟩) 2 7, .slice (some ⟨yb, 0, none⟩) 1 1] w fun e w' => e = .returned (.slice (some ⟨b, 0, none⟩) 2 7) ∧
      ∃ k, w' = (w.setRow b #[.int .u64 l, .int .u64 u, .int .u64 0, v3, v4, v5, v6]).drewN k := by
  have c0 : w.cell? ⟨b, 0, none⟩ = some (.int .u64 0) := by simp [World.cell?, hb]
  have c1 : w.cell? ⟨b, 1, none⟩ = some (.int .u64 u) := by simp [World.cell?, hb]
  have c2 : w.cell? ⟨b, 2, none⟩ = some v2 := by simp [World.cell?, hb]
  have f0 : w.frozen? ⟨b, 0, none⟩ = false := by simp [World.frozen?, hb]
  have f1 : w.frozen? ⟨b, 1, none⟩ = false := by simp [World.frozen?, hb]
  have f2 : w.frozen? ⟨b, 2, none⟩ = false := by simp [World.frozen?, hb]
  have H : Hid (w.heap[b]? = some (.cells #[.int .u64 0, .int .u64 u, v2, v3, v4, v5, v6] 47 (0, 0))) := hb
  have e1 : adw 0 l 0 = l := by unfold adw; unfold Wd at hl; omega
  have e2 : car 0 l 0 = 0 := by unfold car; unfold Wd at hl; omega
  have h00 : Wd 0 := by unfold Wd; omega
  have hen := addVV_enters
  clear hb
  go_enter Try.func19, Try.ntmps19
  go_wp2_with (first | (go_at_call 28; fail) | (go_at_call 29; fail) | (go_at_call 30; fail) | go_in)
  go_region_held3 (fun _ => True) (go_keep) (first | (go_at_call 12; refine (addVV1 b b yb _ _ _ 0 l h00 hl (.int .u64 0) _ ?_ ?_ ?_ ?_).mono ?_; (go_simp); (go_simp); (go_simp); (go_simp); rintro e w' ⟨rfl, k, rfl⟩))
  go_wp2_with (first | (go_at_call 28; fail) | (go_at_call 29; fail) | (go_at_call 30; fail) | go_in)
  go_region_held3 (fun _ => True) (go_keep) (first | (go_at_call 29; refine (addVW_same b _ _ u hu _ ?_ ?_).mono ?_; (go_simp); (go_simp); rintro e w' ⟨rfl, k, rfl⟩))
  go_wp2_with (first | (go_at_call 30; refine (norm32 b 7 u _ (by go_simp) (by go_simp) h0 (by decide) (by decide)).mono ?_; rintro e w' ⟨rfl, rfl⟩) | go_in)
  go_ret
  exact ⟨rfl, _, congrArg (fun x : World => x.drewN _) (row3 w b _ _ _ _ _ v2 v3 v4 v5 v6 H.out)⟩

end Go.Proofs.Qxb6605800a.Walks
