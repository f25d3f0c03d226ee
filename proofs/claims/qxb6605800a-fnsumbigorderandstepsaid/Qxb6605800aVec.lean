/-
  math/big's vector functions at lengths one and two, by their contracts.
-/
import Derived.Test.Qxb6605800aBits
import Derived.LoopN
import Derived.Deep.QuietTactic
import Derived.BigQuiet
import Derived.RegionTactic
import Derived.BigRegion
import Derived.LaidEqlPtr
import Derived.Lib.Builder
namespace Go.Proofs.Qxb6605800a.Walks
open Go.ChangeShapes Go.WideShapes Go.ChangeAt Go.RowKit

theorem setCell_drewN (w : World) (n : Nat) (a : Addr) (v : Value) : (w.drewN n).setCell a v = (w.setCell a v).drewN n := rfl
theorem alloc_drewN (w : World) (n : Nat) (o : Obj) : (w.drewN n).alloc o = (w.alloc o).drewN n := rfl
attribute [local go_sem] setCell_drewN alloc_drewN

/-- A callee that draws nothing, met behind draws. -/
theorem quiet_later {P : Program} {f : FuncId} {args : Array Value} {w : World} {k n : Nat} {v : Value}
    (h : Calls P f args (w.drewN (k + n)) fun e w' => e = .returned v ∧ w' = w.drewN (k + n)) : Calls P f args (w.drewN (k + n)) fun e w'' => e = .returned v ∧ ∃ m, w'' = w.drewN (k + m) :=
  h.mono fun _ _ ⟨he, hm⟩ => ⟨he, n, hm⟩

set_option maxHeartbeats 1000000 in
theorem subVV1 (bz bx yb cz cx cy : Nat) (x0 y0 : Int) (hx : Wd x0) (hy : Wd y0) (v0 : Value) (w : World)
    (cx0 : w.cell? ⟨bx, 0, none⟩ = some (.int .u64 x0)) (cy0 : w.cell? ⟨yb, 0, none⟩ = some (.int .u64 y0)) (cz0 : w.cell? ⟨bz, 0, none⟩ = some v0) (fz0 : w.frozen? ⟨bz, 0, none⟩ = false) :
    Calls Try.prog 13 #[.slice (some ⟨bz, 0, none⟩) 1 cz, .slice (some ⟨bx, 0, none⟩) 1 cx, .slice (some ⟨yb, 0, none⟩) 1 cy] w fun e w' =>
      e = .returned (.int .u64 (bor x0 y0 0)) ∧ ∃ k, w' = (w.setCell ⟨bz, 0, none⟩ (.int .u64 (dif x0 y0 0))).drewN k := by
  go_enter Try.func13, Try.ntmps13
  go_wp2
  refine wp_loop_rounds 2 ?_
  rw [rounds_succ]
  go_wp2
  go_quiet ((go_at_call 34; exact Calls.quiet_of_same (bitsSub _ _ _ hx hy (by decide) (by decide) _)))
  go_wp2
  rw [rounds_succ]
  go_wp2
  go_ret
  exact ⟨rfl, _, rfl⟩

theorem bor_bd (x y b : Int) : 0 ≤ bor x y b ∧ bor x y b ≤ 1 := by unfold bor; split <;> omega

set_option maxHeartbeats 1000000 in
theorem subVV2 (bz bx yb cz cx cy : Nat) (x0 y0 x1 y1 : Int) (hx : Wd x0) (hy : Wd y0) (hx1 : Wd x1) (hy1 : Wd y1) (v0 v1 : Value) (w : World)
    (cx0 : w.cell? ⟨bx, 0, none⟩ = some (.int .u64 x0)) (cy0 : w.cell? ⟨yb, 0, none⟩ = some (.int .u64 y0)) (cz0 : w.cell? ⟨bz, 0, none⟩ = some v0) (fz0 : w.frozen? ⟨bz, 0, none⟩ = false)
    (cx1 : w.cell? ⟨bx, 1, none⟩ = some (.int .u64 x1)) (cy1 : w.cell? ⟨yb, 1, none⟩ = some (.int .u64 y1)) (cz1 : w.cell? ⟨bz, 1, none⟩ = some v1) (fz1 : w.frozen? ⟨bz, 1, none⟩ = false) :
    Calls Try.prog 13 #[.slice (some ⟨bz, 0, none⟩) 2 cz, .slice (some ⟨bx, 0, none⟩) 2 cx, .slice (some ⟨yb, 0, none⟩) 2 cy] w fun e w' =>
      e = .returned (.int .u64 (bor x1 y1 (bor x0 y0 0))) ∧ ∃ k, w' = ((w.setCell ⟨bz, 0, none⟩ (.int .u64 (dif x0 y0 0))).setCell ⟨bz, 1, none⟩ (.int .u64 (dif x1 y1 (bor x0 y0 0)))).drewN k := by
  have hb := bor_bd x0 y0 0
  go_enter Try.func13, Try.ntmps13
  go_wp2
  refine wp_loop_rounds 3 ?_
  rw [rounds_succ]
  go_wp2
  go_quiet ((go_at_call 34; exact Calls.quiet_of_same (bitsSub _ _ _ hx hy (by decide) (by decide) _)))
  go_wp2
  rw [rounds_succ]
  go_wp2
  go_quiet ((go_at_call 34; first | exact Calls.quiet_of_same (bitsSub _ _ _ hx1 hy1 hb.1 hb.2 _) | exact quiet_later (bitsSub _ _ _ hx1 hy1 hb.1 hb.2 _)))
  go_wp2
  rw [rounds_succ]
  go_wp2
  go_ret
  exact ⟨rfl, _, rfl⟩

set_option maxHeartbeats 1000000 in
theorem addVV1 (bz bx yb cz cx cy : Nat) (x0 y0 : Int) (hx : Wd x0) (hy : Wd y0) (v0 : Value) (w : World)
    (cx0 : w.cell? ⟨bx, 0, none⟩ = some (.int .u64 x0)) (cy0 : w.cell? ⟨yb, 0, none⟩ = some (.int .u64 y0)) (cz0 : w.cell? ⟨bz, 0, none⟩ = some v0) (fz0 : w.frozen? ⟨bz, 0, none⟩ = false) :
    Calls Try.prog 12 #[.slice (some ⟨bz, 0, none⟩) 1 cz, .slice (some ⟨bx, 0, none⟩) 1 cx, .slice (some ⟨yb, 0, none⟩) 1 cy] w fun e w' =>
      e = .returned (.int .u64 (car x0 y0 0)) ∧ ∃ k, w' = (w.setCell ⟨bz, 0, none⟩ (.int .u64 (adw x0 y0 0))).drewN k := by
  go_enter Try.func12, Try.ntmps12
  go_wp2
  refine wp_loop_rounds 2 ?_
  rw [rounds_succ]
  go_wp2
  go_quiet ((go_at_call 31; exact Calls.quiet_of_same (bitsAdd _ _ _ hx hy (by decide) (by decide) _)))
  go_wp2
  rw [rounds_succ]
  go_wp2
  go_ret
  exact ⟨rfl, _, rfl⟩

theorem info47 : (Try.prog.info? 47).map (fun i => (i.zero, i.size, i.bytes)) = some (some (.int .u64 0), 1, 8) := by kernel_rfl

/-! ### the built-in copy and clear on words -/
theorem copy0 (bz bx : Nat) (w : World) : (Builtin.copy_ #[29, 29] 3 #[.slice (some ⟨bz, 2, none⟩) 0 4, .slice (some ⟨bx, 2, none⟩) 0 5]).run Try.prog w = .ok (.int .i64 0) w := by kernel_rfl
theorem copy1 (bz oz bx cz cx : Nat) (v0 : Value) (u : Int) (w : World) (cx0 : w.cell? ⟨bx, 0, none⟩ = some (.int .u64 u)) (cz0 : w.cell? ⟨bz, oz, none⟩ = some v0) (fz0 : w.frozen? ⟨bz, oz, none⟩ = false) :
    (Builtin.copy_ #[30, 30] 3 #[.slice (some ⟨bz, oz, none⟩) 1 cz, .slice (some ⟨bx, 0, none⟩) 1 cx]).run Try.prog w = .ok (.int .i64 1) (w.setCell ⟨bz, oz, none⟩ (.int .u64 u)) := by
  have h30 := Try.underlying30
  have h47 := Try.sizeOf47
  unfold Builtin.copy_
  go_simp
theorem copy2 (b cz cx : Nat) (u0 u1 : Int) (w : World) (c0 : w.cell? ⟨b, 0, none⟩ = some (.int .u64 u0)) (c1 : w.cell? ⟨b, 1, none⟩ = some (.int .u64 u1)) (f0 : w.frozen? ⟨b, 0, none⟩ = false) (f1 : w.frozen? ⟨b, 1, none⟩ = false) :
    (Builtin.copy_ #[30, 30] 3 #[.slice (some ⟨b, 0, none⟩) 2 cz, .slice (some ⟨b, 0, none⟩) 2 cx]).run Try.prog w = .ok (.int .i64 2) ((w.setCell ⟨b, 0, none⟩ (.int .u64 u0)).setCell ⟨b, 1, none⟩ (.int .u64 u1)) := by
  have h30 := Try.underlying30
  have h47 := Try.sizeOf47
  unfold Builtin.copy_
  go_simp
theorem clear1 (b c : Nat) (v0 : Value) (w : World) (cz0 : w.cell? ⟨b, 0, none⟩ = some v0) (fz0 : w.frozen? ⟨b, 0, none⟩ = false) :
    (Builtin.clear_ #[30] 0 #[.slice (some ⟨b, 0, none⟩) 1 c]).run Try.prog w = .ok (.tuple #[]) (w.setCell ⟨b, 0, none⟩ (.int .u64 0)) := by
  have h30 := Try.underlying30
  have hz : (Builtin.zeroCells #[Value.int .u64 0] 1).toList = [.int .u64 0] := by simp [Builtin.zeroCells]
  unfold Builtin.clear_
  go_simp

theorem run_neq_ptr_other {P : Program} (w : World) {tp te : TypeId} {j : TypeInfo} {a b : Addr} {ca cb : Array Value} {ta tb : TypeId} (hp : P.underlying tp = some (.pointer te)) (hte : P.info? te = some j) (hsz : j.size ≠ 0)
    (hne : a ≠ b) (ha : w.heap[a.block]? = some (.cells ca ta (0, 0))) (hb : w.heap[b.block]? = some (.cells cb tb (0, 0))) :
    (binOp .neq tp (.pointer (some a)) (.pointer (some b))).run P w = .ok (.bool true) w := by
  have h : ∀ d : Nat, (Op.equalIn (d + 1) tp (.pointer (some a)) (.pointer (some b))).run P w = .ok false w := fun d => by
    simp [Op.equalIn, run_underlying hp, sizeOf, typeInfo, hte, hsz, run_sameAddr_other w hne ha hb]
  simp only [binOp]
  simp [Op.equal, Op.maxDepth, h 9999]

set_option maxHeartbeats 1000000 in
theorem subVW_same (b cz cx : Nat) (x1 c : Int) (hx : Wd x1) (hc : Wd c) (h0 : bor x1 c 0 = 0) (w : World)
    (cx0 : w.cell? ⟨b, 1, none⟩ = some (.int .u64 x1)) (fz0 : w.frozen? ⟨b, 1, none⟩ = false) :
    Calls Try.prog 33 #[.slice (some ⟨b, 1, none⟩) 1 cz, .slice (some ⟨b, 1, none⟩) 1 cx, .int .u64 c] w fun e w' =>
      e = .returned (.int .u64 0) ∧ ∃ k, w' = (w.setCell ⟨b, 1, none⟩ (.int .u64 (dif x1 c 0))).drewN k := by
  obtain ⟨j, hj, _, hs, _⟩ := info_parts info47
  have hpp := fun w => Lib.run_neq_ptr_same (P := Try.prog) w (tp := 57) (te := 47) ⟨b, 1, none⟩ Try.underlying57 hj
  clear hj hs
  go_enter Try.func33, Try.ntmps33
  go_wp2_with (first | (go_at_call 34; refine (bitsSub _ _ _ hx hc (by decide) (by decide) _).mono ?_; rintro e w' ⟨rfl, rfl⟩))
  go_quiet (fail)
  go_wp2
  go_ret
  exact ⟨rfl, _, rfl⟩

set_option maxHeartbeats 1000000 in
theorem addVW_same (b cz cx : Nat) (x1 : Int) (hx : Wd x1) (w : World)
    (cx0 : w.cell? ⟨b, 1, none⟩ = some (.int .u64 x1)) (fz0 : w.frozen? ⟨b, 1, none⟩ = false) :
    Calls Try.prog 29 #[.slice (some ⟨b, 1, none⟩) 1 cz, .slice (some ⟨b, 1, none⟩) 1 cx, .int .u64 0] w fun e w' =>
      e = .returned (.int .u64 0) ∧ ∃ k, w' = (w.setCell ⟨b, 1, none⟩ (.int .u64 x1)).drewN k := by
  obtain ⟨j, hj, _, hs, _⟩ := info_parts info47
  have hpp := fun w => Lib.run_neq_ptr_same (P := Try.prog) w (tp := 57) (te := 47) ⟨b, 1, none⟩ Try.underlying57 hj
  clear hj hs
  have e1 : adw x1 0 0 = x1 := by unfold adw; unfold Wd at hx; omega
  have e2 : car x1 0 0 = 0 := by unfold car; unfold Wd at hx; omega
  have h00 : Wd 0 := by unfold Wd; omega
  go_enter Try.func29, Try.ntmps29
  go_wp2_with (first | (go_at_call 31; refine (bitsAdd _ _ _ hx h00 (by decide) (by decide) _).mono ?_; rintro e w' ⟨rfl, rfl⟩))
  go_quiet (fail)
  go_wp2
  go_ret
  exact ⟨rfl, _, rfl⟩

set_option maxHeartbeats 1000000 in
theorem subVW_other (bz bx : Nat) (Cz Cx : Array Value) (x1 c : Int) (hx : Wd x1) (hc : Wd c) (h0 : bor x1 c 0 = 0) (hne : bz ≠ bx) (v : Value) (w : World)
    (hz : w.heap[bz]? = some (.cells Cz 47 (0, 0))) (hxb : w.heap[bx]? = some (.cells Cx 47 (0, 0)))
    (cx0 : w.cell? ⟨bx, 1, none⟩ = some (.int .u64 x1)) (cz0 : w.cell? ⟨bz, 1, none⟩ = some v) (fz0 : w.frozen? ⟨bz, 1, none⟩ = false) :
    Calls Try.prog 33 #[.slice (some ⟨bz, 1, none⟩) 1 5, .slice (some ⟨bx, 1, none⟩) 1 6, .int .u64 c] w fun e w' =>
      e = .returned (.int .u64 0) ∧ ∃ k, w' = (w.setCell ⟨bz, 1, none⟩ (.int .u64 (dif x1 c 0))).drewN k := by
  obtain ⟨j, hj, _, hs, _⟩ := info_parts info47
  have hpp : ∀ k, (binOp .neq 57 (.pointer (some ⟨bz, 1, none⟩)) (.pointer (some ⟨bx, 1, none⟩))).run Try.prog ((w.setCell ⟨bz, 1, none⟩ (.int .u64 (dif x1 c 0))).drewN k) = .ok (.bool true) ((w.setCell ⟨bz, 1, none⟩ (.int .u64 (dif x1 c 0))).drewN k) := fun k =>
    run_neq_ptr_other _ Try.underlying57 hj (by omega) (fun h => hne (by injection h)) (heap_setCell_same w bz 1 Cz 47 _ hz) ((heap_setCell_other w ⟨bz, 1, none⟩ bx _ (Ne.symm hne)).trans hxb)
  have hcp := copy0 bz bx
  clear hj hs hz hxb
  go_enter Try.func33, Try.ntmps33
  go_wp2_with (first | (go_at_call 34; refine (bitsSub _ _ _ hx hc (by decide) (by decide) _).mono ?_; rintro e w' ⟨rfl, rfl⟩))
  go_quiet (fail)
  go_wp2
  go_quiet (fail)
  go_wp2
  go_ret
  exact ⟨rfl, _, World.drewN_drewN _ _ _⟩

end Go.Proofs.Qxb6605800a.Walks
