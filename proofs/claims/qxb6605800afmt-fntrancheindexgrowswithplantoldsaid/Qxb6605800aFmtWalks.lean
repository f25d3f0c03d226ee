/-
  The callees by their contracts: ZZnewBooksWithTranches, ZZtrancheIndex (with fmt.Errorf walked in place, for every F).
-/
import Derived.Test.Qxb6605800aFmtRows
import Derived.WalkKit
import Derived.ProofKit
import Derived.WalkSpells
import Derived.WalkLawsBesides
import Derived.Stop.CallBack
import Derived.Stop.IfaceNil
namespace Go.Proofs.Qxb6605800aFmt.Walks
open Go.ChangeShapes Go.WideShapes Go.ChangeAt Go.RowKit
open Go.Extern.Stop Go.Stop Go.Extern

/-! ### the closed facts on fmt.errorf (function 8) at this format and these operands -/
theorem call8 (args : Array Value) (w : World) : (callFunc 8 args).run Tryf.prog w = ((FmtStop.errorf #[9, 62] #[25] args).run Tryf.prog w).andThen fun v w' => .ok (.value v) w' :=
  run_callFunc_extern Tryf.func8 (by kernel_rfl) (by kernel_rfl) (by kernel_rfl) (by kernel_rfl) args w
theorem guardF (name : String) (w : World) : (FmtStop.guard name).run Tryf.prog w = .ok () w := by kernel_rfl
theorem fmt0 : FmtStop.printed? ⟨#[116, 114, 97, 110, 99, 104, 101, 32, 37, 100, 58, 32, 116, 104, 101, 32, 112, 108, 97, 110, 39, 115, 32, 116, 114, 97, 110, 99, 104, 101, 115, 32, 97, 114, 101, 32, 110, 117, 109, 98, 101, 114, 101, 100, 32, 49, 32, 116, 111, 32, 37, 100]⟩ 2 = some [(0, 100, false), (1, 100, false)] := by kernel_rfl
theorem fmt0r (w : World) : (FmtDoors.printed ⟨#[116, 114, 97, 110, 99, 104, 101, 32, 37, 100, 58, 32, 116, 104, 101, 32, 112, 108, 97, 110, 39, 115, 32, 116, 114, 97, 110, 99, 104, 101, 115, 32, 97, 114, 101, 32, 110, 117, 109, 98, 101, 114, 101, 100, 32, 49, 32, 116, 111, 32, 37, 100]⟩ 2).run Tryf.prog w = .ok [(0, 100, false), (1, 100, false)] w := by kernel_rfl
def shape3 : List UInt8 := [5, 3, 0, 0, 0, 0, 0, 0, 0, 105, 110, 116]
theorem op3 (name : String) (x : Int) (w : World) : (FmtStop.operand name false 100 false (.iface 3 (.int .i64 x))).run Tryf.prog w = .ok (shape3, Go.Extern.Stop.digits 8 (x % 2 ^ 64).toNat) w := by kernel_rfl
theorem op3w (name : String) (x : Int) (w : World) : (FmtStop.operand name true 100 false (.iface 3 (.int .i64 x))).run Tryf.prog w = .ok (shape3, Go.Extern.Stop.digits 8 (x % 2 ^ 64).toNat) w := by kernel_rfl
theorem strict3 (name : String) (x : Int) (w : World) : (FmtStop.strict name (.iface 3 (.int .i64 x))).run Tryf.prog w = .ok (shape3, Go.Extern.Stop.digits 8 (x % 2 ^ 64).toNat) w := by kernel_rfl
theorem ptr65 (w : World) : (FmtStop.ptrTo "errors.errorString").run Tryf.prog w = .ok 65 w := by kernel_rfl
theorem elem65 (w : World) : (elemOf 65).run Tryf.prog w = .ok 67 w := by kernel_rfl
theorem isError65 (w : World) : (FmtDoors.textMethod 65 "Error").run Tryf.prog w = .ok true w := by kernel_rfl
attribute [local go_sem] call8 guardF fmt0 fmt0r op3 op3w strict3 ptr65 elem65 isError65

/-- Books at b: their plan's slice of tranches has m elements. -/
structure Books (w : World) (v : Value) (m : Nat) : Prop where
  ex : ∃ (b p : Nat) (a : Option Addr), v = .pointer (some ⟨b, 0, none⟩) ∧ b < w.heap.size ∧ p < w.heap.size ∧ w.cell? ⟨b, 0, none⟩ = some (.pointer (some ⟨p, 0, none⟩)) ∧ w.cell? ⟨p, 11, none⟩ = some (.slice a m m)

set_option maxHeartbeats 1000000 in
theorem ti_yes (v : Value) (m : Nat) (n : Int) (w : World) (hb : Books w v m) (hm : m ≤ 65536) (h1 : 1 ≤ n) (h2 : n ≤ (m : Int)) :
    Calls Tryf.prog 5 #[v, .int .i64 n] w fun e w' => e = .returned (.tuple #[.int .i64 (n - 1), .nilIface]) ∧ w' = w := by
  obtain ⟨b, p, a, rfl, hb1, hp1, c1, c2⟩ := hb
  go_enter Tryf.func5, Tryf.ntmps5
  go_wp2
  go_ret2
  exact ⟨rfl, rfl⟩

set_option maxHeartbeats 1000000 in
theorem ti_lo (F : Interp) (v : Value) (m : Nat) (n : Int) (w : World) (hF : F.answers w.tape) (hb : Books w v m) (_hm : m ≤ 65536) (h1 : n < 1) :
    Calls Tryf.prog 5 #[v, .int .i64 n] w fun e w' => (∃ a, e = .returned (.tuple #[.int .i64 0, .iface 65 (.pointer a)])) ∧ Below w.heap.size w w' := by
  obtain ⟨b, p, a, rfl, hb1, hp1, c1, c2⟩ := hb
  have hF' := answers_open hF
  go_enter Tryf.func5, Tryf.ntmps5
  go_wp2
  go_ret2
  exact ⟨⟨_, rfl⟩, (((Below.refl _ _).alloc (Nat.le_refl _) _).alloc (by simp) _).drew⟩

set_option maxHeartbeats 1000000 in
theorem ti_hi (F : Interp) (v : Value) (m : Nat) (n : Int) (w : World) (hF : F.answers w.tape) (hb : Books w v m) (_hm : m ≤ 65536) (h1 : 1 ≤ n) (h2 : (m : Int) < n) :
    Calls Tryf.prog 5 #[v, .int .i64 n] w fun e w' => (∃ a, e = .returned (.tuple #[.int .i64 0, .iface 65 (.pointer a)])) ∧ Below w.heap.size w w' := by
  obtain ⟨b, p, a, rfl, hb1, hp1, c1, c2⟩ := hb
  have hF' := answers_open hF
  go_enter Tryf.func5, Tryf.ntmps5
  go_wp2
  go_ret2
  exact ⟨⟨_, rfl⟩, (((Below.refl _ _).alloc (Nat.le_refl _) _).alloc (by simp) _).drew⟩

theorem ti_no (F : Interp) (v : Value) (m : Nat) (n : Int) (w : World) (hF : F.answers w.tape) (hb : Books w v m) (hm : m ≤ 65536) (h : n < 1 ∨ (m : Int) < n) :
    Calls Tryf.prog 5 #[v, .int .i64 n] w fun e w' => (∃ a, e = .returned (.tuple #[.int .i64 0, .iface 65 (.pointer a)])) ∧ Below w.heap.size w w' := by
  by_cases h1 : n < 1
  · exact ti_lo F v m n w hF hb hm h1
  · exact ti_hi F v m n w hF hb hm (by omega) (by omega)

theorem Books.below {w w' : World} {v : Value} {m : Nat} (h : Books w v m) (hb : Below w.heap.size w w') : Books w' v m := by
  obtain ⟨b, p, a, hv, hb1, hp1, c1, c2⟩ := h
  exact ⟨b, p, a, hv, Nat.lt_of_lt_of_le hb1 hb.size, Nat.lt_of_lt_of_le hp1 hb.size, (hb.cell (p := ⟨b, 0, none⟩) hb1).trans c1, (hb.cell (p := ⟨p, 11, none⟩) hp1).trans c2⟩

theorem info87 : (Tryf.prog.info? 87).map (fun i => (i.zero, i.size, i.bytes)) = some (some (.agg #[.pointer none, .int .i64 0, .int .i64 0, .pointer none, .pointer none, .pointer none]), 6, 48) := by kernel_rfl

set_option maxHeartbeats 1000000 in
theorem new_any (m : Nat) (hm : m ≤ 65536) (w : World) :
    Calls Tryf.prog 4 #[.int .i64 (m : Int)] w fun e w' => (∃ v, e = .returned v ∧ Books w' v m) ∧ Below w.heap.size w w' := by
  obtain ⟨i, hi, hz, hs, hbt⟩ := info_parts info87
  have hmk : ∀ w, ∃ C, (Instr.makeSlice 30 (.int .i64 (m : Int)) (.int .i64 (m : Int))).run Tryf.prog w = .ok (.slice (some ⟨w.heap.size, 0, none⟩) m m) (w.alloc (.cells C 87)) := fun w => by
    have h := run_make (P := Tryf.prog) w 30 87 i _ Tryf.underlying30 hi hz .i64 .i64 (m : Int) (m : Int) (by omega) (by omega) (by rw [hbt]; omega) (by omega)
    rw [Int.toNat_natCast] at h
    exact ⟨_, h⟩
  obtain ⟨C, hC⟩ := hmk w
  clear hmk hi hz hs hbt
  go_enter Tryf.func4, Tryf.ntmps4
  go_wp2
  go_ret
  exact ⟨⟨_, rfl, ⟨w.heap.size + 1 + 1, w.heap.size + 1, some ⟨w.heap.size, 0, none⟩, rfl, by simp, by simp, by go_simp, by go_simp⟩⟩, (((Below.refl _ _).alloc (Nat.le_refl _) _).alloc (by simp) _).alloc (by simp; omega) _⟩

end Go.Proofs.Qxb6605800aFmt.Walks
