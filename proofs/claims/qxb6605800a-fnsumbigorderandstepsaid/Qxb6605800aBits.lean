/-
  math/bits.Add, Sub (with the model's entries for Add64, Sub64) by their contracts, over Int.
-/
import Derived.Test.Qxb6605800aRows
import Derived.WalkKit
import Derived.ProofKit
import Derived.WalkSpells
import Derived.WalkLawsBesides
import Derived.Shelf.Spec.BitsCarry
import Derived.Laws.Twins
namespace Go.Proofs.Qxb6605800a.Walks
open Go.ChangeShapes Go.WideShapes Go.ChangeAt Go.RowKit

/-- A word's number. -/
def Wd (x : Int) : Prop := 0 ≤ x ∧ x < 18446744073709551616

def dif (x y b : Int) : Int := (x - y - b) % 18446744073709551616
def bor (x y b : Int) : Int := if x < y + b then 1 else 0
def adw (x y c : Int) : Int := (x + y + c) % 18446744073709551616
def car (x y c : Int) : Int := (x + y + c) / 18446744073709551616

theorem dif_wd (x y b : Int) : Wd (dif x y b) := by unfold Wd dif; omega
theorem adw_wd (x y b : Int) : Wd (adw x y b) := by unfold Wd adw; omega

theorem add64 (x y c : Int) (hx : 0 ≤ x) (hy : 0 ≤ y) (hc0 : 0 ≤ c) (hc : c ≤ 1) (w : World) : (callFunc 38 #[.int .u64 x, .int .u64 y, .int .u64 c]).run Try.prog w =
    .ok (.value (.tuple #[.int .u64 (adw x y c), .int .u64 (car x y c)])) w := by
  obtain ⟨x, rfl⟩ := Int.eq_ofNat_of_zero_le hx
  obtain ⟨y, rfl⟩ := Int.eq_ofNat_of_zero_le hy
  obtain ⟨c, rfl⟩ := Int.eq_ofNat_of_zero_le hc0
  rw [run_callFunc_extern Try.func38 (by kernel_rfl) (by kernel_rfl) (by kernel_rfl) (e := add64Entry) (by kernel_rfl), run_add64 x y c (by omega) (by omega) (by omega) (by omega)]
  simp only [Result.andThen]
  unfold adw car
  congr 5 <;> omega

theorem sub64 (x y b : Int) (hx : 0 ≤ x) (hy : 0 ≤ y) (hy' : y < 18446744073709551616) (hb0 : 0 ≤ b) (hb : b ≤ 1) (w : World) : (callFunc 40 #[.int .u64 x, .int .u64 y, .int .u64 b]).run Try.prog w =
    .ok (.value (.tuple #[.int .u64 (dif x y b), .int .u64 (bor x y b)])) w := by
  obtain ⟨x, rfl⟩ := Int.eq_ofNat_of_zero_le hx
  obtain ⟨y, rfl⟩ := Int.eq_ofNat_of_zero_le hy
  obtain ⟨b, rfl⟩ := Int.eq_ofNat_of_zero_le hb0
  have e1 : (((x + 18446744073709551616 - y - b) % 18446744073709551616 : Nat) : Int) = dif x y b := by unfold dif; omega
  have e2 : ((if x < y + b then 1 else 0 : Nat) : Int) = bor x y b := by unfold bor; split <;> split <;> omega
  rw [← e1, ← e2]
  rw [run_callFunc_extern Try.func40 (by kernel_rfl) (by kernel_rfl) (by kernel_rfl) (e := sub64Entry) (by kernel_rfl), run_sub64 x y b (by omega)]
  rfl

theorem bitsAdd (x y c : Int) (hx : Wd x) (hy : Wd y) (hc0 : 0 ≤ c) (hc : c ≤ 1) (w : World) :
    Calls Try.prog 31 #[.int .u64 x, .int .u64 y, .int .u64 c] w fun e w' => e = .returned (.tuple #[.int .u64 (adw x y c), .int .u64 (car x y c)]) ∧ w' = w := by
  obtain ⟨x0, x1⟩ := hx
  obtain ⟨y0, y1⟩ := hy
  go_enter Try.func31, Try.ntmps31
  go_wp2_with (simp only [add64 x y c x0 y0 hc0 hc])
  go_ret2
  exact ⟨rfl, rfl⟩

theorem bitsSub (x y b : Int) (hx : Wd x) (hy : Wd y) (hb0 : 0 ≤ b) (hb : b ≤ 1) (w : World) :
    Calls Try.prog 34 #[.int .u64 x, .int .u64 y, .int .u64 b] w fun e w' => e = .returned (.tuple #[.int .u64 (dif x y b), .int .u64 (bor x y b)]) ∧ w' = w := by
  obtain ⟨x0, x1⟩ := hx
  obtain ⟨y0, y1⟩ := hy
  go_enter Try.func34, Try.ntmps34
  go_wp2_with (simp only [sub64 x y b x0 y0 y1 hb0 hb])
  go_ret2
  exact ⟨rfl, rfl⟩

theorem addVV_enters (args : Array Value) (w : World) : (callFunc 28 args).run Try.prog w = .ok (.enter 12 args) w :=
  run_callFunc_twin (twin := Try.f12.name) Try.func28 (by kernel_rfl) (by kernel_rfl) (by kernel_rfl) (by kernel_rfl) Try.func12 (by kernel_rfl) (by kernel_rfl) (by kernel_rfl) args w
theorem subVV_enters (args : Array Value) (w : World) : (callFunc 32 args).run Try.prog w = .ok (.enter 13 args) w :=
  run_callFunc_twin (twin := Try.f13.name) Try.func32 (by kernel_rfl) (by kernel_rfl) (by kernel_rfl) (by kernel_rfl) Try.func13 (by kernel_rfl) (by kernel_rfl) (by kernel_rfl) args w

end Go.Proofs.Qxb6605800a.Walks
