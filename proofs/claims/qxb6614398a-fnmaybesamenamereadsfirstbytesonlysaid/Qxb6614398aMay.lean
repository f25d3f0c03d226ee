/-
  'mayBeSameName' and its shim, by one contract: what the Go text answers is 'mb'. The plain laws of 'mb' stand below.
-/
import Derived.Test.Qxb6614398aRows
import Derived.WalkKit
import Derived.ProofKit
import Derived.WalkSpells
import Derived.WalkLawsBesides
import Derived.Deep.QuietTactic
import Derived.BigQuiet
namespace Go.Proofs.Qxb6614398a.Walks
open Go.ChangeShapes Go.WideShapes Go.ChangeAt Go.RowKit

def ini (c : Int) : Int := bits .or .u8 (if c == 45 then 95 else c) 32

set_option maxHeartbeats 400000 in
theorem ini_any (c : Int) (w : World) :
    Calls Try.prog 17 #[.int .u8 c] w fun e w' => e = .returned (.int .u8 (ini c)) ∧ w' = w := by
  by_cases h : c = 45
  · subst h
    go_enter Try.func17, Try.ntmps17
    go_wp2
    go_ret
    exact ⟨rfl, rfl⟩
  · have h' : (c == 45) = false := by simp [h]
    go_enter Try.func17, Try.ntmps17
    go_wp2
    go_ret
    exact ⟨by simp [ini, h], rfl⟩

set_option maxHeartbeats 400000 in
theorem mb_e1 (a b : ByteArray) (ha : a.toList.isEmpty = true) (w : World) :
    Calls Try.prog 7 #[.string a, .string b] w fun e w' => e = .returned (.bool true) ∧ ∃ n, w' = w.drewN n := by
  go_enter Try.func7, Try.ntmps7
  go_wp2
  go_quiet ((go_at_call 17; exact Calls.quiet_of_same (ini_any _ _)))
  go_wp2
  go_ret
  exact ⟨rfl, _, rfl⟩

set_option maxHeartbeats 400000 in
theorem mb_e2 (a b : ByteArray) (ha : a.toList.isEmpty = false) (hb : b.toList.isEmpty = true) (w : World) :
    Calls Try.prog 7 #[.string a, .string b] w fun e w' => e = .returned (.bool true) ∧ ∃ n, w' = w.drewN n := by
  go_enter Try.func7, Try.ntmps7
  go_wp2
  go_quiet ((go_at_call 17; exact Calls.quiet_of_same (ini_any _ _)))
  go_wp2
  go_ret
  exact ⟨rfl, _, rfl⟩

set_option maxHeartbeats 400000 in
theorem mb_hi (a b : ByteArray) (ha : a.toList.isEmpty = false) (hb : b.toList.isEmpty = false) (pa : 0 < a.size) (pb : 0 < b.size) (hc : decide ((128 : Int) ≤ bits .or .u8 a[0].toNat b[0].toNat) = true) (w : World) :
    Calls Try.prog 7 #[.string a, .string b] w fun e w' => e = .returned (.bool true) ∧ ∃ n, w' = w.drewN n := by
  go_enter Try.func7, Try.ntmps7
  go_wp2
  go_quiet ((go_at_call 17; exact Calls.quiet_of_same (ini_any _ _)))
  go_wp2
  go_ret
  exact ⟨rfl, _, rfl⟩

set_option maxHeartbeats 400000 in
theorem mb_lo (a b : ByteArray) (ha : a.toList.isEmpty = false) (hb : b.toList.isEmpty = false) (pa : 0 < a.size) (pb : 0 < b.size) (hc : decide ((128 : Int) ≤ bits .or .u8 a[0].toNat b[0].toNat) = false) (w : World) :
    Calls Try.prog 7 #[.string a, .string b] w fun e w' => e = .returned (.bool (ini a[0].toNat == ini b[0].toNat)) ∧ ∃ n, w' = w.drewN n := by
  go_enter Try.func7, Try.ntmps7
  go_wp2
  go_quiet ((go_at_call 17; exact Calls.quiet_of_same (ini_any _ _)))
  go_wp2
  go_ret
  exact ⟨rfl, _, rfl⟩

/-- Of two first bytes. -/
def mbc (c d : UInt8) : Bool := decide ((128 : Int) ≤ bits .or .u8 c.toNat d.toNat) || (ini c.toNat == ini d.toNat)

def mbl : List UInt8 → List UInt8 → Bool
  | c :: _, d :: _ => mbc c d
  | _, _ => true

def mb (a b : ByteArray) : Bool := mbl a.data.toList b.data.toList

theorem head_of (a : ByteArray) (pa : 0 < a.size) : ∃ t, a.data.toList = a[0] :: t := by
  obtain ⟨⟨l⟩⟩ := a
  cases l with
  | nil => simp [ByteArray.size] at pa
  | cons c t => exact ⟨t, rfl⟩

theorem mb_pos (a b : ByteArray) (pa : 0 < a.size) (pb : 0 < b.size) : mb a b = mbc a[0] b[0] := by
  obtain ⟨t, ht⟩ := head_of a pa
  obtain ⟨u, hu⟩ := head_of b pb
  unfold mb
  rw [ht, hu]
  rfl

theorem mb_any (a b : ByteArray) (w : World) :
    Calls Try.prog 7 #[.string a, .string b] w fun e w' => e = .returned (.bool (mb a b)) ∧ ∃ n, w' = w.drewN n := by
  by_cases pa : 0 < a.size
  · have ha : a.toList.isEmpty = false := by
      rw [ByteArray.toList_eq]; obtain ⟨t, ht⟩ := head_of a pa; rw [ht]; rfl
    by_cases pb : 0 < b.size
    · have hb : b.toList.isEmpty = false := by
        rw [ByteArray.toList_eq]; obtain ⟨t, ht⟩ := head_of b pb; rw [ht]; rfl
      cases hc : decide ((128 : Int) ≤ bits .or .u8 a[0].toNat b[0].toNat) with
      | true =>
        have e : mb a b = true := by rw [mb_pos a b pa pb, mbc, hc]; rfl
        rw [e]
        exact mb_hi a b ha hb pa pb hc w
      | false =>
        have e : mb a b = (ini a[0].toNat == ini b[0].toNat) := by rw [mb_pos a b pa pb, mbc, hc]; rfl
        rw [e]
        exact mb_lo a b ha hb pa pb hc w
    · have hb0 : b.data.toList = [] := by
        obtain ⟨⟨l⟩⟩ := b
        cases l with
        | nil => rfl
        | cons c t => simp [ByteArray.size] at pb
      have e : mb a b = true := by unfold mb; rw [hb0]; unfold mbl; split <;> simp_all
      rw [e]
      exact mb_e2 a b ha (by rw [ByteArray.toList_eq, hb0]; rfl) w
  · have ha0 : a.data.toList = [] := by
      obtain ⟨⟨l⟩⟩ := a
      cases l with
      | nil => rfl
      | cons c t => simp [ByteArray.size] at pa
    have e : mb a b = true := by unfold mb; rw [ha0]; rfl
    rw [e]
    exact mb_e1 a b (by rw [ByteArray.toList_eq, ha0]; rfl) w

/-! ### plain laws -/
theorem bits_or_comm (x y : Nat) : bits .or .u8 (x : Int) (y : Int) = bits .or .u8 (y : Int) (x : Int) := by
  simp [bits, Nat.or_comm]

theorem mbc_comm (c d : UInt8) : mbc c d = mbc d c := by
  unfold mbc
  rw [bits_or_comm c.toNat d.toNat, Bool.beq_comm]

theorem mbl_comm (x y : List UInt8) : mbl x y = mbl y x := by
  cases x with
  | nil => cases y <;> rfl
  | cons c t => cases y with
    | nil => rfl
    | cons d u => exact mbc_comm c d

theorem mb_comm (a b : ByteArray) : mb a b = mb b a := mbl_comm _ _

theorem mbc_self (c : UInt8) : mbc c c = true := by unfold mbc; simp

end Go.Proofs.Qxb6614398a.Walks
