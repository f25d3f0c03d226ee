/-
  'zzSwapCaseAndDash' by its contract: the string whose bytes are each turned by 'sw8'.
-/
import Derived.Test.Qxb6614398aMay
import Derived.Deep.OwnRows
import Derived.Laws.IdiomStrings
namespace Go.Proofs.Qxb6614398a.Walks
open Go.ChangeShapes Go.WideShapes Go.ChangeAt Go.RowKit

theorem info5 : (Try.prog.info? 5).map (fun i => (i.zero, i.size, i.bytes)) = some (some (.int .u8 0), 1, 1) := by kernel_rfl

def sw8 (c : UInt8) : UInt8 :=
  if 97 ≤ c ∧ c ≤ 122 then c - 32 else if 65 ≤ c ∧ c ≤ 90 then c + 32 else if c = 45 then 95 else if c = 95 then 45 else c

def swS (s : ByteArray) : ByteArray := ⟨(s.data.toList.map sw8).toArray⟩

/-- The row behind k rounds. -/
def rowAt (s : ByteArray) (k : Nat) (j : Nat) : Value := if j < k then .int .u8 (((s.data.toList.map sw8).getD j 0).toNat : Int) else .int .u8 0

theorem rowAt_succ (s : ByteArray) (k : Nat) (hk : k < s.size) (v : Int) (hv : v = ((sw8 s[k]).toNat : Int)) (j : Nat) :
    (if j = k then Value.int .u8 v else rowAt s k j) = rowAt s (k + 1) j := by
  subst hv
  have hl : k < s.data.toList.length := by simpa using hk
  unfold rowAt
  by_cases h : j = k
  · subst h
    simp only [if_true, Nat.lt_succ_self]
    congr 2
    simp [List.getD, List.getElem?_map, List.getElem?_eq_getElem hl]
    rfl
  · simp only [if_neg h]
    by_cases h2 : j < k
    · rw [if_pos h2, if_pos (by omega)]
    · rw [if_neg h2, if_neg (by omega)]

theorem sw_lo {c : UInt8} (h1 : (97 : Int) ≤ (c.toNat : Int)) (h2 : (c.toNat : Int) ≤ 122) : (c.toNat : Int) - 32 = ((sw8 c).toNat : Int) := by
  have : sw8 c = c - 32 := by unfold sw8; rw [if_pos]; simp [UInt8.le_iff_toNat_le]; omega
  rw [this, UInt8.toNat_sub_of_le _ _ (by simp [UInt8.le_iff_toNat_le]; omega)]
  simp; omega
theorem sw_up {c : UInt8} (h1 : (65 : Int) ≤ (c.toNat : Int)) (h2 : (c.toNat : Int) ≤ 90) : (c.toNat : Int) + 32 = ((sw8 c).toNat : Int) := by
  have : sw8 c = c + 32 := by unfold sw8; rw [if_neg, if_pos] <;> simp [UInt8.le_iff_toNat_le] <;> omega
  rw [this, UInt8.toNat_add]
  simp; omega
theorem sw_da {c : UInt8} (h1 : (c.toNat : Int) = 45) : (95 : Int) = ((sw8 c).toNat : Int) := by
  have : c = 45 := by apply UInt8.toNat_inj.1; simp; omega
  subst this; decide
theorem sw_un {c : UInt8} (h1 : (c.toNat : Int) = 95) : (45 : Int) = ((sw8 c).toNat : Int) := by
  have : c = 95 := by apply UInt8.toNat_inj.1; simp; omega
  subst this; decide
theorem sw_no {c : UInt8} (h1 : ¬ ((97 : Int) ≤ (c.toNat : Int) ∧ (c.toNat : Int) ≤ 122)) (h2 : ¬ ((65 : Int) ≤ (c.toNat : Int) ∧ (c.toNat : Int) ≤ 90)) (h3 : ¬ (c.toNat : Int) = 45) (h4 : ¬ (c.toNat : Int) = 95) : (c.toNat : Int) = ((sw8 c).toNat : Int) := by
  have : sw8 c = c := by
    unfold sw8
    rw [if_neg (by simp [UInt8.le_iff_toNat_le]; omega), if_neg (by simp [UInt8.le_iff_toNat_le]; omega), if_neg (by intro h; subst h; simp at h3), if_neg (by intro h; subst h; simp at h4)]
  rw [this]

theorem back (s : ByteArray) (B : Nat) (wr : World) (hr : wr.rowIs B 5 s.size (rowAt s s.size)) :
    (convert 30 9 (.slice (some ⟨B, 0, none⟩) s.size s.size)).run Try.prog wr = .ok (.string (swS s)) wr := by
  have h := run_convert_bytes_back (P := Try.prog) wr 30 9 5 ⟨B, 0, none⟩ s.size (s.data.toList.map sw8) Try.underlying30 Try.underlying5 Try.underlying9 (by
    intro j hj
    have hadd : (⟨B, 0, none⟩ : Addr).add j = ⟨B, j, none⟩ := by unfold Addr.add; split <;> simp_all
    have hj' : j < s.size := by simpa using hj
    rw [hadd, hr.cell hj']
    simp [rowAt, hj', List.getD])
  simpa [swS] using h

set_option maxHeartbeats 1000000 in
theorem swap_any (s : ByteArray) (hs : s.size ≤ 1048576) (w : World) :
    Calls Try.prog 11 #[.string s] w fun e w' => e = .returned (.string (swS s)) ∧ Grown w w' := by
  have hmk := run_make_row' (P := Try.prog) 30 5 (.int .u8 0) 1 Try.underlying30 info5 rfl .i64 .i64 s.size (by omega) (by omega)
  go_enter Try.func11, Try.ntmps11
  go_wp2
  clear hmk
  go_loopw [4] (fun i wr => ∃ k : Nat, k ≤ s.size ∧ i = .int .i64 k ∧ wr.rowIs w.heap.size 5 s.size (rowAt s k) ∧ Grown w wr) (fun i _ => s.size - (intOf i).toNat)
  case atStart => exact ⟨0, Nat.zero_le _, rfl, (World.rowIs_made w (.int .u8 0) s.size 5).congr (fun i _ => by simp [rowAt]), (Grown.refl _).alloc _ _⟩
  case round =>
    obtain ⟨k, hk, rfl, hr, hg⟩ := hrel
    by_cases hlt : k < s.size
    · have hcell := hr.cell hlt
      have hfro := hr.frozen k
      have hB := hg.2.2
      have hstep : ∀ v : Int, v = ((sw8 s[k]).toNat : Int) → (wr.setCell ⟨w.heap.size, k, none⟩ (.int .u8 v)).rowIs w.heap.size 5 s.size (rowAt s (k + 1)) ∧ Grown w (wr.setCell ⟨w.heap.size, k, none⟩ (.int .u8 v)) := fun v hv =>
        ⟨(hr.set k (.int .u8 v)).congr (fun i _ => rowAt_succ s k hlt v hv i), hg.setCell (Nat.le_refl _) _⟩
      have HS : Hid (∀ v : Int, v = ((sw8 s[k]).toNat : Int) → (wr.setCell ⟨w.heap.size, k, none⟩ (.int .u8 v)).rowIs w.heap.size 5 s.size (rowAt s (k + 1)) ∧ Grown w (wr.setCell ⟨w.heap.size, k, none⟩ (.int .u8 v))) := hstep
      clear hstep hr hg
      have hc0 : (s[k].toNat : Int) ≤ 255 := by have := s[k].toNat_lt; omega
      rcases (show ((97 : Int) ≤ (s[k].toNat : Int) ∧ (s[k].toNat : Int) ≤ 122) ∨ ((65 : Int) ≤ (s[k].toNat : Int) ∧ (s[k].toNat : Int) ≤ 90) ∨ (s[k].toNat : Int) = 45 ∨ (s[k].toNat : Int) = 95 ∨ (¬ ((97 : Int) ≤ (s[k].toNat : Int) ∧ (s[k].toNat : Int) ≤ 122) ∧ ¬ ((65 : Int) ≤ (s[k].toNat : Int) ∧ (s[k].toNat : Int) ≤ 90) ∧ ¬ (s[k].toNat : Int) = 45 ∧ ¬ (s[k].toNat : Int) = 95) from by omega) with h | h | h | h | h
      · obtain ⟨h1, h2⟩ := h
        go_wp2
        go_roundw
        case rel => exact ⟨k + 1, by omega, by go_num, (HS.out _ (sw_lo h1 h2)).1, (HS.out _ (sw_lo h1 h2)).2⟩
        case measure => simp [intOf]; omega
      · obtain ⟨h1, h2⟩ := h
        go_wp2
        go_roundw
        case rel => exact ⟨k + 1, by omega, by go_num, (HS.out _ (sw_up h1 h2)).1, (HS.out _ (sw_up h1 h2)).2⟩
        case measure => simp [intOf]; omega
      · have HE : Hid ((s[k].toNat : Int) = 45) := h
        have e1 : ((s[k].toNat : Int) == 45) = true := beq_iff_eq.2 h
        have e2 : (s[k].toNat : Int) ≤ 45 := by omega
        have e3 : 45 ≤ (s[k].toNat : Int) := by omega
        clear h
        go_wp2
        go_roundw
        case rel => exact ⟨k + 1, by omega, by go_num, (HS.out _ (sw_da HE.out)).1, (HS.out _ (sw_da HE.out)).2⟩
        case measure => simp [intOf]; omega
      · have HE : Hid ((s[k].toNat : Int) = 95) := h
        have e0 : ((s[k].toNat : Int) == 45) = false := by simp; omega
        have e1 : ((s[k].toNat : Int) == 95) = true := beq_iff_eq.2 h
        have e2 : (s[k].toNat : Int) ≤ 95 := by omega
        have e3 : 95 ≤ (s[k].toNat : Int) := by omega
        clear h
        go_wp2
        go_roundw
        case rel => exact ⟨k + 1, by omega, by go_num, (HS.out _ (sw_un HE.out)).1, (HS.out _ (sw_un HE.out)).2⟩
        case measure => simp [intOf]; omega
      · obtain ⟨h1, h2, h3, h4⟩ := h
        have e0 : ((s[k].toNat : Int) == 45) = false := by simp; omega
        have e1 : ((s[k].toNat : Int) == 95) = false := by simp; omega
        have HE := sw_no h1 h2 h3 h4
        have HF : Hid ((s[k].toNat : Int) = ((sw8 s[k]).toNat : Int)) := HE
        clear HE
        go_wp2
        all_goals
          go_roundw
          case rel => exact ⟨k + 1, by omega, by go_num, (HS.out _ HF.out).1, (HS.out _ HF.out).2⟩
          case measure => simp [intOf]; omega
    · obtain rfl : k = s.size := by omega
      have hb := back s _ wr hr
      go_wp2
      go_ret
      exact ⟨rfl, hg⟩
end Go.Proofs.Qxb6614398a.Walks
