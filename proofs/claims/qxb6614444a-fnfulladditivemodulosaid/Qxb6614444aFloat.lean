/-
  PLAIN ARITHMETIC OF float32, no Go in sight: a word x 'has the value V' (Fv x V) where V is the number scaled by 2 ^ 149 (every finite float32 is a whole number of such units). What is small enough (at most 24 binary digits, at a place within the format) is written and read back exactly; so '/', '-', '*' by the powers of two that the program uses are exact, and comparisons are comparisons of values.
-/
import Ieee.Arith
namespace Go.Proofs.Qxb6614444a.Fl
open Ieee

theorem log2_mul_pow (m k : Nat) (h : m ≠ 0) : (m * 2 ^ k).log2 = m.log2 + k := by
  have hp : 0 < 2 ^ k := Nat.two_pow_pos k
  have h' : m * 2 ^ k ≠ 0 := Nat.mul_ne_zero h (by omega)
  rw [Nat.log2_eq_iff h']
  have h1 := (Nat.log2_eq_iff h (k := m.log2)).1 rfl
  constructor
  · rw [Nat.pow_add]; exact Nat.mul_le_mul_right _ h1.1
  · have : 2 ^ (m.log2 + k + 1) = 2 ^ (m.log2 + 1) * 2 ^ k := by rw [← Nat.pow_add]; congr 1; omega
    rw [this]; exact Nat.mul_lt_mul_of_pos_right h1.2 hp

theorem cut_scale (neg : Bool) (n d j : Nat) (h : n ≠ 0) : Toward.even.cut neg (n * 2 ^ j) (d + j) = Toward.even.cut neg n d := by
  unfold Toward.cut
  have hp : 0 < 2 ^ j := Nat.two_pow_pos j
  have hg : 1 <<< min (d + j) ((n * 2 ^ j).log2 + 2) = (1 <<< min d (n.log2 + 2)) * 2 ^ j := by
    rw [log2_mul_pow n j h, Nat.shiftLeft_eq, Nat.shiftLeft_eq, Nat.one_mul, Nat.one_mul, ← Nat.pow_add]
    congr 1
    omega
  simp only [hg]
  generalize 1 <<< min d (n.log2 + 2) = g
  rw [Nat.mul_div_mul_right _ _ hp, Nat.mul_mod_mul_right]
  have e1 : decide (g * 2 ^ j < 2 * (n % g * 2 ^ j)) = decide (g < 2 * (n % g)) := by
    rw [← Nat.mul_assoc, decide_eq_decide]
    exact Nat.mul_lt_mul_right hp
  have e2 : (g * 2 ^ j == 2 * (n % g * 2 ^ j)) = (g == 2 * (n % g)) := by
    rw [← Nat.mul_assoc, Bool.eq_iff_iff, beq_iff_eq, beq_iff_eq]
    exact Nat.mul_left_inj (by omega)
  rw [e1, e2]

theorem cut_zero (neg : Bool) (n : Nat) : Toward.even.cut neg n 0 = n := by
  unfold Toward.cut
  simp [Nat.mod_one]

theorem kept_shift (neg : Bool) (m k : Nat) (place L : Int) (h : m ≠ 0) :
    Toward.even.cut neg ((m * 2 ^ k) <<< (place - L).toNat) (L - place).toNat = Toward.even.cut neg (m <<< (place + k - L).toNat) (L - (place + k)).toNat := by
  rw [Nat.shiftLeft_eq, Nat.shiftLeft_eq]
  by_cases hA : L ≤ place
  · have e1 : (L - place).toNat = 0 := by omega
    have e2 : (L - (place + k)).toNat = 0 := by omega
    have e3 : (place + k - L).toNat = k + (place - L).toNat := by omega
    rw [e1, e2, e3, Nat.pow_add, Nat.mul_assoc]
  · by_cases hB : L ≤ place + k
    · obtain ⟨d, hd⟩ : ∃ d : Nat, L - place = d := ⟨(L - place).toNat, by omega⟩
      have e0 : (place - L).toNat = 0 := by omega
      have e1 : (L - place).toNat = 0 + d := by omega
      have e2 : (L - (place + k)).toNat = 0 := by omega
      have e3 : (place + k - L).toNat = k - d := by omega
      have e4 : m * 2 ^ k * 2 ^ 0 = m * 2 ^ (k - d) * 2 ^ d := by
        rw [Nat.pow_zero, Nat.mul_one, Nat.mul_assoc, ← Nat.pow_add]; congr 2; omega
      rw [e0, e1, e2, e3, e4]
      exact cut_scale neg _ 0 d (Nat.mul_ne_zero h (by have := Nat.two_pow_pos (k - d); omega))
    · have e0 : (place - L).toNat = 0 := by omega
      have e1 : (L - place).toNat = (L - (place + k)).toNat + k := by omega
      have e3 : (place + k - L).toNat = 0 := by omega
      rw [e0, e1, e3, Nat.pow_zero, Nat.mul_one, Nat.mul_one]
      exact cut_scale neg m _ k h

theorem nearest_shift (f : Format) (neg : Bool) (m k : Nat) (place : Int) : f.nearest neg (m * 2 ^ k) place = f.nearest neg m (place + k) := by
  by_cases h : m = 0
  · subst h; simp [Format.nearest]
  · have h' : m * 2 ^ k ≠ 0 := Nat.mul_ne_zero h (by have := Nat.two_pow_pos k; omega)
    unfold Format.nearest
    rw [if_neg h, if_neg h', log2_mul_pow m k h]
    have e : place + ((m.log2 + k : Nat) : Int) - (f.fractionBits : Int) = place + (k : Int) + (m.log2 : Int) - (f.fractionBits : Int) := by omega
    dsimp only
    rw [e, kept_shift neg m k place _ h]

/-- The nearest word hangs on the number alone: 'mag * 2 ^ place = a * 2 ^ p'. -/
theorem nearest_same (f : Format) (neg : Bool) (mag a u v : Nat) (place p : Int) (h : mag * 2 ^ u = a * 2 ^ v) (he : place - u = p - v) : f.nearest neg mag place = f.nearest neg a p := by
  have h1 := nearest_shift f neg mag u (place - u)
  have h2 := nearest_shift f neg a v (p - v)
  rw [show place - (u : Int) + u = place from by omega] at h1
  rw [show p - (v : Int) + v = p from by omega] at h2
  rw [← h1, ← h2, h, he]

/-! ### words read -/
def Fv (x : Nat) (V : Int) : Prop := ∃ s m i, single.read x = .number s m i ∧ -149 ≤ i ∧ m < 16777216 ∧ signed s m (i + 149).toNat = V

theorem read_word (neg : Bool) (r : Nat) (h : r < 2139095040) : single.read (single.word neg r) =
    if r < 8388608 then .number neg r (-149) else .number neg (8388608 + r % 8388608) (-149 + (r / 8388608 - 1 : Nat)) := by
  have hs : single.signWeight = 2147483648 := by decide
  have hb : single.binade = 8388608 := by decide
  have hi : single.infRung = 2139095040 := by decide
  have hl : single.leastPlace = -149 := by decide
  have e1 : ((single.word neg r) / 2147483648 % 2 == 1) = neg := by
    unfold Format.word
    rw [hs]
    cases neg
    · simp; omega
    · simp; omega
  have e2 : (single.word neg r) % 2147483648 = r := by
    unfold Format.word
    rw [hs]
    cases neg
    · simp; omega
    · simp; omega
  unfold Format.read
  rw [hs, hb, hi, hl]
  dsimp only
  rw [e1, e2]
  by_cases h1 : r < 8388608
  · rw [if_pos h1, if_pos h1]
  · rw [if_neg h1, if_neg h1, if_pos h]

theorem signed_eq (s : Bool) (m k : Nat) : signed s m k = (if s then -1 else 1) * ((m * 2 ^ k : Nat) : Int) := by
  unfold signed
  rw [Nat.shiftLeft_eq]
  cases s <;> simp

theorem min_arith (q K : Nat) (hq : q ≤ 249) (k2 : K < 16777216) : min (q * 8388608 + K) 2139095040 = q * 8388608 + K := Nat.min_eq_left (by omega)
theorem lt_arith (q K : Nat) (hq : q ≤ 249) (k2 : K < 16777216) : q * 8388608 + K < 2139095040 := by omega
theorem div_arith (q K : Nat) (k1 : 8388608 ≤ K) (k2 : K < 16777216) : ¬ q * 8388608 + K < 8388608 ∧ 8388608 + (q * 8388608 + K) % 8388608 = K ∧ (q * 8388608 + K) / 8388608 - 1 = q := by omega
theorem min_arith0 (K : Nat) (k2 : K < 8388608) : min K 2139095040 = K ∧ K < 2139095040 ∧ K < 16777216 := by omega
theorem p23 : (2 : Nat) ^ 23 = 8388608 := by decide
theorem p24 : (2 : Nat) ^ 24 = 16777216 := by decide

/-- What has at most 24 binary digits at a place of the format is written exactly. -/
theorem near_val24 (s : Bool) (a : Nat) (p : Int) (ha : a < 16777216) (h1 : -149 ≤ p) (h2 : p ≤ 100) : Fv (single.nearest s a p) (signed s a (p + 149).toNat) := by
  have hb : single.binade = 8388608 := by decide
  have hi : single.infRung = 2139095040 := by decide
  have hl : single.leastPlace = -149 := by decide
  have hf : single.fractionBits = 23 := rfl
  by_cases h0 : a = 0
  · subst h0
    refine ⟨s, 0, -149, ?_, by omega, by omega, ?_⟩
    · unfold Format.nearest
      rw [if_pos rfl, read_word s 0 (by omega)]
      rfl
    · rw [signed_eq, signed_eq]; simp
  · have hlog := (Nat.log2_eq_iff h0 (k := a.log2)).1 rfl
    have hL : a.log2 ≤ 23 := by
      have : a.log2 < 24 := (Nat.log2_lt h0).2 ha
      omega
    unfold Format.nearest
    rw [if_neg h0, hf, hl, hi, hb]
    dsimp only
    by_cases hc : -149 ≤ p + (a.log2 : Int) - 23
    · have hmax : max (p + (a.log2 : Int) - ((23 : Nat) : Int)) (-149) = p + (a.log2 : Int) - 23 := by omega
      rw [hmax]
      obtain ⟨d, hd⟩ : ∃ d : Nat, d = 23 - a.log2 := ⟨_, rfl⟩
      obtain ⟨q, hq⟩ : ∃ q : Nat, (q : Int) = p + (a.log2 : Int) - 23 + 149 := ⟨(p + (a.log2 : Int) - 23 + 149).toNat, by omega⟩
      have e1 : (p + (a.log2 : Int) - 23 - p).toNat = 0 := by omega
      have e2 : (p - (p + (a.log2 : Int) - 23)).toNat = d := by omega
      have e3 : (p + (a.log2 : Int) - 23 - -149).toNat = q := by omega
      rw [e1, e2, e3, cut_zero, Nat.shiftLeft_eq]
      have k1 : 8388608 ≤ a * 2 ^ d := by
        have : 2 ^ a.log2 * 2 ^ d = 8388608 := by rw [← Nat.pow_add, show a.log2 + d = 23 from by omega, p23]
        rw [← this]; exact Nat.mul_le_mul_right _ hlog.1
      have k2 : a * 2 ^ d < 16777216 := by
        have : 2 ^ (a.log2 + 1) * 2 ^ d = 16777216 := by rw [← Nat.pow_add, show a.log2 + 1 + d = 24 from by omega, p24]
        rw [← this]; exact Nat.mul_lt_mul_of_pos_right hlog.2 (Nat.two_pow_pos _)
      have hval : a * 2 ^ (p + 149).toNat = a * 2 ^ d * 2 ^ q := by
        rw [Nat.mul_assoc, ← Nat.pow_add]; congr 2; omega
      generalize a * 2 ^ d = K at k1 k2 hval
      have hq9 : q ≤ 249 := by omega
      rw [min_arith q K hq9 k2]
      refine ⟨s, K, -149 + q, ?_, by omega, k2, ?_⟩
      · rw [read_word s _ (lt_arith q K hq9 k2), if_neg (div_arith q K k1 k2).1, (div_arith q K k1 k2).2.1, (div_arith q K k1 k2).2.2]
      · rw [signed_eq, signed_eq, hval, show ((-149 : Int) + q + 149).toNat = q from by omega]
    · have hmax : max (p + (a.log2 : Int) - ((23 : Nat) : Int)) (-149) = -149 := by omega
      rw [hmax]
      have e1 : (-149 - p).toNat = 0 := by omega
      have e2 : (p - -149).toNat = (p + 149).toNat := by omega
      have e3 : ((-149 : Int) - -149).toNat = 0 := by omega
      rw [e1, e2, e3, cut_zero, Nat.shiftLeft_eq, Nat.zero_mul, Nat.zero_add]
      have k2 : a * 2 ^ (p + 149).toNat < 8388608 := by
        have h3 : a * 2 ^ (p + 149).toNat < 2 ^ (a.log2 + 1) * 2 ^ (p + 149).toNat := Nat.mul_lt_mul_of_pos_right hlog.2 (Nat.two_pow_pos _)
        have h4 : 2 ^ (a.log2 + 1) * 2 ^ (p + 149).toNat ≤ 2 ^ 23 := by
          rw [← Nat.pow_add]; exact Nat.pow_le_pow_right (by omega) (by omega)
        rw [p23] at h4
        exact Nat.lt_of_lt_of_le h3 h4
      generalize hK : a * 2 ^ (p + 149).toNat = K at k2
      rw [(min_arith0 K k2).1]
      refine ⟨s, K, -149, ?_, by omega, (min_arith0 K k2).2.2, ?_⟩
      · rw [read_word s _ (min_arith0 K k2).2.1, if_pos k2]
      · rw [signed_eq, signed_eq, hK]; simp

/-- .. 2 ^ 24 itself too. -/
theorem near_val (s : Bool) (a : Nat) (p : Int) (ha : a ≤ 16777216) (h1 : -149 ≤ p) (h2 : p ≤ 99) : Fv (single.nearest s a p) (signed s a (p + 149).toNat) := by
  by_cases h : a < 16777216
  · exact near_val24 s a p h h1 (by omega)
  · obtain rfl : a = 8388608 * 2 ^ 1 := by omega
    have := near_val24 s 8388608 (p + 1) (by omega) (by omega) (by omega)
    rw [nearest_shift]
    rw [show signed s (8388608 * 2 ^ 1) (p + 149).toNat = signed s 8388608 (p + 1 + 149).toNat from by
      rw [signed_eq, signed_eq, Nat.mul_assoc, ← Nat.pow_add, show 1 + (p + 149).toNat = (p + 1 + 149).toNat from by omega]]
    exact this

/-- A whole number n at the place p. -/
def fl (n p : Int) : Nat := single.nearest (decide (n < 0)) n.natAbs p

theorem signed_natAbs (n : Int) (k : Nat) : signed (decide (n < 0)) n.natAbs k = n * 2 ^ k := by
  rw [signed_eq, Int.natCast_mul]
  have hp : ((2 ^ k : Nat) : Int) = 2 ^ k := by simp
  rw [hp, ← Int.mul_assoc]
  congr 1
  by_cases h : n < 0
  · simp [h]; omega
  · simp [h]; omega

theorem fl_val (n p : Int) (hn : n.natAbs ≤ 16777216) (h1 : -149 ≤ p) (h2 : p ≤ 99) : Fv (fl n p) (n * 2 ^ (p + 149).toNat) := by
  have := near_val (decide (n < 0)) n.natAbs p hn h1 h2
  rwa [signed_natAbs] at this

/-! ### the order -/
theorem compare_mul (a b : Int) (k : Nat) : compare (a * 2 ^ k) (b * 2 ^ k) = compare a b := by
  have hp : (0 : Int) < 2 ^ k := Int.pow_pos (by decide)
  rcases Int.lt_trichotomy a b with h | h | h
  · rw [Int.compare_eq_lt.2 h, Int.compare_eq_lt.2 (Int.mul_lt_mul_of_pos_right h hp)]
  · subst h; simp
  · rw [Int.compare_eq_gt.2 h, Int.compare_eq_gt.2 (Int.mul_lt_mul_of_pos_right h hp)]

theorem signed_up (s : Bool) (m k j : Nat) : signed s m k * 2 ^ j = signed s m (k + j) := by
  rw [signed_eq, signed_eq, Nat.pow_add, ← Nat.mul_assoc, Int.natCast_mul (m * 2 ^ k), Int.mul_assoc]
  simp

theorem order_val {x y : Nat} {X Y : Int} (hx : Fv x X) (hy : Fv y Y) : single.order x y = some (compare X Y) := by
  obtain ⟨s, m, i, hr, hi, _, rfl⟩ := hx
  obtain ⟨t, n, j, hr', hj, _, rfl⟩ := hy
  unfold Format.order
  rw [hr, hr']
  unfold Datum.order
  dsimp only
  have h1 : (i + 149).toNat = (i - min i j).toNat + (min i j + 149).toNat := by omega
  have h2 : (j + 149).toNat = (j - min i j).toNat + (min i j + 149).toNat := by omega
  rw [h1, h2, ← signed_up, ← signed_up, compare_mul]

/-! ### '/' by a power of two -/
theorem val_nearest (s : Bool) (n p : Int) (hs : n ≠ 0 → s = decide (n < 0)) (hn : n.natAbs ≤ 16777216) (h1 : -149 ≤ p) (h2 : p ≤ 99) : Fv (single.nearest s n.natAbs p) (n * 2 ^ (p + 149).toNat) := by
  have h := near_val s n.natAbs p hn h1 h2
  by_cases h0 : n = 0
  · subst h0
    have e : signed s (Int.natAbs 0) (p + 149).toNat = 0 * 2 ^ (p + 149).toNat := by rw [signed_eq]; simp
    rwa [e] at h
  · rw [hs h0] at h ⊢
    rwa [signed_natAbs] at h

/-- What a value says of sign and magnitude. -/
theorem val_parts {s : Bool} {m k j : Nat} {n : Int} (h : signed s m k = n * 2 ^ j) : m * 2 ^ k = n.natAbs * 2 ^ j ∧ (n ≠ 0 → s = decide (n < 0)) := by
  have hp : (0 : Int) < 2 ^ j := Int.pow_pos (by decide)
  have habs : (signed s m k).natAbs = m * 2 ^ k := by
    rw [signed_eq, Int.natAbs_mul, Int.natAbs_natCast]
    cases s
    · exact Nat.one_mul _
    · exact Nat.one_mul _
  have hb : (n * 2 ^ j).natAbs = n.natAbs * 2 ^ j := by
    rw [Int.natAbs_mul, Int.natAbs_pow]; rfl
  refine ⟨by rw [← habs, h, hb], fun hn => ?_⟩
  rw [signed_eq] at h
  have hge : (0 : Int) ≤ ((m * 2 ^ k : Nat) : Int) := by omega
  generalize ((m * 2 ^ k : Nat) : Int) = M at h hge
  cases s with
  | false =>
    simp at h
    by_cases hlt : n < 0
    · have := Int.mul_neg_of_neg_of_pos hlt hp
      omega
    · simp [hlt]
  | true =>
    simp at h
    by_cases hlt : n < 0
    · simp [hlt]
    · have := Int.mul_pos (show 0 < n from by omega) hp
      omega

theorem quot_arith (m more : Nat) (h : 23 ≤ more) : (m * 2 ^ more) / 8388608 = m * 2 ^ (more - 23) ∧ (m * 2 ^ more) % 8388608 = 0 := by
  have e : m * 2 ^ more = (m * 2 ^ (more - 23)) * 8388608 := by
    rw [← p23, Nat.mul_assoc, ← Nat.pow_add, Nat.sub_add_cancel h]
  rw [e]
  exact ⟨Nat.mul_div_cancel _ (by decide), Nat.mul_mod_left _ _⟩

theorem log2_8388608 : Nat.log2 8388608 = 23 := by decide

theorem div_val {x y : Nat} {n j : Int} (hx : Fv x (n * 2 ^ 149)) (hy : single.read y = .number false 8388608 j) :
    ∃ s, single.div x y = some (single.nearest s n.natAbs (-23 - j)) ∧ (n ≠ 0 → s = decide (n < 0)) := by
  obtain ⟨s, m, i, hr, hi, hm, hv⟩ := hx
  obtain ⟨hmag, hs⟩ := val_parts hv
  refine ⟨s, ?_, hs⟩
  unfold Format.div
  rw [hr, hy]
  unfold Datum.quotient
  dsimp only
  rw [if_neg (by decide), log2_8388608]
  have hlog : m.log2 ≤ 23 := by
    by_cases h0 : m = 0
    · subst h0; decide
    · have : m.log2 < 24 := (Nat.log2_lt h0).2 (by rw [p24]; exact hm)
      omega
  have hf : single.fractionBits = 23 := rfl
  rw [hf]
  obtain ⟨more, hmore⟩ : ∃ more : Nat, more = 23 + 2 + 23 - m.log2 := ⟨_, rfl⟩
  rw [← hmore, Nat.shiftLeft_eq]
  have hm23 : 23 ≤ more := by omega
  rw [(quot_arith m more hm23).1, (quot_arith m more hm23).2]
  show some (single.nearest (s ^^ false) _ _) = _
  congr 1
  rw [Bool.xor_false]
  refine nearest_same single s _ _ (i + 149).toNat (149 + more - 22) _ _ ?_ ?_
  · have e : (2 * (m * 2 ^ (more - 23)) + ((0 : Nat) != 0).toNat) * 2 ^ (i + 149).toNat = (m * 2 ^ (i + 149).toNat) * (2 * 2 ^ (more - 23)) := by
      have : ((0 : Nat) != 0).toNat = 0 := rfl
      rw [this, Nat.add_zero]
      simp only [Nat.mul_assoc, Nat.mul_comm, Nat.mul_left_comm]
    rw [e, hmag, Nat.mul_assoc, ← Nat.pow_succ', ← Nat.pow_add]
    congr 2
    omega
  · omega

theorem read1024 : single.read 1149239296 = .number false 8388608 (-13) := by decide
theorem read2p23 : single.read 1258291200 = .number false 8388608 0 := by decide
theorem readOne : single.read 1065353216 = .number false 8388608 (-23) := by decide
theorem readMinusOne : single.read 3212836864 = .number true 8388608 (-23) := by decide

theorem val_one : Fv 1065353216 (2 ^ 149) := ⟨false, 8388608, -23, readOne, by omega, by omega, by decide⟩
theorem val_minusOne : Fv 3212836864 (-2 ^ 149) := ⟨true, 8388608, -23, readMinusOne, by omega, by omega, by decide⟩

/-! ### '-', '*' by 2 ^ 23, the sign, back to an integer -/
theorem sub_val {x y : Nat} {a b : Int} {k : Nat} (hk : k ≤ 248) (hx : Fv x (a * 2 ^ k)) (hy : Fv y (b * 2 ^ k)) (hd : (a - b).natAbs ≤ 16777216) : ∃ r, single.sub x y = some r ∧ Fv r ((a - b) * 2 ^ k) := by
  obtain ⟨s, m, i, hr, hi, _, hv⟩ := hx
  obtain ⟨t, n, j, hr', hj, _, hv'⟩ := hy
  unfold Format.sub
  rw [hr, hr']
  unfold Datum.opposite Datum.sum
  dsimp only
  obtain ⟨base, hbase⟩ : ∃ base, base = min i j := ⟨_, rfl⟩
  rw [← hbase]
  obtain ⟨T, hT⟩ : ∃ T, T = signed s m (i - base).toNat + signed (!t) n (j - base).toNat := ⟨_, rfl⟩
  rw [← hT]
  have hop : signed (!t) n (j - base).toNat = - signed t n (j - base).toNat := by
    rw [signed_eq, signed_eq]; cases t <;> simp
  have hTv : T * 2 ^ (base + 149).toNat = (a - b) * 2 ^ k := by
    rw [hT, hop, Int.add_mul, Int.neg_mul, signed_up, signed_up, Int.sub_mul, ← hv, ← hv',
      show (i - base).toNat + (base + 149).toNat = (i + 149).toNat from by omega,
      show (j - base).toNat + (base + 149).toNat = (j + 149).toNat from by omega]
    rfl
  clear hop hT
  refine ⟨_, rfl, ?_⟩
  show Fv (single.nearest (if T = 0 then s && !t else decide (T < 0)) T.natAbs base) _
  have hs' : signed (decide (T < 0)) T.natAbs (base + 149).toNat = (a - b) * 2 ^ k := by rw [signed_natAbs, hTv]
  obtain ⟨hmag, hsg⟩ := val_parts hs'
  have hzero : T = 0 → a - b = 0 := fun h0 => by
    have hp : (2 : Int) ^ k ≠ 0 := by have : (0 : Int) < 2 ^ k := Int.pow_pos (by decide); omega
    rw [h0, Int.zero_mul] at hTv
    rcases Int.mul_eq_zero.1 hTv.symm with h | h
    · exact h
    · exact absurd h hp
  rw [nearest_same single _ T.natAbs (a - b).natAbs (base + 149).toNat k base (-149 + k) hmag (by omega)]
  have := val_nearest (if T = 0 then s && !t else decide (T < 0)) (a - b) (-149 + k) (fun hne => by
    rw [if_neg (fun h => hne (hzero h))]; exact hsg hne) hd (by omega) (by omega)
  rwa [show ((-149 : Int) + k + 149).toNat = k from by omega] at this

theorem mul_val {x : Nat} {c : Int} (hx : Fv x (c * 2 ^ 126)) (hc : c.natAbs ≤ 16777216) : ∃ r, single.mul x 1258291200 = some r ∧ Fv r (c * 2 ^ 149) := by
  obtain ⟨s, m, i, hr, hi, _, hv⟩ := hx
  obtain ⟨hmag, hs⟩ := val_parts hv
  unfold Format.mul
  rw [hr, read2p23]
  refine ⟨_, rfl, ?_⟩
  show Fv (single.nearest (s ^^ false) (m * 8388608) (i + 0)) _
  rw [Bool.xor_false, Int.add_zero, nearest_same single s (m * 8388608) c.natAbs (i + 149).toNat 149 i 0 (by
    rw [Nat.mul_right_comm, hmag, Nat.mul_assoc, ← p23, ← Nat.pow_add]) (by omega)]
  have := val_nearest s c 0 hs hc (by omega) (by omega)
  simpa using this

theorem neg_read (x : Nat) : single.read (x ^^^ 2 ^ 31) = (single.read x).opposite := by
  have hs : single.signWeight = 2 ^ 31 := by decide
  unfold Format.read
  rw [hs]
  have e1 : (x ^^^ 2 ^ 31) % 2 ^ 31 = x % 2 ^ 31 := by rw [Nat.xor_mod_two_pow, Nat.mod_self, Nat.xor_zero]
  have e2 : ((x ^^^ 2 ^ 31) / 2 ^ 31 % 2 == 1) = !(x / 2 ^ 31 % 2 == 1) := by
    rw [Nat.xor_div_two_pow, Nat.div_self (by decide)]
    have h3 : ∀ q : Nat, (q ^^^ 1) % 2 = (q % 2) ^^^ 1 := fun q => by
      have := Nat.xor_mod_two_pow (a := q) (b := 1) (n := 1)
      simpa using this
    rw [h3]
    rcases Nat.mod_two_eq_zero_or_one (x / 2 ^ 31) with h | h <;> rw [h] <;> rfl
  dsimp only
  rw [e1, e2]
  split
  · rfl
  · split
    · rfl
    · split <;> rfl

theorem neg_val {x : Nat} {V : Int} (hx : Fv x V) : Fv (x ^^^ 2 ^ 31) (-V) := by
  obtain ⟨s, m, i, hr, hi, hm, rfl⟩ := hx
  refine ⟨!s, m, i, by rw [neg_read, hr]; rfl, hi, hm, ?_⟩
  rw [signed_eq, signed_eq]; cases s <;> simp

theorem toInt_val {x : Nat} {c : Int} (hx : Fv x (c * 2 ^ 149)) : (single.read x).toInt .zero = some c := by
  obtain ⟨s, m, i, hr, hi, hm, hv⟩ := hx
  obtain ⟨hmag, hs⟩ := val_parts hv
  rw [hr]
  unfold Datum.toInt Datum.integral
  dsimp only
  have hcut : Toward.zero.cut s (m <<< i.toNat) (-i).toNat = c.natAbs := by
    unfold Toward.cut
    dsimp only
    rw [Nat.shiftLeft_eq, Nat.shiftLeft_eq, Nat.one_mul]
    show _ / _ + 0 = _
    rw [Nat.add_zero]
    by_cases h0 : m = 0
    · subst h0
      have : c.natAbs = 0 := by
        rw [Nat.zero_mul] at hmag
        rcases Nat.mul_eq_zero.1 hmag.symm with h | h
        · exact h
        · have := Nat.two_pow_pos 149; omega
      rw [this]; simp
    · by_cases hi0 : 0 ≤ i
      · have e1 : (-i).toNat = 0 := by omega
        rw [e1, Nat.zero_min, Nat.pow_zero, Nat.div_one]
        have e2 : (i + 149).toNat = i.toNat + 149 := by omega
        rw [e2, Nat.pow_add, ← Nat.mul_assoc] at hmag
        exact Nat.eq_of_mul_eq_mul_right (Nat.two_pow_pos 149) hmag
      · obtain ⟨d, hd⟩ : ∃ d : Nat, (d : Int) = -i := ⟨(-i).toNat, by omega⟩
        have e1 : (-i).toNat = d := by omega
        have e2 : i.toNat = 0 := by omega
        rw [e1, e2, Nat.pow_zero, Nat.mul_one]
        have hmd : m = c.natAbs * 2 ^ d := by
          have e3 : 149 = d + (i + 149).toNat := by omega
          have e4 : 2 ^ 149 = 2 ^ d * 2 ^ (i + 149).toNat := by rw [← Nat.pow_add, ← e3]
          rw [e4, ← Nat.mul_assoc] at hmag
          exact Nat.eq_of_mul_eq_mul_right (Nat.two_pow_pos _) hmag
        have hc0 : c.natAbs ≠ 0 := fun h => h0 (by rw [hmd, h, Nat.zero_mul])
        have hlog : m.log2 = c.natAbs.log2 + d := by rw [hmd, log2_mul_pow _ _ hc0]
        rw [show min d (m.log2 + 2) = d from by omega, hmd, Nat.mul_div_cancel _ (Nat.two_pow_pos d)]
  rw [hcut]
  congr 1
  by_cases h0 : c = 0
  · subst h0; rw [signed_eq]; simp
  · rw [hs h0, signed_natAbs]; simp

end Go.Proofs.Qxb6614444a.Fl
