import PyProof.Rows.All
import Wide.All
import OpenK.AllK
import Wide.FinOn
import PySem.Challenge.RW_ak5012_01
set_option Elab.async false
namespace Mine
/-! ## floats that are quarters of small integers -/
section
open PySem
open PySem.Float64

/-- a natural number below 2^53, scaled, is a float's magnitude -/
theorem V_has {n j : Nat} (hn : n < 2 ^ 53) (h1 : 52 ≤ j) (h2 : j ≤ 2000) : ∃ t, t < infMag ∧ V t = n * 2 ^ j := by
  by_cases h0 : n = 0
  · subst h0
    exact ⟨0, by decide, by rw [V_zero]; simp⟩
  · have hl := Nat.log2_self_le h0
    have hu := @Nat.lt_log2_self n
    have hL : n.log2 < 53 := (Nat.log2_lt h0).mpr hn
    generalize n.log2 = l at *
    have e1 : 2 ^ l * 2 ^ (52 - l) = 2 ^ 52 := by rw [← Nat.pow_add]; congr 1; omega
    have e2 : 2 ^ (l + 1) * 2 ^ (52 - l) = 2 ^ 53 := by rw [← Nat.pow_add]; congr 1; omega
    have q1 : 2 ^ 52 ≤ n * 2 ^ (52 - l) := by rw [← e1]; exact Nat.mul_le_mul_right _ hl
    have q2 : n * 2 ^ (52 - l) < 2 ^ 53 := by rw [← e2]; exact Nat.mul_lt_mul_of_pos_right hu (Nat.two_pow_pos _)
    have hv := V_at (k := j - (52 - l)) (q := n * 2 ^ (52 - l)) (Nat.le_of_lt q2) (.inl q1)
    refine ⟨(j - (52 - l)) * 2 ^ 52 + n * 2 ^ (52 - l), ?_, ?_⟩
    · have : infMag = 2047 * 2 ^ 52 := rfl
      omega
    · rw [hv, Nat.mul_assoc, ← Nat.pow_add]
      congr 2
      omega

theorem right_between {r : UInt64} {neg : Bool} {W D lo hi : Nat} (h : Right r neg W D) (hD : 0 < D) (hlo : D * V lo ≤ W) (hhi : W ≤ D * V hi) (hf : hi < infMag) :
    ∃ t, r = pack neg t ∧ t < infMag ∧ V lo ≤ V t ∧ V t ≤ V hi := by
  obtain ⟨t, hr, hle, hov, hn⟩ := h
  have hlt : t < infMag := by
    rcases Nat.lt_or_ge t infMag with h | h
    · exact h
    · exfalso
      have ht : t = infMag := by omega
      have h1 := hov.mp ht
      have hA : V (infMag - 1) = (2 ^ 53 - 1) * 2 ^ 2045 := by
        have e : infMag - 1 = 2045 * 2 ^ 52 + (2 ^ 53 - 1) := by unfold infMag; omega
        rw [e]
        exact V_at (k := 2045) (q := 2 ^ 53 - 1) (by omega) (.inl (by omega))
      have h2 : V hi ≤ (2 ^ 53 - 1) * 2 ^ 2045 := by rw [← hA]; exact V_mono (by omega)
      have hZ : (0 : Nat) < 2 ^ 2045 := Nat.two_pow_pos _
      generalize (2 : Nat) ^ 2045 = Z at *
      have h3 : 2 * W ≤ 2 * (D * ((2 ^ 53 - 1) * Z)) := Nat.mul_le_mul_left 2 (Nat.le_trans hhi (Nat.mul_le_mul_left D h2))
      have h4 : 2 * (D * ((2 ^ 53 - 1) * Z)) < D * ((2 ^ 54 - 1) * Z) := by
        have e1 : 2 * (D * ((2 ^ 53 - 1) * Z)) = D * (2 * ((2 ^ 53 - 1) * Z)) := by ac_rfl
        rw [e1]
        exact Nat.mul_lt_mul_of_pos_left (by omega) hD
      omega
  refine ⟨t, hr, hlt, ?_, ?_⟩
  · rcases Nat.lt_or_ge (V t) (V lo) with h | h
    · exfalso
      have h1 := (hn hlt lo).1
      have h2 : D * V t < D * V lo := Nat.mul_lt_mul_of_pos_left h hD
      unfold dist at h1
      omega
    · exact h
  · rcases Nat.lt_or_ge (V hi) (V t) with h | h
    · exfalso
      have h1 := (hn hlt hi).1
      have h2 : D * V hi < D * V t := Nat.mul_lt_mul_of_pos_left h hD
      unfold dist at h1
      omega
    · exact h
theorem V_inj {t t' : Nat} (h : V t = V t') : t = t' := by
  rcases Nat.lt_trichotomy t t' with h1 | h1 | h1
  · have := V_lt h1; omega
  · exact h1
  · have := V_lt h1; omega
theorem right_exact {r : UInt64} {neg : Bool} {W D t₀ : Nat} (h : Right r neg W D) (hD : 0 < D) (hW : W = D * V t₀) (hf : t₀ < infMag) : r = pack neg t₀ := by
  obtain ⟨t, hr, _, h1, h2⟩ := right_between h hD (Nat.le_of_eq hW.symm) (Nat.le_of_eq hW) hf
  rw [hr, V_inj (Nat.le_antisymm h2 h1)]

theorem e74 : (2 : Nat) ^ 1074 = 2 ^ 1072 * 4 := by decide +kernel
theorem e74' : (2 : Int) ^ 1074 = 2 ^ 1072 * 4 := by decide +kernel

/-- the float of k quarters -/
def U (k : Int) : UInt64 := ofFrac (decide (k < 0)) k.natAbs 4

theorem U_pack {k : Int} (hk : k.natAbs < 2 ^ 53) : ∃ t, t < infMag ∧ U k = pack (decide (k < 0)) t ∧ V t = k.natAbs * 2 ^ 1072 := by
  obtain ⟨t, h1, h2⟩ := V_has hk (j := 1072) (by decide) (by decide)
  refine ⟨t, h1, ?_, h2⟩
  refine right_exact (W := k.natAbs * 2 ^ 1072) (D := 1) ?_ (by decide) (by rw [h2, Nat.one_mul]) h1
  unfold U
  refine ofFrac_right (by decide) ?_ (by decide)
  rw [Nat.mul_one, Nat.mul_assoc, e74]
theorem val_of_pack {k : Int} {t : Nat} (hf : t < infMag) (hv : V t = k.natAbs * 2 ^ 1072) : val (pack (decide (k < 0)) t) = k * 2 ^ 1072 := by
  rw [val_pack _ hf, hv, sgn_mul]
  have : sgn (decide (k < 0)) k.natAbs = k := by
    unfold sgn
    by_cases h : k < 0
    · simp only [h, decide_true, if_true]; omega
    · simp only [h, decide_false, Bool.false_eq_true, if_false]; omega
  rw [this]
  simp
theorem U_dec {k : Int} (hk : k.natAbs < 2 ^ 53) : ∃ m e, decode (U k) = .fin (decide (k < 0)) m e ∧ val (U k) = k * 2 ^ 1072 ∧ m * 2 ^ (e + 1074).toNat = k.natAbs * 2 ^ 1072 := by
  obtain ⟨t, h1, h2, h3⟩ := U_pack hk
  obtain ⟨m, e, hd, hm⟩ := decode_pack (decide (k < 0)) h1
  rw [h2]
  exact ⟨m, e, hd, val_of_pack h1 h3, by rw [hm, h3]⟩
theorem U_zero : U 0 = zero false := by
  obtain ⟨t, h1, h2, h3⟩ := U_pack (k := 0) (by decide)
  have : t = 0 := V_inj (by rw [h3, V_zero]; simp)
  rw [h2, this]; rfl
theorem U_of {r : UInt64} {neg : Bool} {W D : Nat} {k : Int} (hk : k.natAbs < 2 ^ 53) (h : Right r neg W D) (hD : 0 < D) (hn : neg = decide (k < 0)) (hW : W = D * (k.natAbs * 2 ^ 1072)) : r = U k := by
  obtain ⟨t, h1, h2, h3⟩ := U_pack hk
  rw [h2, ← hn]
  exact right_exact h hD (by rw [h3, hW]) h1

theorem pp : (0 : Int) < 2 ^ 1072 := by decide +kernel
theorem mul_neg_iff {k P : Int} (hP : 0 < P) : (k * P < 0) ↔ k < 0 := by
  constructor
  · intro h
    rcases Int.lt_or_le k 0 with h1 | h1
    · exact h1
    · have := Int.mul_nonneg h1 (Int.le_of_lt hP); omega
  · intro h
    exact Int.mul_neg_of_neg_of_pos h hP
theorem mul_zero_iff {k P : Int} (hP : 0 < P) : (k * P = 0) ↔ k = 0 := by
  constructor
  · intro h
    rcases Int.mul_eq_zero.mp h with h | h
    · exact h
    · omega
  · intro h; rw [h, Int.zero_mul]
theorem natAbs_pow {k : Int} : (k * 2 ^ 1072).natAbs = k.natAbs * 2 ^ 1072 := by rw [Int.natAbs_mul]; simp [Int.natAbs_pow]

theorem U_add {a b : Int} (ha : a.natAbs < 2 ^ 52) (hb : b.natAbs < 2 ^ 52) : add (U a) (U b) = U (a + b) := by
  obtain ⟨m, e, hx, hvx, _⟩ := U_dec (k := a) (by omega)
  obtain ⟨k, f, hy, hvy, _⟩ := U_dec (k := b) (by omega)
  have h := add_right hx hy
  have hs : val (U a) + val (U b) = (a + b) * 2 ^ 1072 := by rw [hvx, hvy, Int.add_mul]
  rw [hs] at h
  by_cases h0 : a + b = 0
  · rw [h.1 (by rw [h0, Int.zero_mul]), h0, U_zero]
    congr 1
    by_cases h1 : a < 0
    · have : ¬ b < 0 := by omega
      simp [this]
    · simp [h1]
  · refine U_of (by omega) (h.2 (fun q => h0 ((mul_zero_iff pp).mp q))) (by decide) ?_ ?_
    · exact decide_eq_decide.mpr (mul_neg_iff pp)
    · rw [natAbs_pow, Nat.one_mul]
theorem U_sub {a b : Int} (ha : a.natAbs < 2 ^ 52) (hb : b.natAbs < 2 ^ 52) : sub (U a) (U b) = U (a - b) := by
  obtain ⟨m, e, hx, hvx, _⟩ := U_dec (k := a) (by omega)
  obtain ⟨k, f, hy, hvy, _⟩ := U_dec (k := b) (by omega)
  have h := sub_right hx hy
  have hs : val (U a) - val (U b) = (a - b) * 2 ^ 1072 := by rw [hvx, hvy, Int.sub_mul]
  rw [hs] at h
  by_cases h0 : a - b = 0
  · rw [h.1 (by rw [h0, Int.zero_mul]), h0, U_zero]
    congr 1
    by_cases h1 : a < 0
    · have : b < 0 := by omega
      simp [this]
    · simp [h1]
  · refine U_of (by omega) (h.2 (fun q => h0 ((mul_zero_iff pp).mp q))) (by decide) ?_ ?_
    · exact decide_eq_decide.mpr (mul_neg_iff pp)
    · rw [natAbs_pow, Nat.one_mul]
theorem U_mul {a b c : Int} (ha : a.natAbs < 2 ^ 53) (hb : b.natAbs < 2 ^ 53) (hc : c.natAbs < 2 ^ 53) (hb0 : 0 < b) (h : a * b = 4 * c) : mul (U a) (U b) = U c := by
  obtain ⟨m, e, hx, hvx, _⟩ := U_dec ha
  obtain ⟨k, f, hy, hvy, _⟩ := U_dec hb
  have hr := mul_right hx hy
  refine U_of hc hr (Nat.two_pow_pos _) ?_ ?_
  · have h1 : ¬ b < 0 := by omega
    have h2 : (a < 0) ↔ (c < 0) := by
      rw [← mul_neg_iff (k := a) hb0, h]; omega
    by_cases h3 : a < 0
    · simp [h1, h3, h2.mp h3]
    · have : ¬ c < 0 := fun q => h3 (h2.mpr q)
      simp [h1, h3, this]
  · rw [hvx, hvy, natAbs_pow, natAbs_pow]
    have e1 : a.natAbs * b.natAbs = 4 * c.natAbs := by rw [← Int.natAbs_mul, h, Int.natAbs_mul]; rfl
    rw [e74]
    generalize (2 : Nat) ^ 1072 = P
    calc a.natAbs * P * (b.natAbs * P) = (a.natAbs * b.natAbs) * (P * P) := by ac_rfl
      _ = 4 * c.natAbs * (P * P) := by rw [e1]
      _ = P * 4 * (c.natAbs * P) := by ac_rfl
theorem ofInt_U {n : Int} (hn : n.natAbs < 2 ^ 50) : ofInt n = U (4 * n) := by
  refine U_of (by omega) (ofInt_right n) (by decide) (decide_eq_decide.mpr (by omega)) ?_
  rw [Int.natAbs_mul, Nat.one_mul, e74]
  generalize (2 : Nat) ^ 1072 = P
  show n.natAbs * (P * 4) = 4 * n.natAbs * P
  ac_rfl
theorem U_cmpInt {a n : Int} (ha : a.natAbs < 2 ^ 53) : cmpInt (U a) n = some (compare a (4 * n)) := by
  obtain ⟨m, e, hx, hvx, _⟩ := U_dec ha
  rw [cmpInt_right hx, hvx]
  congr 1
  have e1 : n * 2 ^ 1074 = (4 * n) * 2 ^ 1072 := by
    rw [e74']
    generalize (2 : Int) ^ 1072 = P
    ac_rfl
  rw [e1]
  have hP := pp
  generalize (2 : Int) ^ 1072 = P at *
  rcases Int.lt_trichotomy a (4 * n) with h | h | h
  · rw [Int.compare_eq_lt.mpr h, Int.compare_eq_lt.mpr (Int.mul_lt_mul_of_pos_right h hP)]
  · rw [h]; simp
  · rw [Int.compare_eq_gt.mpr h, Int.compare_eq_gt.mpr (Int.mul_lt_mul_of_pos_right h hP)]

theorem ipow (n : Nat) : ((2 ^ n : Nat) : Int) = (2 : Int) ^ n := by simp
theorem ipow_pos (n : Nat) : (0 : Int) < (2 : Int) ^ n := by rw [← ipow]; exact Int.ofNat_lt.mpr (Nat.two_pow_pos _)
theorem floor_val {x : UInt64} {a : Bool} {m : Nat} {e : Int} (hx : decode x = .fin a m e) : floorOf a m e = val x / 2 ^ 1074 := by
  have he := decode_ge hx
  have hv : val x = sgn a m * (2 : Int) ^ (e + 1074).toNat := by rw [val_eq hx, sgn_mul, ipow]
  unfold floorOf
  rw [hv]
  split
  · have e1 : (e + 1074).toNat = e.toNat + 1074 := by omega
    rw [e1, Int.pow_add, ← Int.mul_assoc]
    have h0 := ipow_pos 1074
    generalize (2 : Int) ^ 1074 = P at *
    rw [Int.mul_ediv_cancel _ (by omega)]
  · have e1 : (1074 : Nat) = (-e).toNat + (e + 1074).toNat := by omega
    have e2 : (2 : Int) ^ 1074 = (2 : Int) ^ (-e).toNat * (2 : Int) ^ (e + 1074).toNat := by rw [← Int.pow_add, ← e1]
    rw [e2]
    have h1 := ipow_pos (-e).toNat
    have h2 := ipow_pos (e + 1074).toNat
    generalize (2 : Int) ^ (-e).toNat = p at *
    generalize (2 : Int) ^ (e + 1074).toNat = q at *
    rw [Int.mul_ediv_mul_of_pos_left _ _ h2, Int.fdiv_eq_ediv_of_nonneg _ (Int.le_of_lt h1)]
theorem trunc_val {x : UInt64} {a : Bool} {m : Nat} {e : Int} (hx : decode x = .fin a m e) : truncOf a m e = (val x).tdiv (2 ^ 1074) := by
  have h0 := ipow_pos 1074
  unfold truncOf
  cases a
  · rw [if_neg (by decide), floor_val hx, Int.tdiv_eq_ediv_of_nonneg]
    rw [val_eq hx]; unfold sgn; simp; exact Int.mul_nonneg (by omega) (Int.le_of_lt (ipow_pos _))
  · rw [if_pos rfl]
    unfold ceilOf
    have hn := floor_val (neg_decode hx)
    rw [hn, neg_val hx]
    have hneg : val x ≤ 0 := by rw [val_eq hx]; unfold sgn; simp; exact Int.mul_nonneg (by omega) (Int.le_of_lt (ipow_pos _))
    have : val x = -(-(val x)) := by omega
    rw [this, Int.neg_tdiv, Int.neg_neg (a := -val x), Int.tdiv_eq_ediv_of_nonneg (by omega)]
theorem toInt_floor_pack {neg : Bool} {t : Nat} (h : t < infMag) : Flt.toInt floorOf (pack neg t) = sgn neg (V t) / 2 ^ 1074 := by
  obtain ⟨m, e, hd, hm⟩ := decode_pack neg h
  rw [Flt.toInt_fin hd, floor_val hd, val_pack neg h]
theorem toInt_trunc_pack {neg : Bool} {t : Nat} (h : t < infMag) : Flt.toInt truncOf (pack neg t) = (sgn neg (V t)).tdiv (2 ^ 1074) := by
  obtain ⟨m, e, hd, hm⟩ := decode_pack neg h
  rw [Flt.toInt_fin hd, trunc_val hd, val_pack neg h]
theorem U_floor {k : Int} (hk : k.natAbs < 2 ^ 53) : Flt.toInt floorOf (U k) = k / 4 := by
  obtain ⟨m, e, hx, hv, _⟩ := U_dec hk
  rw [Flt.toInt_fin hx, floor_val hx, hv, e74', Int.mul_comm k]
  exact Int.mul_ediv_mul_of_pos _ _ pp
theorem U_trunc {k : Int} (hk : k.natAbs < 2 ^ 53) : Flt.toInt truncOf (U k) = k.tdiv 4 := by
  obtain ⟨m, e, hx, hv, _⟩ := U_dec hk
  rw [Flt.toInt_fin hx, trunc_val hx, hv, e74', Int.mul_comm k]
  exact Int.mul_tdiv_mul_of_pos _ _ pp
theorem U_finite {k : Int} (hk : k.natAbs < 2 ^ 53) : isFinite (U k) = true := by
  obtain ⟨m, e, hx, _, _⟩ := U_dec hk
  unfold isFinite; rw [hx]

/-- what a quotient's float lies between -/
theorem quo_between {r : UInt64} {neg : Bool} {n d : Nat} (hr : Right r neg (n * 2 ^ 1074) d) (hd : 0 < d) (hd2 : d ≤ 2 ^ 20) (hn : n / d < 2 ^ 32) :
    ∃ t, r = pack neg t ∧ t < infMag ∧ n / d * 2 ^ 20 * 2 ^ 1054 ≤ V t ∧ (n % d ≠ 0 → (n / d * 2 ^ 20 + 1) * 2 ^ 1054 ≤ V t) ∧ V t ≤ ((n / d + 1) * 2 ^ 20 - 1) * 2 ^ 1054 ∧ (n % d = 0 → V t = n / d * 2 ^ 20 * 2 ^ 1054) := by
  have hdm := Nat.div_add_mod n d
  have hml := Nat.mod_lt n hd
  have e : (2 : Nat) ^ 1074 = 2 ^ 20 * 2 ^ 1054 := by decide +kernel
  generalize n / d = q at *
  generalize n % d = s at *
  obtain ⟨t1, h11, h12⟩ := V_has (n := q * 2 ^ 20) (j := 1054) (by omega) (by decide) (by decide)
  obtain ⟨t2, h21, h22⟩ := V_has (n := q * 2 ^ 20 + 1) (j := 1054) (by omega) (by decide) (by decide)
  obtain ⟨t3, h31, h32⟩ := V_has (n := (q + 1) * 2 ^ 20 - 1) (j := 1054) (by omega) (by decide) (by decide)
  have hW : n * 2 ^ 1074 = n * 2 ^ 20 * 2 ^ 1054 := by rw [e, Nat.mul_assoc]
  have hP : (0 : Nat) < 2 ^ 1054 := Nat.two_pow_pos _
  have w1 : d * V t1 ≤ n * 2 ^ 1074 := by
    rw [h12, hW, ← Nat.mul_assoc]
    refine Nat.mul_le_mul_right _ ?_
    rw [← Nat.mul_assoc]
    refine Nat.mul_le_mul_right _ ?_
    omega
  have w2 : s ≠ 0 → d * V t2 ≤ n * 2 ^ 1074 := by
    intro hs
    rw [h22, hW, ← Nat.mul_assoc]
    refine Nat.mul_le_mul_right _ ?_
    rw [Nat.mul_add, ← Nat.mul_assoc, ← hdm, Nat.add_mul]
    omega
  have w3 : n * 2 ^ 1074 ≤ d * V t3 := by
    rw [h32, hW, ← Nat.mul_assoc]
    refine Nat.mul_le_mul_right _ ?_
    rw [Nat.mul_sub, ← hdm, Nat.add_mul, Nat.mul_one, ← Nat.mul_assoc, Nat.mul_add, Nat.add_mul, Nat.mul_one]
    omega
  have w4 : s = 0 → n * 2 ^ 1074 = d * V t1 := by
    intro hs
    rw [h12, hW, ← Nat.mul_assoc, ← hdm, hs, Nat.add_zero]; simp only [Nat.mul_assoc]
  obtain ⟨t, hr1, hr2, hr3, hr4⟩ := right_between hr hd w1 w3 h31
  refine ⟨t, hr1, hr2, by rw [← h12]; exact hr3, ?_, by rw [← h32]; exact hr4, ?_⟩
  · intro hs
    obtain ⟨t', k1, k2, k3, _⟩ := right_between hr hd (w2 hs) w3 h31
    have : t = t' := by
      have hp1 := pack_toNat neg (t := t) (by have : infMag = 2047 * 2 ^ 52 := rfl; omega)
      have hp2 := pack_toNat neg (t := t') (by have : infMag = 2047 * 2 ^ 52 := rfl; omega)
      rw [← hr1] at hp1; rw [← k1] at hp2
      omega
    rw [← h22, this]; exact k3
  · intro hs
    have hx := right_exact hr hd (w4 hs) h11
    have : t = t1 := by
      have hp1 := pack_toNat neg (t := t) (by have : infMag = 2047 * 2 ^ 52 := rfl; omega)
      have hp2 := pack_toNat neg (t := t1) (by have : infMag = 2047 * 2 ^ 52 := rfl; omega)
      rw [← hr1] at hp1; rw [← hx] at hp2
      omega
    rw [this, h12]

theorem floor_of_between {neg : Bool} {n d t : Nat} (hd : 0 < d) (h1 : n / d * 2 ^ 20 * 2 ^ 1054 ≤ V t) (h2 : n % d ≠ 0 → (n / d * 2 ^ 20 + 1) * 2 ^ 1054 ≤ V t) (h3 : V t ≤ ((n / d + 1) * 2 ^ 20 - 1) * 2 ^ 1054) (h4 : n % d = 0 → V t = n / d * 2 ^ 20 * 2 ^ 1054) :
    sgn neg (V t) / 2 ^ 1074 = sgn neg n / (d : Int) := by
  have e : (2 : Int) ^ 1074 = 2 ^ 20 * 2 ^ 1054 := by decide +kernel
  have hP : (0 : Nat) < 2 ^ 1054 := Nat.two_pow_pos _
  have hdm := Nat.div_add_mod n d
  have hml := Nat.mod_lt n hd
  have e' : (2 : Int) ^ 1054 = ((2 ^ 1054 : Nat) : Int) := (ipow 1054).symm
  have e'' : (2 : Int) ^ 20 = ((2 ^ 20 : Nat) : Int) := (ipow 20).symm
  have hM : (0 : Nat) < 2 ^ 20 := Nat.two_pow_pos _
  rw [e, e', e'']
  clear e e' e''
  generalize n / d = q at *
  generalize n % d = s at *
  generalize (2 : Nat) ^ 1054 = P at *
  generalize (2 : Nat) ^ 20 = M at *
  generalize V t = v at *
  have hq0 : (d : Int) * (q : Int) = ((d * q : Nat) : Int) := by simp
  have key : (sgn neg n / (d : Int) = if neg = true ∧ s ≠ 0 then -(q : Int) - 1 else sgn neg q) := by
    have hd' : (0 : Int) < d := by omega
    cases neg
    · rw [if_neg (by simp)]
      unfold sgn
      simp only [Bool.false_eq_true, if_false]
      rw [Int.ediv_eq_iff_of_pos hd']
      rw [Int.mul_comm, hq0]
      omega
    · unfold sgn
      simp only [if_true, true_and]
      split
      · rw [Int.ediv_eq_iff_of_pos hd']
        have : (-(q : Int) - 1) * d = -((d * q : Nat) : Int) - d := by rw [Int.sub_mul, Int.neg_mul, Int.mul_comm, hq0, Int.one_mul]
        rw [this]
        omega
      · rw [Int.ediv_eq_iff_of_pos hd']
        have : (-(q : Int)) * d = -((d * q : Nat) : Int) := by rw [Int.neg_mul, Int.mul_comm, hq0]
        rw [this]
        omega
  rw [key]
  have hPP : (0 : Int) < (M : Int) * (P : Int) := Int.mul_pos (by omega) (by omega)
  have hMP : (M : Int) * (P : Int) = ((M * P : Nat) : Int) := by simp
  have e5 : ((q + 1) * M - 1) * P + P = q * M * P + M * P := by
    have h : (q + 1) * M - 1 + 1 = q * M + M := by rw [Nat.succ_mul]; omega
    calc ((q + 1) * M - 1) * P + P = ((q + 1) * M - 1 + 1) * P := (Nat.succ_mul _ _).symm
      _ = (q * M + M) * P := by rw [h]
      _ = q * M * P + M * P := Nat.add_mul _ _ _
  have e6 : (q * M + 1) * P = q * M * P + P := by rw [Nat.add_mul, Nat.one_mul]
  have e3 : (q : Int) * ((M * P : Nat) : Int) = ((q * M * P : Nat) : Int) := by rw [Nat.mul_assoc]; simp
  rw [hMP] at hPP ⊢
  rw [e6] at h2
  generalize ((q + 1) * M - 1) * P = y at *
  cases neg
  · rw [if_neg (by simp)]
    unfold sgn
    simp only [Bool.false_eq_true, if_false]
    rw [Int.ediv_eq_iff_of_pos hPP, e3]
    generalize q * M * P = x at *
    generalize M * P = z at *
    omega
  · unfold sgn
    simp only [if_true, true_and]
    split
    · rename_i hs
      have h5 := h2 hs
      rw [Int.ediv_eq_iff_of_pos hPP]
      have e4 : (-(q : Int) - 1) * ((M * P : Nat) : Int) = -((q * M * P : Nat) : Int) - ((M * P : Nat) : Int) := by rw [Int.sub_mul, Int.neg_mul, e3, Int.one_mul]
      rw [e4]
      generalize q * M * P = x at *
      generalize M * P = z at *
      omega
    · rename_i hs
      have h5 := h4 (by omega)
      rw [Int.ediv_eq_iff_of_pos hPP]
      have e4 : (-(q : Int)) * ((M * P : Nat) : Int) = -((q * M * P : Nat) : Int) := by rw [Int.neg_mul, e3]
      rw [e4]
      generalize q * M * P = x at *
      generalize M * P = z at *
      omega
theorem trunc_of_between {neg : Bool} {n d t : Nat} (h1 : n / d * 2 ^ 20 * 2 ^ 1054 ≤ V t) (h3 : V t ≤ ((n / d + 1) * 2 ^ 20 - 1) * 2 ^ 1054) :
    (sgn neg (V t)).tdiv (2 ^ 1074) = (sgn neg n).tdiv (d : Int) := by
  have e : (2 : Nat) ^ 1074 = 2 ^ 20 * 2 ^ 1054 := by decide +kernel
  have key : V t / 2 ^ 1074 = n / d := by
    rw [e]
    have hP : (0 : Nat) < 2 ^ 1054 := Nat.two_pow_pos _
    generalize n / d = q at *
    generalize (2 : Nat) ^ 1054 = P at *
    have e5 : ((q + 1) * 2 ^ 20 - 1) * P + P = (q + 1) * 2 ^ 20 * P := by
      have h : (q + 1) * 2 ^ 20 - 1 + 1 = (q + 1) * 2 ^ 20 := by omega
      calc ((q + 1) * 2 ^ 20 - 1) * P + P = ((q + 1) * 2 ^ 20 - 1 + 1) * P := (Nat.succ_mul _ _).symm
        _ = (q + 1) * 2 ^ 20 * P := by rw [h]
    have hPP : 0 < 2 ^ 20 * P := Nat.mul_pos (by decide) hP
    apply Nat.div_eq_of_lt_le
    · rw [← Nat.mul_assoc]; exact h1
    · rw [← Nat.mul_assoc]; omega
  have c1 : (2 : Int) ^ 1074 = ((2 ^ 1074 : Nat) : Int) := (ipow 1074).symm
  rw [c1]
  unfold sgn
  cases neg
  · simp only [Bool.false_eq_true, if_false]
    rw [← Int.ofNat_tdiv, ← Int.ofNat_tdiv, key]
  · simp only [if_true]
    rw [Int.neg_tdiv, Int.neg_tdiv, ← Int.ofNat_tdiv, ← Int.ofNat_tdiv, key]
theorem sgn_abs {a : Int} : sgn (decide (a < 0)) a.natAbs = a := by
  unfold sgn
  by_cases h : a < 0
  · simp only [h, decide_true, if_true]; omega
  · simp only [h, decide_false, Bool.false_eq_true, if_false]; omega
/-- int by a positive int -/
theorem quo_right {a b : Int} (hb : 0 < b) : Right (ofFrac (decide (a < 0) != decide (b < 0)) a.natAbs b.natAbs) (decide (a < 0)) (a.natAbs * 2 ^ 1074) b.natAbs := by
  have : decide (b < 0) = false := by simp; omega
  rw [this, Bool.bne_false]
  exact ofFrac_right (by omega) rfl (by omega)
theorem quo_trunc {a b : Int} (hb : 0 < b) (hb2 : b ≤ 2 ^ 20) (ha : a.natAbs < 2 ^ 32) : Flt.toInt truncOf (ofFrac (decide (a < 0) != decide (b < 0)) a.natAbs b.natAbs) = a.tdiv b := by
  obtain ⟨t, hr, ht, h1, h2, h3, h4⟩ := quo_between (quo_right (a := a) hb) (by omega) (by omega) (Nat.lt_of_le_of_lt (Nat.div_le_self _ _) ha)
  rw [hr, toInt_trunc_pack ht, trunc_of_between h1 h3, sgn_abs]
  congr 1; omega
theorem quo_floor {a b : Int} (hb : 0 < b) (hb2 : b ≤ 2 ^ 20) (ha : a.natAbs < 2 ^ 32) : Flt.toInt floorOf (ofFrac (decide (a < 0) != decide (b < 0)) a.natAbs b.natAbs) = a / b := by
  obtain ⟨t, hr, ht, h1, h2, h3, h4⟩ := quo_between (quo_right (a := a) hb) (by omega) (by omega) (Nat.lt_of_le_of_lt (Nat.div_le_self _ _) ha)
  rw [hr, toInt_floor_pack ht, floor_of_between (by omega) h1 h2 h3 h4, sgn_abs]
  congr 1; omega
theorem right_scale {r : UInt64} {neg : Bool} {W D c : Nat} (hc : 0 < c) (h : Right r neg (W * c) (D * c)) : Right r neg W D := by
  obtain ⟨t, hr, hle, hov, hn⟩ := h
  refine ⟨t, hr, hle, ?_, fun hlt t' => ?_⟩
  · rw [hov]
    generalize (2 ^ 54 - 1) * 2 ^ 2045 = M
    have e1 : D * c * M = c * (D * M) := by ac_rfl
    have e2 : 2 * (W * c) = c * (2 * W) := by ac_rfl
    rw [e1, e2]
    exact Nat.mul_le_mul_left_iff hc
  · have hs : ∀ v, dist (W * c) (D * c * v) = c * dist W (D * v) := by
      intro v
      rw [← dist_mul]
      congr 1 <;> ac_rfl
    have h1 := hn hlt t'
    rw [hs, hs] at h1
    exact ⟨Nat.le_of_mul_le_mul_left h1.1 hc, fun hne he => h1.2 hne (by rw [he])⟩
theorem U_div_right {a b : Int} (ha : a.natAbs < 2 ^ 53) (hb : b.natAbs < 2 ^ 53) (hb0 : 0 < b) : Right (div (U a) (U b)) (decide (a < 0)) (a.natAbs * 2 ^ 1074) b.natAbs := by
  obtain ⟨m, e, hx, hvx, _⟩ := U_dec ha
  obtain ⟨k, f, hy, hvy, hk⟩ := U_dec hb
  have hk0 : k ≠ 0 := by
    intro h
    rw [h, Nat.zero_mul] at hk
    have : 0 < b.natAbs * 2 ^ 1072 := Nat.mul_pos (by omega) (Nat.two_pow_pos _)
    omega
  have h := div_right hx hy hk0
  have hb1 : decide (b < 0) = false := by simp; omega
  rw [hb1, Bool.bne_false, hvx, hvy, natAbs_pow, natAbs_pow] at h
  refine right_scale (c := 2 ^ 1072) (Nat.two_pow_pos _) ?_
  rw [show a.natAbs * 2 ^ 1074 * 2 ^ 1072 = a.natAbs * 2 ^ 1072 * 2 ^ 1074 from Nat.mul_right_comm _ _ _]
  exact h
theorem U_div_floor {a b : Int} (ha : a.natAbs < 2 ^ 53) (hb0 : 0 < b) (hb : b ≤ 2 ^ 20) (hq : a.natAbs / b.natAbs < 2 ^ 32) : Flt.toInt floorOf (div (U a) (U b)) = a / b := by
  obtain ⟨t, hr, ht, h1, h2, h3, h4⟩ := quo_between (U_div_right ha (by omega) hb0) (by omega) (by omega) hq
  rw [hr, toInt_floor_pack ht, floor_of_between (by omega) h1 h2 h3 h4, sgn_abs]
  congr 1; omega
theorem finite_of_between {r : UInt64} {neg : Bool} {t : Nat} (hr : r = pack neg t) (ht : t < infMag) : isFinite r = true := by
  obtain ⟨m, e, hd, _⟩ := decode_pack neg ht
  rw [hr]; unfold isFinite; rw [hd]
theorem U_div_finite {a b : Int} (ha : a.natAbs < 2 ^ 53) (hb0 : 0 < b) (hb : b ≤ 2 ^ 20) (hq : a.natAbs / b.natAbs < 2 ^ 32) : isFinite (div (U a) (U b)) = true := by
  obtain ⟨t, hr, ht, _⟩ := quo_between (U_div_right ha (by omega) hb0) (by omega) (by omega) hq
  exact finite_of_between hr ht
theorem quo_finite {a b : Int} (hb : 0 < b) (hb2 : b ≤ 2 ^ 20) (ha : a.natAbs < 2 ^ 32) : isFinite (ofFrac (decide (a < 0) != decide (b < 0)) a.natAbs b.natAbs) = true := by
  obtain ⟨t, hr, ht, _⟩ := quo_between (quo_right (a := a) hb) (by omega) (by omega) (Nat.lt_of_le_of_lt (Nat.div_le_self _ _) ha)
  exact finite_of_between hr ht

theorem U_notZero {k : Int} (hk : k.natAbs < 2 ^ 53) (h0 : k ≠ 0) : isZero (U k) = false := by
  obtain ⟨m, e, hx, _, hm⟩ := U_dec hk
  unfold isZero
  rw [hx]
  cases m with
  | zero =>
    exfalso
    rw [Nat.zero_mul] at hm
    have : 0 < k.natAbs * 2 ^ 1072 := Nat.mul_pos (by omega) (Nat.two_pow_pos _)
    omega
  | succ m => rfl
theorem U_lt_zero {k : Int} (hk : k.natAbs < 2 ^ 53) : lt (U k) (zero false) = decide (k < 0) := by
  obtain ⟨m, e, hx, hvx, _⟩ := U_dec hk
  obtain ⟨m', e', hy, hvy, _⟩ := U_dec (k := 0) (by decide)
  rw [← U_zero]
  unfold lt
  rw [cmp_right hx hy, hvx, hvy, Int.zero_mul]
  have hP := pp
  generalize (2 : Int) ^ 1072 = P at *
  by_cases h : k < 0
  · rw [Int.compare_eq_lt.mpr ((mul_neg_iff hP).mpr h)]; simp [h]
  · have h2 : ¬ (k * P < 0) := fun q => h ((mul_neg_iff hP).mp q)
    rcases Int.lt_trichotomy (k * P) 0 with h3 | h3 | h3
    · exact absurd h3 h2
    · rw [h3]; simp [h]
    · rw [Int.compare_eq_gt.mpr h3]; simp [h]
theorem U_fmod {a b : Int} (ha : a.natAbs < 2 ^ 53) (hb : b.natAbs < 2 ^ 53) (hb0 : 0 < b) : Right (fmod (U a) (U b)) (decide (a < 0)) (a.natAbs % b.natAbs * 2 ^ 1072) 1 := by
  obtain ⟨m, e, hx, hvx, hm⟩ := U_dec ha
  obtain ⟨k, f, hy, hvy, hk⟩ := U_dec hb
  have hk0 : k ≠ 0 := by
    intro h
    rw [h, Nat.zero_mul] at hk
    have : 0 < b.natAbs * 2 ^ 1072 := Nat.mul_pos (by omega) (Nat.two_pow_pos _)
    omega
  have he := decode_ge hx
  have hf := decode_ge hy
  have hfm : fmod (U a) (U b) = ofBin (decide (a < 0)) (m * 2 ^ (e - min e f).toNat % (k * 2 ^ (f - min e f).toNat)) (min e f) := by
    unfold fmod
    rw [hx, hy]
    simp only [align]
    rw [if_neg (by simpa using hk0)]
    unfold sgn
    simp only [Bool.false_eq_true, if_false, Int.toNat_natCast]
  rw [hfm]
  have h := ofBin_right (neg := decide (a < 0)) (M := m * 2 ^ (e - min e f).toNat % (k * 2 ^ (f - min e f).toNat)) (g := min e f) (by omega)
  have e1 : (e + 1074).toNat = (e - min e f).toNat + (min e f + 1074).toNat := by omega
  have e2 : (f + 1074).toNat = (f - min e f).toNat + (min e f + 1074).toNat := by omega
  rw [e1, Nat.pow_add, ← Nat.mul_assoc] at hm
  rw [e2, Nat.pow_add, ← Nat.mul_assoc] at hk
  rw [← Nat.mul_mod_mul_right, hm, hk, Nat.mul_mod_mul_right] at h
  exact h
theorem U_mod {a b : Int} (ha : a.natAbs < 2 ^ 52) (hb : b.natAbs < 2 ^ 52) (hb0 : 0 < b) : (divmod (U a) (U b)).2 = U (a % b) := by
  have h := U_fmod (a := a) (b := b) (by omega) (by omega) hb0
  have hlt : a.natAbs % b.natAbs < b.natAbs := Nat.mod_lt _ (by omega)
  by_cases hz : a.natAbs % b.natAbs = 0
  · have hm : fmod (U a) (U b) = zero (decide (a < 0)) := right_exact h (by decide) (by rw [hz, V_zero, Nat.zero_mul]) (by decide)
    have hz2 : isZero (zero (decide (a < 0))) = true := by cases decide (a < 0) <;> decide +kernel
    have hab : a % b = 0 := by
      have : b.natAbs ∣ a.natAbs := Nat.dvd_of_mod_eq_zero hz
      exact Int.emod_eq_zero_of_dvd (Int.natAbs_dvd_natAbs.mp this)
    unfold divmod
    simp only [hm, hz2, if_true]
    rw [hab, U_zero]
    obtain ⟨t, ht, hbt, hv⟩ := U_pack (k := b) (by omega)
    have hb1 : decide (b < 0) = false := by simp; omega
    rw [hb1] at hbt
    have hn := pack_toNat false (t := t) (by have : infMag = 2047 * 2 ^ 52 := rfl; omega)
    have hs : signBit (U b) = false := by
      rw [hbt]; unfold signBit; rw [hn]
      have : infMag = 2047 * 2 ^ 52 := rfl
      simp; omega
    unfold copysign
    rw [hs]
    decide +kernel
  · obtain ⟨r, hr1, hr2, hr3⟩ : ∃ r : Int, r.natAbs = a.natAbs % b.natAbs ∧ (r < 0 ↔ a < 0) ∧ r ≠ 0 := by
      by_cases h1 : a < 0
      · exact ⟨-((a.natAbs % b.natAbs : Nat) : Int), by omega, by omega, by omega⟩
      · exact ⟨((a.natAbs % b.natAbs : Nat) : Int), by omega, by omega, by omega⟩
    have hm : fmod (U a) (U b) = U r := U_of (by omega) h (by decide) (decide_eq_decide.mpr hr2.symm) (by rw [hr1, Nat.one_mul])
    have hz2 : isZero (U r) = false := U_notZero (by omega) hr3
    have hb1 : decide (b < 0) = false := by simp; omega
    unfold divmod
    simp only [hm, hz2, U_lt_zero (k := b) (by omega), U_lt_zero (k := r) (by omega), hb1]
    have hemod : a % b = if r < 0 then r + b else r := by
      have hd : ∃ q : Int, a = b * q + r := by
        have hdm := Nat.div_add_mod a.natAbs b.natAbs
        by_cases h1 : a < 0
        · refine ⟨-((a.natAbs / b.natAbs : Nat) : Int), ?_⟩
          have e1 : (b.natAbs : Int) = b := by omega
          have e2 : b * -((a.natAbs / b.natAbs : Nat) : Int) = -((b.natAbs * (a.natAbs / b.natAbs) : Nat) : Int) := by rw [Int.mul_neg, Int.natCast_mul, e1]
          rw [e2]
          omega
        · refine ⟨((a.natAbs / b.natAbs : Nat) : Int), ?_⟩
          have e1 : (b.natAbs : Int) = b := by omega
          have e2 : b * ((a.natAbs / b.natAbs : Nat) : Int) = ((b.natAbs * (a.natAbs / b.natAbs) : Nat) : Int) := by rw [Int.natCast_mul, e1]
          rw [e2]
          omega
      obtain ⟨q, hq⟩ := hd
      rw [hq, Int.add_comm, Int.add_mul_emod_self_left]
      split
      · rename_i h1
        rw [← Int.add_emod_right (a := r)]
        exact Int.emod_eq_of_lt (by omega) (by omega)
      · exact Int.emod_eq_of_lt (by omega) (by omega)
    rw [hemod]
    by_cases h1 : r < 0
    · simp only [h1, decide_true, Bool.false_eq_true, if_false, if_true]
      exact U_add (by omega) (by omega)
    · simp only [h1, decide_false, Bool.false_eq_true, if_false, bne_self_eq_false]
end
/-! ## the plain law -/
section
/-! the plain law, no program in sight -/
def lp (y : Int) : Int := if y % 4 = 0 ∧ (y % 100 ≠ 0 ∨ y % 400 = 0) then 1 else 0
def jg (y m : Int) : Int := 365 * (y - 1) + (y - 1) / 4 - (y - 1) / 100 + (y - 1) / 400 + (367 * m - 362) / 12 + (if m ≤ 2 then 0 else if lp y = 1 then -1 else -2) + 1
def lf (y : Int) : Int := 2451545 + 146097 * ((y - 2000) / 400) + 365 * ((y - 2000) % 400) + ((y - 2000) % 400 + 3) / 4 - max 0 ((y - 2000) % 400 - 1) / 100
theorem lp_cases (y : Int) : (lp y = 1 ∧ y % 4 = 0 ∧ (y % 100 ≠ 0 ∨ y % 400 = 0)) ∨ (lp y = 0 ∧ ¬ (y % 4 = 0 ∧ (y % 100 ≠ 0 ∨ y % 400 = 0))) := by
  unfold lp
  split
  · rename_i h; exact .inl ⟨rfl, h.1, h.2⟩
  · rename_i h; exact .inr ⟨rfl, h⟩
theorem lp_01 (y : Int) : 0 ≤ lp y ∧ lp y ≤ 1 := by
  rcases lp_cases y with ⟨h, _⟩ | ⟨h, _⟩ <;> omega
theorem jg_bound {y m : Int} (hy : -(2 ^ 28) < y ∧ y < 2 ^ 28) (hm : 1 ≤ m ∧ m ≤ 12) : -(2 ^ 40) < jg y m ∧ jg y m < 2 ^ 40 := by
  unfold jg
  split
  · omega
  · split <;> omega
theorem jg_one (y : Int) : jg y 1 = 365 * (y - 1) + (y - 1) / 4 - (y - 1) / 100 + (y - 1) / 400 + 1 := by
  unfold jg; simp
theorem lf_jg (y : Int) : lf y = 1721425 + jg y 1 := by
  rw [jg_one]
  unfold lf
  have h1 : (y - 2000) = 400 * ((y - 2000) / 400) + (y - 2000) % 400 := by omega
  have h2 := Int.emod_nonneg (y - 2000) (show (400 : Int) ≠ 0 by decide)
  have h3 := Int.emod_lt_of_pos (y - 2000) (show (0 : Int) < 400 by decide)
  generalize (y - 2000) / 400 = r at *
  generalize (y - 2000) % 400 = p at *
  have hy : y = 400 * r + p + 2000 := by omega
  subst hy
  omega
theorem lf_next (y : Int) : lf (y + 1) = lf y + 365 + lp y := by
  rw [lf_jg, lf_jg, jg_one, jg_one]
  rcases lp_cases y with ⟨h, h1, h2⟩ | ⟨h, h1⟩ <;> rw [h] <;> omega
theorem lf_step (y : Int) : lf y < lf (y + 1) := by
  rw [lf_next]; rcases lp_cases y with ⟨h, _⟩ | ⟨h, _⟩ <;> omega
theorem lf_mono {a b : Int} (h : a < b) : lf a < lf b := by
  have : ∀ n : Nat, lf a < lf (a + (n + 1 : Nat)) := by
    intro n
    induction n with
    | zero => exact lf_step a
    | succ n ih =>
      have := lf_step (a + (n + 1 : Nat))
      rw [Int.add_assoc] at this
      exact Int.lt_trans ih this
  have h2 := this (b - a - 1).toNat
  have e : a + (((b - a - 1).toNat + 1 : Nat) : Int) = b := by omega
  rw [e] at h2
  exact h2
open Classical in
noncomputable def ldY (n : Int) : Int := if h : ∃ y, lf y ≤ n ∧ n < lf (y + 1) then h.choose else 0
theorem ldY_eq {n y : Int} (h1 : lf y ≤ n) (h2 : n < lf (y + 1)) : ldY n = y := by
  have h : ∃ y, lf y ≤ n ∧ n < lf (y + 1) := ⟨y, h1, h2⟩
  unfold ldY
  rw [dif_pos h]
  obtain ⟨k1, k2⟩ := h.choose_spec
  generalize h.choose = z at *
  rcases Int.lt_trichotomy z y with h3 | h3 | h3
  · have : lf (z + 1) ≤ lf y := by
      rcases Int.lt_or_eq_of_le (show z + 1 ≤ y by omega) with h4 | h4
      · exact Int.le_of_lt (lf_mono h4)
      · rw [h4]; exact Int.le_refl _
    omega
  · exact h3
  · have : lf (y + 1) ≤ lf z := by
      rcases Int.lt_or_eq_of_le (show y + 1 ≤ z by omega) with h4 | h4
      · exact Int.le_of_lt (lf_mono h4)
      · rw [h4]; exact Int.le_refl _
    omega
/-- month and day of the k-th day (from 1) of a year whose February has f days -/
def mm (k f : Int) : Int := if k ≤ 31 then 1 else if k ≤ 31 + f then 2 else if k ≤ 62 + f then 3 else if k ≤ 92 + f then 4 else if k ≤ 123 + f then 5 else if k ≤ 153 + f then 6 else if k ≤ 184 + f then 7 else if k ≤ 215 + f then 8 else if k ≤ 245 + f then 9 else if k ≤ 276 + f then 10 else if k ≤ 306 + f then 11 else 12
def dd (k f : Int) : Int := if k ≤ 31 then k else if k ≤ 31 + f then k - 31 else if k ≤ 62 + f then k - 31 - f else if k ≤ 92 + f then k - 62 - f else if k ≤ 123 + f then k - 92 - f else if k ≤ 153 + f then k - 123 - f else if k ≤ 184 + f then k - 153 - f else if k ≤ 215 + f then k - 184 - f else if k ≤ 245 + f then k - 215 - f else if k ≤ 276 + f then k - 245 - f else if k ≤ 306 + f then k - 276 - f else k - 306 - f
noncomputable def ldM (n : Int) : Int := mm (n - lf (ldY n) + 1) (28 + lp (ldY n))
noncomputable def ldD (n : Int) : Int := dd (n - lf (ldY n) + 1) (28 + lp (ldY n))

/-- from_jd's year: e counts the days from the first of the year 1 -/
def fy (e : Int) : Int := e / 146097 * 400 + e % 146097 / 36524 * 100 + e % 146097 % 36524 / 1461 * 4 + e % 146097 % 36524 % 1461 / 365
theorem fy_parts (e : Int) : ∃ a c q z r : Int, a = e / 146097 ∧ c = e % 146097 / 36524 ∧ q = e % 146097 % 36524 / 1461 ∧ z = e % 146097 % 36524 % 1461 / 365 ∧ e = 146097 * a + 36524 * c + 1461 * q + 365 * z + r ∧
    0 ≤ c ∧ c ≤ 4 ∧ 0 ≤ q ∧ q ≤ 24 ∧ 0 ≤ z ∧ z ≤ 4 ∧ 0 ≤ r ∧ r ≤ 364 ∧ (c = 4 → q = 0 ∧ z = 0 ∧ r = 0) ∧ (z = 4 → r = 0 ∧ q ≤ 23) ∧ fy e = 400 * a + 100 * c + 4 * q + z := by
  refine ⟨_, _, _, _, e % 146097 % 36524 % 1461 % 365, rfl, rfl, rfl, rfl, ?_⟩
  have hy : fy e = e / 146097 * 400 + e % 146097 / 36524 * 100 + e % 146097 % 36524 / 1461 * 4 + e % 146097 % 36524 % 1461 / 365 := rfl
  have a1 := Int.mul_ediv_add_emod e 146097
  have a2 := Int.emod_nonneg e (show (146097 : Int) ≠ 0 by decide)
  have a3 := Int.emod_lt_of_pos e (show (0 : Int) < 146097 by decide)
  generalize e / 146097 = a at *
  generalize e % 146097 = e1 at *
  have b1 := Int.mul_ediv_add_emod e1 36524
  have b2 := Int.emod_nonneg e1 (show (36524 : Int) ≠ 0 by decide)
  have b3 := Int.emod_lt_of_pos e1 (show (0 : Int) < 36524 by decide)
  generalize e1 / 36524 = c at *
  generalize e1 % 36524 = e2 at *
  have c1 := Int.mul_ediv_add_emod e2 1461
  have c2 := Int.emod_nonneg e2 (show (1461 : Int) ≠ 0 by decide)
  have c3 := Int.emod_lt_of_pos e2 (show (0 : Int) < 1461 by decide)
  generalize e2 / 1461 = q at *
  generalize e2 % 1461 = e3 at *
  have d1 := Int.mul_ediv_add_emod e3 365
  have d2 := Int.emod_nonneg e3 (show (365 : Int) ≠ 0 by decide)
  have d3 := Int.emod_lt_of_pos e3 (show (0 : Int) < 365 by decide)
  generalize e3 / 365 = z at *
  generalize e3 % 365 = r at *
  omega
theorem fy_four (e : Int) (h : e % 146097 / 36524 = 4 ∨ e % 146097 % 36524 % 1461 / 365 = 4) : 0 ≤ e + 1 - jg (fy e) 1 ∧ e + 1 - jg (fy e) 1 ≤ 364 + lp (fy e) := by
  rw [jg_one]
  have hl := lp_cases (fy e)
  obtain ⟨a, c, q, z, r, ha, hc, hq, hz, he, c0, c1, q0, q1, z0, z1, r0, r1, hc4, hz4, hy⟩ := fy_parts e
  rw [← hc, ← hz] at h
  generalize lp (fy e) = l at *
  generalize fy e = y at *
  rcases h with h | h
  · obtain ⟨h1, h2, h3⟩ := hc4 h
    subst h; subst h1; subst h2; subst h3
    have e1 : (y - 1) / 4 = 100 * a + 99 := by omega
    have e2 : (y - 1) / 100 = 4 * a + 3 := by omega
    have e3 : (y - 1) / 400 = a := by omega
    have e4 : y % 4 = 0 := by omega
    have e5 : y % 400 = 0 := by omega
    omega
  · obtain ⟨h1, h2⟩ := hz4 h
    subst h; subst h1
    have c3 : c ≤ 3 := by omega
    have e1 : (y - 1) / 4 = 100 * a + 25 * c + q := by omega
    have e2 : (y - 1) / 100 = 4 * a + c := by omega
    have e3 : (y - 1) / 400 = a := by omega
    have e4 : y % 4 = 0 := by omega
    have e5 : y % 100 = 4 * q + 4 := by omega
    omega
theorem fy_less (e : Int) (h : ¬ (e % 146097 / 36524 = 4 ∨ e % 146097 % 36524 % 1461 / 365 = 4)) : 0 ≤ e + 1 - jg (fy e + 1) 1 ∧ e + 1 - jg (fy e + 1) 1 ≤ 364 + lp (fy e + 1) := by
  rw [jg_one]
  have hl := lp_cases (fy e + 1)
  obtain ⟨a, c, q, z, r, ha, hc, hq, hz, he, c0, c1, q0, q1, z0, z1, r0, r1, hc4, hz4, hy⟩ := fy_parts e
  rw [← hc, ← hz] at h
  generalize lp (fy e + 1) = l at *
  generalize fy e = y at *
  have c3 : c ≤ 3 := by omega
  have z3 : z ≤ 3 := by omega
  have e0 : y + 1 - 1 = y := by omega
  rw [e0]
  have e1 : y / 4 = 100 * a + 25 * c + q := by omega
  have e2 : y / 100 = 4 * a + c := by omega
  have e3 : y / 400 = a := by omega
  clear ha hc hq hz
  have : e + 1 - (365 * y + y / 4 - y / 100 + y / 400 + 1) = r := by omega
  omega
theorem fin_months : ∀ l : Fin 2, ∀ o : Fin 366, (o.val : Int) ≤ 364 + l.val → ∀ la : Fin 3,
    (((o.val : Int) < 58 + l.val ∧ la.val = 0) ∨ (¬ (o.val : Int) < 58 + l.val ∧ l.val = 1 ∧ la.val = 1) ∨ (¬ (o.val : Int) < 58 + l.val ∧ l.val = 0 ∧ la.val = 2)) →
    1 ≤ (((o.val : Int) + la.val) * 12 + 373) / 367 ∧ (((o.val : Int) + la.val) * 12 + 373) / 367 ≤ 12 ∧ (((o.val : Int) + la.val) * 12 + 373) / 367 = mm (o.val + 1) (28 + l.val) ∧
    (o.val : Int) + 1 - ((367 * ((((o.val : Int) + la.val) * 12 + 373) / 367) - 362) / 12 + (if (((o.val : Int) + la.val) * 12 + 373) / 367 ≤ 2 then 0 else if l.val = 1 then -1 else -2)) = dd (o.val + 1) (28 + l.val) := by decide +kernel
theorem fj_end {M y la m : Int} (h0 : 0 ≤ M - (1721424 + jg y 1)) (h1 : M - (1721424 + jg y 1) ≤ 364 + lp y)
    (hla : (M - (1721424 + jg y 1) < 58 + lp y ∧ la = 0) ∨ (¬ M - (1721424 + jg y 1) < 58 + lp y ∧ lp y = 1 ∧ la = 1) ∨ (¬ M - (1721424 + jg y 1) < 58 + lp y ∧ ¬ lp y = 1 ∧ la = 2))
    (hm : m = ((M - (1721424 + jg y 1) + la) * 12 + 373) / 367) :
    y = ldY (M + 1) ∧ m = ldM (M + 1) ∧ M - (1721424 + jg y m) + 1 = ldD (M + 1) := by
  have hl := lp_01 y
  have hY : ldY (M + 1) = y := by
    refine ldY_eq ?_ ?_
    · rw [lf_jg]; omega
    · rw [lf_next, lf_jg]; omega
  have hf := fin_months ⟨(lp y).toNat, by omega⟩ ⟨(M - (1721424 + jg y 1)).toNat, by omega⟩ (by dsimp only; omega) ⟨la.toNat, by omega⟩ (by dsimp only; omega)
  dsimp only at hf
  have e1 : ((M - (1721424 + jg y 1)).toNat : Int) = M - (1721424 + jg y 1) := by omega
  have e2 : ((lp y).toNat : Int) = lp y := by omega
  have e3 : (la.toNat : Int) = la := by omega
  rw [e1, e2, e3, ← hm] at hf
  obtain ⟨f1, f2, f3, f4⟩ := hf
  refine ⟨hY.symm, ?_, ?_⟩
  · unfold ldM
    rw [hY, lf_jg, f3]
    congr 1
    omega
  · unfold ldD
    rw [hY, lf_jg]
    have e4 : M + 1 - (1721425 + jg y 1) + 1 = M - (1721424 + jg y 1) + 1 := by omega
    rw [e4, ← f4]
    have e5 : ((lp y).toNat = 1) ↔ lp y = 1 := by omega
    have e6 : jg y m = jg y 1 + (367 * m - 362) / 12 + (if m ≤ 2 then 0 else if lp y = 1 then -1 else -2) := by
      rw [jg_one]; unfold jg; omega
    rw [e6]
    simp only [e5]
    omega
/-- the first Sunday behind n -/
def su (n : Int) : Int := n + 1 + (5 - n) % 7
theorem lf_walk (y : Int) : 2451545 + 146097 * ((y - 2000) / 400) + 365 * ((y - 2000) % 400) + ((y - 2000) % 400 + 3) / 4 - (if (y - 2000) % 400 - 1 > 0 then (y - 2000) % 400 - 1 else 0) / 100 = lf y := by
  unfold lf
  congr 2
  split <;> omega
def ep0 (y : Int) : Int := (11 * (y % 19 + 1) + 20 + ((8 * (y / 100 + 1) + 5) / 25 - 5) - (3 * (y / 100 + 1) / 4 - 12)) % 30
def full (y : Int) : Int := if ep0 y = 24 then 19 + 30 else if ep0 y = 25 ∧ y % 19 + 1 > 11 then 18 + 30 else if 44 - ep0 y < 21 then 44 - ep0 y + 30 else 44 - ep0 y
def we (y : Int) : Int := su (lf (y + 1) - 307 + full y)
def tab (i : Int) : Int := [15, 4, 23, 12, 1, 20, 9, 28, 17, 6, 25, 14, 3, 22, 11, 0, 19, 8, 27].getD i.toNat 0
def ol (y : Int) (b : Bool) : Int := su (1461 * ((y + 4712) / 4) + 365 * ((y + 4712) % 4) + 60 + 20 + tab (y % 19) + (if b = true ∧ y % 19 = 0 then 1 else 0))
theorem m_down {y n : Int} (h : lf y > n) : (lf (y - 1) - n).toNat < (lf y - n).toNat := by
  have := lf_step (y - 1)
  rw [Int.sub_add_cancel] at this
  omega
theorem m_up {y n : Int} (h : lf (y + 1) ≤ n) : (n + 1 - lf (y + 1 + 1)).toNat < (n + 1 - lf (y + 1)).toNat := by
  have := lf_step (y + 1)
  omega
theorem p_up {y n : Int} (h : lf y ≤ n) : lf y ≤ n ∧ lf (y + 1) = lf y + 365 + lp y ∧ 0 ≤ lp y ∧ lp y ≤ 1 := ⟨h, lf_next y, lp_01 y⟩
theorem md1 {k f : Int} (hf : 28 ≤ f ∧ f ≤ 29) (b : k ≤ 31) : mm k f = 1 ∧ dd k f = k := by
  unfold mm dd
  rw [if_pos b, if_pos b]
  exact ⟨rfl, rfl⟩
theorem md2 {k f : Int} (hf : 28 ≤ f ∧ f ≤ 29) (a : 31 < k) (b : k ≤ 31 + f) : mm k f = 2 ∧ dd k f = k - 31 := by
  unfold mm dd
  rw [if_neg (show ¬ k ≤ 31 by omega), if_pos b, if_neg (show ¬ k ≤ 31 by omega), if_pos b]
  exact ⟨rfl, rfl⟩
theorem md3 {k f : Int} (hf : 28 ≤ f ∧ f ≤ 29) (a : 31 + f < k) (b : k ≤ 62 + f) : mm k f = 3 ∧ dd k f = k - 31 - f := by
  unfold mm dd
  rw [if_neg (show ¬ k ≤ 31 by omega), if_neg (show ¬ k ≤ 31 + f by omega), if_pos b, if_neg (show ¬ k ≤ 31 by omega), if_neg (show ¬ k ≤ 31 + f by omega), if_pos b]
  exact ⟨rfl, rfl⟩
theorem md4 {k f : Int} (hf : 28 ≤ f ∧ f ≤ 29) (a : 62 + f < k) (b : k ≤ 92 + f) : mm k f = 4 ∧ dd k f = k - 62 - f := by
  unfold mm dd
  rw [if_neg (show ¬ k ≤ 31 by omega), if_neg (show ¬ k ≤ 31 + f by omega), if_neg (show ¬ k ≤ 62 + f by omega), if_pos b, if_neg (show ¬ k ≤ 31 by omega), if_neg (show ¬ k ≤ 31 + f by omega), if_neg (show ¬ k ≤ 62 + f by omega), if_pos b]
  exact ⟨rfl, rfl⟩
theorem md5 {k f : Int} (hf : 28 ≤ f ∧ f ≤ 29) (a : 92 + f < k) (b : k ≤ 123 + f) : mm k f = 5 ∧ dd k f = k - 92 - f := by
  unfold mm dd
  rw [if_neg (show ¬ k ≤ 31 by omega), if_neg (show ¬ k ≤ 31 + f by omega), if_neg (show ¬ k ≤ 62 + f by omega), if_neg (show ¬ k ≤ 92 + f by omega), if_pos b, if_neg (show ¬ k ≤ 31 by omega), if_neg (show ¬ k ≤ 31 + f by omega), if_neg (show ¬ k ≤ 62 + f by omega), if_neg (show ¬ k ≤ 92 + f by omega), if_pos b]
  exact ⟨rfl, rfl⟩
theorem md6 {k f : Int} (hf : 28 ≤ f ∧ f ≤ 29) (a : 123 + f < k) (b : k ≤ 153 + f) : mm k f = 6 ∧ dd k f = k - 123 - f := by
  unfold mm dd
  rw [if_neg (show ¬ k ≤ 31 by omega), if_neg (show ¬ k ≤ 31 + f by omega), if_neg (show ¬ k ≤ 62 + f by omega), if_neg (show ¬ k ≤ 92 + f by omega), if_neg (show ¬ k ≤ 123 + f by omega), if_pos b, if_neg (show ¬ k ≤ 31 by omega), if_neg (show ¬ k ≤ 31 + f by omega), if_neg (show ¬ k ≤ 62 + f by omega), if_neg (show ¬ k ≤ 92 + f by omega), if_neg (show ¬ k ≤ 123 + f by omega), if_pos b]
  exact ⟨rfl, rfl⟩
theorem md7 {k f : Int} (hf : 28 ≤ f ∧ f ≤ 29) (a : 153 + f < k) (b : k ≤ 184 + f) : mm k f = 7 ∧ dd k f = k - 153 - f := by
  unfold mm dd
  rw [if_neg (show ¬ k ≤ 31 by omega), if_neg (show ¬ k ≤ 31 + f by omega), if_neg (show ¬ k ≤ 62 + f by omega), if_neg (show ¬ k ≤ 92 + f by omega), if_neg (show ¬ k ≤ 123 + f by omega), if_neg (show ¬ k ≤ 153 + f by omega), if_pos b, if_neg (show ¬ k ≤ 31 by omega), if_neg (show ¬ k ≤ 31 + f by omega), if_neg (show ¬ k ≤ 62 + f by omega), if_neg (show ¬ k ≤ 92 + f by omega), if_neg (show ¬ k ≤ 123 + f by omega), if_neg (show ¬ k ≤ 153 + f by omega), if_pos b]
  exact ⟨rfl, rfl⟩
theorem md8 {k f : Int} (hf : 28 ≤ f ∧ f ≤ 29) (a : 184 + f < k) (b : k ≤ 215 + f) : mm k f = 8 ∧ dd k f = k - 184 - f := by
  unfold mm dd
  rw [if_neg (show ¬ k ≤ 31 by omega), if_neg (show ¬ k ≤ 31 + f by omega), if_neg (show ¬ k ≤ 62 + f by omega), if_neg (show ¬ k ≤ 92 + f by omega), if_neg (show ¬ k ≤ 123 + f by omega), if_neg (show ¬ k ≤ 153 + f by omega), if_neg (show ¬ k ≤ 184 + f by omega), if_pos b, if_neg (show ¬ k ≤ 31 by omega), if_neg (show ¬ k ≤ 31 + f by omega), if_neg (show ¬ k ≤ 62 + f by omega), if_neg (show ¬ k ≤ 92 + f by omega), if_neg (show ¬ k ≤ 123 + f by omega), if_neg (show ¬ k ≤ 153 + f by omega), if_neg (show ¬ k ≤ 184 + f by omega), if_pos b]
  exact ⟨rfl, rfl⟩
theorem md9 {k f : Int} (hf : 28 ≤ f ∧ f ≤ 29) (a : 215 + f < k) (b : k ≤ 245 + f) : mm k f = 9 ∧ dd k f = k - 215 - f := by
  unfold mm dd
  rw [if_neg (show ¬ k ≤ 31 by omega), if_neg (show ¬ k ≤ 31 + f by omega), if_neg (show ¬ k ≤ 62 + f by omega), if_neg (show ¬ k ≤ 92 + f by omega), if_neg (show ¬ k ≤ 123 + f by omega), if_neg (show ¬ k ≤ 153 + f by omega), if_neg (show ¬ k ≤ 184 + f by omega), if_neg (show ¬ k ≤ 215 + f by omega), if_pos b, if_neg (show ¬ k ≤ 31 by omega), if_neg (show ¬ k ≤ 31 + f by omega), if_neg (show ¬ k ≤ 62 + f by omega), if_neg (show ¬ k ≤ 92 + f by omega), if_neg (show ¬ k ≤ 123 + f by omega), if_neg (show ¬ k ≤ 153 + f by omega), if_neg (show ¬ k ≤ 184 + f by omega), if_neg (show ¬ k ≤ 215 + f by omega), if_pos b]
  exact ⟨rfl, rfl⟩
theorem md10 {k f : Int} (hf : 28 ≤ f ∧ f ≤ 29) (a : 245 + f < k) (b : k ≤ 276 + f) : mm k f = 10 ∧ dd k f = k - 245 - f := by
  unfold mm dd
  rw [if_neg (show ¬ k ≤ 31 by omega), if_neg (show ¬ k ≤ 31 + f by omega), if_neg (show ¬ k ≤ 62 + f by omega), if_neg (show ¬ k ≤ 92 + f by omega), if_neg (show ¬ k ≤ 123 + f by omega), if_neg (show ¬ k ≤ 153 + f by omega), if_neg (show ¬ k ≤ 184 + f by omega), if_neg (show ¬ k ≤ 215 + f by omega), if_neg (show ¬ k ≤ 245 + f by omega), if_pos b, if_neg (show ¬ k ≤ 31 by omega), if_neg (show ¬ k ≤ 31 + f by omega), if_neg (show ¬ k ≤ 62 + f by omega), if_neg (show ¬ k ≤ 92 + f by omega), if_neg (show ¬ k ≤ 123 + f by omega), if_neg (show ¬ k ≤ 153 + f by omega), if_neg (show ¬ k ≤ 184 + f by omega), if_neg (show ¬ k ≤ 215 + f by omega), if_neg (show ¬ k ≤ 245 + f by omega), if_pos b]
  exact ⟨rfl, rfl⟩
theorem md11 {k f : Int} (hf : 28 ≤ f ∧ f ≤ 29) (a : 276 + f < k) (b : k ≤ 306 + f) : mm k f = 11 ∧ dd k f = k - 276 - f := by
  unfold mm dd
  rw [if_neg (show ¬ k ≤ 31 by omega), if_neg (show ¬ k ≤ 31 + f by omega), if_neg (show ¬ k ≤ 62 + f by omega), if_neg (show ¬ k ≤ 92 + f by omega), if_neg (show ¬ k ≤ 123 + f by omega), if_neg (show ¬ k ≤ 153 + f by omega), if_neg (show ¬ k ≤ 184 + f by omega), if_neg (show ¬ k ≤ 215 + f by omega), if_neg (show ¬ k ≤ 245 + f by omega), if_neg (show ¬ k ≤ 276 + f by omega), if_pos b, if_neg (show ¬ k ≤ 31 by omega), if_neg (show ¬ k ≤ 31 + f by omega), if_neg (show ¬ k ≤ 62 + f by omega), if_neg (show ¬ k ≤ 92 + f by omega), if_neg (show ¬ k ≤ 123 + f by omega), if_neg (show ¬ k ≤ 153 + f by omega), if_neg (show ¬ k ≤ 184 + f by omega), if_neg (show ¬ k ≤ 215 + f by omega), if_neg (show ¬ k ≤ 245 + f by omega), if_neg (show ¬ k ≤ 276 + f by omega), if_pos b]
  exact ⟨rfl, rfl⟩
theorem md12 {k f : Int} (hf : 28 ≤ f ∧ f ≤ 29) (a : 306 + f < k) : mm k f = 12 ∧ dd k f = k - 306 - f := by
  unfold mm dd
  rw [if_neg (show ¬ k ≤ 31 by omega), if_neg (show ¬ k ≤ 31 + f by omega), if_neg (show ¬ k ≤ 62 + f by omega), if_neg (show ¬ k ≤ 92 + f by omega), if_neg (show ¬ k ≤ 123 + f by omega), if_neg (show ¬ k ≤ 153 + f by omega), if_neg (show ¬ k ≤ 184 + f by omega), if_neg (show ¬ k ≤ 215 + f by omega), if_neg (show ¬ k ≤ 245 + f by omega), if_neg (show ¬ k ≤ 276 + f by omega), if_neg (show ¬ k ≤ 306 + f by omega), if_neg (show ¬ k ≤ 31 by omega), if_neg (show ¬ k ≤ 31 + f by omega), if_neg (show ¬ k ≤ 62 + f by omega), if_neg (show ¬ k ≤ 92 + f by omega), if_neg (show ¬ k ≤ 123 + f by omega), if_neg (show ¬ k ≤ 153 + f by omega), if_neg (show ¬ k ≤ 184 + f by omega), if_neg (show ¬ k ≤ 215 + f by omega), if_neg (show ¬ k ≤ 245 + f by omega), if_neg (show ¬ k ≤ 276 + f by omega), if_neg (show ¬ k ≤ 306 + f by omega)]
  exact ⟨rfl, rfl⟩
def kk (c : Int) : Int := if 0 ≤ c - 17 then (c - 17) / 25 else -(-(c - 17) / 25)
def tw (b : Int) : Int := if 30 ≤ b then 0 else if 15 ≤ b then 1 else 29 / b
def ci (a n : Int) : Int := a - a / 28 * (1 - a / 28 * tw (a + 1) * ((21 - n) / 11))
theorem ci_eq {a n : Int} (ha : 0 ≤ a ∧ a < 30) (hn : 0 ≤ n ∧ n < 19) : ci a n = if a = 29 then 28 else if a = 28 ∧ 11 ≤ n then 27 else a := by
  unfold ci tw
  by_cases h : a < 28
  · have e : a / 28 = 0 := by omega
    rw [e, Int.zero_mul, if_neg (by omega), if_neg (by omega)]; omega
  · have e : a / 28 = 1 := by omega
    rw [e]
    by_cases h2 : a = 29
    · subst h2; simp
    · have h3 : a = 28 := by omega
      subst h3
      by_cases h4 : 11 ≤ n
      · have e2 : (21 - n) / 11 = 0 := by omega
        rw [e2]; simp [h4]
      · have e2 : (21 - n) / 11 = 1 := by omega
        rw [e2]; simp [h4]
theorem ci_bound {a n : Int} (ha : 0 ≤ a ∧ a < 30) (hn : 0 ≤ n ∧ n < 19) : 0 ≤ ci a n ∧ ci a n ≤ 28 := by
  rw [ci_eq ha hn]
  split
  · omega
  · split <;> omega
theorem moon_eq {c : Int} (hc : 15 ≤ c) : (8 * (c + 1) + 5) / 25 = (c - kk c) / 3 := by
  unfold kk
  split
  · obtain ⟨q, r, hq, h0, h1⟩ : ∃ q r : Int, c = 25 * q + r ∧ 0 ≤ r ∧ r < 25 := ⟨c / 25, c % 25, by omega, by omega, by omega⟩
    subst hq
    have hr : r = 0 ∨ r = 1 ∨ r = 2 ∨ r = 3 ∨ r = 4 ∨ r = 5 ∨ r = 6 ∨ r = 7 ∨ r = 8 ∨ r = 9 ∨ r = 10 ∨ r = 11 ∨ r = 12 ∨ r = 13 ∨ r = 14 ∨ r = 15 ∨ r = 16 ∨ r = 17 ∨ r = 18 ∨ r = 19 ∨ r = 20 ∨ r = 21 ∨ r = 22 ∨ r = 23 ∨ r = 24 := by omega
    by_cases h17 : r < 17
    · have e : (25 * q + r - 17) / 25 = q - 1 := by omega
      rw [e]
      rcases hr with rfl | rfl | rfl | rfl | rfl | rfl | rfl | rfl | rfl | rfl | rfl | rfl | rfl | rfl | rfl | rfl | rfl | rfl | rfl | rfl | rfl | rfl | rfl | rfl | rfl <;> omega
    · have e : (25 * q + r - 17) / 25 = q := by omega
      rw [e]
      rcases hr with rfl | rfl | rfl | rfl | rfl | rfl | rfl | rfl | rfl | rfl | rfl | rfl | rfl | rfl | rfl | rfl | rfl | rfl | rfl | rfl | rfl | rfl | rfl | rfl | rfl <;> omega
  · have : c = 15 ∨ c = 16 := by omega
    rcases this with rfl | rfl <;> decide
theorem full_eq {y : Int} (hy : 1583 ≤ y) : full y = 21 + ci ((y / 100 - y / 100 / 4 - (y / 100 - kk (y / 100)) / 3 + 19 * (y % 19) + 15) % 30) (y % 19) := by
  have hn : 0 ≤ y % 19 ∧ y % 19 < 19 := by omega
  have hc : 15 ≤ y / 100 := by omega
  rw [ci_eq (by omega) hn]
  unfold full ep0
  rw [moon_eq hc]
  have hS : 3 * (y / 100 + 1) / 4 = y / 100 - y / 100 / 4 := by omega
  rw [hS]
  generalize y / 100 - y / 100 / 4 = S
  generalize (y / 100 - kk (y / 100)) / 3 = M
  generalize y % 19 = n at *
  obtain ⟨a, ha⟩ : ∃ a, a = (S - M + 19 * n + 15) % 30 := ⟨_, rfl⟩
  have he : (11 * (n + 1) + 20 + (M - 5) - (S - 12)) % 30 = if a ≤ 23 then 23 - a else 53 - a := by split <;> omega
  rw [← ha, he]
  have hb : 0 ≤ a ∧ a < 30 := by omega
  clear he ha
  (repeat' split) <;> omega
theorem west {y i j : Int} (hy : 1583 ≤ y) (hi : i = ci ((y / 100 - y / 100 / 4 - (y / 100 - kk (y / 100)) / 3 + 19 * (y % 19) + 15) % 30) (y % 19)) (hb : 0 ≤ i ∧ i ≤ 28)
    (hj : j = (y + y / 4 + i + 2 - y / 100 + y / 100 / 4) % 7) :
    y = ldY (we y) ∧ 3 + (i - j + 40) / 44 = ldM (we y) ∧ i - j + 28 - 31 * ((3 + (i - j + 40) / 44) / 4) = ldD (we y) := by
  have hf := full_eq hy
  rw [← hi] at hf
  have hl := lp_01 y
  have hw : we y = lf (y + 1) - 279 + (i - j) := by
    unfold we su
    rw [hf, lf_jg, jg_one]
    have e : y + 1 - 1 = y := by omega
    rw [e]
    have h1 : y / 100 / 4 = y / 400 := by omega
    rw [h1] at hj
    have h5 : ∃ t, t = (5 - (1721425 + (365 * y + y / 4 - y / 100 + y / 400 + 1) - 307 + (21 + i))) % 7 := ⟨_, rfl⟩
    obtain ⟨t, ht⟩ := h5
    rw [← ht]
    generalize y / 4 = a at *
    generalize y / 100 = b at *
    generalize y / 400 = c at *
    omega
  have hj2 : 0 ≤ j ∧ j ≤ 6 := by omega
  have hY : ldY (we y) = y := by
    refine ldY_eq ?_ ?_
    · have := lf_next y; omega
    · omega
  have hk : we y - lf y + 1 = 87 + lp y + (i - j) := by have := lf_next y; omega
  refine ⟨hY.symm, ?_, ?_⟩
  · unfold ldM
    rw [hY, hk]
    by_cases h : i - j ≤ 3
    · rw [(md3 (by omega) (by omega) (by omega)).1]; omega
    · rw [(md4 (by omega) (by omega) (by omega)).1]; omega
  · unfold ldD
    rw [hY, hk]
    by_cases h : i - j ≤ 3
    · rw [(md3 (by omega) (by omega) (by omega)).2]; omega
    · rw [(md4 (by omega) (by omega) (by omega)).2]; omega
theorem tab_eq {m : Int} (h : 0 ≤ m ∧ m < 19) : tab m = (19 * m + 15) % 30 := by
  have hm : m = 0 ∨ m = 1 ∨ m = 2 ∨ m = 3 ∨ m = 4 ∨ m = 5 ∨ m = 6 ∨ m = 7 ∨ m = 8 ∨ m = 9 ∨ m = 10 ∨ m = 11 ∨ m = 12 ∨ m = 13 ∨ m = 14 ∨ m = 15 ∨ m = 16 ∨ m = 17 ∨ m = 18 := by omega
  rcases hm with rfl | rfl | rfl | rfl | rfl | rfl | rfl | rfl | rfl | rfl | rfl | rfl | rfl | rfl | rfl | rfl | rfl | rfl | rfl <;> rfl
/-- the old reckoning: d is the moon's number -/
theorem old_eq {y d D : Int} (hD : D = 113 + d + (2 * (y % 4) + 4 * (y % 7) - d + 6) % 7 + 1) :
    1461 * (y + 4716) / 4 + (31 * (D / 31) + 29) + (D % 31 + 1) - 1525 + 1 = su (1461 * ((y + 4712) / 4) + 365 * ((y + 4712) % 4) + 60 + 20 + d) := by
  unfold su
  obtain ⟨r, p, hy, hp⟩ : ∃ r p : Int, y = 4 * r + p - 4712 ∧ 0 ≤ p ∧ p < 4 := ⟨(y + 4712) / 4, (y + 4712) % 4, by omega, by omega, by omega⟩
  have e1 : (y + 4712) / 4 = r := by omega
  have e2 : (y + 4712) % 4 = p := by omega
  have e3 : 1461 * (y + 4716) / 4 = 1461 * r + 365 * p + 1461 := by omega
  have e4 : y % 4 = p := by omega
  rw [e1, e2, e3]
  rw [e4] at hD
  have e5 : (2 * p + 4 * (y % 7) - d + 6) % 7 = (5 - (1461 * r + 365 * p + 60 + 20 + d)) % 7 := by omega
  rw [e5] at hD
  omega
theorem old_f (y D : Int) (hD : D = 113 + (19 * (y % 19) + 15) % 30 + (2 * (y % 4) + 4 * (y % 7) - (19 * (y % 19) + 15) % 30 + 6) % 7 + 1) :
    1461 * (y + 4716) / 4 + (31 * (D / 31) + 29) + (D % 31 + 1) - 1525 + 1 = ol y false := by
  rw [old_eq hD]
  unfold ol
  rw [tab_eq (by omega), if_neg (by simp)]
  congr 1; omega
theorem old_t (y D : Int) (h : y % 19 = 0) (hD : D = 113 + ((19 * (y % 19) + 15) % 30 + 1) + (2 * (y % 4) + 4 * (y % 7) - ((19 * (y % 19) + 15) % 30 + 1) + 6) % 7 + 1) :
    1461 * (y + 4716) / 4 + (31 * (D / 31) + 29) + (D % 31 + 1) - 1525 + 1 = ol y true := by
  rw [old_eq hD]
  unfold ol
  rw [tab_eq (by omega), if_pos ⟨rfl, h⟩]
  congr 1; omega
theorem ol_tf (y : Int) (h : ¬ y % 19 = 0) : ol y true = ol y false := by
  unfold ol
  rw [if_neg (fun q => h q.2), if_neg (by simp)]
end
open PySem PySem.W PyProof.Rows
set_option maxRecDepth 100000
section
set_option maxHeartbeats 0
open_top hd for PySem.Challenge.rw_ak5012_01
end
set_option maxHeartbeats 8000000
/-! ## steps of the walk, contracts -/
section
/-! steps of floats -/
def Qf (a b : Int) : UInt64 := Float64.ofFrac (decide (a < 0) != decide (b < 0)) a.natAbs b.natAbs
def Du (a b : Int) : UInt64 := Float64.div (U a) (U b)
theorem U_mulR {a b c : Int} (ha : a.natAbs < 2 ^ 53) (hb : b.natAbs < 2 ^ 53) (hc : c.natAbs < 2 ^ 53) (ha0 : 0 < a) (h : a * b = 4 * c) : Float64.mul (U a) (U b) = U c := by
  obtain ⟨m, e, hx, hvx, _⟩ := U_dec ha
  obtain ⟨k, f, hy, hvy, _⟩ := U_dec hb
  have hr := Float64.mul_right hx hy
  refine U_of hc hr (Nat.two_pow_pos _) ?_ ?_
  · have h1 : ¬ a < 0 := by omega
    have h2 : (b < 0) ↔ (c < 0) := by
      rw [← mul_neg_iff (k := b) ha0, Int.mul_comm, h]; omega
    by_cases h3 : b < 0
    · simp [h1, h3, h2.mp h3]
    · have : ¬ c < 0 := fun q => h3 (h2.mpr q)
      simp [h1, h3, this]
  · rw [hvx, hvy, natAbs_pow, natAbs_pow]
    have e1 : a.natAbs * b.natAbs = 4 * c.natAbs := by rw [← Int.natAbs_mul, h, Int.natAbs_mul]; rfl
    rw [e74]
    generalize (2 : Nat) ^ 1072 = P
    calc a.natAbs * P * (b.natAbs * P) = (a.natAbs * b.natAbs) * (P * P) := by ac_rfl
      _ = 4 * c.natAbs * (P * P) := by rw [e1]
      _ = P * 4 * (c.natAbs * P) := by ac_rfl

section
variable {prog : Program} {w : World} {A : Around} {E : Value → Shared → Prop} {s : Shared} {t u : Tok} {Q : Value → Shared → Prop} {x y : UInt64} {a b n k : Int}
theorem small_fits (hn : n.natAbs < 2 ^ 48) : ¬ 2 ^ 1024 - 2 ^ 970 ≤ n.natAbs := by
  have h : (2 : Nat) ^ 48 ≤ 2 ^ 1024 - 2 ^ 970 := by decide +kernel
  exact Nat.not_le_of_lt (Nat.lt_of_lt_of_le hn h)
theorem not_over (hn : n.natAbs < 2 ^ 48) : ¬ Flt.Over n := by
  intro h
  have h' := (Float64.ofInt_isInf_iff (n := n)).1 (Flt.inf_of_over h)
  exact small_fits hn h'
theorem w_div_ii (hA : A.handled = none) (hb : 0 < b) (ha : a.natAbs < 2 ^ 32) (h : Q (.float (Qf a b) s.toks) { s with toks := s.toks + 1 }) : wpAny (model prog w) A (binaryOp .Div (.int a t) (.int b u)) Q E s :=
  Flt.div_ii_fits hA (Nat.lt_trans ha (by decide +kernel)) (fun h0 => absurd h0 (by omega)) (fun _ _ => h)
theorem w_floor (hA : A.handled = none) (hf : Float64.isFinite x = true) {r : Int} (hr : Flt.toInt Float64.floorOf x = r) (h : Q (.int r s.toks) { s with toks := s.toks + 1 }) : wpAny (model prog w) A (call (.builtin "math.floor") [.float x t]) Q E s := by
  subst hr
  exact Flt.call_floor_float hA (fun h1 => absurd h1 (by rw [Flt.not_nan_of_finite hf]; simp)) (fun h1 => absurd h1 (by rw [Flt.not_inf_of_finite hf]; simp)) (fun _ => h)
theorem w_trunc (hA : A.handled = none) (hf : Float64.isFinite x = true) {r : Int} (hr : Flt.toInt Float64.truncOf x = r) (h : Q (.int r s.toks) { s with toks := s.toks + 1 }) : wpAny (model prog w) A (call (.builtin "math.trunc") [.float x t]) Q E s := by
  subst hr
  exact Flt.call_trunc_float hA (fun h1 => absurd h1 (by rw [Flt.not_nan_of_finite hf]; simp)) (fun h1 => absurd h1 (by rw [Flt.not_inf_of_finite hf]; simp)) (fun _ => h)
theorem w_int (hA : A.handled = none) (hf : Float64.isFinite x = true) {r : Int} (hr : Flt.toInt Float64.truncOf x = r) (h : Q (.int r s.toks) { s with toks := s.toks + 1 }) : wpAny (model prog w) A (call (.type "int") [.float x t]) Q E s := by
  subst hr
  exact Flt.call_int_float3 hA (fun h1 => absurd h1 (by rw [Flt.not_nan_of_finite hf]; simp)) (fun h1 => absurd h1 (by rw [Flt.not_inf_of_finite hf]; simp)) (fun _ => h)
theorem w_floor_u (hA : A.handled = none) (hk : k.natAbs < 2 ^ 53) (h : Q (.int (k / 4) s.toks) { s with toks := s.toks + 1 }) : wpAny (model prog w) A (call (.builtin "math.floor") [.float (U k) t]) Q E s :=
  w_floor hA (U_finite hk) (U_floor hk) h
theorem w_int_u (hA : A.handled = none) (hk : k.natAbs < 2 ^ 53) (h0 : 0 ≤ k) (h : Q (.int (k / 4) s.toks) { s with toks := s.toks + 1 }) : wpAny (model prog w) A (call (.type "int") [.float (U k) t]) Q E s :=
  w_int hA (U_finite hk) ((U_trunc hk).trans (Int.tdiv_eq_ediv_of_nonneg h0)) h
theorem w_floor_q (hA : A.handled = none) (hb : 0 < b) (hb2 : b ≤ 2 ^ 20) (ha : a.natAbs < 2 ^ 32) (h : Q (.int (a / b) s.toks) { s with toks := s.toks + 1 }) : wpAny (model prog w) A (call (.builtin "math.floor") [.float (Qf a b) t]) Q E s :=
  w_floor hA (quo_finite hb hb2 ha) (quo_floor hb hb2 ha) h
theorem w_trunc_q (hA : A.handled = none) (h0 : 0 ≤ a) (hb : 0 < b) (hb2 : b ≤ 2 ^ 20) (ha : a.natAbs < 2 ^ 32) (h : Q (.int (a / b) s.toks) { s with toks := s.toks + 1 }) : wpAny (model prog w) A (call (.builtin "math.trunc") [.float (Qf a b) t]) Q E s :=
  w_trunc hA (quo_finite hb hb2 ha) ((quo_trunc hb hb2 ha).trans (Int.tdiv_eq_ediv_of_nonneg h0)) h
theorem w_trunc_qn (hA : A.handled = none) (hb : 0 < b) (hb2 : b ≤ 2 ^ 20) (ha : a.natAbs < 2 ^ 32) (h : Q (.int (if 0 ≤ a then a / b else -(-a / b)) s.toks) { s with toks := s.toks + 1 }) : wpAny (model prog w) A (call (.builtin "math.trunc") [.float (Qf a b) t]) Q E s := by
  refine w_trunc hA (quo_finite hb hb2 ha) ((quo_trunc hb hb2 ha).trans ?_) h
  split
  · rename_i h0; exact Int.tdiv_eq_ediv_of_nonneg h0
  · have : a = -(-a) := by omega
    rw [this, Int.neg_tdiv, Int.tdiv_eq_ediv_of_nonneg (by omega), Int.neg_neg]
theorem w_floor_d (hA : A.handled = none) (hb : 0 < b) (hb2 : b ≤ 2 ^ 20) (ha : a.natAbs < 2 ^ 53) (hq : a.natAbs / b.natAbs < 2 ^ 32) (h : Q (.int (a / b) s.toks) { s with toks := s.toks + 1 }) : wpAny (model prog w) A (call (.builtin "math.floor") [.float (Du a b) t]) Q E s :=
  w_floor hA (U_div_finite ha hb hb2 hq) (U_div_floor ha hb hb2 hq) h
theorem w_div_fi (hA : A.handled = none) (hn : 0 < n) (hn2 : n.natAbs < 2 ^ 48) (h : Q (.float (Du a (4 * n)) s.toks) { s with toks := s.toks + 1 }) : wpAny (model prog w) A (binaryOp .Div (.float (U a) t) (.int n u)) Q E s := by
  refine Flt.truediv_fi hA (fun h1 => absurd h1 (not_over hn2)) (fun h1 => absurd h1 (by omega)) (fun _ _ => ?_)
  rw [ofInt_U (by omega)]
  exact h
theorem w_mod_fi (hA : A.handled = none) (ha : a.natAbs < 2 ^ 52) (hn : 0 < n) (hn2 : n.natAbs < 2 ^ 48) (h : Q (.float (U (a % (4 * n))) s.toks) { s with toks := s.toks + 1 }) : wpAny (model prog w) A (binaryOp .Mod (.float (U a) t) (.int n u)) Q E s := by
  refine Flt.mod_fi hA (fun h1 => absurd h1 (not_over hn2)) (fun h1 => absurd h1 (by omega)) (fun _ _ => ?_)
  rw [ofInt_U (by omega), U_mod ha (by omega) (by omega)]
  exact h
theorem w_add_fi (hA : A.handled = none) (hx : x = U a) (ha : a.natAbs < 2 ^ 52) (hn : n.natAbs < 2 ^ 48) (h : Q (.float (U (a + 4 * n)) s.toks) { s with toks := s.toks + 1 }) : wpAny (model prog w) A (binaryOp .Add (.float x t) (.int n u)) Q E s := by
  refine add_fi_sharp hA (fun h1 => absurd h1 (small_fits hn)) (fun _ => ?_)
  rw [hx, ofInt_U (by omega), U_add ha (by omega)]
  exact h
theorem w_add_if (hA : A.handled = none) (hx : x = U a) (ha : a.natAbs < 2 ^ 52) (hn : n.natAbs < 2 ^ 48) (h : Q (.float (U (4 * n + a)) s.toks) { s with toks := s.toks + 1 }) : wpAny (model prog w) A (binaryOp .Add (.int n u) (.float x t)) Q E s := by
  refine add_if_sharp hA (fun h1 => absurd h1 (small_fits hn)) (fun _ => ?_)
  rw [hx, ofInt_U (by omega), U_add (by omega) ha]
  exact h
theorem w_add_raw (hA : A.handled = none) (hn : n.natAbs < 2 ^ 48) (h : Q (.float (Float64.add x (Float64.ofInt n)) s.toks) { s with toks := s.toks + 1 }) : wpAny (model prog w) A (binaryOp .Add (.float x t) (.int n u)) Q E s :=
  add_fi_sharp hA (fun h1 => absurd h1 (small_fits hn)) (fun _ => h)
theorem w_mul_raw (hA : A.handled = none) (hn : n.natAbs < 2 ^ 48) (h : Q (.float (Float64.mul x (Float64.ofInt n)) s.toks) { s with toks := s.toks + 1 }) : wpAny (model prog w) A (binaryOp .Mult (.float x t) (.int n u)) Q E s :=
  mul_fi_sharp hA (fun h1 => absurd h1 (small_fits hn)) (fun _ => h)
theorem w_sub_fi (hA : A.handled = none) (hx : x = U a) (ha : a.natAbs < 2 ^ 52) (hn : n.natAbs < 2 ^ 48) (h : Q (.float (U (a - 4 * n)) s.toks) { s with toks := s.toks + 1 }) : wpAny (model prog w) A (binaryOp .Sub (.float x t) (.int n u)) Q E s := by
  refine sub_fi_sharp hA (fun h1 => absurd h1 (small_fits hn)) (fun _ => ?_)
  rw [hx, ofInt_U (by omega), U_sub ha (by omega)]
  exact h
theorem w_sub_if (hA : A.handled = none) (hx : x = U a) (ha : a.natAbs < 2 ^ 52) (hn : n.natAbs < 2 ^ 48) (h : Q (.float (U (4 * n - a)) s.toks) { s with toks := s.toks + 1 }) : wpAny (model prog w) A (binaryOp .Sub (.int n u) (.float x t)) Q E s := by
  refine sub_if_sharp hA (fun h1 => absurd h1 (small_fits hn)) (fun _ => ?_)
  rw [hx, ofInt_U (by omega), U_sub (by omega) ha]
  exact h
theorem w_mul_fi (hA : A.handled = none) (hx : x = U a) (ha : a.natAbs < 2 ^ 52) (hn : n.natAbs < 2 ^ 48) (h0 : 0 < n) (hc : (a * n).natAbs < 2 ^ 53) (h : Q (.float (U (a * n)) s.toks) { s with toks := s.toks + 1 }) : wpAny (model prog w) A (binaryOp .Mult (.float x t) (.int n u)) Q E s := by
  refine mul_fi_sharp hA (fun h1 => absurd h1 (small_fits hn)) (fun _ => ?_)
  rw [hx, ofInt_U (by omega), U_mul (c := a * n) (by omega) (by omega) hc (by omega) (by rw [Int.mul_left_comm])]
  exact h
theorem w_mul_fiR (hA : A.handled = none) (hx : x = U a) (ha : a.natAbs < 2 ^ 52) (hn : n.natAbs < 2 ^ 48) (h0 : 0 < a) (hc : (a * n).natAbs < 2 ^ 53) (h : Q (.float (U (a * n)) s.toks) { s with toks := s.toks + 1 }) : wpAny (model prog w) A (binaryOp .Mult (.float x t) (.int n u)) Q E s := by
  refine mul_fi_sharp hA (fun h1 => absurd h1 (small_fits hn)) (fun _ => ?_)
  rw [hx, ofInt_U (by omega), U_mulR (c := a * n) (by omega) (by omega) hc (by omega) (by rw [Int.mul_left_comm])]
  exact h
theorem w_sub_ff (hx : x = U a) (hy : y = U b) (ha : a.natAbs < 2 ^ 52) (hb : b.natAbs < 2 ^ 52) (h : Q (.float (U (a - b)) s.toks) { s with toks := s.toks + 1 }) : wpAny (model prog w) A (binaryOp .Sub (.float x t) (.float y u)) Q E s := by
  refine sub_float ?_
  rw [hx, hy, U_sub ha hb]
  exact h
theorem w_sub_half {p q : Int} (hx : x = U (4 * p + 2)) (hy : y = U (4 * q + 2)) (ha : p.natAbs < 2 ^ 48) (hb : q.natAbs < 2 ^ 48) (h : Q (.float (U (4 * (p - q))) s.toks) { s with toks := s.toks + 1 }) : wpAny (model prog w) A (binaryOp .Sub (.float x t) (.float y u)) Q E s := by
  refine w_sub_ff hx hy (by omega) (by omega) ?_
  rw [show 4 * p + 2 - (4 * q + 2) = 4 * (p - q) by omega]
  exact h
theorem w_sub_halfR {p : Int} (ha : p.natAbs < 2 ^ 48) (h : Q (.float (U (4 * p)) s.toks) { s with toks := s.toks + 1 }) : wpAny (model prog w) A (binaryOp .Sub (.float (U (4 * p + 2)) t) (.float 4602678819172646912 u)) Q E s := by
  refine w_sub_half (q := 0) rfl (by decide +kernel) ha (by decide) ?_
  rw [Int.sub_zero]
  exact h
theorem w_mul_365 (hA : A.handled = none) (hn : n.natAbs < 2 ^ 40) (h : Q (.float (U (1461 * n)) s.toks) { s with toks := s.toks + 1 }) : wpAny (model prog w) A (binaryOp .Mult (.float 4645133162144333824 t) (.int n u)) Q E s :=
  w_mul_fiR hA (a := 1461) (by decide +kernel) (by decide) (by omega) (by decide) (by omega) h
theorem w_sub_half_if (hA : A.handled = none) (hn : n.natAbs < 2 ^ 40) (h : Q (.float (U (4 * (n - 1525) + 2)) s.toks) { s with toks := s.toks + 1 }) : wpAny (model prog w) A (binaryOp .Sub (.int n u) (.float 4654419637352529920 t)) Q E s := by
  refine w_sub_if hA (a := 6098) (by decide +kernel) (by decide) (by omega) ?_
  rw [show 4 * n - 6098 = 4 * (n - 1525) + 2 by omega]
  exact h
theorem w_floor_u4 {p : Int} (hA : A.handled = none) (hk : p.natAbs < 2 ^ 50) (h : Q (.int p s.toks) { s with toks := s.toks + 1 }) : wpAny (model prog w) A (call (.builtin "math.floor") [.float (U (4 * p)) t]) Q E s :=
  w_floor hA (U_finite (by omega)) ((U_floor (by omega)).trans (Int.mul_ediv_cancel_left _ (by decide))) h
theorem w_int_u4 {p : Int} (hA : A.handled = none) (hk : p.natAbs < 2 ^ 50) (h : Q (.int p s.toks) { s with toks := s.toks + 1 }) : wpAny (model prog w) A (call (.type "int") [.float (U (4 * p)) t]) Q E s :=
  w_int hA (U_finite (by omega)) ((U_trunc (by omega)).trans (Int.mul_tdiv_cancel_left _ (by decide))) h
theorem w_mod_fi4 {p : Int} (hA : A.handled = none) (ha : p.natAbs < 2 ^ 48) (hn : 0 < n) (hn2 : n.natAbs < 2 ^ 48) (h : Q (.float (U (4 * (p % n))) s.toks) { s with toks := s.toks + 1 }) : wpAny (model prog w) A (binaryOp .Mod (.float (U (4 * p)) t) (.int n u)) Q E s := by
  refine w_mod_fi hA (by omega) hn hn2 ?_
  rw [Int.mul_emod_mul_of_pos _ _ (by decide)]
  exact h
theorem w_floor_d4 {p n : Int} (hA : A.handled = none) (hb : 0 < n) (hb2 : n ≤ 2 ^ 18) (ha : p.natAbs < 2 ^ 48) (hq' : p < 4294967296 * n ∧ -p < 4294967296 * n) (h : Q (.int (p / n) s.toks) { s with toks := s.toks + 1 }) : wpAny (model prog w) A (call (.builtin "math.floor") [.float (Du (4 * p) (4 * n)) t]) Q E s := by
  have hq : p.natAbs / n.natAbs < 2 ^ 32 := (Nat.div_lt_iff_lt_mul (by omega)).mpr (by omega)
  have e : (4 * p).natAbs / (4 * n).natAbs = p.natAbs / n.natAbs := by
    rw [Int.natAbs_mul, Int.natAbs_mul]
    exact Nat.mul_div_mul_left _ _ (by decide)
  refine w_floor_d hA (by omega) (by omega) (by omega) (by rw [e]; exact hq) ?_
  rw [Int.mul_ediv_mul_of_pos _ _ (by decide)]
  exact h
theorem w_add_fi4 {p : Int} (hA : A.handled = none) (ha : p.natAbs < 2 ^ 48) (hn : n.natAbs < 2 ^ 48) (h : Q (.float (U (4 * (p + n))) s.toks) { s with toks := s.toks + 1 }) : wpAny (model prog w) A (binaryOp .Add (.float (U (4 * p)) t) (.int n u)) Q E s := by
  refine w_add_fi hA rfl (by omega) hn ?_
  rw [← Int.mul_add]
  exact h
theorem w_mul_fi4 {p : Int} (hA : A.handled = none) (ha : p.natAbs < 2 ^ 48) (hn : n.natAbs < 2 ^ 48) (h0 : 0 < n) (hc : (p * n).natAbs < 2 ^ 48) (h : Q (.float (U (4 * (p * n))) s.toks) { s with toks := s.toks + 1 }) : wpAny (model prog w) A (binaryOp .Mult (.float (U (4 * p)) t) (.int n u)) Q E s := by
  refine w_mul_fi hA rfl (by omega) hn h0 ?_ ?_
  · rw [Int.mul_assoc]; omega
  · rw [Int.mul_assoc]; exact h
theorem w_add_leap {z : Int} (h : Q (.int (n + lp z) s.toks) { s with toks := s.toks + 1 }) : wpAny (model prog w) A (binaryOp .Add (.int n t) (.bool (decide (lp z = 1)))) Q E s := by
  refine add_int_bool ?_
  have e : (if decide (lp z = 1) = true then (1 : Int) else 0) = lp z := by
    have h1 : lp z = 1 ∨ lp z = 0 := by unfold lp; split <;> simp
    rcases h1 with h1 | h1 <;> rw [h1] <;> decide
  rw [e]
  exact h
theorem w_lt_fi4 {p : Int} (ha : p.natAbs < 2 ^ 48) (h : Q (.bool (decide (p < n))) s) : wpAny (model prog w) A (compareOp .Lt (.float (U (4 * p)) t) (.int n u)) Q E s := by
  refine lt_fi ?_
  rw [U_cmpInt (by omega)]
  have e : (some (compare (4 * p) (4 * n)) == some Ordering.lt) = decide (p < n) := by
    rcases Int.lt_trichotomy p n with h1 | h1 | h1
    · rw [Int.compare_eq_lt.mpr (by omega)]; simp [h1]
    · rw [h1]; simp
    · rw [Int.compare_eq_gt.mpr (by omega)]; simp; omega
  rw [e]
  exact h
theorem w_lt_fi (ha : a.natAbs < 2 ^ 53) (h : Q (.bool (decide (a < 4 * n))) s) : wpAny (model prog w) A (compareOp .Lt (.float (U a) t) (.int n u)) Q E s := by
  refine lt_fi ?_
  rw [U_cmpInt ha]
  have e : (some (compare a (4 * n)) == some Ordering.lt) = decide (a < 4 * n) := by
    rcases Int.lt_trichotomy a (4 * n) with h1 | h1 | h1
    · rw [Int.compare_eq_lt.mpr h1]; simp [h1]
    · rw [← h1]; simp
    · rw [Int.compare_eq_gt.mpr h1]; simp; omega
  rw [e]
  exact h
end
section
variable {prog : Program} {w : World} {A : Around} {E : Value → Shared → Prop} {s : Shared} {t u : Tok} {Q : Value → Shared → Prop} {a b : Int}
theorem w_mod_ii (hb : 0 < b) (h : Q (.int (a % b) s.toks) { s with toks := s.toks + 1 }) : wpAny (model prog w) A (binaryOp .Mod (.int a t) (.int b u)) Q E s :=
  mod_int' (by omega) (by rw [Int.fmod_eq_emod_of_nonneg _ (by omega)]; exact h)
theorem w_fdiv_ii (hb : 0 < b) (hb2 : b < 1000000000) (h : Q (.int (a / b) s.toks) { s with toks := s.toks + 1 }) : wpAny (model prog w) A (binaryOp .FloorDiv (.int a t) (.int b u)) Q E s :=
  floordiv_int (by omega) (by rw [Int.fdiv_eq_ediv_of_nonneg _ (by omega)]; exact h) (Or.inl (PyProof.noPylong_small (by omega)))
theorem w_divmod {h₀ : Heap} {L : Addr} {m : Str → Option Value} {news : List (Addr × Obj)} (F : Fr h₀ L s.heap m) (N : News h₀ L s.heap news) (hb : 0 < b) (hb2 : b < 1000000000)
    (h : ∀ h', Fr h₀ L h' m → News h₀ L h' ((s.heap.objs.size, { cls := .type "tuple", data := .seq #[.int (a / b) s.toks, .int (a % b) (s.toks + 1)] }) :: news) →
      Q (.ref s.heap.objs.size) { s with toks := s.toks + 1 + 1, heap := h' }) :
    wpAny (model prog w) A (call (.builtin "divmod") [.int a t, .int b u]) Q E s :=
  divmod_N F N (by omega) (by rw [Int.fdiv_eq_ediv_of_nonneg _ (by omega), Int.fmod_eq_emod_of_nonneg _ (by omega)]; exact h) (Or.inl (PyProof.noPylong_small (by omega)))
end
section
variable {prog : Program} {w : World} {A : Around} {E : Value → Shared → Prop} {s : Shared} {u t1 t2 t3 t4 : Tok} {Q : Value → Shared → Prop} {k : Int} {K : Frag} {h₀ : Heap} {L tt : Addr} {m : Str → Option Value}
theorem w_in30 {dd : Option Addr} {sl : Array (Option Value)} {n : Nat} (F : Fr h₀ L s.heap m) (X₀ : K.In h₀) (hl : K.lookup tt = some ⟨.type "tuple", dd, .seq #[.int 4 t1, .int 6 t2, .int 9 t3, .int 11 t4] n, sl⟩)
    (h : Q (.bool (decide (k = 4 ∨ k = 6 ∨ k = 9 ∨ k = 11))) s) : wpAny (model prog w) A (compareOp .In (.int k u) (.ref tt)) Q E s := by
  refine in_tuple_ints (items := #[.int 4 t1, .int 6 t2, .int 9 t3, .int 11 t4]) (ns := [4, 6, 9, 11]) (tupK (l := [.int 4 t1, .int 6 t2, .int 9 t3, .int 11 t4]) (X₀.keeps F.keep) hl) (.cons _ _ (.cons _ _ (.cons _ _ (.cons _ _ .nil)))) ?_
  have e : List.any [4, 6, 9, 11] (fun x => x == k) = decide (k = 4 ∨ k = 6 ∨ k = 9 ∨ k = 11) := by
    simp only [List.any_cons, List.any_nil, Bool.or_false, Bool.decide_or, eq_comm (a := k)]; rfl
  rw [e]
  exact h
end
section
variable {T F : Prop} {c : Prop} [Decidable c]
theorem whlif_dec (t : c → T) (f : ¬ c → F) : WhlIf (decide c) T F := by
  by_cases h : c
  · exact WhlIf.yes (by simpa using h) (t h)
  · exact WhlIf.no (by simpa using h) (f h)
theorem whlif_yes (h : c) (t : T) : WhlIf (decide c) T F := WhlIf.yes (by simpa using h) t
theorem whlif_no (h : ¬ c) (f : F) : WhlIf (decide c) T F := WhlIf.no (by simpa using h) f
theorem whlif_ne {a b : Int} (t : a ≠ b → T) (f : a = b → F) : WhlIf (a != b) T F := by
  by_cases h : a = b
  · exact WhlIf.no (by simpa using h) (f h)
  · exact WhlIf.yes (by simpa using h) (t h)
theorem whlif_ne_yes {a b : Int} (h : a ≠ b) (t : T) : WhlIf (a != b) T F := WhlIf.yes (by simpa using h) t
theorem whlif_ne_no {a b : Int} (h : a = b) (f : F) : WhlIf (a != b) T F := WhlIf.no (by simpa using h) f
end
/-! contracts -/
abbrev RetV (h₀ : Heap) (L : Addr) (m : Str → Option Value) (news : List (Addr × Obj)) (s : Shared) (Q : Value → Shared → Prop) (P : Prop) (R : Tok → Value) : Prop :=
  P → ∀ (t : Tok) (h' : Heap) (tk' : Nat), Fr h₀ L h' m → News h₀ L h' news → Q (R t) { s with heap := h', toks := tk' }
abbrev RetT (h₀ : Heap) (L : Addr) (m : Str → Option Value) (news : List (Addr × Obj)) (s : Shared) (Q : Value → Shared → Prop) (P : Prop) (r1 r2 r3 : Int) : Prop :=
  P → ∀ (D : Addr) (t1 t2 t3 : Tok) (c : Nat) (h' : Heap) (tk' : Nat), Fr h₀ L h' m → News h₀ L h' ((D, ({ cls := .type "tuple", data := .seq #[.int r1 t1, .int r2 t2, .int r3 t3] c } : Obj)) :: news) → AllLt D news → Q (.ref D) { s with heap := h', toks := tk' }
/-- the call of the def at address f with the values vs hands back R t and leaves all as it stood; d: frames that it may want -/
def ConV (w : World) (f : Addr) (d : Nat) (vs : List Value) (P : Prop) (R : Tok → Value) : Prop :=
  ∀ (loose : List Str) (mean : ExcName → Option Value) (mg mb : Str → Option Value)
    (dp un : Nat) (gd : Option (List Code)) (cn : Str) (cs : Scope) (a : Addr) (ccd : Value) (cl : List (Str × Addr)) (outer : List Env) (A₀ : Around) (base h₀ : Heap) (L : Addr) (m : Str → Option Value) (news : List (Addr × Obj)) (s : Shared) (Q E : Value → Shared → Prop),
    Below A₀ base outer h₀ → Fr h₀ L s.heap m → (hd.heap_39 w.params).In h₀ → News h₀ L s.heap news → Top hd.view_39 loose mean mg mb h₀ → cs.kind = .function →
    dp + d < recursionLimit → un + 8 * d < cLine → RetV h₀ L m news s Q P R →
      wpAny (model PySem.Challenge.rw_ak5012_01.row.prog w) (ktrTop dp un gd cn cs L a ccd cl outer) (call (.ref f) vs) Q E s
/-- .. hands back a new tuple of three ints -/
def ConT (w : World) (f : Addr) (d : Nat) (vs : List Value) (P : Prop) (r1 r2 r3 : Int) : Prop :=
  ∀ (loose : List Str) (mean : ExcName → Option Value) (mg mb : Str → Option Value)
    (dp un : Nat) (gd : Option (List Code)) (cn : Str) (cs : Scope) (a : Addr) (ccd : Value) (cl : List (Str × Addr)) (outer : List Env) (A₀ : Around) (base h₀ : Heap) (L : Addr) (m : Str → Option Value) (news : List (Addr × Obj)) (s : Shared) (Q E : Value → Shared → Prop),
    Below A₀ base outer h₀ → Fr h₀ L s.heap m → (hd.heap_39 w.params).In h₀ → News h₀ L s.heap news → Top hd.view_39 loose mean mg mb h₀ → cs.kind = .function →
    dp + d < recursionLimit → un + 8 * d < cLine → RetT h₀ L m news s Q P r1 r2 r3 →
      wpAny (model PySem.Challenge.rw_ak5012_01.row.prog w) (ktrTop dp un gd cn cs L a ccd cl outer) (call (.ref f) vs) Q E s
section
variable {w : World} {f : Addr} {d : Nat} {vs : List Value} {P : Prop} {R : Tok → Value} {r1 r2 r3 : Int} {loose : List Str} {mean : ExcName → Option Value} {mg mb : Str → Option Value}
  {dp un : Nat} {gd : Option (List Code)} {cn : Str} {cs : Scope} {a : Addr} {ccd : Value} {cl : List (Str × Addr)} {outer : List Env} {A₀ : Around} {base h₀ : Heap} {L : Addr} {m : Str → Option Value} {news : List (Addr × Obj)} {s : Shared} {Q E : Value → Shared → Prop}
theorem use_v {A : Around} (C : ConV w f d vs P R) (hA : A = ktrTop dp un gd cn cs L a ccd cl outer) (hB : Below A₀ base outer h₀) (hF : Fr h₀ L s.heap m) (hK : (hd.heap_39 w.params).In h₀) (hN : News h₀ L s.heap news) (hT : Top hd.view_39 loose mean mg mb h₀) (hcs : cs.kind = .function)
    (hd : dp + d < recursionLimit) (hu : un + 8 * d < cLine) (ret : RetV h₀ L m news s Q P R) :
    wpAny (model PySem.Challenge.rw_ak5012_01.row.prog w) A (call (.ref f) vs) Q E s := by
  subst hA
  exact C _ _ _ _ _ _ _ _ _ _ _ _ _ _ _ _ _ _ _ _ _ _ hB hF hK hN hT hcs hd hu ret
theorem use_t {A : Around} (C : ConT w f d vs P r1 r2 r3) (hA : A = ktrTop dp un gd cn cs L a ccd cl outer) (hB : Below A₀ base outer h₀) (hF : Fr h₀ L s.heap m) (hK : (hd.heap_39 w.params).In h₀) (hN : News h₀ L s.heap news) (hT : Top hd.view_39 loose mean mg mb h₀) (hcs : cs.kind = .function)
    (hd : dp + d < recursionLimit) (hu : un + 8 * d < cLine) (ret : RetT h₀ L m news s Q P r1 r2 r3) :
    wpAny (model PySem.Challenge.rw_ak5012_01.row.prog w) A (call (.ref f) vs) Q E s := by
  subst hA
  exact C _ _ _ _ _ _ _ _ _ _ _ _ _ _ _ _ _ _ _ _ _ _ hB hF hK hN hT hcs hd hu ret
end
theorem room_d {D k e d : Nat} (h : D + d < recursionLimit) (hk : k + e ≤ d) : D + k + e < recursionLimit := by omega
theorem room_u {D k e d : Nat} (h : D + 8 * d < cLine) (hk : k + 8 * e ≤ 8 * d) : D + k + 8 * e < cLine := by omega
section
variable {h₀ h' : Heap} {L : Addr} {m : Str → Option Value} {news news' : List (Addr × Obj)} {s : Shared} {Q : Value → Shared → Prop} {P : Prop} {t : Tok} {tk' : Nat}
theorem ret_i {x y : Int} (hret : RetV h₀ L m news s Q P (fun t => .int x t)) (p : P) (e : y = x) (F : Fr h₀ L h' m) (N : News h₀ L h' news) : Q (.int y t) { s with heap := h', toks := tk' } := by subst e; exact hret p t h' tk' F N
theorem ret_f {x y : UInt64} (hret : RetV h₀ L m news s Q P (fun t => .float x t)) (p : P) (e : y = x) (F : Fr h₀ L h' m) (N : News h₀ L h' news) : Q (.float y t) { s with heap := h', toks := tk' } := by subst e; exact hret p t h' tk' F N
theorem ret_b {x y : Bool} (hret : RetV h₀ L m news s Q P (fun _ => .bool x)) (p : P) (e : y = x) (F : Fr h₀ L h' m) (N : News h₀ L h' news) : Q (.bool y) { s with heap := h', toks := tk' } := by subst e; exact hret p 0 h' tk' F N
theorem ret_t {r1 r2 r3 x1 x2 x3 : Int} {D : Addr} {t1 t2 t3 : Tok} {c : Nat} (hret : RetT h₀ L m news s Q P r1 r2 r3) (p : P) (F : Fr h₀ L h' m) (N : News h₀ L h' ((D, ({ cls := .type "tuple", data := .seq #[.int x1 t1, .int x2 t2, .int x3 t3] c } : Obj)) :: news)) (hl : AllLt D news) (e1 : x1 = r1) (e2 : x2 = r2) (e3 : x3 = r3) : Q (.ref D) { s with heap := h', toks := tk' } := by
  subst e1; subst e2; subst e3; exact hret p D t1 t2 t3 c h' tk' F N hl
theorem drop1 {p : Addr × Obj} (N : News h₀ L h' (p :: news)) : News h₀ L h' news := fun q hq => N q (.tail _ hq)
theorem drop2 {p p' : Addr × Obj} (N : News h₀ L h' (p :: p' :: news)) : News h₀ L h' news := fun q hq => N q (.tail _ (.tail _ hq))
theorem drop3 {p p' p'' : Addr × Obj} (N : News h₀ L h' (p :: p' :: p'' :: news)) : News h₀ L h' news := fun q hq => N q (.tail _ (.tail _ (.tail _ hq)))
end
theorem lit_epoch : (4700144277945057280 : UInt64) = U 6885702 := by decide +kernel
theorem lit_half : (4602678819172646912 : UInt64) = U 2 := by decide +kernel
theorem lit_half4 : (4602678819172646912 : UInt64) = U (4 * 0 + 2) := by decide +kernel
theorem lit_epoch4 : (4700144277945057280 : UInt64) = U (4 * 1721425 + 2) := by decide +kernel
theorem lit_365 : (4645133162144333824 : UInt64) = U 1461 := by decide +kernel
theorem lit_1524 : (4654419637352529920 : UInt64) = U 6098 := by decide +kernel
theorem lit_30 : (4629306380116972641 : UInt64) = 4629306380116972641 := rfl
theorem fl367 {m la : Int} (h1 : 1 ≤ m) (h2 : m ≤ 12) (h3 : -2 ≤ la ∧ la ≤ 0) : Float64.isFinite (Float64.add (Float64.add (Qf (367 * m - 362) 12) (Float64.ofInt la)) (Float64.ofInt 1)) = true ∧ Flt.toInt Float64.floorOf (Float64.add (Float64.add (Qf (367 * m - 362) 12) (Float64.ofInt la)) (Float64.ofInt 1)) = (367 * m - 362) / 12 + la + 1 := by
  have hm : m = 1 ∨ m = 2 ∨ m = 3 ∨ m = 4 ∨ m = 5 ∨ m = 6 ∨ m = 7 ∨ m = 8 ∨ m = 9 ∨ m = 10 ∨ m = 11 ∨ m = 12 := by omega
  have hl : la = -2 ∨ la = -1 ∨ la = 0 := by omega
  rcases hm with rfl | rfl | rfl | rfl | rfl | rfl | rfl | rfl | rfl | rfl | rfl | rfl <;> rcases hl with rfl | rfl | rfl <;> exact ⟨by decide +kernel, by decide +kernel⟩
theorem fl30 {m : Int} (h : 3 ≤ m ∧ m ≤ 4) : Float64.isFinite (Float64.mul 4629306380116972641 (Float64.ofInt (m + 1))) = true ∧ Flt.toInt Float64.floorOf (Float64.mul 4629306380116972641 (Float64.ofInt (m + 1))) = 31 * m + 29 := by
  have hm : m = 3 ∨ m = 4 := by omega
  rcases hm with rfl | rfl <;> exact ⟨by decide +kernel, by decide +kernel⟩
section
variable {prog : Program} {w : World} {A : Around} {E : Value → Shared → Prop} {s : Shared} {t u : Tok} {Q : Value → Shared → Prop} {a b m la : Int}
theorem w_floor367 (hA : A.handled = none) (h1 : 1 ≤ m) (h2 : m ≤ 12) (h3 : -2 ≤ la ∧ la ≤ 0) (h : Q (.int ((367 * m - 362) / 12 + la + 1) s.toks) { s with toks := s.toks + 1 }) :
    wpAny (model prog w) A (call (.builtin "math.floor") [.float (Float64.add (Float64.add (Qf (367 * m - 362) 12) (Float64.ofInt la)) (Float64.ofInt 1)) t]) Q E s :=
  w_floor hA (fl367 h1 h2 h3).1 (fl367 h1 h2 h3).2 h
theorem w_floor30 (hA : A.handled = none) (h1 : 3 ≤ m ∧ m ≤ 4) (h : Q (.int (31 * m + 29) s.toks) { s with toks := s.toks + 1 }) :
    wpAny (model prog w) A (call (.builtin "math.floor") [.float (Float64.mul 4629306380116972641 (Float64.ofInt (m + 1))) t]) Q E s :=
  w_floor hA (fl30 h1).1 (fl30 h1).2 h
theorem w_trunc_29 (hA : A.handled = none) (h1 : 1 ≤ b) (h2 : b ≤ 30) (h : Q (.int (tw b) s.toks) { s with toks := s.toks + 1 }) :
    wpAny (model prog w) A (call (.builtin "math.trunc") [.float (Qf 29 b) t]) Q E s := by
  refine w_trunc_q hA (by omega) (by omega) (by omega) (by decide) ?_
  have e : 29 / b = tw b := by
    unfold tw
    split
    · have : b = 30 := by omega
      subst this; rfl
    · split
      · have hb : b = 15 ∨ b = 16 ∨ b = 17 ∨ b = 18 ∨ b = 19 ∨ b = 20 ∨ b = 21 ∨ b = 22 ∨ b = 23 ∨ b = 24 ∨ b = 25 ∨ b = 26 ∨ b = 27 ∨ b = 28 ∨ b = 29 := by omega
        rcases hb with rfl | rfl | rfl | rfl | rfl | rfl | rfl | rfl | rfl | rfl | rfl | rfl | rfl | rfl | rfl <;> rfl
      · rfl
  rw [← e] at h
  exact h
theorem w_trunc_kk {c : Int} (hA : A.handled = none) (h1 : 15 ≤ c) (h2 : c < 2 ^ 31) (h : 0 ≤ kk c ∧ kk c ≤ c → Q (.int (kk c) s.toks) { s with toks := s.toks + 1 }) :
    wpAny (model prog w) A (call (.builtin "math.trunc") [.float (Qf (c - 17) 25) t]) Q E s :=
  w_trunc_qn hA (by decide) (by decide) (by omega) (h (by unfold kk; split <;> omega))
theorem w_sub_mod (hb : 0 < b) (h : Q (.int (a % b) s.toks) { s with toks := s.toks + 1 }) : wpAny (model prog w) A (binaryOp .Sub (.int a t) (.int (b * (a / b)) u)) Q E s := by
  refine sub_int ?_
  rw [← Int.emod_def]
  exact h
theorem w_sub_ci {n : Int} (ha : 0 ≤ a ∧ a < 30) (hn : 0 ≤ n ∧ n < 19) (h : 0 ≤ ci a n ∧ ci a n ≤ 28 → Q (.int (ci a n) s.toks) { s with toks := s.toks + 1 }) :
    wpAny (model prog w) A (binaryOp .Sub (.int a t) (.int (a / 28 * (1 - a / 28 * tw (a + 1) * ((21 - n) / 11))) u)) Q E s :=
  sub_int (h (ci_bound ha hn))
end
end
/-! ## the walks -/
section
local macro_rules | `(tactic| walk_at "binaryOp Mod int int") => `(tactic| (k_here; (with_reducible refine' w_mod_ii ?g0 ?_; (case g0 => first | decide | omega)); (try dsimp only)))
local macro_rules | `(tactic| walk_at "binaryOp FloorDiv int int") => `(tactic| (k_here; (with_reducible refine' w_fdiv_ii ?g0 ?g1 ?_; (case g0 => first | decide | omega); (case g1 => first | decide | omega)); (try dsimp only)))
local macro_rules | `(tactic| walk_at "binaryOp Div int int") => `(tactic| (k_here; (with_reducible refine' w_div_ii ?gA ?g0 ?g1 ?_; (case gA => k_dflt (exact rfl)); (case g0 => omega); (case g1 => omega)); (try dsimp only)))
local macro_rules | `(tactic| walk_at "binaryOp Div float int") => `(tactic| (k_here; (with_reducible refine' w_div_fi ?gA ?g0 ?g1 ?_; (case gA => k_dflt (exact rfl)); (case g0 => omega); (case g1 => omega)); (try dsimp only)))
local macro_rules | `(tactic| walk_at "binaryOp Mod float int") => `(tactic| (k_here; (first | (with_reducible refine' w_mod_fi4 ?gA ?g0 ?g1 ?g2 ?_; (case gA => k_dflt (exact rfl)); (case g0 => omega); (case g1 => omega); (case g2 => omega)) | (with_reducible refine' w_mod_fi ?gA ?g0 ?g1 ?g2 ?_; (case gA => k_dflt (exact rfl)); (case g0 => omega); (case g1 => omega); (case g2 => omega))); (try dsimp only)))
local macro_rules | `(tactic| walk_at "binaryOp Add float int") => `(tactic| (k_here; (first | (with_reducible refine' w_add_fi4 ?gA ?g0 ?g1 ?_; (case gA => k_dflt (exact rfl)); (case g0 => omega); (case g1 => omega)) | (with_reducible refine' w_add_fi ?gA ?g0 ?g1 ?g2 ?_; (case gA => k_dflt (exact rfl)); (case g0 => first | exact lit_epoch | exact lit_half | exact lit_1524 | with_reducible exact rfl); (case g1 => omega); (case g2 => omega)) | (with_reducible refine' w_add_raw ?gA ?g0 ?_; (case gA => k_dflt (exact rfl)); (case g0 => omega))); (try dsimp only)))
local macro_rules | `(tactic| walk_at "binaryOp Add int float") => `(tactic| (k_here; (with_reducible refine' w_add_if ?gA ?g0 ?g1 ?g2 ?_; (case gA => k_dflt (exact rfl)); (case g0 => first | exact lit_epoch | exact lit_half | exact lit_1524 | with_reducible exact rfl); (case g1 => omega); (case g2 => omega)); (try dsimp only)))
local macro_rules | `(tactic| walk_at "binaryOp Sub float int") => `(tactic| (k_here; (with_reducible refine' w_sub_fi ?gA ?g0 ?g1 ?g2 ?_; (case gA => k_dflt (exact rfl)); (case g0 => first | exact lit_epoch | exact lit_half | exact lit_1524 | with_reducible exact rfl); (case g1 => omega); (case g2 => omega)); (try dsimp only)))
local macro_rules | `(tactic| walk_at "binaryOp Sub int float") => `(tactic| (k_here; (first | (with_reducible refine' w_sub_half_if ?gA ?g0 ?_; (case gA => k_dflt (exact rfl)); (case g0 => omega)) | (with_reducible refine' w_sub_if ?gA ?g0 ?g1 ?g2 ?_; (case gA => k_dflt (exact rfl)); (case g0 => first | exact lit_epoch | exact lit_half | exact lit_1524 | with_reducible exact rfl); (case g1 => omega); (case g2 => omega))); (try dsimp only)))
local macro_rules | `(tactic| walk_at "binaryOp Sub float float") => `(tactic| (k_here; (first | (with_reducible refine' w_sub_halfR ?g0 ?_; (case g0 => omega)) | (with_reducible refine' w_sub_half ?g0 ?g1 ?g2 ?g3 ?_; (case g0 => first | exact lit_epoch4 | exact lit_half4 | with_reducible exact rfl); (case g1 => first | exact lit_epoch4 | exact lit_half4 | with_reducible exact rfl); (case g2 => omega); (case g3 => omega)) | (with_reducible refine' w_sub_ff ?g0 ?g1 ?g2 ?g3 ?_; (case g0 => first | exact lit_epoch | exact lit_half | exact lit_1524 | with_reducible exact rfl); (case g1 => first | exact lit_epoch | exact lit_half | exact lit_1524 | with_reducible exact rfl); (case g2 => omega); (case g3 => omega))); (try dsimp only)))
local macro_rules | `(tactic| walk_at "binaryOp Mult float int") => `(tactic| (k_here; (first | (with_reducible refine' w_mul_365 ?gA ?g0 ?_; (case gA => k_dflt (exact rfl)); (case g0 => omega)) | (with_reducible refine' w_mul_fi4 ?gA ?g0 ?g1 ?g2 ?g3 ?_; (case gA => k_dflt (exact rfl)); (case g0 => omega); (case g1 => omega); (case g2 => omega); (case g3 => omega)) | (with_reducible refine' w_mul_raw ?gA ?g0 ?_; (case gA => k_dflt (exact rfl)); (case g0 => omega))); (try dsimp only)))
local macro_rules | `(tactic| walk_at "compareOp Lt float int") => `(tactic| (k_here; (first | (with_reducible refine' w_lt_fi4 ?g0 ?_; (case g0 => omega)) | (with_reducible refine' w_lt_fi ?g0 ?_; (case g0 => omega))); (try dsimp only)))
local macro_rules | `(tactic| walk_at "call builtin:math.floor") => `(tactic| (k_here; (first | (with_reducible refine' w_floor_q ?gA ?g0 ?g1 ?g2 ?_; (case gA => k_dflt (exact rfl)); (case g0 => omega); (case g1 => omega); (case g2 => omega)) | (with_reducible refine' w_floor_u4 ?gA ?g0 ?_; (case gA => k_dflt (exact rfl)); (case g0 => omega)) | (with_reducible refine' w_floor_u ?gA ?g0 ?_; (case gA => k_dflt (exact rfl)); (case g0 => omega)) | (with_reducible refine' w_floor_d4 ?gA ?g0 ?g1 ?g2 ?g3 ?_; (case gA => k_dflt (exact rfl)); (case g0 => omega); (case g1 => omega); (case g2 => omega); (case g3 => omega)) | (with_reducible refine' w_floor_d ?gA ?g0 ?g1 ?g2 ?g3 ?_; (case gA => k_dflt (exact rfl)); (case g0 => omega); (case g1 => omega); (case g2 => omega); (case g3 => omega)) | (with_reducible refine' w_floor367 ?gA ?g0 ?g1 ?g2 ?_; (case gA => k_dflt (exact rfl)); (case g0 => omega); (case g1 => omega); (case g2 => omega)) | (with_reducible refine' w_floor30 ?gA ?g0 ?_; (case gA => k_dflt (exact rfl)); (case g0 => omega))); (try dsimp only)))
local macro_rules | `(tactic| walk_at "call builtin:math.trunc") => `(tactic| (k_here; (first | (with_reducible refine' w_trunc_29 ?gA ?g0 ?g1 ?_; (case gA => k_dflt (exact rfl)); (case g0 => omega); (case g1 => omega)) | (with_reducible refine' w_trunc_kk ?gA ?g0 ?g1 ?_; (case gA => k_dflt (exact rfl)); (case g0 => omega); (case g1 => omega); intro hk9) | (with_reducible refine' w_trunc_q ?gA ?g0 ?g1 ?g2 ?g3 ?_; (case gA => k_dflt (exact rfl)); (case g0 => omega); (case g1 => omega); (case g2 => omega); (case g3 => omega)) | (with_reducible refine' w_trunc_qn ?gA ?g0 ?g1 ?g2 ?_; (case gA => k_dflt (exact rfl)); (case g0 => omega); (case g1 => omega); (case g2 => omega))); (try dsimp only)))
local macro_rules | `(tactic| walk_at "call type:int") => `(tactic| (k_here; (first | (with_reducible refine' w_int_u4 ?gA ?g0 ?_; (case gA => k_dflt (exact rfl)); (case g0 => omega)) | (with_reducible refine' w_int_u ?gA ?g0 ?g1 ?_; (case gA => k_dflt (exact rfl)); (case g0 => omega); (case g1 => omega))); (try dsimp only)))
local macro_rules | `(tactic| walk_at "call builtin:divmod") => `(tactic| (k_here; (with_reducible refine' w_divmod ?g0 ?g1 ?g2 ?g3 ?_; (case g0 => k_asm); (case g1 => k_asm); (case g2 => omega); (case g3 => omega)); (try dsimp only); intro _ _ _; (try dsimp only)))
local macro_rules | `(tactic| walk_at "compareOp In int ref") => `(tactic| (k_here; (with_reducible refine' w_in30 ?g0 ?g1 ?g2 ?_; (case g0 => k_asm); (case g1 => k_asm); (case g2 => k_is)); (try dsimp only)))
local macro_rules | `(tactic| walk_at "binaryOp Add int bool") => `(tactic| (k_here; (with_reducible refine' w_add_leap ?_); (try dsimp only)))
local macro_rules | `(tactic| walk_at "binaryOp Sub int int") => `(tactic| (k_here; (first | (with_reducible refine' w_sub_ci ?g0 ?g1 ?_; (case g0 => omega); (case g1 => omega); intro hc9) | (with_reducible refine' w_sub_mod ?g0 ?_; (case g0 => first | decide | omega))); (try dsimp only)))
local macro_rules | `(tactic| walk_at "WhlIf") => `(tactic| (k_here; (first | (with_reducible refine' whlif_ne_no ?g0 ?_; (case g0 => omega)) | (with_reducible refine' whlif_ne_yes ?g0 ?_; (case g0 => omega)) | (with_reducible refine' whlif_no ?g0 ?_; (case g0 => omega)) | (with_reducible refine' whlif_yes ?g0 ?_; (case g0 => omega)) | (with_reducible refine' whlif_ne (fun hW9 => ?_) (fun hW9 => ?_)) | (with_reducible refine' whlif_dec (fun hW9 => ?_) (fun hW9 => ?_))); (try dsimp only)))
section
/-! the Gregorian calendar -/
theorem c_isleap (w : World) (y : Int) (t : Tok) : ConV w 50 1 [.int y t] True (fun _ => .bool (decide (lp y = 1))) := by
  unfold ConV
  w_top off
  k_fill
  intro loose mean mg mb dp un gd cn cs a ccd cl outer A₀ base h₀ L m news s Q E hB hF hK hN hT hcs hdp hun hret
  refine wpAny_call ?_
  (k_dflt cell_enter)
  k_steps
  all_goals refine' ret_b (Q := Q) hret trivial ?_ (by k_asm) (by k_asm)
  all_goals (unfold lp; simp_all; first | done | rfl)
local macro_rules | `(tactic| walk_at "call ref") => `(tactic| (k_here; (with_reducible refine' use_v (c_isleap _ _ _) ?gA ?k1 ?k2 ?k3 ?k4 ?k5 ?k6 ?kd ?ku ?_); k_dflt ((case gA => exact rfl); (case k1 => k_asm); (case k2 => k_asm); (case k3 => k_asm); (case k4 => k_asm); (case k5 => k_asm); (case k6 => first | exact rfl | assumption); (case kd => first | (refine' room_d ?h ?e; (case h => assumption); (case e => decide)) | ktr_room); (case ku => first | (refine' room_u ?h ?e; (case h => assumption); (case e => decide)) | ktr_units)); (intro P9 t9 h9 tk9 F9 N9; (try dsimp only); (try k_fold))))
theorem c_legal (w : World) (y m : Int) (t t' t'' : Tok) : ConV w 57 2 [.int y t, .int m t', .int 1 t''] True (fun _ => .bool true) := by
  unfold ConV
  w_top off
  k_fill
  intro loose mean mg mb dp un gd cn cs a ccd cl outer A₀ base h₀ L m news s Q E hB hF hK hN hT hcs hdp hun hret
  refine wpAny_call ?_
  (k_dflt cell_enter)
  k_steps
  all_goals refine' ret_b (Q := Q) hret trivial ?_ (by k_asm) (by k_asm)
  all_goals rfl
local macro_rules | `(tactic| walk_at "call ref") => `(tactic| (k_here; (with_reducible refine' use_v (c_legal _ _ _ _ _ _) ?gA ?k1 ?k2 ?k3 ?k4 ?k5 ?k6 ?kd ?ku ?_); k_dflt ((case gA => exact rfl); (case k1 => k_asm); (case k2 => k_asm); (case k3 => k_asm); (case k4 => k_asm); (case k5 => k_asm); (case k6 => first | exact rfl | assumption); (case kd => first | (refine' room_d ?h ?e; (case h => assumption); (case e => decide)) | ktr_room); (case ku => first | (refine' room_u ?h ?e; (case h => assumption); (case e => decide)) | ktr_units)); (intro P9 t9 h9 tk9 F9 N9; (try dsimp only); (try k_fold))))
theorem c_jdg (w : World) (y m : Int) (t t' t'' : Tok) (hy : -(2 ^ 28) < y ∧ y < 2 ^ 28) (hm : 1 ≤ m ∧ m ≤ 12) : ConV w 64 3 [.int y t, .int m t', .int 1 t''] (-(2 ^ 40) < jg y m ∧ jg y m < 2 ^ 40) (fun t => .float (U (4 * (1721424 + jg y m) + 2)) t) := by
  unfold ConV
  w_top off
  k_fill
  intro loose mean mg mb dp un gd cn cs a ccd cl outer A₀ base h₀ L m news s Q E hB hF hK hN hT hcs hdp hun hret
  refine wpAny_call ?_
  (k_dflt cell_enter)
  k_steps
  all_goals refine' ret_f (Q := Q) hret (jg_bound hy hm) ?_ (by k_asm) (by k_asm)
  all_goals (refine congrArg U ?_; unfold jg; (repeat' split) <;> first | omega | (exfalso; simp_all; done) | (exfalso; simp_all; omega))
end
section
local macro_rules | `(tactic| walk_at "no such step") => `(tactic| fail)
local macro_rules | `(tactic| walk_at "no such step") => `(tactic| fail)
local macro_rules | `(tactic| walk_at "no such step") => `(tactic| fail)
local macro_rules | `(tactic| walk_at "no such step") => `(tactic| fail)
local macro_rules | `(tactic| walk_at "no such step") => `(tactic| fail)
local macro_rules | `(tactic| walk_at "no such step") => `(tactic| fail)
local macro_rules | `(tactic| walk_at "no such step") => `(tactic| fail)
local macro_rules | `(tactic| walk_at "no such step") => `(tactic| fail)
local macro_rules | `(tactic| walk_at "no such step") => `(tactic| fail)
local macro_rules | `(tactic| walk_at "no such step") => `(tactic| fail)
local macro_rules | `(tactic| walk_at "call ref") => `(tactic| (k_here; (with_reducible refine' use_v (c_isleap _ _ _) ?gA ?k1 ?k2 ?k3 ?k4 ?k5 ?k6 ?kd ?ku ?_); k_dflt ((case gA => exact rfl); (case k1 => k_asm); (case k2 => k_asm); (case k3 => k_asm); (case k4 => k_asm); (case k5 => k_asm); (case k6 => first | exact rfl | assumption); (case kd => first | (refine' room_d ?h ?e; (case h => assumption); (case e => decide)) | ktr_room); (case ku => first | (refine' room_u ?h ?e; (case h => assumption); (case e => decide)) | ktr_units)); (intro P9 t9 h9 tk9 F9 N9; (try dsimp only); (try k_fold))))
local macro_rules | `(tactic| walk_at "call ref") => `(tactic| (k_here; (with_reducible refine' use_v (c_jdg _ _ _ _ _ _ ?p0 ?p1) ?gA ?k1 ?k2 ?k3 ?k4 ?k5 ?k6 ?kd ?ku ?_); k_dflt ((case gA => exact rfl); (case p0 => omega); (case p1 => omega); (case k1 => k_asm); (case k2 => k_asm); (case k3 => k_asm); (case k4 => k_asm); (case k5 => k_asm); (case k6 => first | exact rfl | assumption); (case kd => first | (refine' room_d ?h ?e; (case h => assumption); (case e => decide)) | ktr_room); (case ku => first | (refine' room_u ?h ?e; (case h => assumption); (case e => decide)) | ktr_units)); (intro P9 t9 h9 tk9 F9 N9; (try dsimp only); (try k_fold))))
theorem ret_fj {h₀ h' : Heap} {L : Addr} {m : Str → Option Value} {news : List (Addr × Obj)} {s : Shared} {Q : Value → Shared → Prop} {tk' : Nat} {M y la : Int} {D : Addr} {t1 t2 t3 : Tok} {c : Nat}
    (hret : RetT h₀ L m news s Q True (ldY (M + 1)) (ldM (M + 1)) (ldD (M + 1))) (F : Fr h₀ L h' m)
    (N : News h₀ L h' ((D, ({ cls := .type "tuple", data := .seq #[.int y t1, .int (((M - (1721424 + jg y 1) + la) * 12 + 373) / 367) t2, .int (M - (1721424 + jg y (((M - (1721424 + jg y 1) + la) * 12 + 373) / 367)) + 1) t3] c } : Obj)) :: news)) (hl : ∀ p ∈ news, p.1 < D)
    (h0 : 0 ≤ M - (1721424 + jg y 1)) (h1 : M - (1721424 + jg y 1) ≤ 364 + lp y)
    (hla : (M - (1721424 + jg y 1) < 58 + lp y ∧ la = 0) ∨ (¬ M - (1721424 + jg y 1) < 58 + lp y ∧ lp y = 1 ∧ la = 1) ∨ (¬ M - (1721424 + jg y 1) < 58 + lp y ∧ ¬ lp y = 1 ∧ la = 2)) :
    Q (.ref D) { s with heap := h', toks := tk' } := by
  obtain ⟨q1, q2, q3⟩ := fj_end h0 h1 hla rfl
  exact ret_t hret trivial F N (allLt_of hl) q1 q2 q3
theorem c_fromjd (w : World) (M : Int) (t : Tok) (hM : -(2 ^ 33) < M ∧ M < 2 ^ 33) : ConT w 71 4 [.float (U (4 * M + 2)) t] True (ldY (M + 1)) (ldM (M + 1)) (ldD (M + 1)) := by
  have f1 := fy_four (M - 1721425)
  have f2 := fy_less (M - 1721425)
  have f3 := lp_01 (fy (M - 1721425))
  have f4 := lp_01 (fy (M - 1721425) + 1)
  unfold fy at f1 f2 f3 f4
  unfold ConT
  w_top off
  k_fill
  intro loose mean mg mb dp un gd cn cs a ccd cl outer A₀ base h₀ L m news s Q E hB hF hK hN hT hcs hdp hun hret
  refine wpAny_call ?_
  (k_dflt cell_enter)
  k_steps
  all_goals (refine' ret_fj (Q := Q) hret (by k_asm) (by k_asm) (by k_asm) ?_ ?_ ?_)
  all_goals omega
end
section
/-! the law's own defs -/
theorem c_first (w : World) (y : Int) (t : Tok) : ConV w 137 1 [.int y t] True (fun t => .int (lf y) t) := by
  unfold ConV
  w_top off
  k_fill
  intro loose mean mg mb dp un gd cn cs a ccd cl outer A₀ base h₀ L m news s Q E hB hF hK hN hT hcs hdp hun hret
  refine wpAny_call ?_
  (k_dflt cell_enter)
  k_steps
  all_goals (refine' ret_i (Q := Q) hret trivial (lf_walk y) (by k_asm) (by first | k_asm | exact drop1 (by k_asm)))
local macro_rules | `(tactic| walk_at "exec While") => `(tactic| (k_here; k_dflt (refine whl_start 20 ?_)))
theorem c_sunday (w : World) (n : Int) (t : Tok) : ConV w 151 1 [.int n t] True (fun t => .int (su n) t) := by
  unfold ConV
  w_top off
  k_fill
  intro loose mean mg mb dp un gd cn cs a ccd cl outer A₀ base h₀ L m news s Q E hB hF hK hN hT hcs hdp hun hret
  refine wpAny_call ?_
  (k_dflt cell_enter)
  k_steps
  all_goals (refine' ret_i (Q := Q) hret trivial ?_ (by k_asm) (by k_asm))
  all_goals (unfold su; omega)
end
section
local macro_rules | `(tactic| walk_at "no such step") => `(tactic| fail)
local macro_rules | `(tactic| walk_at "no such step") => `(tactic| fail)
local macro_rules | `(tactic| walk_at "no such step") => `(tactic| fail)
local macro_rules | `(tactic| walk_at "no such step") => `(tactic| fail)
local macro_rules | `(tactic| walk_at "no such step") => `(tactic| fail)
local macro_rules | `(tactic| walk_at "no such step") => `(tactic| fail)
local macro_rules | `(tactic| walk_at "no such step") => `(tactic| fail)
local macro_rules | `(tactic| walk_at "no such step") => `(tactic| fail)
local macro_rules | `(tactic| walk_at "no such step") => `(tactic| fail)
local macro_rules | `(tactic| walk_at "no such step") => `(tactic| fail)
local macro_rules | `(tactic| walk_at "call ref") => `(tactic| (k_here; (with_reducible refine' use_v (c_first _ _ _) ?gA ?k1 ?k2 ?k3 ?k4 ?k5 ?k6 ?kd ?ku ?_); k_dflt ((case gA => exact rfl); (case k1 => k_asm); (case k2 => k_asm); (case k3 => k_asm); (case k4 => k_asm); (case k5 => k_asm); (case k6 => first | exact rfl | assumption); (case kd => first | (refine' room_d ?h ?e; (case h => assumption); (case e => decide)) | ktr_room); (case ku => first | (refine' room_u ?h ?e; (case h => assumption); (case e => decide)) | ktr_units)); (intro P9 t9 h9 tk9 F9 N9; (try dsimp only); (try k_fold))))
local macro_rules | `(tactic| walk_at "call ref") => `(tactic| (k_here; (with_reducible refine' use_v (c_sunday _ _ _) ?gA ?k1 ?k2 ?k3 ?k4 ?k5 ?k6 ?kd ?ku ?_); k_dflt ((case gA => exact rfl); (case k1 => k_asm); (case k2 => k_asm); (case k3 => k_asm); (case k4 => k_asm); (case k5 => k_asm); (case k6 => first | exact rfl | assumption); (case kd => first | (refine' room_d ?h ?e; (case h => assumption); (case e => decide)) | ktr_room); (case ku => first | (refine' room_u ?h ?e; (case h => assumption); (case e => decide)) | ktr_units)); (intro P9 t9 h9 tk9 F9 N9; (try dsimp only); (try k_fold))))
theorem c_western (w : World) (y : Int) (t : Tok) : ConV w 158 2 [.int y t] True (fun t => .int (we y) t) := by
  unfold ConV
  w_top off
  k_fill
  intro loose mean mg mb dp un gd cn cs a ccd cl outer A₀ base h₀ L m news s Q E hB hF hK hN hT hcs hdp hun hret
  refine wpAny_call ?_
  (k_dflt cell_enter)
  k_steps
  all_goals (refine' ret_i (Q := Q) hret trivial ?_ (by k_asm) (by k_asm))
  all_goals (refine congrArg su ?_; unfold full ep0; (repeat' split) <;> first | omega | (exfalso; omega))
theorem ol_yes {y T : Int} {b : Bool} (hb : b = true) (h : y % 19 = 0) (hT : T = tab (y % 19)) : su (1461 * ((y + 4712) / 4) + 365 * ((y + 4712) % 4) + 60 + 20 + (T + 1)) = ol y b := by
  unfold ol; rw [if_pos ⟨hb, h⟩, hT]; congr 1; omega
theorem ol_no {y T : Int} {b : Bool} (h : ¬ (b = true ∧ y % 19 = 0)) (hT : T = tab (y % 19)) : su (1461 * ((y + 4712) / 4) + 365 * ((y + 4712) % 4) + 60 + 20 + T) = ol y b := by
  unfold ol; rw [if_neg h, hT]; congr 1; omega
theorem c_old (w : World) (y : Int) (b : Bool) (t : Tok) : ConV w 165 2 [.int y t, .bool b] True (fun t => .int (ol y b) t) := by
  unfold ConV
  w_top off
  k_fill
  intro loose mean mg mb dp un gd cn cs a ccd cl outer A₀ base h₀ L m news s Q E hB hF hK hN hT hcs hdp hun hret
  refine wpAny_call ?_
  (k_dflt cell_enter)
  k_steps
  all_goals (refine' ret_i (Q := Q) hret trivial ?_ (by k_asm) (by first | k_asm | exact drop1 (by k_asm) | exact drop2 (by k_asm)))
  all_goals first
    | exact ol_yes (by assumption) (by assumption) rfl
    | exact ol_no (fun h => by simp_all) rfl
end
section
theorem ret_ew {h₀ h' : Heap} {L : Addr} {m : Str → Option Value} {news : List (Addr × Obj)} {s : Shared} {Q : Value → Shared → Prop} {tk' : Nat} {y : Int} {D : Addr} {t1 t2 t3 : Tok} {c : Nat}
    (hret : RetT h₀ L m news s Q True (ldY (we y)) (ldM (we y)) (ldD (we y))) (F : Fr h₀ L h' m)
    (N : News h₀ L h' ((D, ({ cls := .type "tuple", data := .seq #[.int y t1,
      .int (3 + (ci ((y / 100 - y / 100 / 4 - (y / 100 - kk (y / 100)) / 3 + 19 * (y % 19) + 15) % 30) (y % 19) - (y + y / 4 + ci ((y / 100 - y / 100 / 4 - (y / 100 - kk (y / 100)) / 3 + 19 * (y % 19) + 15) % 30) (y % 19) + 2 - y / 100 + y / 100 / 4) % 7 + 40) / 44) t2,
      .int (ci ((y / 100 - y / 100 / 4 - (y / 100 - kk (y / 100)) / 3 + 19 * (y % 19) + 15) % 30) (y % 19) - (y + y / 4 + ci ((y / 100 - y / 100 / 4 - (y / 100 - kk (y / 100)) / 3 + 19 * (y % 19) + 15) % 30) (y % 19) + 2 - y / 100 + y / 100 / 4) % 7 + 28 - 31 * ((3 + (ci ((y / 100 - y / 100 / 4 - (y / 100 - kk (y / 100)) / 3 + 19 * (y % 19) + 15) % 30) (y % 19) - (y + y / 4 + ci ((y / 100 - y / 100 / 4 - (y / 100 - kk (y / 100)) / 3 + 19 * (y % 19) + 15) % 30) (y % 19) + 2 - y / 100 + y / 100 / 4) % 7 + 40) / 44) / 4)) t3] c } : Obj)) :: news)) (hl : ∀ p ∈ news, p.1 < D) (hy : 1583 ≤ y) :
    Q (.ref D) { s with heap := h', toks := tk' } := by
  have hn : 0 ≤ y % 19 ∧ y % 19 < 19 := by omega
  have hb := ci_bound (a := (y / 100 - y / 100 / 4 - (y / 100 - kk (y / 100)) / 3 + 19 * (y % 19) + 15) % 30) (n := y % 19) (by omega) hn
  obtain ⟨q1, q2, q3⟩ := west hy rfl hb rfl
  exact ret_t hret trivial F N (allLt_of hl) q1 q2 q3
theorem c_ew (w : World) (y : Int) (t : Tok) (hy : 1583 ≤ y ∧ y < 2 ^ 24) : ConT w 122 1 [.int y t] True (ldY (we y)) (ldM (we y)) (ldD (we y)) := by
  unfold ConT
  w_top off
  k_fill
  intro loose mean mg mb dp un gd cn cs a ccd cl outer A₀ base h₀ L m news s Q E hB hF hK hN hT hcs hdp hun hret
  refine wpAny_call ?_
  (k_dflt cell_enter)
  k_steps
  all_goals (refine' ret_ew (Q := Q) hret (by k_asm) (by k_asm) (by k_asm) hy.1)
end
section
local macro_rules | `(tactic| walk_at "no such step") => `(tactic| fail)
local macro_rules | `(tactic| walk_at "no such step") => `(tactic| fail)
local macro_rules | `(tactic| walk_at "no such step") => `(tactic| fail)
local macro_rules | `(tactic| walk_at "no such step") => `(tactic| fail)
local macro_rules | `(tactic| walk_at "no such step") => `(tactic| fail)
local macro_rules | `(tactic| walk_at "no such step") => `(tactic| fail)
local macro_rules | `(tactic| walk_at "no such step") => `(tactic| fail)
local macro_rules | `(tactic| walk_at "no such step") => `(tactic| fail)
local macro_rules | `(tactic| walk_at "no such step") => `(tactic| fail)
local macro_rules | `(tactic| walk_at "no such step") => `(tactic| fail)
theorem c_mlen (w : World) (y m : Int) (t t' : Tok) (hm : 3 ≤ m ∧ m ≤ 4) : ConV w 86 1 [.int y t, .int m t'] True (fun t => .int (34 - m) t) := by
  unfold ConV
  w_top off
  k_fill
  intro loose mean mg mb dp un gd cn cs a ccd cl outer A₀ base h₀ L m news s Q E hB hF hK hN hT hcs hdp hun hret
  refine wpAny_call ?_
  (k_dflt cell_enter)
  k_steps
  all_goals first
    | (exfalso; omega)
    | (refine' ret_i (Q := Q) hret trivial ?_ (by k_asm) (by k_asm); simp only [decide_eq_true_eq, decide_eq_false_iff_not] at *; omega)
local macro_rules | `(tactic| walk_at "call ref") => `(tactic| (k_here; (with_reducible refine' use_v (c_mlen _ _ _ _ _ ?p0) ?gA ?k1 ?k2 ?k3 ?k4 ?k5 ?k6 ?kd ?ku ?_); k_dflt ((case gA => exact rfl); (case p0 => omega); (case k1 => k_asm); (case k2 => k_asm); (case k3 => k_asm); (case k4 => k_asm); (case k5 => k_asm); (case k6 => first | exact rfl | assumption); (case kd => first | (refine' room_d ?h ?e; (case h => assumption); (case e => decide)) | ktr_room); (case ku => first | (refine' room_u ?h ?e; (case h => assumption); (case e => decide)) | ktr_units)); (intro P9 t9 h9 tk9 F9 N9; (try dsimp only); (try k_fold))))
theorem c_legj (w : World) (y m d : Int) (t t' t'' : Tok) (hm : 3 ≤ m ∧ m ≤ 4) (hd : 1 ≤ d ∧ d ≤ 34 - m) : ConV w 93 2 [.int y t, .int m t', .int d t''] True (fun _ => .bool true) := by
  unfold ConV
  w_top off
  k_fill
  intro loose mean mg mb dp un gd cn cs a ccd cl outer A₀ base h₀ L m news s Q E hB hF hK hN hT hcs hdp hun hret
  refine wpAny_call ?_
  (k_dflt cell_enter)
  k_steps
  all_goals (refine' ret_b (Q := Q) hret trivial rfl (by k_asm) (by k_asm))
local macro_rules | `(tactic| walk_at "call ref") => `(tactic| (k_here; (with_reducible refine' use_v (c_legj _ _ _ _ _ _ _ ?p0 ?p1) ?gA ?k1 ?k2 ?k3 ?k4 ?k5 ?k6 ?kd ?ku ?_); k_dflt ((case gA => exact rfl); (case p0 => omega); (case p1 => omega); (case k1 => k_asm); (case k2 => k_asm); (case k3 => k_asm); (case k4 => k_asm); (case k5 => k_asm); (case k6 => first | exact rfl | assumption); (case kd => first | (refine' room_d ?h ?e; (case h => assumption); (case e => decide)) | ktr_room); (case ku => first | (refine' room_u ?h ?e; (case h => assumption); (case e => decide)) | ktr_units)); (intro P9 t9 h9 tk9 F9 N9; (try dsimp only); (try k_fold))))
theorem c_jdj (w : World) (y m d : Int) (t t' t'' : Tok) (hy : -(2 ^ 24) < y ∧ y < 2 ^ 24) (hm : 3 ≤ m ∧ m ≤ 4) (hd : 1 ≤ d ∧ d ≤ 34 - m) : ConV w 100 3 [.int y t, .int m t', .int d t''] True (fun t => .float (U (4 * (1461 * (y + 4716) / 4 + (31 * m + 29) + d - 1525) + 2)) t) := by
  unfold ConV
  w_top off
  k_fill
  intro loose mean mg mb dp un gd cn cs a ccd cl outer A₀ base h₀ L m news s Q E hB hF hK hN hT hcs hdp hun hret
  refine wpAny_call ?_
  (k_dflt cell_enter)
  k_steps
  all_goals (refine' ret_f (Q := Q) hret trivial rfl (by k_asm) (by k_asm))
end
section
local macro_rules | `(tactic| walk_at "call ref") => `(tactic| (k_here; k_dflt (refine wpAny_call ?_; (refine' code_def ?k1 ?k2 ?k3 ?k4 ?k5 ?kA ?kF ?kK ?k6 ?k7 ?k8 ?k9 ?kB ?_ ?c2 ?c3 ?c4 ?c5; (case kA => exact rfl); (case kF => exact rfl); (case kK => first | assumption | exact rfl); (case k1 => k_asm); (case k2 => k_asm); (case k3 => k_asm); (case k4 => k_asm); (case k5 => k_asm); (case k6 => k_is); (case k7 => k_is); (case k8 => first | ktr_room | k_room); (case k9 => first | exact BindsTo.of_eq rfl | exact binds_K (by k_in) rfl (by k_is) rfl rfl rfl); (case c5 => decide); (case kB => exact locs rfl); (case c2 => exact rfl); (case c3 => exact rfl); (case c4 => exact rfl); k_whole; intro g' L' h' FG' F' N' B' X' T'; (try dsimp only); (try k_lift B'); (try k_fold)))))
local macro_rules | `(tactic| walk_at "call ref") => `(tactic| (k_here; (with_reducible refine' use_t (c_ew _ _ _ ?p0) ?gA ?k1 ?k2 ?k3 ?k4 ?k5 ?k6 ?kd ?ku ?_); k_dflt ((case gA => exact rfl); (case p0 => omega); (case k1 => k_asm); (case k2 => k_asm); (case k3 => k_asm); (case k4 => k_asm); (case k5 => k_asm); (case k6 => first | exact rfl | assumption); (case kd => first | (refine' room_d ?h ?e; (case h => assumption); (case e => decide)) | ktr_room); (case ku => first | (refine' room_u ?h ?e; (case h => assumption); (case e => decide)) | ktr_units)); (intro P9 D9 t91 t92 t93 c9 h9 tk9 F9 N9 L9; (try dsimp only); (try simp only [AllLt, and_true] at L9); (try k_fold))))
local macro_rules | `(tactic| walk_at "call ref") => `(tactic| (k_here; (with_reducible refine' use_t (c_fromjd _ _ _ ?p0) ?gA ?k1 ?k2 ?k3 ?k4 ?k5 ?k6 ?kd ?ku ?_); k_dflt ((case gA => exact rfl); (case p0 => omega); (case k1 => k_asm); (case k2 => k_asm); (case k3 => k_asm); (case k4 => k_asm); (case k5 => k_asm); (case k6 => first | exact rfl | assumption); (case kd => first | (refine' room_d ?h ?e; (case h => assumption); (case e => decide)) | ktr_room); (case ku => first | (refine' room_u ?h ?e; (case h => assumption); (case e => decide)) | ktr_units)); (intro P9 D9 t91 t92 t93 c9 h9 tk9 F9 N9 L9; (try dsimp only); (try simp only [AllLt, and_true] at L9); (try k_fold))))
local macro_rules | `(tactic| walk_at "call ref") => `(tactic| (k_here; (with_reducible refine' use_v (c_jdj _ _ _ _ _ _ _ ?p0 ?p1 ?p2) ?gA ?k1 ?k2 ?k3 ?k4 ?k5 ?k6 ?kd ?ku ?_); k_dflt ((case gA => exact rfl); (case p0 => omega); (case p1 => omega); (case p2 => omega); (case k1 => k_asm); (case k2 => k_asm); (case k3 => k_asm); (case k4 => k_asm); (case k5 => k_asm); (case k6 => first | exact rfl | assumption); (case kd => first | (refine' room_d ?h ?e; (case h => assumption); (case e => decide)) | ktr_room); (case ku => first | (refine' room_u ?h ?e; (case h => assumption); (case e => decide)) | ktr_units)); (intro P9 t9 h9 tk9 F9 N9; (try dsimp only); (try k_fold))))
section
variable {h₀ h' : Heap} {L : Addr} {m : Str → Option Value} {news : List (Addr × Obj)} {s : Shared} {Q : Value → Shared → Prop} {tk' : Nat} {n n' : Int} {D : Addr} {t1 t2 t3 : Tok} {c : Nat} {q : Addr × Obj}
theorem ret_e (hret : RetT h₀ L m news s Q True (ldY n) (ldM n) (ldD n)) (F : Fr h₀ L h' m)
    (N : News h₀ L h' ((D, ({ cls := .type "tuple", data := .seq #[.int (ldY n) t1, .int (ldM n) t2, .int (ldD n) t3] c } : Obj)) :: news)) (hl : AllLt D news) : Q (.ref D) { s with heap := h', toks := tk' } :=
  hret trivial D t1 t2 t3 c h' tk' F N hl
theorem ret_j (hret : RetT h₀ L m news s Q True (ldY n) (ldM n) (ldD n)) (F : Fr h₀ L h' m)
    (N : News h₀ L h' ((D, ({ cls := .type "tuple", data := .seq #[.int (ldY n') t1, .int (ldM n') t2, .int (ldD n') t3] c } : Obj)) :: q :: news)) (hl : q.1 < D ∧ AllLt D news) (e : n' = n) : Q (.ref D) { s with heap := h', toks := tk' } := by
  subst e
  refine hret trivial D t1 t2 t3 c h' tk' F ?_ hl.2
  intro r hr
  rcases List.mem_cons.mp hr with rfl | hr
  · exact N _ (.head _)
  · exact N _ (.tail _ (.tail _ hr))
theorem old_f' (y : Int) : 1461 * (y + 4716) / 4 + (31 * ((113 + (19 * (y % 19) + 15) % 30 + (2 * (y % 4) + 4 * (y % 7) - (19 * (y % 19) + 15) % 30 + 6) % 7 + 1) / 31) + 29) + ((113 + (19 * (y % 19) + 15) % 30 + (2 * (y % 4) + 4 * (y % 7) - (19 * (y % 19) + 15) % 30 + 6) % 7 + 1) % 31 + 1) - 1525 + 1 = ol y false :=
  old_f y _ rfl
theorem old_tf (y : Int) (h : ¬ y % 19 = 0) : 1461 * (y + 4716) / 4 + (31 * ((113 + (19 * (y % 19) + 15) % 30 + (2 * (y % 4) + 4 * (y % 7) - (19 * (y % 19) + 15) % 30 + 6) % 7 + 1) / 31) + 29) + ((113 + (19 * (y % 19) + 15) % 30 + (2 * (y % 4) + 4 * (y % 7) - (19 * (y % 19) + 15) % 30 + 6) % 7 + 1) % 31 + 1) - 1525 + 1 = ol y true :=
  (old_f y _ rfl).trans (ol_tf y h).symm
end
theorem c_ean (w : World) (y : Int) (t : Tok) (hy : 1583 ≤ y ∧ y < 2 ^ 24) : ConT w 115 2 [.int y t] True (ldY (we y)) (ldM (we y)) (ldD (we y)) := by
  unfold ConT
  w_top off
  k_fill
  intro loose mean mg mb dp un gd cn cs a ccd cl outer A₀ base h₀ L m news s Q E hB hF hK hN hT hcs hdp hun hret
  refine wpAny_call ?_
  (k_dflt (refine' code_def ?k1 ?k2 ?k3 ?k4 ?k5 ?kA ?kF ?kK ?k6 ?k7 ?k8 ?k9 ?kB ?_ ?c2 ?c3 ?c4 ?c5; (case kA => exact rfl); (case kF => exact rfl); (case kK => first | assumption | exact rfl); (case k1 => k_asm); (case k2 => k_asm); (case k3 => k_asm); (case k4 => k_asm); (case k5 => k_asm); (case k6 => k_is); (case k7 => k_is); (case k8 => first | ktr_room | k_room); (case k9 => first | exact BindsTo.of_eq rfl | exact binds_K (by k_in) rfl (by k_is) rfl rfl rfl); (case c5 => decide); (case kB => exact locs rfl); (case c2 => exact rfl); (case c3 => exact rfl); (case c4 => exact rfl); k_whole; intro g' L' h' FG' F' N' B' X' T'; (try dsimp only); (try k_lift B'); (try k_fold)))
  k_steps
  all_goals (refine' ret_e (Q := Q) hret (by k_asm) (by k_asm) (by k_asm))
theorem c_eaw (w : World) (y : Int) (t t' : Tok) (hy : 1583 ≤ y ∧ y < 2 ^ 24) : ConT w 115 2 [.int y t, .str (Str.ofString "western") t'] True (ldY (we y)) (ldM (we y)) (ldD (we y)) := by
  unfold ConT
  w_top off
  k_fill
  intro loose mean mg mb dp un gd cn cs a ccd cl outer A₀ base h₀ L m news s Q E hB hF hK hN hT hcs hdp hun hret
  refine wpAny_call ?_
  (k_dflt (refine' code_def ?k1 ?k2 ?k3 ?k4 ?k5 ?kA ?kF ?kK ?k6 ?k7 ?k8 ?k9 ?kB ?_ ?c2 ?c3 ?c4 ?c5; (case kA => exact rfl); (case kF => exact rfl); (case kK => first | assumption | exact rfl); (case k1 => k_asm); (case k2 => k_asm); (case k3 => k_asm); (case k4 => k_asm); (case k5 => k_asm); (case k6 => k_is); (case k7 => k_is); (case k8 => first | ktr_room | k_room); (case k9 => first | exact BindsTo.of_eq rfl | exact binds_K (by k_in) rfl (by k_is) rfl rfl rfl); (case c5 => decide); (case kB => exact locs rfl); (case c2 => exact rfl); (case c3 => exact rfl); (case c4 => exact rfl); k_whole; intro g' L' h' FG' F' N' B' X' T'; (try dsimp only); (try k_lift B'); (try k_fold)))
  k_steps
  all_goals (refine' ret_e (Q := Q) hret (by k_asm) (by k_asm) (by k_asm))
theorem c_eao (w : World) (y : Int) (t t' : Tok) (hy : -10000000 < y ∧ y < 10000000) : ConT w 115 6 [.int y t, .str (Str.ofString "orthodox") t'] True (ldY (ol y false)) (ldM (ol y false)) (ldD (ol y false)) := by
  unfold ConT
  w_top off
  k_fill
  intro loose mean mg mb dp un gd cn cs a ccd cl outer A₀ base h₀ L m news s Q E hB hF hK hN hT hcs hdp hun hret
  refine wpAny_call ?_
  (k_dflt (refine' code_def ?k1 ?k2 ?k3 ?k4 ?k5 ?kA ?kF ?kK ?k6 ?k7 ?k8 ?k9 ?kB ?_ ?c2 ?c3 ?c4 ?c5; (case kA => exact rfl); (case kF => exact rfl); (case kK => first | assumption | exact rfl); (case k1 => k_asm); (case k2 => k_asm); (case k3 => k_asm); (case k4 => k_asm); (case k5 => k_asm); (case k6 => k_is); (case k7 => k_is); (case k8 => first | ktr_room | k_room); (case k9 => first | exact BindsTo.of_eq rfl | exact binds_K (by k_in) rfl (by k_is) rfl rfl rfl); (case c5 => decide); (case kB => exact locs rfl); (case c2 => exact rfl); (case c3 => exact rfl); (case c4 => exact rfl); k_whole; intro g' L' h' FG' F' N' B' X' T'; (try dsimp only); (try k_lift B'); (try k_fold)))
  k_steps
  all_goals (refine' ret_j (Q := Q) hret (by k_asm) (by k_asm) (by k_asm) (old_f' y))
theorem c_eae (w : World) (y : Int) (t t' : Tok) (hy : -10000000 < y ∧ y < 10000000) : ConT w 115 6 [.int y t, .str (Str.ofString "eastern") t'] True (ldY (ol y true)) (ldM (ol y true)) (ldD (ol y true)) := by
  unfold ConT
  w_top off
  k_fill
  intro loose mean mg mb dp un gd cn cs a ccd cl outer A₀ base h₀ L m news s Q E hB hF hK hN hT hcs hdp hun hret
  refine wpAny_call ?_
  (k_dflt (refine' code_def ?k1 ?k2 ?k3 ?k4 ?k5 ?kA ?kF ?kK ?k6 ?k7 ?k8 ?k9 ?kB ?_ ?c2 ?c3 ?c4 ?c5; (case kA => exact rfl); (case kF => exact rfl); (case kK => first | assumption | exact rfl); (case k1 => k_asm); (case k2 => k_asm); (case k3 => k_asm); (case k4 => k_asm); (case k5 => k_asm); (case k6 => k_is); (case k7 => k_is); (case k8 => first | ktr_room | k_room); (case k9 => first | exact BindsTo.of_eq rfl | exact binds_K (by k_in) rfl (by k_is) rfl rfl rfl); (case c5 => decide); (case kB => exact locs rfl); (case c2 => exact rfl); (case c3 => exact rfl); (case c4 => exact rfl); k_whole; intro g' L' h' FG' F' N' B' X' T'; (try dsimp only); (try k_lift B'); (try k_fold)))
  k_steps
  all_goals first
    | (refine' ret_j (Q := Q) hret (by k_asm) (by k_asm) (by k_asm) (old_tf y (by assumption)); done)
    | (refine' ret_j (Q := Q) hret (by k_asm) (by k_asm) (by k_asm) (old_t y _ (by assumption) rfl); done)
end
section
local macro_rules | `(tactic| walk_at "no such step") => `(tactic| fail)
local macro_rules | `(tactic| walk_at "no such step") => `(tactic| fail)
local macro_rules | `(tactic| walk_at "no such step") => `(tactic| fail)
local macro_rules | `(tactic| walk_at "no such step") => `(tactic| fail)
local macro_rules | `(tactic| walk_at "no such step") => `(tactic| fail)
local macro_rules | `(tactic| walk_at "no such step") => `(tactic| fail)
local macro_rules | `(tactic| walk_at "no such step") => `(tactic| fail)
local macro_rules | `(tactic| walk_at "no such step") => `(tactic| fail)
local macro_rules | `(tactic| walk_at "no such step") => `(tactic| fail)
local macro_rules | `(tactic| walk_at "no such step") => `(tactic| fail)
local macro_rules | `(tactic| walk_at "call ref") => `(tactic| (k_here; (with_reducible refine' use_v (c_first _ _ _) ?gA ?k1 ?k2 ?k3 ?k4 ?k5 ?k6 ?kd ?ku ?_); k_dflt ((case gA => exact rfl); (case k1 => k_asm); (case k2 => k_asm); (case k3 => k_asm); (case k4 => k_asm); (case k5 => k_asm); (case k6 => first | exact rfl | assumption); (case kd => first | (refine' room_d ?h ?e; (case h => assumption); (case e => decide)) | ktr_room); (case ku => first | (refine' room_u ?h ?e; (case h => assumption); (case e => decide)) | ktr_units)); (intro P9 t9 h9 tk9 F9 N9; (try dsimp only); (try k_fold))))
local macro_rules | `(tactic| walk_at "exec While Compare") => `(tactic| (k_here; (with_reducible show wpAny _ _ (exec (Stmt.While (Expr.Compare (Expr.Name _ _) _ _ _) _ _ _) _) _ _ _); k_dflt (refine whl_start 20 ?_)))
local macro_rules | `(tactic| walk_at "exec While Compare") => `(tactic| (k_here; (with_reducible show wpAny _ _ (exec (Stmt.While (Expr.Compare _ [CmpOp.Gt] [Expr.Name _ _] _) _ _ _) _) _ _ _); k_while_given ["number"] (fun number (_ : List Int) y => True) (fun number (_ : List Int) y => (lf y - number).toNat) "year"))
local macro_rules | `(tactic| walk_at "exec While Compare") => `(tactic| (k_here; (with_reducible show wpAny _ _ (exec (Stmt.While (Expr.Compare _ [CmpOp.LtE] [Expr.Name _ _] _) _ _ _) _) _ _ _); k_while_given ["number"] (fun number (_ : List Int) y => lf y ≤ number ∧ lf (y + 1) = lf y + 365 + lp y ∧ 0 ≤ lp y ∧ lp y ≤ 1) (fun number (_ : List Int) y => (number + 1 - lf (y + 1)).toNat) "year"))
local macro_rules | `(tactic| walk_at "subscriptTail Name BinOp ref int") => `(tactic| (k_here; (with_reducible show wpAny _ _ (subscriptTail _ _ (Value.ref _) (Value.int _ _)) _ _ _); (with_unfolding_all refine' item_litK ?g1 ?g2 ?g3 ?g4 ?_ ?g6; (case g1 => is_list); (case g2 => decide); (case g3 => decide); (case g4 => rfl); (case g6 => with_unfolding_all rfl); k_whole)))
theorem dropB {h₀ h' : Heap} {L : Addr} {news : List (Addr × Obj)} {p q : Addr × Obj} (N : News h₀ L h' (p :: q :: news)) : News h₀ L h' (p :: news) := by
  intro r hr
  rcases List.mem_cons.mp hr with rfl | hr
  · exact N _ (.head _)
  · exact N _ (.tail _ (.tail _ hr))
theorem ret_ld {h₀ h' : Heap} {L : Addr} {m : Str → Option Value} {news : List (Addr × Obj)} {s : Shared} {Q : Value → Shared → Prop} {tk' : Nat} {n y mo d : Int} {D : Addr} {t1 t2 t3 : Tok} {c : Nat} {q : Addr × Obj}
    (hret : RetT h₀ L m news s Q True (ldY n) (ldM n) (ldD n)) (F : Fr h₀ L h' m)
    (N : News h₀ L h' ((D, ({ cls := .type "tuple", data := .seq #[.int y t1, .int mo t2, .int d t3] c } : Obj)) :: q :: news)) (hl : AllLt D news)
    (h1 : lf y ≤ n) (h2 : ¬ lf (y + 1) ≤ n) (em : mo = mm (n - lf y + 1) (28 + lp y)) (ed : d = dd (n - lf y + 1) (28 + lp y)) :
    Q (.ref D) { s with heap := h', toks := tk' } := by
  have hY : ldY n = y := ldY_eq h1 (by omega)
  refine ret_t hret trivial F (dropB N) hl hY.symm ?_ ?_
  · unfold ldM; rw [hY]; exact em
  · unfold ldD; rw [hY]; exact ed
theorem ret_m1 {h₀ h' : Heap} {L : Addr} {m : Str → Option Value} {news : List (Addr × Obj)} {s : Shared} {Q : Value → Shared → Prop} {tk' : Nat} {n y : Int} {D : Addr} {t1 t2 t3 : Tok} {c : Nat} {q : Addr × Obj}
    (hret : RetT h₀ L m news s Q True (ldY n) (ldM n) (ldD n)) (F : Fr h₀ L h' m)
    (N : News h₀ L h' ((D, ({ cls := .type "tuple", data := .seq #[.int y t1, .int (1) t2, .int (n - lf y + 1) t3] c } : Obj)) :: q :: news)) (hl : q.1 < D ∧ AllLt D news)
    (h1 : lf y ≤ n) (h2 : ¬ lf (y + 1) ≤ n) (hn : ¬ 31 < n - lf y + 1) : Q (.ref D) { s with heap := h', toks := tk' } := by
  have h3 := lf_next y
  have h4 := lp_01 y
  obtain ⟨e1, e2⟩ := md1 (k := n - lf y + 1) (f := 28 + lp y) (by omega) (by omega)
  exact ret_ld hret F N hl.2 h1 h2 (e1.symm ▸ rfl) (by rw [e2] <;> omega)
theorem ret_m2 {h₀ h' : Heap} {L : Addr} {m : Str → Option Value} {news : List (Addr × Obj)} {s : Shared} {Q : Value → Shared → Prop} {tk' : Nat} {n y : Int} {D : Addr} {t1 t2 t3 : Tok} {c : Nat} {q : Addr × Obj}
    (hret : RetT h₀ L m news s Q True (ldY n) (ldM n) (ldD n)) (F : Fr h₀ L h' m)
    (N : News h₀ L h' ((D, ({ cls := .type "tuple", data := .seq #[.int y t1, .int (1 + 1) t2, .int (n - lf y + 1 - 31) t3] c } : Obj)) :: q :: news)) (hl : q.1 < D ∧ AllLt D news)
    (h1 : lf y ≤ n) (h2 : ¬ lf (y + 1) ≤ n) (hp : 31 < n - lf y + 1) (hn : ¬ (lf (y + 1) - lf y - 337) < n - lf y + 1 - 31) : Q (.ref D) { s with heap := h', toks := tk' } := by
  have h3 := lf_next y
  have h4 := lp_01 y
  obtain ⟨e1, e2⟩ := md2 (k := n - lf y + 1) (f := 28 + lp y) (by omega) (by omega) (by omega)
  exact ret_ld hret F N hl.2 h1 h2 (e1.symm ▸ rfl) (by rw [e2] <;> omega)
theorem ret_m3 {h₀ h' : Heap} {L : Addr} {m : Str → Option Value} {news : List (Addr × Obj)} {s : Shared} {Q : Value → Shared → Prop} {tk' : Nat} {n y : Int} {D : Addr} {t1 t2 t3 : Tok} {c : Nat} {q : Addr × Obj}
    (hret : RetT h₀ L m news s Q True (ldY n) (ldM n) (ldD n)) (F : Fr h₀ L h' m)
    (N : News h₀ L h' ((D, ({ cls := .type "tuple", data := .seq #[.int y t1, .int (1 + 1 + 1) t2, .int (n - lf y + 1 - 31 - (lf (y + 1) - lf y - 337)) t3] c } : Obj)) :: q :: news)) (hl : q.1 < D ∧ AllLt D news)
    (h1 : lf y ≤ n) (h2 : ¬ lf (y + 1) ≤ n) (hp : (lf (y + 1) - lf y - 337) < n - lf y + 1 - 31) (hn : ¬ 31 < n - lf y + 1 - 31 - (lf (y + 1) - lf y - 337)) : Q (.ref D) { s with heap := h', toks := tk' } := by
  have h3 := lf_next y
  have h4 := lp_01 y
  obtain ⟨e1, e2⟩ := md3 (k := n - lf y + 1) (f := 28 + lp y) (by omega) (by omega) (by omega)
  exact ret_ld hret F N hl.2 h1 h2 (e1.symm ▸ rfl) (by rw [e2] <;> omega)
theorem ret_m4 {h₀ h' : Heap} {L : Addr} {m : Str → Option Value} {news : List (Addr × Obj)} {s : Shared} {Q : Value → Shared → Prop} {tk' : Nat} {n y : Int} {D : Addr} {t1 t2 t3 : Tok} {c : Nat} {q : Addr × Obj}
    (hret : RetT h₀ L m news s Q True (ldY n) (ldM n) (ldD n)) (F : Fr h₀ L h' m)
    (N : News h₀ L h' ((D, ({ cls := .type "tuple", data := .seq #[.int y t1, .int (1 + 1 + 1 + 1) t2, .int (n - lf y + 1 - 31 - (lf (y + 1) - lf y - 337) - 31) t3] c } : Obj)) :: q :: news)) (hl : q.1 < D ∧ AllLt D news)
    (h1 : lf y ≤ n) (h2 : ¬ lf (y + 1) ≤ n) (hp : 31 < n - lf y + 1 - 31 - (lf (y + 1) - lf y - 337)) (hn : ¬ 30 < n - lf y + 1 - 31 - (lf (y + 1) - lf y - 337) - 31) : Q (.ref D) { s with heap := h', toks := tk' } := by
  have h3 := lf_next y
  have h4 := lp_01 y
  obtain ⟨e1, e2⟩ := md4 (k := n - lf y + 1) (f := 28 + lp y) (by omega) (by omega) (by omega)
  exact ret_ld hret F N hl.2 h1 h2 (e1.symm ▸ rfl) (by rw [e2] <;> omega)
theorem ret_m5 {h₀ h' : Heap} {L : Addr} {m : Str → Option Value} {news : List (Addr × Obj)} {s : Shared} {Q : Value → Shared → Prop} {tk' : Nat} {n y : Int} {D : Addr} {t1 t2 t3 : Tok} {c : Nat} {q : Addr × Obj}
    (hret : RetT h₀ L m news s Q True (ldY n) (ldM n) (ldD n)) (F : Fr h₀ L h' m)
    (N : News h₀ L h' ((D, ({ cls := .type "tuple", data := .seq #[.int y t1, .int (1 + 1 + 1 + 1 + 1) t2, .int (n - lf y + 1 - 31 - (lf (y + 1) - lf y - 337) - 31 - 30) t3] c } : Obj)) :: q :: news)) (hl : q.1 < D ∧ AllLt D news)
    (h1 : lf y ≤ n) (h2 : ¬ lf (y + 1) ≤ n) (hp : 30 < n - lf y + 1 - 31 - (lf (y + 1) - lf y - 337) - 31) (hn : ¬ 31 < n - lf y + 1 - 31 - (lf (y + 1) - lf y - 337) - 31 - 30) : Q (.ref D) { s with heap := h', toks := tk' } := by
  have h3 := lf_next y
  have h4 := lp_01 y
  obtain ⟨e1, e2⟩ := md5 (k := n - lf y + 1) (f := 28 + lp y) (by omega) (by omega) (by omega)
  exact ret_ld hret F N hl.2 h1 h2 (e1.symm ▸ rfl) (by rw [e2] <;> omega)
theorem ret_m6 {h₀ h' : Heap} {L : Addr} {m : Str → Option Value} {news : List (Addr × Obj)} {s : Shared} {Q : Value → Shared → Prop} {tk' : Nat} {n y : Int} {D : Addr} {t1 t2 t3 : Tok} {c : Nat} {q : Addr × Obj}
    (hret : RetT h₀ L m news s Q True (ldY n) (ldM n) (ldD n)) (F : Fr h₀ L h' m)
    (N : News h₀ L h' ((D, ({ cls := .type "tuple", data := .seq #[.int y t1, .int (1 + 1 + 1 + 1 + 1 + 1) t2, .int (n - lf y + 1 - 31 - (lf (y + 1) - lf y - 337) - 31 - 30 - 31) t3] c } : Obj)) :: q :: news)) (hl : q.1 < D ∧ AllLt D news)
    (h1 : lf y ≤ n) (h2 : ¬ lf (y + 1) ≤ n) (hp : 31 < n - lf y + 1 - 31 - (lf (y + 1) - lf y - 337) - 31 - 30) (hn : ¬ 30 < n - lf y + 1 - 31 - (lf (y + 1) - lf y - 337) - 31 - 30 - 31) : Q (.ref D) { s with heap := h', toks := tk' } := by
  have h3 := lf_next y
  have h4 := lp_01 y
  obtain ⟨e1, e2⟩ := md6 (k := n - lf y + 1) (f := 28 + lp y) (by omega) (by omega) (by omega)
  exact ret_ld hret F N hl.2 h1 h2 (e1.symm ▸ rfl) (by rw [e2] <;> omega)
theorem ret_m7 {h₀ h' : Heap} {L : Addr} {m : Str → Option Value} {news : List (Addr × Obj)} {s : Shared} {Q : Value → Shared → Prop} {tk' : Nat} {n y : Int} {D : Addr} {t1 t2 t3 : Tok} {c : Nat} {q : Addr × Obj}
    (hret : RetT h₀ L m news s Q True (ldY n) (ldM n) (ldD n)) (F : Fr h₀ L h' m)
    (N : News h₀ L h' ((D, ({ cls := .type "tuple", data := .seq #[.int y t1, .int (1 + 1 + 1 + 1 + 1 + 1 + 1) t2, .int (n - lf y + 1 - 31 - (lf (y + 1) - lf y - 337) - 31 - 30 - 31 - 30) t3] c } : Obj)) :: q :: news)) (hl : q.1 < D ∧ AllLt D news)
    (h1 : lf y ≤ n) (h2 : ¬ lf (y + 1) ≤ n) (hp : 30 < n - lf y + 1 - 31 - (lf (y + 1) - lf y - 337) - 31 - 30 - 31) (hn : ¬ 31 < n - lf y + 1 - 31 - (lf (y + 1) - lf y - 337) - 31 - 30 - 31 - 30) : Q (.ref D) { s with heap := h', toks := tk' } := by
  have h3 := lf_next y
  have h4 := lp_01 y
  obtain ⟨e1, e2⟩ := md7 (k := n - lf y + 1) (f := 28 + lp y) (by omega) (by omega) (by omega)
  exact ret_ld hret F N hl.2 h1 h2 (e1.symm ▸ rfl) (by rw [e2] <;> omega)
theorem ret_m8 {h₀ h' : Heap} {L : Addr} {m : Str → Option Value} {news : List (Addr × Obj)} {s : Shared} {Q : Value → Shared → Prop} {tk' : Nat} {n y : Int} {D : Addr} {t1 t2 t3 : Tok} {c : Nat} {q : Addr × Obj}
    (hret : RetT h₀ L m news s Q True (ldY n) (ldM n) (ldD n)) (F : Fr h₀ L h' m)
    (N : News h₀ L h' ((D, ({ cls := .type "tuple", data := .seq #[.int y t1, .int (1 + 1 + 1 + 1 + 1 + 1 + 1 + 1) t2, .int (n - lf y + 1 - 31 - (lf (y + 1) - lf y - 337) - 31 - 30 - 31 - 30 - 31) t3] c } : Obj)) :: q :: news)) (hl : q.1 < D ∧ AllLt D news)
    (h1 : lf y ≤ n) (h2 : ¬ lf (y + 1) ≤ n) (hp : 31 < n - lf y + 1 - 31 - (lf (y + 1) - lf y - 337) - 31 - 30 - 31 - 30) (hn : ¬ 31 < n - lf y + 1 - 31 - (lf (y + 1) - lf y - 337) - 31 - 30 - 31 - 30 - 31) : Q (.ref D) { s with heap := h', toks := tk' } := by
  have h3 := lf_next y
  have h4 := lp_01 y
  obtain ⟨e1, e2⟩ := md8 (k := n - lf y + 1) (f := 28 + lp y) (by omega) (by omega) (by omega)
  exact ret_ld hret F N hl.2 h1 h2 (e1.symm ▸ rfl) (by rw [e2] <;> omega)
theorem ret_m9 {h₀ h' : Heap} {L : Addr} {m : Str → Option Value} {news : List (Addr × Obj)} {s : Shared} {Q : Value → Shared → Prop} {tk' : Nat} {n y : Int} {D : Addr} {t1 t2 t3 : Tok} {c : Nat} {q : Addr × Obj}
    (hret : RetT h₀ L m news s Q True (ldY n) (ldM n) (ldD n)) (F : Fr h₀ L h' m)
    (N : News h₀ L h' ((D, ({ cls := .type "tuple", data := .seq #[.int y t1, .int (1 + 1 + 1 + 1 + 1 + 1 + 1 + 1 + 1) t2, .int (n - lf y + 1 - 31 - (lf (y + 1) - lf y - 337) - 31 - 30 - 31 - 30 - 31 - 31) t3] c } : Obj)) :: q :: news)) (hl : q.1 < D ∧ AllLt D news)
    (h1 : lf y ≤ n) (h2 : ¬ lf (y + 1) ≤ n) (hp : 31 < n - lf y + 1 - 31 - (lf (y + 1) - lf y - 337) - 31 - 30 - 31 - 30 - 31) (hn : ¬ 30 < n - lf y + 1 - 31 - (lf (y + 1) - lf y - 337) - 31 - 30 - 31 - 30 - 31 - 31) : Q (.ref D) { s with heap := h', toks := tk' } := by
  have h3 := lf_next y
  have h4 := lp_01 y
  obtain ⟨e1, e2⟩ := md9 (k := n - lf y + 1) (f := 28 + lp y) (by omega) (by omega) (by omega)
  exact ret_ld hret F N hl.2 h1 h2 (e1.symm ▸ rfl) (by rw [e2] <;> omega)
theorem ret_m10 {h₀ h' : Heap} {L : Addr} {m : Str → Option Value} {news : List (Addr × Obj)} {s : Shared} {Q : Value → Shared → Prop} {tk' : Nat} {n y : Int} {D : Addr} {t1 t2 t3 : Tok} {c : Nat} {q : Addr × Obj}
    (hret : RetT h₀ L m news s Q True (ldY n) (ldM n) (ldD n)) (F : Fr h₀ L h' m)
    (N : News h₀ L h' ((D, ({ cls := .type "tuple", data := .seq #[.int y t1, .int (1 + 1 + 1 + 1 + 1 + 1 + 1 + 1 + 1 + 1) t2, .int (n - lf y + 1 - 31 - (lf (y + 1) - lf y - 337) - 31 - 30 - 31 - 30 - 31 - 31 - 30) t3] c } : Obj)) :: q :: news)) (hl : q.1 < D ∧ AllLt D news)
    (h1 : lf y ≤ n) (h2 : ¬ lf (y + 1) ≤ n) (hp : 30 < n - lf y + 1 - 31 - (lf (y + 1) - lf y - 337) - 31 - 30 - 31 - 30 - 31 - 31) (hn : ¬ 31 < n - lf y + 1 - 31 - (lf (y + 1) - lf y - 337) - 31 - 30 - 31 - 30 - 31 - 31 - 30) : Q (.ref D) { s with heap := h', toks := tk' } := by
  have h3 := lf_next y
  have h4 := lp_01 y
  obtain ⟨e1, e2⟩ := md10 (k := n - lf y + 1) (f := 28 + lp y) (by omega) (by omega) (by omega)
  exact ret_ld hret F N hl.2 h1 h2 (e1.symm ▸ rfl) (by rw [e2] <;> omega)
theorem ret_m11 {h₀ h' : Heap} {L : Addr} {m : Str → Option Value} {news : List (Addr × Obj)} {s : Shared} {Q : Value → Shared → Prop} {tk' : Nat} {n y : Int} {D : Addr} {t1 t2 t3 : Tok} {c : Nat} {q : Addr × Obj}
    (hret : RetT h₀ L m news s Q True (ldY n) (ldM n) (ldD n)) (F : Fr h₀ L h' m)
    (N : News h₀ L h' ((D, ({ cls := .type "tuple", data := .seq #[.int y t1, .int (1 + 1 + 1 + 1 + 1 + 1 + 1 + 1 + 1 + 1 + 1) t2, .int (n - lf y + 1 - 31 - (lf (y + 1) - lf y - 337) - 31 - 30 - 31 - 30 - 31 - 31 - 30 - 31) t3] c } : Obj)) :: q :: news)) (hl : q.1 < D ∧ AllLt D news)
    (h1 : lf y ≤ n) (h2 : ¬ lf (y + 1) ≤ n) (hp : 31 < n - lf y + 1 - 31 - (lf (y + 1) - lf y - 337) - 31 - 30 - 31 - 30 - 31 - 31 - 30) (hn : ¬ 30 < n - lf y + 1 - 31 - (lf (y + 1) - lf y - 337) - 31 - 30 - 31 - 30 - 31 - 31 - 30 - 31) : Q (.ref D) { s with heap := h', toks := tk' } := by
  have h3 := lf_next y
  have h4 := lp_01 y
  obtain ⟨e1, e2⟩ := md11 (k := n - lf y + 1) (f := 28 + lp y) (by omega) (by omega) (by omega)
  exact ret_ld hret F N hl.2 h1 h2 (e1.symm ▸ rfl) (by rw [e2] <;> omega)
theorem ret_m12 {h₀ h' : Heap} {L : Addr} {m : Str → Option Value} {news : List (Addr × Obj)} {s : Shared} {Q : Value → Shared → Prop} {tk' : Nat} {n y : Int} {D : Addr} {t1 t2 t3 : Tok} {c : Nat} {q : Addr × Obj}
    (hret : RetT h₀ L m news s Q True (ldY n) (ldM n) (ldD n)) (F : Fr h₀ L h' m)
    (N : News h₀ L h' ((D, ({ cls := .type "tuple", data := .seq #[.int y t1, .int (1 + 1 + 1 + 1 + 1 + 1 + 1 + 1 + 1 + 1 + 1 + 1) t2, .int (n - lf y + 1 - 31 - (lf (y + 1) - lf y - 337) - 31 - 30 - 31 - 30 - 31 - 31 - 30 - 31 - 30) t3] c } : Obj)) :: q :: news)) (hl : q.1 < D ∧ AllLt D news)
    (h1 : lf y ≤ n) (h2 : ¬ lf (y + 1) ≤ n) (hp : 30 < n - lf y + 1 - 31 - (lf (y + 1) - lf y - 337) - 31 - 30 - 31 - 30 - 31 - 31 - 30 - 31) : Q (.ref D) { s with heap := h', toks := tk' } := by
  have h3 := lf_next y
  have h4 := lp_01 y
  obtain ⟨e1, e2⟩ := md12 (k := n - lf y + 1) (f := 28 + lp y) (by omega) (by omega)
  exact ret_ld hret F N hl.2 h1 h2 (e1.symm ▸ rfl) (by rw [e2] <;> omega)
theorem c_date (w : World) (n : Int) (t : Tok) : ConT w 144 2 [.int n t] True (ldY n) (ldM n) (ldD n) := by
  k_with "measure" => first | exact m_down (by omega) | exact m_up (by omega)
  k_with "state" => first | trivial | exact p_up (by omega)
  unfold ConT
  w_top off
  k_fill
  intro loose mean mg mb dp un gd cn cs a ccd cl outer A₀ base h₀ L m news s Q E hB hF hK hN hT hcs hdp hun hret
  refine wpAny_call ?_
  (k_dflt cell_enter)
  k_steps
  all_goals first
    | (with_reducible exact ret_m1 (Q := Q) hret (by assumption) (by assumption) (by assumption) (by assumption) (by assumption) (by assumption))
    | (with_reducible exact ret_m2 (Q := Q) hret (by assumption) (by assumption) (by assumption) (by assumption) (by assumption) (by assumption) (by assumption))
    | (with_reducible exact ret_m3 (Q := Q) hret (by assumption) (by assumption) (by assumption) (by assumption) (by assumption) (by assumption) (by assumption))
    | (with_reducible exact ret_m4 (Q := Q) hret (by assumption) (by assumption) (by assumption) (by assumption) (by assumption) (by assumption) (by assumption))
    | (with_reducible exact ret_m5 (Q := Q) hret (by assumption) (by assumption) (by assumption) (by assumption) (by assumption) (by assumption) (by assumption))
    | (with_reducible exact ret_m6 (Q := Q) hret (by assumption) (by assumption) (by assumption) (by assumption) (by assumption) (by assumption) (by assumption))
    | (with_reducible exact ret_m7 (Q := Q) hret (by assumption) (by assumption) (by assumption) (by assumption) (by assumption) (by assumption) (by assumption))
    | (with_reducible exact ret_m8 (Q := Q) hret (by assumption) (by assumption) (by assumption) (by assumption) (by assumption) (by assumption) (by assumption))
    | (with_reducible exact ret_m9 (Q := Q) hret (by assumption) (by assumption) (by assumption) (by assumption) (by assumption) (by assumption) (by assumption))
    | (with_reducible exact ret_m10 (Q := Q) hret (by assumption) (by assumption) (by assumption) (by assumption) (by assumption) (by assumption) (by assumption))
    | (with_reducible exact ret_m11 (Q := Q) hret (by assumption) (by assumption) (by assumption) (by assumption) (by assumption) (by assumption) (by assumption))
    | (with_reducible exact ret_m12 (Q := Q) hret (by assumption) (by assumption) (by assumption) (by assumption) (by assumption) (by assumption))
end
section
section
variable {prog : Program} {w : World} {A : Around} {E : Value → Shared → Prop} {s : Shared}
theorem getD_small {f : Int → Int} (hf : ∀ k, -10000000 < f k ∧ f k < 10000000) (ns : List Int) (j : Nat) : -10000000 < (List.map f (List.take 2 ns) ++ [0, 0]).getD j 0 ∧ (List.map f (List.take 2 ns) ++ [0, 0]).getD j 0 < 10000000 := by
  rw [List.getD_eq_getElem?_getD]
  cases h : (List.map f (List.take 2 ns) ++ [0, 0])[j]? with
  | none => simp
  | some v =>
    have hm := List.mem_of_getElem? h
    rcases List.mem_append.mp hm with hm | hm
    · obtain ⟨k, _, rfl⟩ := List.mem_map.mp hm
      exact hf k
    · simp at hm
      subst hm
      simp
theorem w_numbers {value slice : PySem.Expr} {l : Addr} {vs : List Value} {ns : List Int} {f : Int → Int} {k : Int} {u : Tok} {Q : Value → Shared → Prop} (hl : s.heap.IsList l vs.toArray) (hi : IntsAre vs (List.map f (List.take 2 ns) ++ [0, 0])) (hk : k = 0 ∨ k = 1)
    (hf : ∀ k, -10000000 < f k ∧ f k < 10000000) (h : ∀ x t, -10000000 < x → x < 10000000 → Q (.int x t) s)
    (hs : subscripted slice false (.ref l) (.int k u) = operate [.ref l, .int k u] (getItem (.ref l) (.int k u)) := by with_unfolding_all rfl) :
    wpAny (model prog w) A (subscriptTail value slice (.ref l) (.int k u)) Q E s := by
  have hlen : (List.map f (List.take 2 ns) ++ [0, 0]).length = (List.map f (List.take 2 ns)).length + 2 := by simp
  have hlen2 : (List.map f (List.take 2 ns)).length ≤ 2 := by simp; omega
  refine item_anyK hl hi (by omega) (by omega) (by omega) (fun t => ?_) hs
  exact h _ _ (getD_small hf ns _).1 (getD_small hf ns _).2
end
local macro_rules | `(tactic| walk_at "subscriptTail Name Constant ref int") => `(tactic| (k_here; (with_reducible show wpAny _ _ (subscriptTail _ _ (Value.ref _) (Value.int _ _)) _ _ _); (with_unfolding_all refine' w_numbers ?g1 ?g2 ?g3 ?g4 ?_ ?g6; (case g1 => is_list); (case g2 => assumption); (case g3 => decide); (case g4 => (intro k9; (try dsimp only); (repeat' split) <;> omega)); (case g6 => with_unfolding_all rfl); k_whole); intro x9 t9 hx9 hy9))
local macro_rules | `(tactic| walk_at "call ref") => `(tactic| (k_here; (with_reducible refine' use_v (c_western _ _ _) ?gA ?k1 ?k2 ?k3 ?k4 ?k5 ?k6 ?kd ?ku ?_); k_dflt ((case gA => exact rfl); (case k1 => k_asm); (case k2 => k_asm); (case k3 => k_asm); (case k4 => k_asm); (case k5 => k_asm); (case k6 => first | exact rfl | assumption); (case kd => first | (refine' room_d ?h ?e; (case h => assumption); (case e => decide)) | ktr_room); (case ku => first | (refine' room_u ?h ?e; (case h => assumption); (case e => decide)) | ktr_units)); (intro P9 t9 h9 tk9 F9 N9; (try dsimp only); (try k_fold))))
local macro_rules | `(tactic| walk_at "call ref") => `(tactic| (k_here; (with_reducible refine' use_v (c_old _ _ _ _) ?gA ?k1 ?k2 ?k3 ?k4 ?k5 ?k6 ?kd ?ku ?_); k_dflt ((case gA => exact rfl); (case k1 => k_asm); (case k2 => k_asm); (case k3 => k_asm); (case k4 => k_asm); (case k5 => k_asm); (case k6 => first | exact rfl | assumption); (case kd => first | (refine' room_d ?h ?e; (case h => assumption); (case e => decide)) | ktr_room); (case ku => first | (refine' room_u ?h ?e; (case h => assumption); (case e => decide)) | ktr_units)); (intro P9 t9 h9 tk9 F9 N9; (try dsimp only); (try k_fold))))
local macro_rules | `(tactic| walk_at "call ref") => `(tactic| (k_here; (with_reducible refine' use_t (c_ean _ _ _ ?p0) ?gA ?k1 ?k2 ?k3 ?k4 ?k5 ?k6 ?kd ?ku ?_); k_dflt ((case gA => exact rfl); (case p0 => omega); (case k1 => k_asm); (case k2 => k_asm); (case k3 => k_asm); (case k4 => k_asm); (case k5 => k_asm); (case k6 => first | exact rfl | assumption); (case kd => first | (refine' room_d ?h ?e; (case h => assumption); (case e => decide)) | ktr_room); (case ku => first | (refine' room_u ?h ?e; (case h => assumption); (case e => decide)) | ktr_units)); (intro P9 D9 t91 t92 t93 c9 h9 tk9 F9 N9 L9; (try dsimp only); (try simp only [AllLt, and_true] at L9); (try k_fold))))
local macro_rules | `(tactic| walk_at "call ref") => `(tactic| (k_here; (with_reducible refine' use_t (c_eaw _ _ _ _ ?p0) ?gA ?k1 ?k2 ?k3 ?k4 ?k5 ?k6 ?kd ?ku ?_); k_dflt ((case gA => exact rfl); (case p0 => omega); (case k1 => k_asm); (case k2 => k_asm); (case k3 => k_asm); (case k4 => k_asm); (case k5 => k_asm); (case k6 => first | exact rfl | assumption); (case kd => first | (refine' room_d ?h ?e; (case h => assumption); (case e => decide)) | ktr_room); (case ku => first | (refine' room_u ?h ?e; (case h => assumption); (case e => decide)) | ktr_units)); (intro P9 D9 t91 t92 t93 c9 h9 tk9 F9 N9 L9; (try dsimp only); (try simp only [AllLt, and_true] at L9); (try k_fold))))
local macro_rules | `(tactic| walk_at "call ref") => `(tactic| (k_here; (with_reducible refine' use_t (c_eao _ _ _ _ ?p0) ?gA ?k1 ?k2 ?k3 ?k4 ?k5 ?k6 ?kd ?ku ?_); k_dflt ((case gA => exact rfl); (case p0 => omega); (case k1 => k_asm); (case k2 => k_asm); (case k3 => k_asm); (case k4 => k_asm); (case k5 => k_asm); (case k6 => first | exact rfl | assumption); (case kd => first | (refine' room_d ?h ?e; (case h => assumption); (case e => decide)) | ktr_room); (case ku => first | (refine' room_u ?h ?e; (case h => assumption); (case e => decide)) | ktr_units)); (intro P9 D9 t91 t92 t93 c9 h9 tk9 F9 N9 L9; (try dsimp only); (try simp only [AllLt, and_true] at L9); (try k_fold))))
local macro_rules | `(tactic| walk_at "call ref") => `(tactic| (k_here; (with_reducible refine' use_t (c_eae _ _ _ _ ?p0) ?gA ?k1 ?k2 ?k3 ?k4 ?k5 ?k6 ?kd ?ku ?_); k_dflt ((case gA => exact rfl); (case p0 => omega); (case k1 => k_asm); (case k2 => k_asm); (case k3 => k_asm); (case k4 => k_asm); (case k5 => k_asm); (case k6 => first | exact rfl | assumption); (case kd => first | (refine' room_d ?h ?e; (case h => assumption); (case e => decide)) | ktr_room); (case ku => first | (refine' room_u ?h ?e; (case h => assumption); (case e => decide)) | ktr_units)); (intro P9 D9 t91 t92 t93 c9 h9 tk9 F9 N9 L9; (try dsimp only); (try simp only [AllLt, and_true] at L9); (try k_fold))))
local macro_rules | `(tactic| walk_at "call ref") => `(tactic| (k_here; (with_reducible refine' use_t (c_date _ _ _) ?gA ?k1 ?k2 ?k3 ?k4 ?k5 ?k6 ?kd ?ku ?_); k_dflt ((case gA => exact rfl); (case k1 => k_asm); (case k2 => k_asm); (case k3 => k_asm); (case k4 => k_asm); (case k5 => k_asm); (case k6 => first | exact rfl | assumption); (case kd => first | (refine' room_d ?h ?e; (case h => assumption); (case e => decide)) | ktr_room); (case ku => first | (refine' room_u ?h ?e; (case h => assumption); (case e => decide)) | ktr_units)); (intro P9 D9 t91 t92 t93 c9 h9 tk9 F9 N9 L9; (try dsimp only); (try simp only [AllLt, and_true] at L9); (try k_fold))))
theorem law_holds : PySem.Challenge.rw_ak5012_01.Holds := hd (by
  k_with_none
  w_top off
  k_go0
  (all_goals try k_fold)
  k_steps)
end
end
end Mine
theorem PySem.Challenge.cw_ak5012_01_holds : PySem.Challenge.rw_ak5012_01.Holds :=
  Mine.law_holds
