import PyProof.Rows.All
import Wide.All
import OpenK.AllK
import Wide.FinOn
import KE.KStar
import Lean
import PySem.Challenge.RW_ak5022_01
set_option Elab.async false
set_option maxRecDepth 100000
set_option linter.all false
set_option maxHeartbeats 8000000
namespace Mine
section
set_option maxRecDepth 4000
open PySem PySem.Float64

/-- 2^-25 in the units of val -/
def KN : Nat := 2 ^ 1049
theorem KN_pos : 0 < KN := Nat.two_pow_pos _
theorem KN_posI : (0 : Int) < (KN : Int) := Int.ofNat_lt.mpr KN_pos
theorem KN_1074 : (2 : Nat) ^ 1074 = KN * 2 ^ 25 := by unfold KN; rw [← Nat.pow_add]
theorem KN_1074I : (2 : Int) ^ 1074 = (KN : Int) * 2 ^ 25 := by
  have := congrArg (Nat.cast (R := Int)) KN_1074
  rw [Int.natCast_mul, Int.natCast_pow, Int.natCast_pow] at this
  exact this
theorem KN_2045 : (2 : Nat) ^ 2045 = KN * 2 ^ 996 := by unfold KN; rw [← Nat.pow_add]

/-- the float's value lies between lo and hi, in units of 2^-25 -/
def FlIs (x : UInt64) (lo hi : Int) : Prop := ∃ a m e, decode x = .fin a m e ∧ lo * KN ≤ val x ∧ val x ≤ hi * KN

theorem V_zero' : V 0 = 0 := by
  unfold V; simp

theorem repr_units (n : Nat) (h : n < 2 ^ 53) : ∃ t, V t = n * KN := by
  by_cases h0 : n = 0
  · exact ⟨0, by subst h0; rw [V_zero', Nat.zero_mul]⟩
  · have hl := Nat.lt_log2_self (n := n)
    have hg := Nat.log2_self_le h0
    have hlog : n.log2 < 53 := (Nat.log2_lt h0).mpr h
    refine ⟨(1049 - (52 - n.log2)) * 2 ^ 52 + n * 2 ^ (52 - n.log2), ?_⟩
    have e1 : (2 : Nat) ^ 52 = 2 ^ n.log2 * 2 ^ (52 - n.log2) := by rw [← Nat.pow_add]; congr 1; omega
    have e2 : (2 : Nat) ^ 53 = 2 ^ (n.log2 + 1) * 2 ^ (52 - n.log2) := by rw [← Nat.pow_add]; congr 1; omega
    have e3 : KN = 2 ^ (52 - n.log2) * 2 ^ (1049 - (52 - n.log2)) := by unfold KN; rw [← Nat.pow_add]; congr 1; omega
    rw [V_at]
    · rw [e3, Nat.mul_assoc]
    · rw [e2]; exact Nat.mul_le_mul_right _ (Nat.le_of_lt hl)
    · left; rw [e1]; exact Nat.mul_le_mul_right _ hg

theorem right_nat {r : UInt64} {neg : Bool} {W D : Nat} (h : Right r neg W D) (hD : 0 < D) {lo hi : Nat} (hb : hi < 2 ^ 53)
    (hlo : D * (lo * KN) ≤ W) (hhi : W ≤ D * (hi * KN)) :
    ∃ t, r = pack neg t ∧ t < infMag ∧ lo * KN ≤ V t ∧ V t ≤ hi * KN := by
  obtain ⟨t, e, h1, h2, h3⟩ := h
  have hlt : t < infMag := by
    refine Nat.lt_of_le_of_ne h1 fun q => ?_
    have h4 := h2.mp q
    have e2 : 1 ≤ (2 : Nat) ^ 996 := Nat.one_le_two_pow
    rw [KN_2045] at h4
    generalize (2 : Nat) ^ 996 = P at *
    have h5 : D * ((2 ^ 54 - 1) * (KN * P)) ≤ D * (2 * hi * KN) := by
      refine Nat.le_trans h4 ?_
      refine Nat.le_trans (Nat.mul_le_mul_left 2 hhi) (Nat.le_of_eq ?_)
      ac_rfl
    have h6 := Nat.le_of_mul_le_mul_left h5 hD
    have h7 : (2 ^ 54 - 1) * P ≤ 2 * hi := by
      have : ((2 ^ 54 - 1) * P) * KN ≤ 2 * hi * KN := by
        refine Nat.le_trans (Nat.le_of_eq ?_) h6
        ac_rfl
      exact Nat.le_of_mul_le_mul_right this KN_pos
    have h8 : (2 ^ 54 - 1) * 1 ≤ (2 ^ 54 - 1) * P := Nat.mul_le_mul_left _ e2
    omega
  refine ⟨t, e, hlt, ?_, ?_⟩
  · obtain ⟨t', ht'⟩ := repr_units lo (by
      have : lo * KN ≤ hi * KN := Nat.le_of_mul_le_mul_left (Nat.le_trans hlo hhi) hD
      have := Nat.le_of_mul_le_mul_right this KN_pos
      omega)
    have h4 := (h3 hlt t').1
    rw [ht'] at h4
    refine Nat.le_of_not_lt fun q => ?_
    have h5 : D * V t < D * (lo * KN) := Nat.mul_lt_mul_of_pos_left q hD
    unfold dist at h4
    omega
  · obtain ⟨t', ht'⟩ := repr_units hi hb
    have h4 := (h3 hlt t').1
    rw [ht'] at h4
    refine Nat.le_of_not_lt fun q => ?_
    have h5 : D * (hi * KN) < D * V t := Nat.mul_lt_mul_of_pos_left q hD
    unfold dist at h4
    omega

theorem sgn_false (m : Nat) : sgn false m = m := by simp [sgn]
theorem sgn_true (m : Nat) : sgn true m = -(m : Int) := by simp [sgn]

theorem right_sgn {r : UInt64} {neg : Bool} {W D : Nat} (h : Right r neg W D) (hD : 0 < D) {lo hi : Int} (hl : -2 ^ 53 < lo) (hh : hi < 2 ^ 53)
    (hlo : lo * (KN * D) ≤ sgn neg W) (hhi : sgn neg W ≤ hi * (KN * D)) : FlIs r lo hi := by
  have hK := KN_posI
  have hD' : (0 : Int) < D := by omega
  have hKD : (0 : Int) < KN * D := Int.mul_pos hK hD'
  cases neg with
  | false =>
    rw [sgn_false] at hlo hhi
    have hhi0 : 0 ≤ hi := by
      refine Int.le_of_not_gt fun q => ?_
      have := Int.mul_neg_of_neg_of_pos q hKD
      omega
    have hlo0 : (lo.toNat : Int) * (KN * D) ≤ W := by
      by_cases q : 0 ≤ lo
      · rw [Int.toNat_of_nonneg q]; exact hlo
      · have : (lo.toNat : Int) = 0 := by omega
        rw [this, Int.zero_mul]; omega
    obtain ⟨t, e, ht, h1, h2⟩ := right_nat h hD (lo := lo.toNat) (hi := hi.toNat) (by omega)
      (by
        have : ((D * (lo.toNat * KN) : Nat) : Int) ≤ W := by
          refine Int.le_trans (Int.le_of_eq ?_) hlo0
          rw [Int.natCast_mul, Int.natCast_mul]; ac_rfl
        exact Int.ofNat_le.mp this)
      (by
        have : (W : Int) ≤ ((D * (hi.toNat * KN) : Nat) : Int) := by
          refine Int.le_trans hhi (Int.le_of_eq ?_)
          rw [Int.natCast_mul, Int.natCast_mul, Int.toNat_of_nonneg hhi0]; ac_rfl
        exact Int.ofNat_le.mp this)
    obtain ⟨m, ex, hd, _⟩ := decode_pack false ht
    subst e
    refine ⟨_, _, _, hd, ?_, ?_⟩
    · rw [val_pack _ ht, sgn_false]
      have h3 : ((lo.toNat * KN : Nat) : Int) ≤ (V t : Int) := Int.ofNat_le.mpr h1
      refine Int.le_trans ?_ h3
      rw [Int.natCast_mul]
      exact Int.mul_le_mul_of_nonneg_right (by omega) (Int.le_of_lt hK)
    · rw [val_pack _ ht, sgn_false]
      have h3 : (V t : Int) ≤ ((hi.toNat * KN : Nat) : Int) := Int.ofNat_le.mpr h2
      refine Int.le_trans h3 ?_
      rw [Int.natCast_mul, Int.toNat_of_nonneg hhi0]; exact Int.le_refl _
  | true =>
    rw [sgn_true] at hlo hhi
    have hlo0 : lo ≤ 0 := by
      refine Int.le_of_not_gt fun q => ?_
      have := Int.mul_pos q hKD
      omega
    have hhi0 : ((-hi).toNat : Int) * (KN * D) ≤ W := by
      by_cases q : hi ≤ 0
      · rw [Int.toNat_of_nonneg (by omega), Int.neg_mul]; omega
      · have : ((-hi).toNat : Int) = 0 := by omega
        rw [this, Int.zero_mul]; omega
    obtain ⟨t, e, ht, h1, h2⟩ := right_nat h hD (lo := (-hi).toNat) (hi := (-lo).toNat) (by omega)
      (by
        have : ((D * ((-hi).toNat * KN) : Nat) : Int) ≤ W := by
          refine Int.le_trans (Int.le_of_eq ?_) hhi0
          rw [Int.natCast_mul, Int.natCast_mul]; ac_rfl
        exact Int.ofNat_le.mp this)
      (by
        have : (W : Int) ≤ ((D * ((-lo).toNat * KN) : Nat) : Int) := by
          have h9 : (W : Int) ≤ -(lo * (KN * D)) := by omega
          refine Int.le_trans h9 (Int.le_of_eq ?_)
          rw [Int.natCast_mul, Int.natCast_mul, Int.toNat_of_nonneg (by omega), Int.neg_mul, Int.mul_neg]; congr 1; ac_rfl
        exact Int.ofNat_le.mp this)
    obtain ⟨m, ex, hd, _⟩ := decode_pack true ht
    subst e
    refine ⟨_, _, _, hd, ?_, ?_⟩
    · rw [val_pack _ ht, sgn_true]
      have h3 : (V t : Int) ≤ (((-lo).toNat * KN : Nat) : Int) := Int.ofNat_le.mpr h2
      rw [Int.natCast_mul, Int.toNat_of_nonneg (by omega), Int.neg_mul] at h3
      omega
    · rw [val_pack _ ht, sgn_true]
      have h3 : (((-hi).toNat * KN : Nat) : Int) ≤ (V t : Int) := Int.ofNat_le.mpr h1
      rw [Int.natCast_mul] at h3
      have h4 : (-hi) * KN ≤ ((-hi).toNat : Int) * KN := Int.mul_le_mul_of_nonneg_right (by omega) (Int.le_of_lt hK)
      rw [Int.neg_mul] at h4
      omega

theorem sgn_dec (v : Int) : sgn (decide (v < 0)) v.natAbs = v := by
  unfold sgn
  by_cases h : v < 0
  · simp [h]; omega
  · simp [h]; omega

theorem FlIs.ofInt {i : Int} (h : i.natAbs < 2 ^ 28) : FlIs (ofInt i) (i * 2 ^ 25) (i * 2 ^ 25) := by
  have e : sgn (decide (i < 0)) (i.natAbs * 2 ^ 1074) = i * 2 ^ 25 * (KN * ((1 : Nat) : Int)) := by
    rw [sgn_mul, sgn_dec, KN_1074, Int.natCast_mul]
    have e1 : (((2 : Nat) ^ 25 : Nat) : Int) = 2 ^ 25 := by decide
    have e2 : ((1 : Nat) : Int) = 1 := rfl
    rw [e1, e2, Int.mul_one, Int.mul_assoc, Int.mul_comm (KN : Int)]
  refine right_sgn (ofInt_right i) (by decide) ?_ ?_ (Int.le_of_eq e.symm) (Int.le_of_eq e)
  · omega
  · omega

theorem FlIs.zero {a : Bool} : FlIs (zero a) 0 0 := by
  have h0 : (0 : Nat) < infMag := by decide
  obtain ⟨m, e, hd, _⟩ := decode_pack a h0
  have hv := val_pack a h0
  rw [V_zero'] at hv
  have h1 : sgn a 0 = 0 := by cases a <;> decide
  rw [h1] at hv
  refine ⟨a, m, e, hd, ?_, ?_⟩ <;> rw [Int.zero_mul] <;> unfold Float64.zero <;> omega

theorem FlIs.le {x : UInt64} {lo hi : Int} (h : FlIs x lo hi) : lo ≤ hi := by
  obtain ⟨_, _, _, _, h1, h2⟩ := h
  exact Int.le_of_mul_le_mul_right (Int.le_trans h1 h2) KN_posI

theorem FlIs.weak {x : UInt64} {lo hi lo' hi' : Int} (h : FlIs x lo hi) (h1 : lo' ≤ lo) (h2 : hi ≤ hi') : FlIs x lo' hi' := by
  obtain ⟨a, m, e, hd, l, u⟩ := h
  exact ⟨a, m, e, hd, Int.le_trans (Int.mul_le_mul_of_nonneg_right h1 (Int.le_of_lt KN_posI)) l, Int.le_trans u (Int.mul_le_mul_of_nonneg_right h2 (Int.le_of_lt KN_posI))⟩

theorem FlIs.add {x y : UInt64} {a b c d : Int} (hx : FlIs x a b) (hy : FlIs y c d) (h1 : -2 ^ 53 < a + c) (h2 : b + d < 2 ^ 53) : FlIs (add x y) (a + c) (b + d) := by
  obtain ⟨s, m, e, hd, l1, u1⟩ := hx
  obtain ⟨s', m', e', hd', l2, u2⟩ := hy
  have key := add_right hd hd'
  have l : (a + c) * KN ≤ val x + val y := by rw [Int.add_mul]; omega
  have u : val x + val y ≤ (b + d) * KN := by rw [Int.add_mul]; omega
  by_cases h0 : val x + val y = 0
  · rw [key.1 h0]
    rw [h0] at l u
    have hK := KN_posI
    obtain ⟨s, m, e, hz, z1, z2⟩ := FlIs.zero (a := s && s')
    refine ⟨s, m, e, hz, ?_, ?_⟩ <;> simp only [Int.zero_mul] at z1 z2 <;> omega
  · have e1 : ((1 : Nat) : Int) = 1 := rfl
    refine right_sgn (key.2 h0) (by decide) h1 h2 ?_ ?_ <;> rw [sgn_dec, e1, Int.mul_one]
    · exact l
    · exact u

theorem FlIs.sub {x y : UInt64} {a b c d : Int} (hx : FlIs x a b) (hy : FlIs y c d) (h1 : -2 ^ 53 < a - d) (h2 : b - c < 2 ^ 53) : FlIs (sub x y) (a - d) (b - c) := by
  obtain ⟨s, m, e, hd, l1, u1⟩ := hx
  obtain ⟨s', m', e', hd', l2, u2⟩ := hy
  have key := sub_right hd hd'
  have l : (a - d) * KN ≤ val x - val y := by rw [Int.sub_mul]; omega
  have u : val x - val y ≤ (b - c) * KN := by rw [Int.sub_mul]; omega
  by_cases h0 : val x - val y = 0
  · rw [key.1 h0]
    rw [h0] at l u
    have hK := KN_posI
    obtain ⟨s, m, e, hz, z1, z2⟩ := FlIs.zero (a := s && !s')
    refine ⟨s, m, e, hz, ?_, ?_⟩ <;> simp only [Int.zero_mul] at z1 z2 <;> omega
  · have e1 : ((1 : Nat) : Int) = 1 := rfl
    refine right_sgn (key.2 h0) (by decide) h1 h2 ?_ ?_ <;> rw [sgn_dec, e1, Int.mul_one]
    · exact l
    · exact u

theorem sgn_bne_mul (a b : Bool) (m k : Nat) : sgn (a != b) (m * k) = sgn a m * sgn b k := by
  cases a <;> cases b <;> simp [sgn, Int.neg_mul, Int.mul_neg]
theorem val_sgn {x : UInt64} {a : Bool} {m : Nat} {e : Int} (h : decode x = .fin a m e) : sgn a (val x).natAbs = val x := by
  rw [val_natAbs h, val_eq h]

/-- exact y = d units (d > 0), x between -/
theorem FlIs.div {x y : UInt64} {a b d lo hi : Int} (hx : FlIs x a b) (hy : FlIs y d d) (hd : 0 < d) (h1 : lo * d ≤ a * 2 ^ 25) (h2 : b * 2 ^ 25 ≤ hi * d) (hl : -2 ^ 53 < lo) (hh : hi < 2 ^ 53) : FlIs (div x y) lo hi := by
  obtain ⟨s, m, e, hdx, l1, u1⟩ := hx
  obtain ⟨s', m', e', hdy, l2, u2⟩ := hy
  have hK := KN_posI
  have vy : val y = d * KN := by omega
  have hvy : 0 < val y := by rw [vy]; exact Int.mul_pos hd hK
  have hm' : m' ≠ 0 := by
    rintro rfl
    rw [val_eq hdy, Nat.zero_mul] at hvy
    cases s' <;> simp [sgn] at hvy
  have hs' : s' = false := by
    cases s' with
    | false => rfl
    | true => rw [val_eq hdy, sgn_true] at hvy; omega
  have key := div_right hdx hdy hm'
  subst hs'
  have hD : ((val y).natAbs : Int) = d * KN := by rw [vy]; omega
  have hsg : sgn (s != false) ((val x).natAbs * 2 ^ 1074) = val x * (KN * 2 ^ 25) := by
    rw [Bool.bne_false, sgn_mul, val_sgn hdx, KN_1074, Int.natCast_mul]; rfl
  refine right_sgn key (by omega) hl hh ?_ ?_ <;> rw [hsg, hD]
  · have h3 : lo * d * (KN * KN) ≤ a * 2 ^ 25 * (KN * KN) := Int.mul_le_mul_of_nonneg_right h1 (Int.le_of_lt (Int.mul_pos hK hK))
    have h4 : a * KN * (KN * 2 ^ 25) ≤ val x * (KN * 2 ^ 25) := Int.mul_le_mul_of_nonneg_right l1 (Int.le_of_lt (Int.mul_pos hK (by decide)))
    have e1 : lo * (KN * (d * KN)) = lo * d * (KN * KN) := by ac_rfl
    have e2 : a * 2 ^ 25 * (KN * KN) = a * KN * (KN * 2 ^ 25) := by ac_rfl
    omega
  · have h3 : b * 2 ^ 25 * (KN * KN) ≤ hi * d * (KN * KN) := Int.mul_le_mul_of_nonneg_right h2 (Int.le_of_lt (Int.mul_pos hK hK))
    have h4 : val x * (KN * 2 ^ 25) ≤ b * KN * (KN * 2 ^ 25) := Int.mul_le_mul_of_nonneg_right u1 (Int.le_of_lt (Int.mul_pos hK (by decide)))
    have e1 : hi * (KN * (d * KN)) = hi * d * (KN * KN) := by ac_rfl
    have e2 : b * 2 ^ 25 * (KN * KN) = b * KN * (KN * 2 ^ 25) := by ac_rfl
    omega

/-- exact y = d units (d ≥ 0), x between -/
theorem FlIs.mul {x y : UInt64} {a b d lo hi : Int} (hx : FlIs x a b) (hy : FlIs y d d) (hd : 0 ≤ d) (h1 : lo * 2 ^ 25 ≤ a * d) (h2 : b * d ≤ hi * 2 ^ 25) (hl : -2 ^ 53 < lo) (hh : hi < 2 ^ 53) : FlIs (mul x y) lo hi := by
  obtain ⟨s, m, e, hdx, l1, u1⟩ := hx
  obtain ⟨s', m', e', hdy, l2, u2⟩ := hy
  have hK := KN_posI
  have vy : val y = d * KN := by omega
  have key := mul_right hdx hdy
  have hsg : sgn (s != s') ((val x).natAbs * (val y).natAbs) = val x * (d * KN) := by
    rw [sgn_bne_mul, val_sgn hdx, val_sgn hdy, vy]
  have hdK : 0 ≤ d * KN := Int.mul_nonneg hd (Int.le_of_lt hK)
  have e0 : ((2 ^ 1074 : Nat) : Int) = KN * 2 ^ 25 := by rw [KN_1074, Int.natCast_mul]; rfl
  refine right_sgn key (Nat.two_pow_pos _) hl hh ?_ ?_ <;> rw [hsg, e0]
  · have h3 : lo * 2 ^ 25 * (KN * KN) ≤ a * d * (KN * KN) := Int.mul_le_mul_of_nonneg_right h1 (Int.le_of_lt (Int.mul_pos hK hK))
    have h4 : a * KN * (d * KN) ≤ val x * (d * KN) := Int.mul_le_mul_of_nonneg_right l1 hdK
    have e1 : lo * (KN * (KN * 2 ^ 25)) = lo * 2 ^ 25 * (KN * KN) := by ac_rfl
    have e2 : a * d * (KN * KN) = a * KN * (d * KN) := by ac_rfl
    omega
  · have h3 : b * d * (KN * KN) ≤ hi * 2 ^ 25 * (KN * KN) := Int.mul_le_mul_of_nonneg_right h2 (Int.le_of_lt (Int.mul_pos hK hK))
    have h4 : val x * (d * KN) ≤ b * KN * (d * KN) := Int.mul_le_mul_of_nonneg_right u1 hdK
    have e1 : hi * (KN * (KN * 2 ^ 25)) = hi * 2 ^ 25 * (KN * KN) := by ac_rfl
    have e2 : b * d * (KN * KN) = b * KN * (d * KN) := by ac_rfl
    omega

/-- int / int -/
theorem FlIs.ofFrac {n d : Int} {lo hi : Int} (hd : 0 < d) (h1 : lo * d ≤ n * 2 ^ 25) (h2 : n * 2 ^ 25 ≤ hi * d) (hl : -2 ^ 53 < lo) (hh : hi < 2 ^ 53) :
    FlIs (ofFrac (decide (n < 0) != decide (d < 0)) n.natAbs d.natAbs) lo hi := by
  have hK := KN_posI
  have e0 : decide (d < 0) = false := decide_eq_false (by omega)
  rw [e0, Bool.bne_false]
  have key := ofFrac_right (neg := decide (n < 0)) (n := n.natAbs) (d := d.natAbs) (W := n.natAbs * 2 ^ 1074) (D := d.natAbs) (by omega) rfl (by omega)
  have hsg : sgn (decide (n < 0)) (n.natAbs * 2 ^ 1074) = n * (KN * 2 ^ 25) := by
    rw [sgn_mul, sgn_dec, KN_1074, Int.natCast_mul]; rfl
  have hD : (d.natAbs : Int) = d := by omega
  refine right_sgn key (by omega) hl hh ?_ ?_ <;> rw [hsg, hD]
  · have h3 := Int.mul_le_mul_of_nonneg_right h1 (Int.le_of_lt hK)
    have e1 : lo * (KN * d) = lo * d * KN := by ac_rfl
    have e2 : n * (KN * 2 ^ 25) = n * 2 ^ 25 * KN := by ac_rfl
    omega
  · have h3 := Int.mul_le_mul_of_nonneg_right h2 (Int.le_of_lt hK)
    have e1 : hi * (KN * d) = hi * d * KN := by ac_rfl
    have e2 : n * (KN * 2 ^ 25) = n * 2 ^ 25 * KN := by ac_rfl
    omega

theorem floor_core {s T q : Int} (hT : 0 < T) (h1 : q * T ≤ s) (h2 : s < (q + 1) * T) : s.fdiv T = q := by
  rw [Int.fdiv_eq_ediv_of_nonneg _ (Int.le_of_lt hT)]
  exact Int.ediv_eq_iff_of_pos hT |>.mpr ⟨h1, by rw [Int.add_mul, Int.one_mul] at h2; exact h2⟩

theorem floor_val {a : Bool} {m : Nat} {e : Int} (he : -1074 ≤ e) {q : Int} (h1 : q * (KN * 2 ^ 25) ≤ sgn a (m * 2 ^ (e + 1074).toNat)) (h2 : sgn a (m * 2 ^ (e + 1074).toNat) < (q + 1) * (KN * 2 ^ 25)) : floorOf a m e = q := by
  rw [← KN_1074I] at h1 h2
  have e2 : ((2 : Nat) : Int) = 2 := rfl
  rw [sgn_mul, Int.natCast_pow, e2] at h1 h2
  unfold floorOf
  have hpos : ∀ n : Nat, (0 : Int) < (2 : Int) ^ n := fun n => Int.pow_pos (by decide)
  split
  · rename_i h
    have e1 : (e + 1074).toNat = e.toNat + 1074 := by omega
    rw [e1, Int.pow_add, ← Int.mul_assoc] at h1 h2
    have h3 := Int.le_of_mul_le_mul_right h1 (hpos 1074)
    have h4 := Int.lt_of_mul_lt_mul_right h2 (Int.le_of_lt (hpos 1074))
    omega
  · rename_i h
    have e1 : (1074 : Nat) = (-e).toNat + (e + 1074).toNat := by omega
    rw [e1, Int.pow_add, ← Int.mul_assoc] at h1 h2
    have h3 := Int.le_of_mul_le_mul_right h1 (hpos (e + 1074).toNat)
    have h4 := Int.lt_of_mul_lt_mul_right h2 (Int.le_of_lt (hpos (e + 1074).toNat))
    exact floor_core (hpos _) h3 h4

theorem FlIs.floor {x : UInt64} {lo hi q : Int} (h : FlIs x lo hi) (h1 : q * 2 ^ 25 ≤ lo) (h2 : hi < (q + 1) * 2 ^ 25) : Flt.toInt floorOf x = q := by
  obtain ⟨a, m, e, hd, l, u⟩ := h
  rw [Flt.toInt_fin hd]
  have hK := KN_posI
  rw [val_eq hd] at l u
  have h3 := Int.mul_le_mul_of_nonneg_right h1 (Int.le_of_lt hK)
  have h4 := Int.mul_lt_mul_of_pos_right h2 hK
  have e1 : q * (KN * 2 ^ 25) = q * 2 ^ 25 * KN := by ac_rfl
  have e2 : (q + 1) * (KN * 2 ^ 25) = (q + 1) * 2 ^ 25 * KN := by ac_rfl
  exact floor_val (decode_ge hd) (by omega) (by omega)
theorem FlIs.ceil {x : UInt64} {lo hi q : Int} (h : FlIs x lo hi) (h1 : (q - 1) * 2 ^ 25 < lo) (h2 : hi ≤ q * 2 ^ 25) : Flt.toInt ceilOf x = q := by
  obtain ⟨a, m, e, hd, l, u⟩ := h
  rw [Flt.toInt_fin hd]
  have hK := KN_posI
  rw [val_eq hd] at l u
  have h3 := Int.mul_lt_mul_of_pos_right h1 hK
  have h4 := Int.mul_le_mul_of_nonneg_right h2 (Int.le_of_lt hK)
  have e1 : -q * (KN * 2 ^ 25) = -(q * 2 ^ 25 * KN) := by rw [Int.neg_mul]; congr 1; ac_rfl
  have e2 : (-q + 1) * (KN * 2 ^ 25) = -((q - 1) * 2 ^ 25 * KN) := by
    rw [show -q + 1 = -(q - 1) by omega, Int.neg_mul]; congr 1; ac_rfl
  unfold ceilOf
  have := floor_val (a := !a) (m := m) (e := e) (decode_ge hd) (q := -q) (by rw [sgn_not]; omega) (by rw [sgn_not]; omega)
  omega
theorem FlIs.trunc {x : UInt64} {lo hi q : Int} (h : FlIs x lo hi) (h0 : 0 ≤ q) (h1 : q * 2 ^ 25 ≤ lo) (h2 : hi < (q + 1) * 2 ^ 25) : Flt.toInt truncOf x = q := by
  have hf := h.floor h1 h2
  obtain ⟨a, m, e, hd, l, u⟩ := id h
  rw [Flt.toInt_fin hd] at hf ⊢
  unfold truncOf
  cases a with
  | false => simpa using hf
  | true =>
    simp only [if_true]
    have hK := KN_posI
    have hv : val x ≤ 0 := by rw [val_eq hd, sgn_true]; omega
    have hlo : lo ≤ 0 := by
      refine Int.le_of_not_gt fun g => ?_
      have := Int.mul_pos g hK
      omega
    have hq : q = 0 := by omega
    have hlo0 : lo = 0 := by omega
    have hv0 : val x = 0 := by rw [hlo0, Int.zero_mul] at l; omega
    have hx : FlIs x 0 0 := ⟨_, _, _, hd, by rw [Int.zero_mul]; omega, by rw [Int.zero_mul]; omega⟩
    have := hx.ceil (q := 0) (by decide) (by decide)
    rw [Flt.toInt_fin hd] at this
    rw [this, hq]

theorem FlIs.notNaN {x : UInt64} {lo hi : Int} (h : FlIs x lo hi) : Float64.isNaN x = false := by
  obtain ⟨a, m, e, hd, _⟩ := h
  unfold Float64.isNaN; rw [hd]
theorem FlIs.notInf {x : UInt64} {lo hi : Int} (h : FlIs x lo hi) : Float64.isInf x = false := by
  obtain ⟨a, m, e, hd, _⟩ := h
  unfold Float64.isInf; rw [hd]
theorem FlIs.notZero {x : UInt64} {lo hi : Int} (h : FlIs x lo hi) (h0 : 0 < lo) : Float64.isZero x = false := by
  obtain ⟨a, m, e, hd, l, _⟩ := h
  unfold Float64.isZero; rw [hd]
  cases m with
  | zero =>
    rw [val_eq hd, Nat.zero_mul] at l
    have := Int.mul_pos h0 KN_posI
    cases a <;> simp [sgn] at l <;> omega
  | succ m => rfl

theorem cmp_scale {a b : Int} {K : Int} (hK : 0 < K) : compare (a * K) (b * K) = compare a b := by
  rcases Int.lt_trichotomy a b with h | h | h
  · rw [Int.compare_eq_lt.mpr h, Int.compare_eq_lt.mpr (Int.mul_lt_mul_of_pos_right h hK)]
  · subst h; simp
  · rw [Int.compare_eq_gt.mpr h, Int.compare_eq_gt.mpr (Int.mul_lt_mul_of_pos_right h hK)]

theorem FlIs.exact {x : UInt64} {n : Int} (h : FlIs x n n) : ∃ a m e, decode x = .fin a m e ∧ val x = n * KN := by
  obtain ⟨a, m, e, hd, l, u⟩ := h
  exact ⟨a, m, e, hd, by omega⟩
theorem FlIs.cmp {x y : UInt64} {n k : Int} (hx : FlIs x n n) (hy : FlIs y k k) : Float64.cmp x y = some (compare n k) := by
  obtain ⟨a, m, e, hd, hv⟩ := hx.exact
  obtain ⟨a', m', e', hd', hv'⟩ := hy.exact
  rw [cmp_right hd hd', hv, hv', cmp_scale KN_posI]
theorem FlIs.cmpInt {x : UInt64} {n : Int} (hx : FlIs x n n) (i : Int) : Float64.cmpInt x i = some (compare n (i * 2 ^ 25)) := by
  obtain ⟨a, m, e, hd, hv⟩ := hx.exact
  rw [cmpInt_right hd, hv, KN_1074I, show i * (KN * 2 ^ 25) = i * 2 ^ 25 * KN by ac_rfl, cmp_scale KN_posI]

theorem FlIs.fmod {x y : UInt64} {n d : Int} (hx : FlIs x n n) (hy : FlIs y d d) (hn : 0 ≤ n) (hd : 0 < d) (hb : d < 2 ^ 52) : FlIs (fmod x y) (n % d) (n % d) := by
  obtain ⟨a, m, e, hdx, vx⟩ := hx.exact
  obtain ⟨b, k, f, hdy, vy⟩ := hy.exact
  have hK := KN_posI
  have he := decode_ge hdx
  have hf := decode_ge hdy
  have hvy : 0 < val y := by rw [vy]; exact Int.mul_pos hd hK
  have hk : k ≠ 0 := by
    rintro rfl
    rw [val_eq hdy, Nat.zero_mul] at hvy
    cases b <;> simp [sgn] at hvy
  have hfm : Float64.fmod x y = ofBin a ((m * 2 ^ (e - min e f).toNat) % (k * 2 ^ (f - min e f).toNat)) (min e f) := by
    unfold Float64.fmod
    rw [hdx, hdy]
    simp only [align, sgn_false]
    rw [if_neg (by simpa using hk)]
    rfl
  have e1 : m * 2 ^ (e - min e f).toNat * 2 ^ (min e f + 1074).toNat = (val x).natAbs := by
    rw [val_natAbs hdx, Nat.mul_assoc, ← Nat.pow_add]; congr 2; omega
  have e2 : k * 2 ^ (f - min e f).toNat * 2 ^ (min e f + 1074).toNat = (val y).natAbs := by
    rw [val_natAbs hdy, Nat.mul_assoc, ← Nat.pow_add]; congr 2; omega
  have hW : (m * 2 ^ (e - min e f).toNat) % (k * 2 ^ (f - min e f).toNat) * 2 ^ (min e f + 1074).toNat = (n.toNat % d.toNat) * KN := by
    rw [← Nat.mul_mod_mul_right, e1, e2, vx, vy, ← Nat.mul_mod_mul_right]
    have h1 : (n * (KN : Int)).natAbs = n.toNat * KN := by rw [Int.natAbs_mul, Int.natAbs_natCast]; congr 1; omega
    have h2 : (d * (KN : Int)).natAbs = d.toNat * KN := by rw [Int.natAbs_mul, Int.natAbs_natCast]; congr 1; omega
    rw [h1, h2]
  have hr0 : 0 ≤ n % d := Int.emod_nonneg _ (by omega)
  have hr1 : n % d < d := Int.emod_lt_of_pos _ hd
  have hr : ((n.toNat % d.toNat : Nat) : Int) = n % d := by
    rw [Int.natCast_emod, Int.toNat_of_nonneg hn, Int.toNat_of_nonneg (by omega)]
  rw [hfm]
  unfold ofBin
  have key := ofFrac_right (neg := a) (n := (shift ((m * 2 ^ (e - min e f).toNat) % (k * 2 ^ (f - min e f).toNat)) 1 (min e f)).1)
    (d := (shift ((m * 2 ^ (e - min e f).toNat) % (k * 2 ^ (f - min e f).toNat)) 1 (min e f)).2) (W := (n.toNat % d.toNat) * KN) (D := 1) (shift_pos _ _ _ (by decide))
    (by
      have := shift_one ((m * 2 ^ (e - min e f).toNat) % (k * 2 ^ (f - min e f).toNat)) (min e f) 1074 (by omega)
      have e3 : (min e f + ((1074 : Nat) : Int)).toNat = (min e f + 1074).toNat := by omega
      rw [e3, hW] at this
      rw [Nat.mul_one]; exact this) (by decide)
  have hs : sgn a (n.toNat % d.toNat * KN) = (n % d) * (KN * ((1 : Nat) : Int)) := by
    have e9 : ((1 : Nat) : Int) = 1 := rfl
    rw [e9, Int.mul_one]
    cases a with
    | false => rw [sgn_false, Int.natCast_mul, hr]
    | true =>
      rw [val_eq hdx, sgn_true] at vx
      have h0 : 0 ≤ n * KN := Int.mul_nonneg hn (Int.le_of_lt hK)
      have hn0 : n = 0 := by
        refine Int.le_antisymm (Int.le_of_not_gt fun g => ?_) hn
        have := Int.mul_pos g hK
        omega
      subst hn0
      simp [sgn]
  exact right_sgn key (by decide) (by omega) (by omega) (Int.le_of_eq hs.symm) (Int.le_of_eq hs)

theorem FlIs.mod {x y : UInt64} {n d : Int} (hx : FlIs x n n) (hy : FlIs y d d) (hn : 0 ≤ n) (hd : 0 < d) (hb : d < 2 ^ 52) : FlIs (divmod x y).2 (n % d) (n % d) := by
  have hr0 : 0 ≤ n % d := Int.emod_nonneg _ (by omega)
  have hm := hx.fmod hy hn hd hb
  unfold divmod
  simp only
  cases hz : isZero (Float64.fmod x y) with
  | true =>
    simp only [if_true]
    have hr : n % d = 0 := by
      refine Int.le_antisymm (Int.le_of_not_gt fun g => ?_) hr0
      have := hm.notZero g
      rw [hz] at this; cases this
    rw [hr]
    have hc : copysign (Float64.zero false) y = Float64.zero (signBit y) := by
      unfold copysign
      rw [if_neg (by rw [(FlIs.zero (a := false)).notNaN]; decide)]
      rfl
    rw [hc]
    exact FlIs.zero
  | false =>
    simp only [Bool.false_eq_true, if_false]
    have h1 : Float64.lt y (Float64.zero false) = false := by
      unfold Float64.lt
      rw [hy.cmp FlIs.zero, Int.compare_eq_gt.mpr hd]; rfl
    have h2 : Float64.lt (Float64.fmod x y) (Float64.zero false) = false := by
      unfold Float64.lt
      rw [hm.cmp FlIs.zero]
      rcases Int.lt_trichotomy (n % d) 0 with h | h | h
      · omega
      · rw [Int.compare_eq_eq.mpr h]; rfl
      · rw [Int.compare_eq_gt.mpr h]; rfl
    rw [h1, h2]
    simp only [bne_self_eq_false, Bool.false_eq_true, if_false]
    exact hm

/-- y between (positive), x nonnegative -/
theorem FlIs.divI {x y : UInt64} {a b c d lo hi : Int} (hx : FlIs x a b) (hy : FlIs y c d) (hc : 0 < c) (hlo : 0 ≤ lo) (hhi : 0 ≤ hi) (h1 : lo * d ≤ a * 2 ^ 25) (h2 : b * 2 ^ 25 ≤ hi * c) (hl : -2 ^ 53 < lo) (hh : hi < 2 ^ 53) : FlIs (PySem.Float64.div x y) lo hi := by
  obtain ⟨s, m, e, hdx, l1, u1⟩ := hx
  obtain ⟨s', m', e', hdy, l2, u2⟩ := hy
  have hK := KN_posI
  have hvy : 0 < val y := Int.lt_of_lt_of_le (Int.mul_pos hc hK) l2
  have hm' : m' ≠ 0 := by
    rintro rfl
    rw [val_eq hdy, Nat.zero_mul] at hvy
    cases s' <;> simp [sgn] at hvy
  have hs' : s' = false := by
    cases s' with
    | false => rfl
    | true => rw [val_eq hdy, sgn_true] at hvy; omega
  have key := div_right hdx hdy hm'
  subst hs'
  have hD : ((val y).natAbs : Int) = val y := by omega
  have hsg : sgn (s != false) ((val x).natAbs * 2 ^ 1074) = val x * (KN * 2 ^ 25) := by
    rw [Bool.bne_false, sgn_mul, val_sgn hdx, KN_1074, Int.natCast_mul]; rfl
  refine right_sgn key (by omega) hl hh ?_ ?_ <;> rw [hsg, hD]
  · have h0 : lo * KN * val y ≤ lo * KN * (d * KN) := Int.mul_le_mul_of_nonneg_left u2 (Int.mul_nonneg hlo (Int.le_of_lt hK))
    have h3 : lo * d * (KN * KN) ≤ a * 2 ^ 25 * (KN * KN) := Int.mul_le_mul_of_nonneg_right h1 (Int.le_of_lt (Int.mul_pos hK hK))
    have h4 : a * KN * (KN * 2 ^ 25) ≤ val x * (KN * 2 ^ 25) := Int.mul_le_mul_of_nonneg_right l1 (Int.le_of_lt (Int.mul_pos hK (by decide)))
    have e0 : lo * (KN * val y) = lo * KN * val y := by ac_rfl
    have e1 : lo * KN * (d * KN) = lo * d * (KN * KN) := by ac_rfl
    have e2 : a * 2 ^ 25 * (KN * KN) = a * KN * (KN * 2 ^ 25) := by ac_rfl
    omega
  · have h0 : hi * KN * (c * KN) ≤ hi * KN * val y := Int.mul_le_mul_of_nonneg_left l2 (Int.mul_nonneg hhi (Int.le_of_lt hK))
    have h3 : b * 2 ^ 25 * (KN * KN) ≤ hi * c * (KN * KN) := Int.mul_le_mul_of_nonneg_right h2 (Int.le_of_lt (Int.mul_pos hK hK))
    have h4 : val x * (KN * 2 ^ 25) ≤ b * KN * (KN * 2 ^ 25) := Int.mul_le_mul_of_nonneg_right u1 (Int.le_of_lt (Int.mul_pos hK (by decide)))
    have e0 : hi * (KN * val y) = hi * KN * val y := by ac_rfl
    have e1 : hi * KN * (c * KN) = hi * c * (KN * KN) := by ac_rfl
    have e2 : b * 2 ^ 25 * (KN * KN) = b * KN * (KN * 2 ^ 25) := by ac_rfl
    omega

theorem fdn {a d : Int} (hd : 0 < d) : a / d * d ≤ a := by rw [Int.mul_comm]; exact Int.mul_ediv_self_le (by omega)
theorem cup {a d : Int} (hd : 0 < d) : a ≤ -((-a) / d) * d := by
  have := fdn (a := -a) hd
  rw [Int.neg_mul]; omega
theorem q_floor {n d : Int} (hd : 0 < d) (hb : d < 2 ^ 24) : n / d * 2 ^ 25 ≤ n * 2 ^ 25 / d ∧ -((-(n * 2 ^ 25)) / d) < (n / d + 1) * 2 ^ 25 := by
  have h1 := fdn (a := n) hd
  have h2 : n < (n / d + 1) * d := by
    have := Int.lt_ediv_add_one_mul_self n hd; exact this
  constructor
  · rw [Int.le_ediv_iff_mul_le hd]
    have e : n / d * 2 ^ 25 * d = n / d * d * 2 ^ 25 := by ac_rfl
    omega
  · have h3 : -((n / d + 1) * 2 ^ 25 - 1) ≤ (-(n * 2 ^ 25)) / d := by
      rw [Int.le_ediv_iff_mul_le hd]
      have e : -((n / d + 1) * 2 ^ 25 - 1) * d = -((n / d + 1) * d * 2 ^ 25) + d := by
        rw [Int.neg_mul, Int.sub_mul, Int.one_mul]
        have : (n / d + 1) * 2 ^ 25 * d = (n / d + 1) * d * 2 ^ 25 := by ac_rfl
        omega
      rw [e]
      omega
    omega
theorem q_ceil {n d : Int} (hd : 0 < d) (hb : d < 2 ^ 24) : (-((-n) / d) - 1) * 2 ^ 25 < n * 2 ^ 25 / d ∧ -((-(n * 2 ^ 25)) / d) ≤ -((-n) / d) * 2 ^ 25 := by
  have h := q_floor (n := -n) hd hb
  have e : -n * 2 ^ 25 = -(n * 2 ^ 25) := by rw [Int.neg_mul]
  rw [e, Int.neg_neg] at h
  omega
end
section
open PySem PySem.W PyProof.Rows PySem.Calls

inductive D where
  | none | bool (b : Bool) | int (i : Int) | fx (n : Int) | fl (lo hi : Int) | q (n d : Int) | str (s : Str) | tup (ds : List D) | lst (ds : List D) | sq (c : String) (ds : List D) | val (v : Value)

inductive Rep (h : Heap) : D → Value → Prop
  | none : Rep h .none .none
  | bool (b : Bool) : Rep h (.bool b) (.bool b)
  | int (i : Int) (t : Tok) : Rep h (.int i) (.int i t)
  | fx {x : UInt64} {n : Int} {t : Tok} (ht : 0 < t) (hx : FlIs x (n * 2 ^ 24) (n * 2 ^ 24)) : Rep h (.fx n) (.float x t)
  | fl {x : UInt64} {lo hi : Int} (t : Tok) (hx : FlIs x lo hi) : Rep h (.fl lo hi) (.float x t)
  | q {x : UInt64} {n d : Int} (t : Tok) (hx : FlIs x (n * 2 ^ 25 / d) (-((-(n * 2 ^ 25)) / d))) : Rep h (.q n d) (.float x t)
  | str (s : Str) (t : Tok) : Rep h (.str s) (.str s t)
  | tup {a : Addr} {vs : List Value} {ds : List D} (ha : h.IsTuple a vs.toArray) (hl : vs.length = ds.length) (hr : ∀ (i : Nat) (d : D) (v : Value), ds[i]? = some d → vs[i]? = some v → Rep h d v) : Rep h (.tup ds) (.ref a)
  | lst {a : Addr} {vs : List Value} {ds : List D} (ha : h.IsList a vs.toArray) (hl : vs.length = ds.length) (hr : ∀ (i : Nat) (d : D) (v : Value), ds[i]? = some d → vs[i]? = some v → Rep h d v) : Rep h (.lst ds) (.ref a)
  | sq {a : Addr} {o : Obj} {c : String} {n : Nat} {vs : List Value} {ds : List D} (ha : h.get? a = some o) (hc : o.cls = .type c) (hd : o.data = .seq vs.toArray n) (hl : vs.length = ds.length) (hr : ∀ (i : Nat) (d : D) (v : Value), ds[i]? = some d → vs[i]? = some v → Rep h d v) : Rep h (.sq c ds) (.ref a)
  | val (v : Value) : Rep h (.val v) v

def RepAll (h : Heap) (ds : List D) (vs : List Value) : Prop := vs.length = ds.length ∧ ∀ (i : Nat) (d : D) (v : Value), ds[i]? = some d → vs[i]? = some v → Rep h d v

/-- objects that hold sequences stay -/
def SeqKeep (h h' : Heap) : Prop := ∀ (b : Addr) (o : Obj) (xs : Array Value) (n : Nat), h.get? b = some o → o.data = .seq xs n → h'.get? b = some o
def Keep (h h' : Heap) : Prop := ∀ (b : Addr) (o : Obj), h.get? b = some o → h'.get? b = some o
theorem Keep.seq {h h' : Heap} (k : Keep h h') : SeqKeep h h' := fun b o _ _ e _ => k b o e
theorem Keep.refl (h : Heap) : Keep h h := fun _ _ e => e
theorem Keep.trans {h₁ h₂ h₃ : Heap} (a : Keep h₁ h₂) (b : Keep h₂ h₃) : Keep h₁ h₃ := fun c o e => b c o (a c o e)

theorem Rep.mono {h h' : Heap} (k : SeqKeep h h') {d : D} {v : Value} (r : Rep h d v) : Rep h' d v := by
  induction r with
  | none => exact .none
  | bool b => exact .bool b
  | int i t => exact .int i t
  | fx ht hx => exact .fx ht hx
  | fl t hx => exact .fl t hx
  | q t hx => exact .q t hx
  | str s t => exact .str s t
  | tup ha hl _ ih =>
    obtain ⟨o, ho, hc, n, hd⟩ := ha
    exact .tup ⟨o, k _ o _ n ho hd, hc, n, hd⟩ hl fun i d v e1 e2 => ih i d v e1 e2
  | lst ha hl _ ih =>
    obtain ⟨o, ho, hc, n, hd⟩ := ha
    exact .lst ⟨o, k _ o _ n ho hd, hc, n, hd⟩ hl fun i d v e1 e2 => ih i d v e1 e2
  | sq ha hc hd hl _ ih => exact .sq (k _ _ _ _ ha hd) hc hd hl fun i d v e1 e2 => ih i d v e1 e2
  | val v => exact .val v
theorem RepAll.mono {h h' : Heap} (k : SeqKeep h h') {ds : List D} {vs : List Value} (r : RepAll h ds vs) : RepAll h' ds vs := ⟨r.1, fun i d v e1 e2 => (r.2 i d v e1 e2).mono k⟩
theorem RepAll.nil {h : Heap} : RepAll h [] [] := ⟨rfl, fun i d v e => by simp at e⟩
theorem RepAll.cons {h : Heap} {d : D} {ds : List D} {v : Value} {vs : List Value} (r : Rep h d v) (rs : RepAll h ds vs) : RepAll h (d :: ds) (v :: vs) :=
  ⟨by simp [rs.1], fun i e u h1 h2 => by
    cases i with
    | zero => simp at h1 h2; subst h1; subst h2; exact r
    | succ i => simp at h1 h2; exact rs.2 i e u h1 h2⟩
theorem RepAll.uncons {h : Heap} {d : D} {ds : List D} {vs : List Value} (r : RepAll h (d :: ds) vs) : ∃ v us, vs = v :: us ∧ Rep h d v ∧ RepAll h ds us := by
  cases vs with
  | nil => have := r.1; simp at this
  | cons v us => exact ⟨v, us, rfl, r.2 0 d v rfl rfl, by have := r.1; simpa using this, fun i e u h1 h2 => r.2 (i + 1) e u (by simpa using h1) (by simpa using h2)⟩
theorem RepAll.unnil {h : Heap} {vs : List Value} (r : RepAll h [] vs) : vs = [] := List.length_eq_zero_iff.mp (by simpa using r.1)
theorem RepAll.one {h : Heap} {d : D} {vs : List Value} (r : RepAll h [d] vs) : ∃ v, vs = [v] ∧ Rep h d v := by
  obtain ⟨v, us, rfl, h1, h2⟩ := r.uncons
  rw [h2.unnil]; exact ⟨v, rfl, h1⟩
theorem RepAll.two {h : Heap} {d e : D} {vs : List Value} (r : RepAll h [d, e] vs) : ∃ v u, vs = [v, u] ∧ Rep h d v ∧ Rep h e u := by
  obtain ⟨v, us, rfl, h1, h2⟩ := r.uncons
  obtain ⟨u, rfl, h3⟩ := h2.one
  exact ⟨v, u, rfl, h1, h3⟩
theorem RepAll.append {h : Heap} {ds es : List D} {vs us : List Value} (r : RepAll h ds vs) (q : RepAll h es us) : RepAll h (ds ++ es) (vs ++ us) := by
  induction ds generalizing vs with
  | nil => rw [r.unnil]; exact q
  | cons d ds ih =>
    obtain ⟨v, vs', rfl, h1, h2⟩ := r.uncons
    exact .cons h1 (ih h2)

/-- the base: the heap as the top left it -/
structure PK where
  prog : Program
  w : World
  B : Heap
  mg : Str → Option Value
  mb : Str → Option Value
  g : B.Ns mainGlobals mg
  b : B.Ns builtinsNs mb
  nl : B.NoLimit
  bt : ∀ x : Str, x ≠ "__name__" → mb x = bootBuiltins x
  st : ∃ mc, B.Ns cStatics mc ∧ mc sharingNotToldKey = none

structure Room (k : Nat) (A : Around) : Prop where
  hd : A.handled = none
  dp : A.depth + k < recursionLimit
  un : A.units + 8 * k + 100 < cLine
theorem Room.deeper {k : Nat} {A : Around} {env : Env} (r : Room (k + 1) A) : Room k (A.deeper env) :=
  ⟨r.hd, by have := r.dp; simp only [Around.deeper]; omega, by have := r.un; simp only [Around.deeper]; omega⟩
theorem Room.le {k j : Nat} {A : Around} (r : Room k A) (h : j ≤ k) : Room j A := ⟨r.hd, by have := r.dp; omega, by have := r.un; omega⟩

structure EnvOK (env : Env) (sc : Scope) : Prop where
  scope : env.scope = sc
  kind : sc.kind = .function
  glob : env.globals = mainGlobals
  bu : env.builtins = builtinsNs
  cells : ∀ x, sc.names.lookup x = some .cell → ∃ c, env.cells.lookup x = some c

structure Frm (B : Heap) (env : Env) (ρ : List (Str × D)) (h : Heap) : Prop where
  base : Keep B h
  ns : ∃ m, h.Ns env.locals m ∧ ∀ x d, ρ.lookup x = some d → env.kindOf x = some .local → ∃ v, m x = some v ∧ Rep h d v
  kinds : ∀ x d, ρ.lookup x = some d → env.kindOf x = some .local ∨ env.kindOf x = some .cell
  cells : ∀ x d, ρ.lookup x = some d → env.kindOf x = some .cell → ∃ c v, env.cells.lookup x = some c ∧ h.IsCell c (some v) ∧ Rep h d v
  allcells : ∀ x c, (x, c) ∈ env.cells → (∃ v, h.IsCell c v) ∧ B.get? c = none
  apart : env.cells.Pairwise fun x y => x.2 ≠ y.2
  fresh : B.get? env.locals = none

theorem Frm.keeps {B : Heap} {env : Env} {ρ : List (Str × D)} {h h' : Heap} (F : Frm B env ρ h) (k : Keep h h') : Frm B env ρ h' where
  base := F.base.trans k
  ns := let ⟨m, hm, hv⟩ := F.ns; ⟨m, hm.keeps k, fun x d e q => let ⟨v, h1, h2⟩ := hv x d e q; ⟨v, h1, h2.mono k.seq⟩⟩
  kinds := F.kinds
  cells := fun x d e q => let ⟨c, v, h1, h2, h3⟩ := F.cells x d e q; ⟨c, v, h1, h2.keeps k, h3.mono k.seq⟩
  allcells := fun x c hc => let ⟨⟨v, h1⟩, h2⟩ := F.allcells x c hc; ⟨⟨v, h1.keeps k⟩, h2⟩
  apart := F.apart
  fresh := F.fresh

theorem kk {s s' : Shared} (h : Keeps s s') : Keep s.heap s'.heap := by
  obtain ⟨h', tk, rfl, k⟩ := h; exact k
theorem keeps_refl (s : Shared) : Keeps s s := ⟨s.heap, s.toks, rfl, fun _ _ e => e⟩
theorem keeps_tok (s : Shared) (t : Nat) : Keeps s { s with toks := t } := ⟨s.heap, t, rfl, fun _ _ e => e⟩
theorem keeps_trans {s₁ s₂ s₃ : Shared} (a : Keeps s₁ s₂) (b : Keeps s₂ s₃) : Keeps s₁ s₃ := by
  obtain ⟨h', tk, rfl, k⟩ := a
  obtain ⟨h'', tk', rfl, k'⟩ := b
  exact ⟨h'', tk', rfl, Keep.trans k k'⟩

structure St (P : PK) (env : Env) (ρ : List (Str × D)) (s : Shared) : Prop where
  F : Frm P.B env ρ s.heap
  tp : 0 < s.toks
theorem St.keeps {P : PK} {env : Env} {ρ : List (Str × D)} {s s' : Shared} (S : St P env ρ s) (k : Keeps s s') (tp : 0 < s'.toks) : St P env ρ s' := ⟨S.F.keeps (kk k), tp⟩

abbrev PostE (d : D) (s : Shared) : Value → Shared → Prop := fun v s' => Keeps s s' ∧ Rep s'.heap d v
abbrev NoE : Value → Shared → Prop := fun _ _ => False

/-- an expression keeps the heap and gives a value that represents d -/
structure Ev (P : PK) (k : Nat) (sc : Scope) (ρ : List (Str × D)) (e : Expr) (d : D) : Prop where
  run : ∀ (A : Around) (env : Env) (s : Shared), Room k A → EnvOK env sc → St P env ρ s → wpAny (model P.prog P.w) A (eval e env) (PostE d s) NoE s
structure EvT (P : PK) (k : Nat) (sc : Scope) (ρ : List (Str × D)) (e : Expr) (b : Bool) : Prop where
  run : ∀ (A : Around) (env : Env) (s : Shared), Room k A → EnvOK env sc → St P env ρ s → wpAny (model P.prog P.w) A (isTrue e env (eval e env)) (fun b' s' => Keeps s s' ∧ b' = b) NoE s
structure EvA (P : PK) (k : Nat) (sc : Scope) (ρ : List (Str × D)) (es : List Expr) (ds : List D) : Prop where
  run : ∀ (A : Around) (env : Env) (s : Shared) (pos : Pos), Room k A → EnvOK env sc → St P env ρ s → wpAny (model P.prog P.w) A (spliced (backTo pos (starEach es env))) (fun vs s' => Keeps s s' ∧ RepAll s'.heap ds vs) NoE s
structure BinR (P : PK) (op : Operator) (a b d : D) : Prop where
  run : ∀ (A : Around) (s : Shared) (v u : Value), Room 0 A → Keep P.B s.heap → 0 < s.toks → Rep s.heap a v → Rep s.heap b u → wpAny (model P.prog P.w) A (binaryOp op v u) (PostE d s) NoE s
structure InpR (P : PK) (op : Operator) (a b d : D) : Prop where
  run : ∀ (A : Around) (s : Shared) (v u : Value), Room 0 A → Keep P.B s.heap → 0 < s.toks → Rep s.heap a v → Rep s.heap b u → wpAny (model P.prog P.w) A (inplaceOp op v u) (PostE d s) NoE s
structure CmpR (P : PK) (op : CmpOp) (a b : D) (r : Bool) : Prop where
  run : ∀ (A : Around) (s : Shared) (v u : Value), Room 0 A → Keep P.B s.heap → 0 < s.toks → Rep s.heap a v → Rep s.heap b u → wpAny (model P.prog P.w) A (compareOp op v u) (PostE (.bool r) s) NoE s
structure UnR (P : PK) (op : UnaryOp) (a d : D) : Prop where
  run : ∀ (A : Around) (s : Shared) (v : Value), Room 0 A → Keep P.B s.heap → 0 < s.toks → Rep s.heap a v → wpAny (model P.prog P.w) A (unaryOp op v) (PostE d s) NoE s
structure FnV (P : PK) (k : Nat) (f : Value) (ds : List D) (d : D) : Prop where
  run : ∀ (A : Around) (s : Shared) (vs : List Value), Room k A → Keep P.B s.heap → 0 < s.toks → RepAll s.heap ds vs → wpAny (model P.prog P.w) A (call f vs) (PostE d s) NoE s

theorem ev_mono {M : Model} {A : Around} {α : Type} {t : Sem α} {Q Q' : α → Shared → Prop} {s : Shared} {E : Value → Shared → Prop} (h : wpAny M A t Q NoE s) (hq : ∀ a s', Q a s' → Q' a s') : wpAny M A t Q' E s :=
  wpAny_mono h hq fun _ _ x => x.elim
/-- one step, and the state behind it -/
theorem ev_seq {P : PK} {env : Env} {ρ : List (Str × D)} {M : Model} {A : Around} {α : Type} {t : Sem α} {R Q' : α → Shared → Prop} {s : Shared} {E : Value → Shared → Prop} (S : St P env ρ s)
    (h : wpAny M A t (fun a s' => Keeps s s' ∧ R a s') NoE s) (hq : ∀ a s', Keeps s s' → R a s' → St P env ρ s' → Q' a s') : wpAny M A t Q' E s :=
  wpAny_mono (wpAny_toks_of (n := 1) S.tp h) (fun a s' x => hq a s' x.2.1 x.2.2 (S.keeps x.2.1 x.1)) fun _ _ x => x.2.elim
theorem ev_seq' {P : PK} {M : Model} {A : Around} {α : Type} {t : Sem α} {R Q' : α → Shared → Prop} {s : Shared} {E : Value → Shared → Prop} (B : Keep P.B s.heap) (tp : 0 < s.toks)
    (h : wpAny M A t (fun a s' => Keeps s s' ∧ R a s') NoE s) (hq : ∀ a s', Keeps s s' → R a s' → Keep P.B s'.heap → 0 < s'.toks → Q' a s') : wpAny M A t Q' E s :=
  wpAny_mono (wpAny_toks_of (n := 1) tp h) (fun a s' x => hq a s' x.2.1 x.2.2 (B.trans (kk x.2.1)) x.1) fun _ _ x => x.2.elim

variable {P : PK} {k : Nat} {sc : Scope} {ρ : List (Str × D)}

theorem Ev.cint {i : Int} {kd : Nat} {pos : Pos} : Ev P k sc ρ (.Constant (.int i) kd pos) (.int i) :=
  .mk fun A env s _ _ _ => wpAny_Constant_int (env := env) (Q := PostE (.int i) s) ⟨keeps_tok s _, .int ..⟩
theorem Ev.cfx {x : UInt64} {n : Int} {kd : Nat} {pos : Pos} (h : FlIs x (n * 2 ^ 24) (n * 2 ^ 24)) : Ev P k sc ρ (.Constant (.float x) kd pos) (.fx n) :=
  .mk fun A env s _ _ S => PySem.AutoFloatOps.wpAny_Constant_float ⟨keeps_tok s _, .fx S.tp h⟩
theorem Ev.cfl {x : UInt64} {lo hi : Int} {kd : Nat} {pos : Pos} (h : FlIs x lo hi) : Ev P k sc ρ (.Constant (.float x) kd pos) (.fl lo hi) :=
  .mk fun A env s _ _ _ => PySem.AutoFloatOps.wpAny_Constant_float ⟨keeps_tok s _, .fl _ h⟩
theorem Ev.cnone {kd : Nat} {pos : Pos} : Ev P k sc ρ (.Constant .none kd pos) .none :=
  .mk fun A env s _ _ _ => wpAny_Constant_none ⟨keeps_refl s, .none⟩
theorem Ev.cbool {b : Bool} {kd : Nat} {pos : Pos} : Ev P k sc ρ (.Constant (.bool b) kd pos) (.bool b) :=
  .mk fun A env s _ _ _ => wpAny_Constant_bool ⟨keeps_refl s, .bool b⟩
theorem Ev.cstr {x : Str} {kd : Nat} {pos : Pos} : Ev P k sc ρ (.Constant (.str x) kd pos) (.str x) :=
  .mk fun A env s _ _ _ => wpAny_Constant_str ⟨keeps_tok s _, .str ..⟩

theorem Ev.name {x : Str} {pos : Pos} {d : D} (hx : ρ.lookup x = some d) (hd : (x == ("__debug__" : Str)) = false := by decide) : Ev P k sc ρ (.Name x pos) d :=
  .mk fun A env s _ ok S => by
    rcases S.F.kinds x d hx with hk | hk
    · obtain ⟨m, hm, hv⟩ := S.F.ns
      obtain ⟨v, h1, h2⟩ := hv x d hx hk
      exact wpAny_Name (wpAny_loadName_local (by rw [ok.scope]; exact ok.kind) hk hm h1 ⟨keeps_refl s, h2⟩) hd
    · obtain ⟨c, v, h1, h2, h3⟩ := S.F.cells x d hx hk
      exact wpAny_Name (wpAny_loadName_cell (by rw [ok.scope]; exact ok.kind) hk h1 h2 ⟨keeps_refl s, h3⟩) hd
theorem Ev.glob {x : Str} {pos : Pos} {v : Value} {d : D} (hv : P.mg x = some v) (hr : Rep P.B d v) (hk : sc.names.lookup x = some .globalImplicit := by rfl) (hd : (x == ("__debug__" : Str)) = false := by decide) : Ev P k sc ρ (.Name x pos) d :=
  .mk fun A env s _ ok S => Name_function_global (by rw [ok.scope]; exact ok.kind) (by unfold Env.kindOf; rw [ok.scope]; exact hk)
    (loadGlobal_global (by rw [ok.glob]; exact P.g.keeps S.F.base) hv ⟨keeps_refl s, hr.mono S.F.base.seq⟩) hd
theorem Ev.builtin {x : Str} {pos : Pos} {v : Value} (hv : P.mg x = none) (hb : bootBuiltins x = some v) (hn : x ≠ "__name__") (hk : sc.names.lookup x = some .globalImplicit := by rfl) (hd : (x == ("__debug__" : Str)) = false := by decide) : Ev P k sc ρ (.Name x pos) (.val v) :=
  .mk fun A env s _ ok S => Name_function_global (by rw [ok.scope]; exact ok.kind) (by unfold Env.kindOf; rw [ok.scope]; exact hk)
    (loadGlobal_builtin (by rw [ok.glob]; exact P.g.keeps S.F.base) hv (by rw [ok.bu]; exact P.b.keeps S.F.base) ((P.bt x hn).trans hb) ⟨keeps_refl s, .val v⟩) hd

theorem Ev.bin {l r : Expr} {op : Operator} {pos : Pos} {a b d : D} (hl : Ev P k sc ρ l a) (hr : Ev P k sc ρ r b) (h : BinR P op a b d) : Ev P k sc ρ (.BinOp l op r pos) d :=
  .mk fun A env s rm ok S => wpAny_BinOp (ev_seq S (hl.run A env s rm ok S) fun v s₁ k₁ r₁ S₁ => ev_seq S₁ (hr.run A env s₁ rm ok S₁) fun u s₂ k₂ r₂ S₂ =>
    ev_mono (h.run A s₂ v u (rm.le (Nat.zero_le _)) S₂.F.base S₂.tp (r₁.mono (kk k₂).seq) r₂) fun x s₃ h₃ => ⟨keeps_trans k₁ (keeps_trans k₂ h₃.1), h₃.2⟩)
theorem Ev.un {e : Expr} {op : UnaryOp} {pos : Pos} {a d : D} (he : Ev P k sc ρ e a) (h : UnR P op a d) : Ev P k sc ρ (.UnaryOp op e pos) d :=
  .mk fun A env s rm ok S => wpAny_UnaryOp (ev_seq S (he.run A env s rm ok S) fun v s₁ k₁ r₁ S₁ => ev_mono (h.run A s₁ v (rm.le (Nat.zero_le _)) S₁.F.base S₁.tp r₁) fun x s₃ h₃ => ⟨keeps_trans k₁ h₃.1, h₃.2⟩)
theorem Ev.cmp {l r : Expr} {op : CmpOp} {pos : Pos} {a b : D} {x : Bool} (hl : Ev P k sc ρ l a) (hr : Ev P k sc ρ r b) (h : CmpR P op a b x) (hm : behindInMarks op r = false := by with_unfolding_all rfl) : Ev P k sc ρ (.Compare l [op] [r] pos) (.bool x) :=
  .mk fun A env s rm ok S => wpAny_Compare1 (ev_seq S (hl.run A env s rm ok S) fun v s₁ k₁ r₁ S₁ => ev_seq S₁ (hr.run A env s₁ rm ok S₁) fun u s₂ k₂ r₂ S₂ =>
    ev_mono (h.run A s₂ v u (rm.le (Nat.zero_le _)) S₂.F.base S₂.tp (r₁.mono (kk k₂).seq) r₂) fun x s₃ h₃ => ⟨keeps_trans k₁ (keeps_trans k₂ h₃.1), h₃.2⟩) hm
theorem EvT.cmp {l r : Expr} {op : CmpOp} {pos : Pos} {a b : D} {x : Bool} (hl : Ev P k sc ρ l a) (hr : Ev P k sc ρ r b) (h : CmpR P op a b x) (hm : behindInMarks op r = false := by with_unfolding_all rfl) : EvT P k sc ρ (.Compare l [op] [r] pos) x :=
  .mk fun A env s rm ok S => wpAny_isTrue_Compare1 (ev_seq S (hl.run A env s rm ok S) fun v s₁ k₁ r₁ S₁ => ev_seq S₁ (hr.run A env s₁ rm ok S₁) fun u s₂ k₂ r₂ S₂ =>
    ev_mono (h.run A s₂ v u (rm.le (Nat.zero_le _)) S₂.F.base S₂.tp (r₁.mono (kk k₂).seq) r₂) fun c s₃ h₃ => by
      obtain ⟨h4, h5⟩ := h₃
      cases h5
      exact wpAny_truthy_bool ⟨keeps_trans k₁ (keeps_trans k₂ h4), rfl⟩) hm
theorem EvT.val {e : Expr} {x : Bool} (h : Ev P k sc ρ e (.bool x)) (he : ∀ env whole, isTrue e env whole = (do let v ← whole; standAt e.pos; holding [v] (truthy v)) := by intro _ _; rfl) : EvT P k sc ρ e x :=
  .mk fun A env s rm ok S => wpAny_isTrue_value (ev_mono (h.run A env s rm ok S) fun v s₁ h₁ => by
    obtain ⟨h4, h5⟩ := h₁
    cases h5
    exact wpAny_truthy_bool ⟨h4, rfl⟩) (he env _)
theorem EvT.not {e : Expr} {pos : Pos} {x : Bool} (h : EvT P k sc ρ e x) : EvT P k sc ρ (.UnaryOp .Not e pos) (!x) :=
  .mk fun A env s rm ok S => wpAny_isTrue_Not (ev_mono (h.run A env s rm ok S) fun b s₁ h₁ => ⟨h₁.1, by rw [h₁.2]⟩)
theorem EvT.cast {e : Expr} {x y : Bool} (h : EvT P k sc ρ e x) (he : x = y) : EvT P k sc ρ e y := he ▸ h
theorem Ev.cast {e : Expr} {x y : D} (h : Ev P k sc ρ e x) (he : x = y) : Ev P k sc ρ e y := he ▸ h

structure AllT (P : PK) (k : Nat) (sc : Scope) (ρ : List (Str × D)) (op : BoolOp) (es : List Expr) (b : Bool) : Prop where
  run : ∀ (A : Around) (env : Env) (s : Shared), Room k A → EnvOK env sc → St P env ρ s → wpAny (model P.prog P.w) A (allTrue op es env) (fun b' s' => Keeps s s' ∧ b' = b) NoE s
theorem AllT.and_nil : AllT P k sc ρ .And [] true := .mk fun A env s _ _ _ => wpAny_allTrue_And_nil ⟨keeps_refl s, rfl⟩
theorem AllT.or_nil : AllT P k sc ρ .Or [] false := .mk fun A env s _ _ _ => wpAny_allTrue_Or_nil ⟨keeps_refl s, rfl⟩
theorem AllT.and_f {e : Expr} {rest : List Expr} (h : EvT P k sc ρ e false) : AllT P k sc ρ .And (e :: rest) false :=
  .mk fun A env s rm ok S => wpAny_allTrue_And_cons (ev_mono (h.run A env s rm ok S) fun b s₁ h₁ => by rw [h₁.2]; exact ⟨h₁.1, rfl⟩)
theorem AllT.and_t {e : Expr} {rest : List Expr} {b : Bool} (h : EvT P k sc ρ e true) (hr : AllT P k sc ρ .And rest b) : AllT P k sc ρ .And (e :: rest) b :=
  .mk fun A env s rm ok S => wpAny_allTrue_And_cons (ev_seq S (h.run A env s rm ok S) fun b s₁ k₁ r₁ S₁ => by
    rw [r₁]; exact ev_mono (hr.run A env s₁ rm ok S₁) fun b' s₂ h₂ => ⟨keeps_trans k₁ h₂.1, h₂.2⟩)
theorem AllT.or_t {e : Expr} {rest : List Expr} (h : EvT P k sc ρ e true) : AllT P k sc ρ .Or (e :: rest) true :=
  .mk fun A env s rm ok S => wpAny_allTrue_Or_cons (ev_mono (h.run A env s rm ok S) fun b s₁ h₁ => by rw [h₁.2]; exact ⟨h₁.1, rfl⟩)
theorem AllT.or_f {e : Expr} {rest : List Expr} {b : Bool} (h : EvT P k sc ρ e false) (hr : AllT P k sc ρ .Or rest b) : AllT P k sc ρ .Or (e :: rest) b :=
  .mk fun A env s rm ok S => wpAny_allTrue_Or_cons (ev_seq S (h.run A env s rm ok S) fun b s₁ k₁ r₁ S₁ => by
    rw [r₁]; exact ev_mono (hr.run A env s₁ rm ok S₁) fun b' s₂ h₂ => ⟨keeps_trans k₁ h₂.1, h₂.2⟩)
theorem AllT.and {e : Expr} {rest : List Expr} {a b : Bool} (h : EvT P k sc ρ e a) (hr : a = true → AllT P k sc ρ .And rest b) : AllT P k sc ρ .And (e :: rest) (a && b) := by
  cases a with
  | false => exact .and_f h
  | true => exact .and_t h (hr rfl)
theorem AllT.or {e : Expr} {rest : List Expr} {a b : Bool} (h : EvT P k sc ρ e a) (hr : a = false → AllT P k sc ρ .Or rest b) : AllT P k sc ρ .Or (e :: rest) (a || b) := by
  cases a with
  | false => exact .or_f h (hr rfl)
  | true => exact .or_t h
theorem EvT.bool {op : BoolOp} {es : List Expr} {pos : Pos} {b : Bool} (h : AllT P k sc ρ op es b) : EvT P k sc ρ (.BoolOp op es pos) b :=
  .mk fun A env s rm ok S => wpAny_isTrue_BoolOp (h.run A env s rm ok S)
theorem Ev.ifexp_t {test body orelse : Expr} {pos : Pos} {d : D} (ht : EvT P k sc ρ test true) (h : Ev P k sc ρ body d) : Ev P k sc ρ (.IfExp test body orelse pos) d :=
  .mk fun A env s rm ok S => wpAny_IfExp (ev_seq S (ht.run A env s rm ok S) fun b s₁ k₁ r₁ S₁ => by
    rw [r₁]; exact ev_mono (h.run A env s₁ rm ok S₁) fun v s₂ h₂ => ⟨keeps_trans k₁ h₂.1, h₂.2⟩)
theorem Ev.ifexp_f {test body orelse : Expr} {pos : Pos} {d : D} (ht : EvT P k sc ρ test false) (h : Ev P k sc ρ orelse d) : Ev P k sc ρ (.IfExp test body orelse pos) d :=
  .mk fun A env s rm ok S => wpAny_IfExp (ev_seq S (ht.run A env s rm ok S) fun b s₁ k₁ r₁ S₁ => by
    rw [r₁]; exact ev_mono (h.run A env s₁ rm ok S₁) fun v s₂ h₂ => ⟨keeps_trans k₁ h₂.1, h₂.2⟩)
theorem Ev.ifexp {test body orelse : Expr} {pos : Pos} {b : Bool} {d : D} (ht : EvT P k sc ρ test b) (h : b = true → Ev P k sc ρ body d) (h' : b = false → Ev P k sc ρ orelse d) : Ev P k sc ρ (.IfExp test body orelse pos) d := by
  cases b with
  | true => exact .ifexp_t ht (h rfl)
  | false => exact .ifexp_f ht (h' rfl)

theorem EvA.nil : EvA P k sc ρ [] [] := .mk fun A env s pos _ _ _ => wpAny_items_nil ⟨keeps_refl s, .nil⟩
theorem EvA.cons {e : Expr} {es : List Expr} {d : D} {ds : List D} (h : Ev P k sc ρ e d) (hs : EvA P k sc ρ es ds) (he : ∀ env, starEach (e :: es) env = (false, eval e env) :: starEach es env := by intro _; rfl) : EvA P k sc ρ (e :: es) (d :: ds) :=
  .mk fun A env s pos rm ok S => wpAny_items_cons (ev_seq S (h.run A env s rm ok S) fun v s₁ k₁ r₁ S₁ => ev_mono (hs.run A env s₁ pos rm ok S₁) fun vs s₂ h₂ =>
    ⟨keeps_trans k₁ h₂.1, .cons (r₁.mono (kk h₂.1).seq) h₂.2⟩) (he env)

/-- what may be called by callWith -/
inductive Callee (P : PK) : Value → Prop
  | fn {a : Addr} {o : Obj} {fd : FuncData} (ho : P.B.get? a = some o) (hd : o.data = .func fd) : Callee P (.ref a)
  | builtin (id : String) : Callee P (.builtin id)
  | type (T : String) : Callee P (.type T)

theorem Ev.call {id : Str} {p pos : Pos} {e : Expr} {es : List Expr} {f : Value} {ds : List D} {d : D} (hf : Ev P k sc ρ (.Name id p) (.val f)) (hc : Callee P f) (ha : EvA P k sc ρ (e :: es) ds) (h : FnV P k f ds d)
    (he : ∀ env, starEach (e :: es) env = (false, eval e env) :: starEach es env := by intro _; rfl) (hp : ∀ env, (backTo pos (starEach es env)).any (·.1) = false := by intro _; rfl) : Ev P k sc ρ (.Call (.Name id p) (e :: es) [] pos) d :=
  .mk fun A env s rm ok S => by
    refine wpAny_Call_Name_kw (ev_seq S (hf.run A env s rm ok S) fun v s₁ k1 r1 S₁ => ?_)
    cases r1
    have args := ha.run A env s₁ pos rm ok S₁
    have fin : ∀ (vs : List Value) (s₂ : Shared), Keeps s₁ s₂ → RepAll s₂.heap ds vs → St P env ρ s₂ → wpAny (model P.prog P.w) A (PySem.call f vs) (PostE d s) NoE s₂ := fun vs s₂ k₂ r₂ S₂ =>
      ev_mono (h.run A s₂ vs rm S₂.F.base S₂.tp r₂) fun v s₃ h₃ => ⟨keeps_trans k1 (keeps_trans k₂ h₃.1), h₃.2⟩
    cases hc with
    | fn ho hd =>
      rename_i a o fd
      refine callWith_function (o := o) (fd := fd) ?_
      have h2 := he env
      rw [h2] at args ⊢
      exact evalArgs_plain (ev_seq S₁ args fun vs s₂ k₂ r₂ S₂ => ⟨⟨S₂.F.base _ _ ho, hd⟩, fin vs s₂ k₂ r₂ S₂⟩)
    | builtin id =>
      have h2 := he env
      refine callWith_builtin (by rw [h2]; show (false || (backTo pos (starEach es env)).any (·.1)) = false; rw [hp env]; rfl) ?_
      rw [h2] at args ⊢
      exact evalArgs_plain (ev_seq S₁ args fun vs s₂ k₂ r₂ S₂ => fin vs s₂ k₂ r₂ S₂)
    | type T =>
      exact callWith_type1 (ev_seq S₁ args fun vs s₂ k₂ r₂ S₂ => fin vs s₂ k₂ r₂ S₂) (he env) (hp env)
end
section
open PySem PySem.W PyProof.Rows PySem.Calls PySem.SeqAt

variable {P : PK} {k : Nat} {sc : Scope} {ρ : List (Str × D)}

theorem one_lt_1023 : (2 : Nat) ^ 28 ≤ 2 ^ 1023 := Nat.pow_le_pow_right (by decide) (by decide)
theorem fits_of {i : Int} (h : i.natAbs < 2 ^ 28) : i.natAbs < 2 ^ 1023 := Nat.lt_of_lt_of_le h one_lt_1023
theorem not_over {i : Int} (h : i.natAbs < 2 ^ 28) : ¬ Flt.Over i := by
  intro g
  have e1 : (2 : Nat) ^ 1024 = 2 ^ 54 * 2 ^ 970 := by rw [← Nat.pow_add]
  have e2 : 1 ≤ (2 : Nat) ^ 970 := Nat.one_le_two_pow
  unfold Flt.Over at g
  rw [e1] at g
  generalize (2 : Nat) ^ 970 = X at *
  omega

/-- bounds -/
abbrev Sm (n : Int) (b : Int) : Prop := -b < n ∧ n < b

theorem bin_add_ii {a b : Int} : BinR P .Add (.int a) (.int b) (.int (a + b)) := .mk fun A s v u rm _ tp r q => by
  cases r; cases q; exact add_int ⟨keeps_tok s _, .int ..⟩
theorem bin_sub_ii {a b : Int} : BinR P .Sub (.int a) (.int b) (.int (a - b)) := .mk fun A s v u rm _ tp r q => by
  cases r; cases q; exact sub_int ⟨keeps_tok s _, .int ..⟩
theorem intBits_small {a : Int} (h : a.natAbs < 2 ^ 64) : Builtin.Int.intBits a ≤ 64 := by
  unfold Builtin.Int.intBits
  split
  · decide
  · rename_i h0
    have h1 : a.natAbs ≠ 0 := by simpa using h0
    have := (Nat.log2_lt h1).mpr h
    omega
theorem bin_mul_ii {a b : Int} (h : Sm a (2 ^ 60)) : BinR P .Mult (.int a) (.int b) (.int (a * b)) := .mk fun A s v u rm _ tp r q => by
  cases r; cases q; exact mul_int ⟨keeps_tok s _, .int ..⟩ (IntMulOk.of_left (intBits_small (by omega)))
theorem bin_mul_ii' {a b : Int} (h : Sm b (2 ^ 60)) : BinR P .Mult (.int a) (.int b) (.int (a * b)) := .mk fun A s v u rm _ tp r q => by
  cases r; cases q; exact mul_int ⟨keeps_tok s _, .int ..⟩ (IntMulOk.of_right (intBits_small (by omega)))
theorem bin_mod_ii {a b : Int} (h : 0 < b) : BinR P .Mod (.int a) (.int b) (.int (a % b)) := .mk fun A s v u rm _ tp r q => by
  cases r; cases q
  exact mod_int' (by omega) ⟨keeps_tok s _, by rw [Int.fmod_eq_emod_of_nonneg _ (Int.le_of_lt h)]; exact .int ..⟩
theorem bin_add_ib {a : Int} {b : Bool} : BinR P .Add (.int a) (.bool b) (.int (a + if b = true then 1 else 0)) := .mk fun A s v u rm _ tp r q => by
  cases r; cases q; exact add_int_bool ⟨keeps_tok s _, .int ..⟩
theorem bin_sub_ib {a : Int} {b : Bool} : BinR P .Sub (.int a) (.bool b) (.int (a - if b = true then 1 else 0)) := .mk fun A s v u rm _ tp r q => by
  cases r; cases q; exact IntBool.sub_int_bool ⟨keeps_tok s _, .int ..⟩
theorem inp_sub_ii {a b : Int} : InpR P .Sub (.int a) (.int b) (.int (a - b)) := .mk fun A s v u rm _ tp r q => by
  cases r; cases q; exact isub_int ⟨keeps_tok s _, .int ..⟩
theorem inp_add_ii {a b : Int} : InpR P .Add (.int a) (.int b) (.int (a + b)) := .mk fun A s v u rm _ tp r q => by
  cases r; cases q; exact iadd_int ⟨keeps_tok s _, .int ..⟩

theorem FlIs.cast {x : UInt64} {a b a' b' : Int} (h : FlIs x a b) (e1 : a = a') (e2 : b = b') : FlIs x a' b' := by subst e1; subst e2; exact h

theorem bin_add_fi {n i : Int} (hn : Sm n (2 ^ 28)) (hi : Sm i (2 ^ 26)) : BinR P .Add (.fx n) (.int i) (.fx (n + 2 * i)) := .mk fun A s v u rm _ tp r q => by
  cases r; cases q; rename_i x t hx tt
  exact add_fi_fits (fits_of (by omega)) ⟨keeps_tok s _, .fx tp ((hx.add (FlIs.ofInt (by omega)) (by omega) (by omega)).cast (by omega) (by omega))⟩
theorem bin_add_if {n i : Int} (hn : Sm n (2 ^ 28)) (hi : Sm i (2 ^ 26)) : BinR P .Add (.int i) (.fx n) (.fx (2 * i + n)) := .mk fun A s v u rm _ tp r q => by
  cases q; cases r; rename_i x t hx tt
  exact add_if_fits (fits_of (by omega)) ⟨keeps_tok s _, .fx tp (((FlIs.ofInt (by omega)).add hx (by omega) (by omega)).cast (by omega) (by omega))⟩
theorem bin_sub_fi {n i : Int} (hn : Sm n (2 ^ 28)) (hi : Sm i (2 ^ 26)) : BinR P .Sub (.fx n) (.int i) (.fx (n - 2 * i)) := .mk fun A s v u rm _ tp r q => by
  cases r; cases q; rename_i x t hx tt
  exact sub_fi_fits (fits_of (by omega)) ⟨keeps_tok s _, .fx tp ((hx.sub (FlIs.ofInt (by omega)) (by omega) (by omega)).cast (by omega) (by omega))⟩
theorem bin_add_ff {n i : Int} (hn : Sm n (2 ^ 27)) (hi : Sm i (2 ^ 27)) : BinR P .Add (.fx n) (.fx i) (.fx (n + i)) := .mk fun A s v u rm _ tp r q => by
  cases r; cases q; rename_i x t ht hx y t' ht' hy
  exact add_float ⟨keeps_tok s _, .fx tp ((hx.add hy (by omega) (by omega)).cast (by omega) (by omega))⟩
theorem bin_sub_ff {n i : Int} (hn : Sm n (2 ^ 27)) (hi : Sm i (2 ^ 27)) : BinR P .Sub (.fx n) (.fx i) (.fx (n - i)) := .mk fun A s v u rm _ tp r q => by
  cases r; cases q; rename_i x t ht hx y t' ht' hy
  exact sub_float ⟨keeps_tok s _, .fx tp ((hx.sub hy (by omega) (by omega)).cast (by omega) (by omega))⟩
/-- the bounds on intervals: fl -/
theorem bin_add_li {a b i : Int} (ha : Sm a (2 ^ 52)) (hb : Sm b (2 ^ 52)) (hi : Sm i (2 ^ 26)) : BinR P .Add (.fl a b) (.int i) (.fl (a + i * 2 ^ 25) (b + i * 2 ^ 25)) := .mk fun A s v u rm _ tp r q => by
  cases r; cases q; rename_i x t hx tt
  exact add_fi_fits (fits_of (by omega)) ⟨keeps_tok s _, .fl _ (hx.add (FlIs.ofInt (by omega)) (by omega) (by omega))⟩
theorem bin_sub_il {a b i : Int} (ha : Sm a (2 ^ 52)) (hb : Sm b (2 ^ 52)) (hi : Sm i (2 ^ 26)) : BinR P .Sub (.int i) (.fl a b) (.fl (i * 2 ^ 25 - b) (i * 2 ^ 25 - a)) := .mk fun A s v u rm _ tp r q => by
  cases q; cases r; rename_i x t hx tt
  exact sub_if_fits (fits_of (by omega)) ⟨keeps_tok s _, .fl _ ((FlIs.ofInt (by omega)).sub hx (by omega) (by omega))⟩
theorem inp_add_fi {n i : Int} (hn : Sm n (2 ^ 28)) (hi : Sm i (2 ^ 26)) : InpR P .Add (.fx n) (.int i) (.fx (n + 2 * i)) := .mk fun A s v u rm _ tp r q => by
  cases r; cases q; rename_i x t hx tt
  exact Flt.iadd_fi rm.hd (fun g => absurd g (not_over (by omega))) fun _ => ⟨keeps_tok s _, .fx tp ((hx.add (FlIs.ofInt (by omega)) (by omega) (by omega)).cast (by omega) (by omega))⟩
theorem inp_sub_fi {n i : Int} (hn : Sm n (2 ^ 28)) (hi : Sm i (2 ^ 26)) : InpR P .Sub (.fx n) (.int i) (.fx (n - 2 * i)) := .mk fun A s v u rm _ tp r q => by
  cases r; cases q; rename_i x t hx tt
  exact Flt.isub_fi rm.hd (fun g => absurd g (not_over (by omega))) fun _ => ⟨keeps_tok s _, .fx tp ((hx.sub (FlIs.ofInt (by omega)) (by omega) (by omega)).cast (by omega) (by omega))⟩
theorem inp_add_ff {n i : Int} (hn : Sm n (2 ^ 27)) (hi : Sm i (2 ^ 27)) : InpR P .Add (.fx n) (.fx i) (.fx (n + i)) := .mk fun A s v u rm _ tp r q => by
  cases r; cases q; rename_i x t ht hx y t' ht' hy
  exact iadd_float ⟨keeps_tok s _, .fx tp ((hx.add hy (by omega) (by omega)).cast (by omega) (by omega))⟩


theorem bin_mul_fi {n i : Int} (h0 : 0 ≤ i) (hi : i < 2 ^ 26) (h : Sm (n * i) (2 ^ 28)) : BinR P .Mult (.fx n) (.int i) (.fx (n * i)) := .mk fun A s v u rm _ tp r q => by
  cases r; cases q; rename_i x t hx tt
  refine mul_fi_fits (fits_of (by omega)) ⟨keeps_tok s _, .fx tp (hx.mul (FlIs.ofInt (i := i) (by omega)) (by omega) (Int.le_of_eq ?_) (Int.le_of_eq ?_) (by omega) (by omega))⟩ <;> ac_rfl
theorem bin_mul_if {n i : Int} (h0 : 0 ≤ n) (hi : Sm i (2 ^ 26)) (h : Sm (i * n) (2 ^ 28)) : BinR P .Mult (.int i) (.fx n) (.fx (i * n)) := .mk fun A s v u rm _ tp r q => by
  cases q; cases r; rename_i x t hx tt
  refine mul_if_fits (fits_of (by omega)) ⟨keeps_tok s _, .fx tp ((FlIs.ofInt (i := i) (by omega)).mul hx (by omega) (Int.le_of_eq ?_) (Int.le_of_eq ?_) (by omega) (by omega))⟩ <;> ac_rfl
theorem bin_mul_li {a b i : Int} (h0 : 0 ≤ i) (hi : i < 2 ^ 26) (h1 : Sm (a * i) (2 ^ 52)) (h2 : Sm (b * i) (2 ^ 52)) : BinR P .Mult (.fl a b) (.int i) (.fl (a * i) (b * i)) := .mk fun A s v u rm _ tp r q => by
  cases r; cases q; rename_i x t hx tt
  refine mul_fi_fits (fits_of (by omega)) ⟨keeps_tok s _, .fl _ (hx.mul (FlIs.ofInt (i := i) (by omega)) (by omega) (Int.le_of_eq ?_) (Int.le_of_eq ?_) (by omega) (by omega))⟩ <;> ac_rfl

theorem q_bounds {n d : Int} (hd : 0 < d) (hn : Sm n (2 ^ 27)) : -2 ^ 53 < n * 2 ^ 25 / d ∧ -((-(n * 2 ^ 25)) / d) < 2 ^ 53 := by
  constructor
  · have : -2 ^ 52 ≤ n * 2 ^ 25 / d := by
      rw [Int.le_ediv_iff_mul_le hd]
      have : (2 : Int) ^ 52 * 1 ≤ 2 ^ 52 * d := Int.mul_le_mul_of_nonneg_left (by omega) (by decide)
      omega
    omega
  · have : -2 ^ 52 ≤ (-(n * 2 ^ 25)) / d := by
      rw [Int.le_ediv_iff_mul_le hd]
      have : (2 : Int) ^ 52 * 1 ≤ 2 ^ 52 * d := Int.mul_le_mul_of_nonneg_left (by omega) (by decide)
      omega
    omega
theorem bin_div_ii {n d : Int} (hd : 0 < d) (hn : Sm n (2 ^ 27)) : BinR P .Div (.int n) (.int d) (.q n d) := .mk fun A s v u rm _ tp r q => by
  cases r; cases q
  exact Flt.div_ii_fits rm.hd (fits_of (by omega)) (fun g => by omega) fun _ _ => ⟨keeps_tok s _, .q _ (FlIs.ofFrac hd (fdn hd) (cup hd) (q_bounds hd hn).1 (q_bounds hd hn).2)⟩
theorem q_bounds2 {n d : Int} (hd : 0 < d) (hn : Sm n (2 ^ 28)) : -2 ^ 53 < n * 2 ^ 25 / (2 * d) ∧ -((-(n * 2 ^ 25)) / (2 * d)) < 2 ^ 53 := by
  have h9 : (2 : Int) ^ 52 * 1 ≤ 2 ^ 52 * d := Int.mul_le_mul_of_nonneg_left (by omega) (by decide)
  have e9 : (2 : Int) ^ 52 * (2 * d) = 2 * (2 ^ 52 * d) := by ac_rfl
  constructor
  · have : -2 ^ 52 ≤ n * 2 ^ 25 / (2 * d) := by
      rw [Int.le_ediv_iff_mul_le (by omega), Int.neg_mul, e9]; omega
    omega
  · have : -2 ^ 52 ≤ (-(n * 2 ^ 25)) / (2 * d) := by
      rw [Int.le_ediv_iff_mul_le (by omega), Int.neg_mul, e9]; omega
    omega
theorem bin_div_fi {n d : Int} (hd : 0 < d) (hd' : d < 2 ^ 26) (hn : Sm n (2 ^ 28)) : BinR P .Div (.fx n) (.int d) (.q n (2 * d)) := .mk fun A s v u rm _ tp r q => by
  cases r; cases q; rename_i x t hx tt
  have h2d : 0 < 2 * d := by omega
  refine Flt.truediv_fi rm.hd (fun g => absurd g (not_over (by omega))) (fun g => by omega) fun _ _ => ⟨keeps_tok s _, .q _ (hx.div (FlIs.ofInt (i := d) (by omega)) (by omega) ?_ ?_ (q_bounds2 hd hn).1 (q_bounds2 hd hn).2)⟩
  · have h1 := fdn (a := n * 2 ^ 25) h2d
    have e : n * 2 ^ 25 / (2 * d) * (d * 2 ^ 25) = n * 2 ^ 25 / (2 * d) * (2 * d) * 2 ^ 24 := by
      rw [show d * 2 ^ 25 = 2 * d * 2 ^ 24 by omega]; ac_rfl
    rw [e]; omega
  · have h1 := cup (a := n * 2 ^ 25) h2d
    have e : -((-(n * 2 ^ 25)) / (2 * d)) * (d * 2 ^ 25) = -((-(n * 2 ^ 25)) / (2 * d)) * (2 * d) * 2 ^ 24 := by
      rw [show d * 2 ^ 25 = 2 * d * 2 ^ 24 by omega]; ac_rfl
    rw [e]; omega
theorem bin_div_ff {n d : Int} (hd : 0 < d) (hd' : d < 2 ^ 26) (hn : Sm n (2 ^ 27)) : BinR P .Div (.fx n) (.fx d) (.q n d) := .mk fun A s v u rm _ tp r q => by
  cases r; cases q; rename_i x t ht hx y t' ht' hy
  refine truediv_float_or rm.hd (fun g => absurd g (by rw [hy.notZero (by omega)]; decide)) fun _ => ⟨keeps_tok s _, .q _ (hx.div hy (by omega) ?_ ?_ (q_bounds hd hn).1 (q_bounds hd hn).2)⟩
  · have h1 := fdn (a := n * 2 ^ 25) hd
    have e : n * 2 ^ 25 / d * (d * 2 ^ 24) = n * 2 ^ 25 / d * d * 2 ^ 24 := by ac_rfl
    rw [e]; omega
  · have h1 := cup (a := n * 2 ^ 25) hd
    have e : -((-(n * 2 ^ 25)) / d) * (d * 2 ^ 24) = -((-(n * 2 ^ 25)) / d) * d * 2 ^ 24 := by ac_rfl
    rw [e]; omega
/-- lo and hi as the caller says -/
theorem bin_div_ll {a b c d lo hi : Int} (hc : 0 < c) (h0 : 0 ≤ lo) (h0' : 0 ≤ hi) (h1 : lo * d ≤ a * 2 ^ 25) (h2 : b * 2 ^ 25 ≤ hi * c) (hl : hi < 2 ^ 53) : BinR P .Div (.fl a b) (.fl c d) (.fl lo hi) := .mk fun A s v u rm _ tp r q => by
  cases r; cases q; rename_i x t hx y t' hy
  exact truediv_float_or rm.hd (fun g => absurd g (by rw [hy.notZero hc]; decide)) fun _ => ⟨keeps_tok s _, .fl _ (hx.divI hy hc h0 h0' h1 h2 (by omega) hl)⟩
theorem bin_div_il {i c d lo hi : Int} (hi' : Sm i (2 ^ 27)) (hc : 0 < c) (h0 : 0 ≤ lo) (h0' : 0 ≤ hi) (h1 : lo * d ≤ i * 2 ^ 25 * 2 ^ 25) (h2 : i * 2 ^ 25 * 2 ^ 25 ≤ hi * c) (hl : hi < 2 ^ 53) : BinR P .Div (.int i) (.fl c d) (.fl lo hi) := .mk fun A s v u rm _ tp r q => by
  cases q; cases r; rename_i x t hx tt
  exact Flt.truediv_if rm.hd (fun g => absurd g (not_over (by omega))) (fun _ g => absurd g (by rw [hx.notZero hc]; decide)) fun _ _ => ⟨keeps_tok s _, .fl _ ((FlIs.ofInt (i := i) (by omega)).divI hx hc h0 h0' h1 h2 (by omega) hl)⟩
theorem bin_add_qi {n d i : Int} (hd : 0 < d) (hn : Sm n (2 ^ 26)) (hi : Sm i (2 ^ 25)) : BinR P .Add (.q n d) (.int i) (.fl (n * 2 ^ 25 / d + i * 2 ^ 25) (-((-(n * 2 ^ 25)) / d) + i * 2 ^ 25)) := .mk fun A s v u rm _ tp r q => by
  cases r; cases q; rename_i x t hx tt
  have hb : -2 ^ 51 ≤ n * 2 ^ 25 / d ∧ -((-(n * 2 ^ 25)) / d) ≤ 2 ^ 51 := by
    have h9 : (2 : Int) ^ 51 * 1 ≤ 2 ^ 51 * d := Int.mul_le_mul_of_nonneg_left (by omega) (by decide)
    constructor
    · rw [Int.le_ediv_iff_mul_le hd]; omega
    · have : -2 ^ 51 ≤ (-(n * 2 ^ 25)) / d := by rw [Int.le_ediv_iff_mul_le hd]; omega
      omega
  exact add_fi_fits (fits_of (by omega)) ⟨keeps_tok s _, .fl _ (hx.add (FlIs.ofInt (by omega)) (by omega) (by omega))⟩
theorem bin_mod_fi {n d : Int} (h0 : 0 ≤ n) (hd : 0 < d) (hd' : d < 2 ^ 26) : BinR P .Mod (.fx n) (.int d) (.fx (n % (2 * d))) := .mk fun A s v u rm _ tp r q => by
  cases r; cases q; rename_i x t hx tt
  refine Flt.mod_fi rm.hd (fun g => absurd g (not_over (by omega))) (fun g => by omega) fun _ _ => ⟨keeps_tok s _, .fx tp ((hx.mod (FlIs.ofInt (i := d) (by omega)) (by omega) (by omega) (by omega)).cast ?_ ?_)⟩ <;>
  · rw [show d * 2 ^ 25 = 2 ^ 24 * (2 * d) by omega, Int.mul_comm n, Int.mul_emod_mul_of_pos _ _ (by decide), Int.mul_comm]

theorem un_neg_i {i : Int} : UnR P .USub (.int i) (.int (-i)) := .mk fun A s v rm _ tp r => by
  cases r; exact neg_int ⟨keeps_tok s _, .int ..⟩

/- comparisons -/
theorem cmp_bool {x y : Bool} {v : Value} {s s' : Shared} (h : x = y) (hk : Keeps s s') : PostE (.bool y) s (.bool x) s' := ⟨hk, h ▸ .bool _⟩
theorem cmp_eq_ii {a b : Int} : CmpR P .Eq (.int a) (.int b) (decide (a = b)) := .mk fun A s v u rm _ tp r q => by
  cases r; cases q; exact eq_int (cmp_bool (v := .none) (by by_cases h : a = b <;> simp [h]) (keeps_refl s))
theorem cmp_ne_ii {a b : Int} : CmpR P .NotEq (.int a) (.int b) (decide (a ≠ b)) := .mk fun A s v u rm _ tp r q => by
  cases r; cases q; exact ne_int (cmp_bool (v := .none) (by by_cases h : a = b <;> simp [h]) (keeps_refl s))
theorem cmp_lt_ii {a b : Int} : CmpR P .Lt (.int a) (.int b) (decide (a < b)) := .mk fun A s v u rm _ tp r q => by
  cases r; cases q; exact lt_int (cmp_bool (v := .none) rfl (keeps_refl s))
theorem cmp_le_ii {a b : Int} : CmpR P .LtE (.int a) (.int b) (decide (a ≤ b)) := .mk fun A s v u rm _ tp r q => by
  cases r; cases q; exact le_int (cmp_bool (v := .none) rfl (keeps_refl s))
theorem cmp_gt_ii {a b : Int} : CmpR P .Gt (.int a) (.int b) (decide (b < a)) := .mk fun A s v u rm _ tp r q => by
  cases r; cases q; exact gt_int (cmp_bool (v := .none) rfl (keeps_refl s))
theorem cmp_ge_ii {a b : Int} : CmpR P .GtE (.int a) (.int b) (decide (b ≤ a)) := .mk fun A s v u rm _ tp r q => by
  cases r; cases q; exact ge_int (cmp_bool (v := .none) rfl (keeps_refl s))
theorem ord_lt {a b : Int} : (some (compare a b) == some Ordering.lt) = decide (a < b) := by
  rcases Int.lt_trichotomy a b with h | h | h
  · rw [Int.compare_eq_lt.mpr h]; simp [h]
  · subst h; simp
  · rw [Int.compare_eq_gt.mpr h]; simp; omega
theorem ord_eq {a b : Int} : (some (compare a b) == some Ordering.eq) = decide (a = b) := by
  rcases Int.lt_trichotomy a b with h | h | h
  · rw [Int.compare_eq_lt.mpr h]; simp; omega
  · subst h; simp
  · rw [Int.compare_eq_gt.mpr h]; simp; omega
theorem cmp_lt_fi {n i : Int} : CmpR P .Lt (.fx n) (.int i) (decide (n < 2 * i)) := .mk fun A s v u rm _ tp r q => by
  cases r; cases q; rename_i x t hx tt
  exact lt_fi (cmp_bool (v := .none) (by rw [hx.cmpInt, ord_lt]; apply decide_eq_decide.mpr; omega) (keeps_refl s))
theorem cmp_eq_fi {n i : Int} : CmpR P .Eq (.fx n) (.int i) (decide (n = 2 * i)) := .mk fun A s v u rm _ tp r q => by
  cases r; cases q; rename_i x t hx tt
  exact eq_fi (cmp_bool (v := .none) (by rw [hx.cmpInt, ord_eq]; apply decide_eq_decide.mpr; omega) (keeps_refl s))
theorem cmp_eq_ss {x y : Str} : CmpR P .Eq (.str x) (.str y) (x == y) := .mk fun A s v u rm _ tp r q => by
  cases r; cases q; exact eq_str (cmp_bool (v := .none) rfl (keeps_refl s))
theorem cmp_eq_ns {y : Str} : CmpR P .Eq .none (.str y) false := .mk fun A s v u rm _ tp r q => by
  cases r; cases q; exact EqNone.eq_none_str (cmp_bool (v := .none) rfl (keeps_refl s))
theorem cmp_isnot_none {d : D} {b : Bool} (hd : ∀ h v, Rep h d v → (!(v == Value.none)) = b) : CmpR P .IsNot d .none b := .mk fun A s v u rm _ tp r q => by
  cases q; exact isNot_none (cmp_bool (v := .none) (hd _ _ r) (keeps_refl s))
theorem cmp_isnot_i {i : Int} : CmpR P .IsNot (.int i) .none true := cmp_isnot_none fun h v r => by cases r; rfl
theorem cmp_isnot_n : CmpR P .IsNot .none .none false := cmp_isnot_none fun h v r => by cases r; rfl

/- scalars in lists -/
def scal : D → Bool
  | .none | .int _ | .fx tp => true
  | _ => false
def eqS : D → D → Bool
  | .none, .none => true
  | .int a, .int b => decide (a = b)
  | .fx a, .fx b => decide (a = b)
  | _, _ => false
def flt : D → Bool
  | .fx tp => true
  | _ => false
theorem EqAt_float {P : PK} {A : Around} {s : Shared} {x y : UInt64} {t u : Tok} {n : Int} (B : Keep P.B s.heap) (ht : 0 < t) (hu : 0 < u) (hx : FlIs x n n) (hy : FlIs y n n) : EqAt A s (.float x t) (.float y u) true := fun prog w E Q h => by
  unfold eqBool
  refine wpAny_holding ?_
  refine wpAny_ite_split (fun _ => wpAny_bind (wpAny_rule (wpAny_pure h))) (fun _ => ?_)
  have rest : wpAny (model prog w) A (richCompare .Eq (.float x t) (.float y u) >>= fun r => truthOfDropped r) Q E s :=
    wpAny_bind (cmp_ofEq' (AutoFloatOps.eq_0 (by
      show wpAny _ _ (truthOfDropped (.bool _)) Q E s
      exact wpAny_truthy_bool (by rw [hx.cmp hy, ord_eq]; simpa using h))))
  have cases2 : ∀ b : Bool, wpAny (model prog w) A (if b = true then pure true else (richCompare .Eq (.float x t) (.float y u) >>= fun r => truthOfDropped r)) Q E s := fun b => by
    cases b with
    | true => exact wpAny_pure h
    | false => exact rest
  obtain ⟨mc, hns, hno⟩ := P.st
  have hns' := hns.keeps B
  have told : ∀ (tt : Tok) {Q' : Bool → Shared → Prop} {E' : Value → Shared → Prop}, Q' false s → wpAny (model prog w) A (sharingNotTold tt) Q' E' s := fun tt Q' E' q => by
    unfold sharingNotTold
    refine wpAny_bind (wpAny_nsGet hns' ?_)
    rw [hno]
    exact wpAny_pure q
  show wpAny (model prog w) A (isSame (.float x t) (.float y u) >>= _) Q E s
  refine wpAny_bind ?_
  show wpAny (model prog w) A (isSame.created (x == y && !Float64.isNaN x) t u) _ E s
  unfold isSame.created
  rw [if_neg (by simp only [Bool.or_eq_true, beq_iff_eq]; rintro (g | g); exact absurd g (Nat.ne_of_gt ht); exact absurd g (Nat.ne_of_gt hu))]
  refine wpAny_ite_split (fun _ => wpAny_pure (cases2 true)) (fun _ => ?_)
  refine wpAny_ite_split (fun _ => wpAny_pure (cases2 false)) (fun _ => ?_)
  refine wpAny_bind (told t ?_)
  simp only [Bool.false_eq_true, if_false]
  refine wpAny_bind (told u ?_)
  simp only [Bool.false_eq_true, if_false]
  exact wpAny_bind (wpAny_rule (wpAny_bind (wpAny_askSetting (wpAny_pure (cases2 _)))))
where
  cmp_ofEq' {M : Model} {A : Around} {E : Value → Shared → Prop} {s : Shared} {a b : Value} {Q : Value → Shared → Prop} (h : wpAny M A (compareOp .Eq a b) Q E s) : wpAny M A (richCompare .Eq a b) Q E s := h
/-- floats: equal ones alone -/
theorem eqAt_of {P : PK} {A : Around} {s : Shared} {h : Heap} {a b : D} {v u : Value} (B : Keep P.B s.heap) (ha : Rep h a v) (hb : Rep h b u) (sa : scal a = true) (sb : scal b = true) (hf : flt a = true → a = b) (hf' : flt b = true → a = b) : EqAt A s v u (eqS a b) := by
  cases ha <;> simp only [scal, Bool.false_eq_true] at sa <;> cases hb <;> simp only [scal, Bool.false_eq_true] at sb <;> (try (simp only [flt, Bool.false_eq_true, Bool.true_eq_false, true_implies, reduceCtorEq] at hf hf'))
  · exact EqAt.same _
  · exact @EqAt.none_int A s _ _
  · exact @EqAt.int_none A s _ _
  · rename_i i t j u
    have := @EqAt.int_int A s i t j u
    have e : (i == j) = decide (i = j) := by by_cases g : i = j <;> simp [g]
    rw [e] at this; exact this
  · rename_i x n t ht hx y m u hu hy
    have e : n = m := by injection hf
    subst e
    have := EqAt_float (A := A) B ht hu hx hy
    simpa [eqS] using this
end
section
open PySem PySem.W PyProof.Rows PySem.Calls PySem.SeqAt

variable {P : PK} {k : Nat} {sc : Scope} {ρ : List (Str × D)}

def Own (env : Env) (b : Addr) : Prop := b = env.locals ∨ ∃ x, (x, b) ∈ env.cells
/-- all but the frame's own objects stay -/
def KeepB (env : Env) (s s' : Shared) : Prop := ∃ h' tk, s' = { s with heap := h', toks := tk } ∧ ∀ b o, ¬ Own env b → s.heap.get? b = some o → h'.get? b = some o
theorem KeepB.of {env : Env} {s s' : Shared} (h : Keeps s s') : KeepB env s s' := by
  obtain ⟨h', tk, e, k⟩ := h; exact ⟨h', tk, e, fun b o _ q => k b o q⟩
theorem KeepB.refl (env : Env) (s : Shared) : KeepB env s s := .of (keeps_refl s)
theorem KeepB.trans {env : Env} {s₁ s₂ s₃ : Shared} (a : KeepB env s₁ s₂) (b : KeepB env s₂ s₃) : KeepB env s₁ s₃ := by
  obtain ⟨h', tk, rfl, k⟩ := a
  obtain ⟨h'', tk', rfl, k'⟩ := b
  exact ⟨h'', tk', rfl, fun b o n q => k' b o n (k b o n q)⟩

inductive Out where
  | next (ρ : List (Str × D)) | cont (ρ : List (Str × D)) | ret (d : D)
def OutOK (P : PK) (env : Env) (o : Out) (fl : Flow) (s' : Shared) : Prop := match o with
  | .next ρ => fl = .next ∧ St P env ρ s'
  | .cont ρ => fl = .cont ∧ St P env ρ s'
  | .ret d => ∃ v, fl = .ret v ∧ Rep s'.heap d v

/-- one statement -/
structure Ex1 (P : PK) (k : Nat) (sc : Scope) (ρ : List (Str × D)) (st : Stmt) (o : Out) : Prop where
  run : ∀ (A : Around) (env : Env) (s : Shared), Room k A → EnvOK env sc → St P env ρ s → wpAny (model P.prog P.w) A (exec st env) (fun fl s' => KeepB env s s' ∧ OutOK P env o fl s') NoE s
structure Ex (P : PK) (k : Nat) (sc : Scope) (ρ : List (Str × D)) (sts : List Stmt) (o : Out) : Prop where
  run : ∀ (A : Around) (env : Env) (s : Shared), Room k A → EnvOK env sc → St P env ρ s → wpAny (model P.prog P.w) A (execs sts env) (fun fl s' => KeepB env s s' ∧ OutOK P env o fl s') NoE s

theorem execs_cons_wp {M : Model} {A : Around} {E : Value → Shared → Prop} {s : Shared} {env : Env} {st : Stmt} {rest : List Stmt} {Q : Flow → Shared → Prop}
    (h : wpAny M A (exec st env) (fun fl s₁ => match fl with | .next => wpAny M A (execs rest env) Q E s₁ | f => Q f s₁) E s) : wpAny M A (execs (st :: rest) env) Q E s := by
  rw [execs_cons]
  refine wpAny_bind (wpAny_mono h (fun fl s₁ h₁ => ?_) fun _ _ x => x)
  cases fl <;> first | exact h₁ | exact wpAny_pure h₁

theorem Ex.nil : Ex P k sc ρ [] (.next ρ) := .mk fun A env s _ _ S => wpAny_execs_nil ⟨KeepB.refl env s, rfl, S⟩
theorem Ex.cons {st : Stmt} {rest : List Stmt} {ρ' : List (Str × D)} {o : Out} (h : Ex1 P k sc ρ st (.next ρ')) (hr : Ex P k sc ρ' rest o) : Ex P k sc ρ (st :: rest) o :=
  .mk fun A env s rm ok S => execs_cons_wp (ev_mono (h.run A env s rm ok S) fun fl s₁ h₁ => by
    obtain ⟨k₁, rfl, S₁⟩ := h₁
    exact ev_mono (hr.run A env s₁ rm ok S₁) fun fl s₂ h₂ => ⟨k₁.trans h₂.1, h₂.2⟩)
theorem Ex.ret {st : Stmt} {rest : List Stmt} {d : D} (h : Ex1 P k sc ρ st (.ret d)) : Ex P k sc ρ (st :: rest) (.ret d) :=
  .mk fun A env s rm ok S => execs_cons_wp (ev_mono (h.run A env s rm ok S) fun fl s₁ h₁ => by
    obtain ⟨k₁, v, rfl, r⟩ := h₁
    exact ⟨k₁, v, rfl, r⟩)
theorem Ex.cont {st : Stmt} {rest : List Stmt} {ρ' : List (Str × D)} (h : Ex1 P k sc ρ st (.cont ρ')) : Ex P k sc ρ (st :: rest) (.cont ρ') :=
  .mk fun A env s rm ok S => execs_cons_wp (ev_mono (h.run A env s rm ok S) fun fl s₁ h₁ => by
    obtain ⟨k₁, rfl, S₁⟩ := h₁
    exact ⟨k₁, rfl, S₁⟩)

theorem lookup_cons {x y : Str} {d : D} : List.lookup y ((x, d) :: ρ) = if y = x then some d else ρ.lookup y := by
  rw [List.lookup_cons]
  by_cases h : y = x
  · subst h; simp
  · have : (y == x) = false := by simpa using h
    rw [this, if_neg h]

theorem seqKeep_same {a : Addr} {h h' : Heap} (hs : Heap.SameBut a h h') (ha : ∀ o xs n, h.get? a = some o → o.data ≠ .seq xs n) : SeqKeep h h' := fun b o xs n e q => by
  by_cases hb : b = a
  · subst hb; exact absurd q (ha o xs n e)
  · exact (hs.2 b hb).trans e

theorem store {x : Str} {v : Value} {d : D} {A : Around} {env : Env} {s : Shared} (ok : EnvOK env sc) (S : St P env ρ s) (hx : sc.names.lookup x = some .local ∨ sc.names.lookup x = some .cell ∧ ∃ c, env.cells.lookup x = some c) (r : Rep s.heap d v) :
    wpAny (model P.prog P.w) A (storeName env x v) (fun _ s' => KeepB env s s' ∧ St P env ((x, d) :: ρ) s') NoE s := by
  obtain ⟨F, tp⟩ := S
  have hkind : env.scope.kind = .function := by rw [ok.scope]; exact ok.kind
  have hko : ∀ y, env.kindOf y = sc.names.lookup y := fun y => by unfold Env.kindOf; rw [ok.scope]
  obtain ⟨m, hm, hv⟩ := F.ns
  have hLc : ∀ c v₀, s.heap.IsCell c v₀ → env.locals ≠ c := fun c v₀ hc e => by
    subst e
    obtain ⟨o, es, ep, ho, hd, _⟩ := hm
    obtain ⟨o', ho', hd'⟩ := hc
    rw [ho] at ho'; cases ho'
    rw [hd] at hd'; cases hd'
  rcases hx with hx | ⟨hx, c, hc⟩
  · refine wpAny_storeName_local (by rw [hko]; exact hx) hm (fun h' hn' hs' => ?_) (by rw [hkind]; rfl)
    have sk : SeqKeep s.heap h' := seqKeep_same hs' fun o xs n e q => by
      obtain ⟨o', es, ep, ho, hd, _⟩ := hm
      rw [ho] at e; cases e
      rw [hd] at q; cases q
    refine ⟨⟨h', _, rfl, fun b o nb e => hs'.extBut b o (fun q => nb (.inl q)) e⟩, ⟨⟨?_, ⟨_, hn', ?_⟩, ?_, ?_, ?_, F.apart, F.fresh⟩, Nat.succ_pos _⟩⟩
    · intro b o e
      refine hs'.extBut b o (fun q => ?_) (F.base b o e)
      subst q; rw [F.fresh] at e; cases e
    · intro y e hy hk
      rw [lookup_cons] at hy
      by_cases h : y = x
      · rw [if_pos h] at hy; cases hy
        exact ⟨v, if_pos h, r.mono sk⟩
      · rw [if_neg h] at hy
        obtain ⟨u, h1, h2⟩ := hv y e hy hk
        exact ⟨u, by rw [if_neg h]; exact h1, h2.mono sk⟩
    · intro y e hy
      rw [lookup_cons] at hy
      by_cases h : y = x
      · subst h; exact .inl (by rw [hko]; exact hx)
      · rw [if_neg h] at hy; exact F.kinds y e hy
    · intro y e hy hk
      rw [lookup_cons] at hy
      by_cases h : y = x
      · subst h; rw [hko, hx] at hk; cases hk
      · rw [if_neg h] at hy
        obtain ⟨c, u, h1, h2, h3⟩ := F.cells y e hy hk
        exact ⟨c, u, h1, h2.sameBut hs' (Ne.symm (hLc _ _ h2)), h3.mono sk⟩
    · intro y c hc
      obtain ⟨⟨u, h1⟩, h2⟩ := F.allcells y c hc
      exact ⟨⟨u, h1.sameBut hs' (Ne.symm (hLc _ _ h1))⟩, h2⟩
  · have hmem := mem_of_lookup hc
    obtain ⟨⟨v₀, hv₀⟩, hfr⟩ := F.allcells x c hmem
    refine wpAny_storeName_cell hkind (by rw [hko]; exact hx) hc hv₀ (fun h' hc' hs' => ?_)
    have sk : SeqKeep s.heap h' := seqKeep_same hs' fun o xs n e q => by
      obtain ⟨o', ho, hd⟩ := hv₀
      rw [ho] at e; cases e
      rw [hd] at q; cases q
    refine ⟨⟨h', _, rfl, fun b o nb e => hs'.extBut b o (fun q => nb (.inr ⟨x, q ▸ hmem⟩)) e⟩, ⟨⟨?_, ⟨m, hm.sameBut hs' (hLc _ _ hv₀), ?_⟩, ?_, ?_, ?_, F.apart, F.fresh⟩, tp⟩⟩
    · intro b o e
      refine hs'.extBut b o (fun q => ?_) (F.base b o e)
      subst q; rw [hfr] at e; cases e
    · intro y e hy hk
      rw [lookup_cons] at hy
      by_cases h : y = x
      · subst h; rw [hko, hx] at hk; cases hk
      · rw [if_neg h] at hy
        obtain ⟨u, h1, h2⟩ := hv y e hy hk
        exact ⟨u, h1, h2.mono sk⟩
    · intro y e hy
      rw [lookup_cons] at hy
      by_cases h : y = x
      · subst h; exact .inr (by rw [hko]; exact hx)
      · rw [if_neg h] at hy; exact F.kinds y e hy
    · intro y e hy hk
      rw [lookup_cons] at hy
      by_cases h : y = x
      · subst h; rw [if_pos rfl] at hy; cases hy
        exact ⟨c, v, hc, hc', r.mono sk⟩
      · rw [if_neg h] at hy
        obtain ⟨c', u, h1, h2, h3⟩ := F.cells y e hy hk
        exact ⟨c', u, h1, h2.sameBut hs' (fun q => h (name_of_addr F.apart (mem_of_lookup h1) (q ▸ hmem))), h3.mono sk⟩
    · intro y c' hy
      obtain ⟨⟨u, h1⟩, h2⟩ := F.allcells y c' hy
      by_cases q : c' = c
      · subst q; exact ⟨⟨_, hc'⟩, h2⟩
      · exact ⟨⟨u, h1.sameBut hs' q⟩, h2⟩

/-- where a name may be stored: a local -/
theorem stL {x : Str} (h : sc.names.lookup x = some .local) : ∀ env : Env, EnvOK env sc → sc.names.lookup x = some .local ∨ sc.names.lookup x = some .cell ∧ ∃ c, env.cells.lookup x = some c := fun _ _ => .inl h

theorem Ex1.assign {x : Str} {p pos : Pos} {e : Expr} {d : D} (he : Ev P k sc ρ e d) (hx : sc.names.lookup x = some .local := by rfl) (hs : ∀ env, swapsWith e (some (.Name x p)) pos.line env = pure false := by intro _; rfl) :
    Ex1 P k sc ρ (.Assign [.Name x p] e pos) (.next ((x, d) :: ρ)) :=
  .mk fun A env s rm ok S => wpAny_Assign_Name (ev_seq S (he.run A env s rm ok S) fun v s₁ k₁ r₁ S₁ => ev_mono (store ok S₁ (.inl hx) r₁) fun _ s₂ h₂ => ⟨(KeepB.of k₁).trans h₂.1, rfl, h₂.2⟩) (hs env)
theorem Ex1.assignC {x : Str} {p pos : Pos} {e : Expr} {d : D} (he : Ev P k sc ρ e d) (hx : sc.names.lookup x = some .cell := by rfl) (hs : ∀ env, swapsWith e (some (.Name x p)) pos.line env = pure false := by intro _; rfl) :
    Ex1 P k sc ρ (.Assign [.Name x p] e pos) (.next ((x, d) :: ρ)) :=
  .mk fun A env s rm ok S => wpAny_Assign_Name (ev_seq S (he.run A env s rm ok S) fun v s₁ k₁ r₁ S₁ => ev_mono (store ok S₁ (.inr ⟨hx, ok.cells _ hx⟩) r₁) fun _ s₂ h₂ => ⟨(KeepB.of k₁).trans h₂.1, rfl, h₂.2⟩) (hs env)
theorem Ex1.aug {x : Str} {p pos : Pos} {op : Operator} {e : Expr} {a b d : D} (ha : ρ.lookup x = some a) (he : Ev P k sc ρ e b) (h : InpR P op a b d) (hx : sc.names.lookup x = some .local := by rfl) (hd : (x == ("__debug__" : Str)) = false := by decide) :
    Ex1 P k sc ρ (.AugAssign (.Name x p) op e pos) (.next ((x, d) :: ρ)) :=
  .mk fun A env s rm ok S => by
    obtain ⟨m, hm, hv⟩ := S.F.ns
    have hk : env.kindOf x = some .local := by unfold Env.kindOf; rw [ok.scope]; exact hx
    obtain ⟨v, h1, h2⟩ := hv x a ha hk
    refine wpAny_AugAssign_Name (wpAny_loadName_local (by rw [ok.scope]; exact ok.kind) hk hm h1 ?_)
    exact ev_seq S (he.run A env s rm ok S) fun u s₁ k₁ r₁ S₁ => ev_seq S₁ (h.run A s₁ v u (rm.le (Nat.zero_le _)) S₁.F.base S₁.tp (h2.mono (kk k₁).seq) r₁) fun y s₂ k₂ r₂ S₂ =>
      ev_mono (store ok S₂ (.inl hx) r₂) fun _ s₃ h₃ => ⟨(KeepB.of (keeps_trans k₁ k₂)).trans h₃.1, rfl, h₃.2⟩
theorem Ex1.return {e : Expr} {pos : Pos} {d : D} (he : Ev P k sc ρ e d) : Ex1 P k sc ρ (.Return (some e) pos) (.ret d) :=
  .mk fun A env s rm ok S => wpAny_Return_some (ev_mono (he.run A env s rm ok S) fun v s₁ h₁ => ⟨.of h₁.1, v, rfl, h₁.2⟩)
theorem Ex1.if_t {test : Expr} {body orelse : List Stmt} {pos : Pos} {o : Out} (ht : EvT P k sc ρ test true) (h : Ex P k sc ρ body o) : Ex1 P k sc ρ (.If test body orelse pos) o :=
  .mk fun A env s rm ok S => wpAny_If (ev_seq S (ht.run A env s rm ok S) fun b s₁ k₁ r₁ S₁ => by
    rw [r₁]; exact ev_mono (h.run A env s₁ rm ok S₁) fun fl s₂ h₂ => ⟨(KeepB.of k₁).trans h₂.1, h₂.2⟩)
theorem Ex1.if_f {test : Expr} {body orelse : List Stmt} {pos : Pos} {o : Out} (ht : EvT P k sc ρ test false) (h : Ex P k sc ρ orelse o) : Ex1 P k sc ρ (.If test body orelse pos) o :=
  .mk fun A env s rm ok S => wpAny_If (ev_seq S (ht.run A env s rm ok S) fun b s₁ k₁ r₁ S₁ => by
    rw [r₁]; exact ev_mono (h.run A env s₁ rm ok S₁) fun fl s₂ h₂ => ⟨(KeepB.of k₁).trans h₂.1, h₂.2⟩)
theorem Ex1.continue {pos : Pos} : Ex1 P k sc ρ (.Continue pos) (.cont ρ) := .mk fun A env s rm ok S => wpAny_Continue ⟨KeepB.refl env s, rfl, S⟩
theorem Ex1.assert {test : Expr} {msg : Option Expr} {pos : Pos} (ht : EvT P k sc ρ test true) : Ex1 P k sc ρ (.Assert test msg pos) (.next ρ) :=
  .mk fun A env s rm ok S => wpAny_Assert_holds (ev_seq S (ht.run A env s rm ok S) fun b s₁ k₁ r₁ S₁ => ⟨r₁, KeepB.of k₁, rfl, S₁⟩)
theorem Ex1.try {body : List Stmt} {h₀ : ExceptHandler} {hs : List ExceptHandler} {pos : Pos} {ρ' : List (Str × D)} (h : Ex P k sc ρ body (.next ρ')) : Ex1 P k sc ρ (.Try body (h₀ :: hs) [] [] pos) (.next ρ') :=
  .mk fun A env s rm ok S => wpAny_Try_except (ev_mono (h.run A env s rm ok S) fun fl s₁ h₁ => by
    obtain ⟨k₁, rfl, S₁⟩ := h₁
    exact wpAny_execs_nil ⟨k₁, rfl, S₁⟩)

/- x, y, z = a tuple of three -/
theorem storeT {x : Str} {p : Pos} {v : Value} {d : D} {A : Around} {env : Env} {s : Shared} (ok : EnvOK env sc) (S : St P env ρ s) (hx : sc.names.lookup x = some .local ∨ sc.names.lookup x = some .cell ∧ ∃ c, env.cells.lookup x = some c) (r : Rep s.heap d v) :
    wpAny (model P.prog P.w) A (assign (.Name x p) env v) (fun _ s' => KeepB env s s' ∧ St P env ((x, d) :: ρ) s') NoE s := by
  rw [arm_assign_Name]
  exact wpAny_bind (wpAny_standAt (wpAny_bindName (store ok S hx r)))

theorem KeepB.seq {env : Env} {s s' : Shared} (S : St P env ρ s) (h : KeepB env s s') : SeqKeep s.heap s'.heap := by
  obtain ⟨h', tk, rfl, k⟩ := h
  intro b o xs n e q
  refine k b o (fun own => ?_) e
  rcases own with rfl | ⟨x, hx⟩
  · obtain ⟨m, ⟨o', es, ep, ho, hd, _⟩, _⟩ := S.F.ns
    rw [ho] at e; cases e
    rw [hd] at q; cases q
  · obtain ⟨⟨v, o', ho, hd⟩, _⟩ := S.F.allcells x b hx
    rw [ho] at e; cases e
    rw [hd] at q; cases q

theorem Ex1.tuple3 {x y z : Str} {p q r tpos pos : Pos} {kd : Nat} {e : Expr} {a b c : D} (he : Ev P k sc ρ e (.tup [a, b, c]))
    (hx : sc.names.lookup x = some .local) (hy : sc.names.lookup y = some .local) (hz : sc.names.lookup z = some .local)
    (hs : ∀ env, swapsWithSole [.Tuple [.Name x p, .Name y q, .Name z r] kd tpos] e pos.line env = pure false := by intro _; rfl)
    (hw : ∀ env, swappedStores [.Tuple [.Name x p, .Name y q, .Name z r] kd tpos] e env = pure none := by intro _; rfl) :
    Ex1 P k sc ρ (.Assign [.Tuple [.Name x p, .Name y q, .Name z r] kd tpos] e pos) (.next ((z, c) :: (y, b) :: (x, a) :: ρ)) :=
  .mk fun A env s rm ok S => by
    refine Assign_Tuple (ev_seq S (he.run A env s rm ok S) fun v s₁ k₁ r₁ S₁ => ?_) (hs env) (hw env)
    cases r₁ with
    | tup ha hl hr =>
      rename_i t vs
      obtain ⟨u1, us, rfl, g1, gs⟩ := RepAll.uncons ⟨hl, hr⟩
      obtain ⟨u2, u3, rfl, g2, g3⟩ := gs.two
      rw [arm_assign_Tuple]
      refine wpAny_bind (wpAny_standAt (wpAny_unpack_tuple (items := [u1, u2, u3].toArray) rm.hd ha rfl rfl fun h' hk => ?_))
      have K2 : Keep s₁.heap h' := fun b o e => hk b o (Nat.ne_of_lt (Heap.lt_size e)) e
      have S₂ : St P env ρ { s₁ with heap := h' } := ⟨S₁.F.keeps K2, S₁.tp⟩
      show wpAny _ A (assignInOrder [PySem.assign (.Name x p) env, PySem.assign (.Name y q) env, PySem.assign (.Name z r) env] [u1, u2, u3]) _ _ _
      refine wpAny_bind (wpAny_holding (ev_mono (storeT ok S₂ (.inl hx) (g1.mono K2.seq)) fun _ s₃ h₃ => ?_))
      refine wpAny_bind (wpAny_holding (ev_mono (storeT ok h₃.2 (.inl hy) ((g2.mono K2.seq).mono (h₃.1.seq S₂))) fun _ s₄ h₄ => ?_))
      refine wpAny_bind (wpAny_holding (ev_mono (storeT ok h₄.2 (.inl hz) (((g3.mono K2.seq).mono (h₃.1.seq S₂)).mono (h₄.1.seq h₃.2))) fun _ s₅ h₅ => ?_))
      exact wpAny_pure ⟨((KeepB.of (keeps_trans k₁ ⟨h', _, rfl, K2⟩)).trans h₃.1).trans (h₄.1.trans h₅.1), rfl, h₅.2⟩

theorem Ex1.tuple3C {x y z : Str} {p q r tpos pos : Pos} {kd : Nat} {e : Expr} {a b c : D} (he : Ev P k sc ρ e (.tup [a, b, c]))
    (hx : sc.names.lookup x = some .cell) (hy : sc.names.lookup y = some .cell) (hz : sc.names.lookup z = some .cell)
    (hs : ∀ env, swapsWithSole [.Tuple [.Name x p, .Name y q, .Name z r] kd tpos] e pos.line env = pure false := by intro _; rfl)
    (hw : ∀ env, swappedStores [.Tuple [.Name x p, .Name y q, .Name z r] kd tpos] e env = pure none := by intro _; rfl) :
    Ex1 P k sc ρ (.Assign [.Tuple [.Name x p, .Name y q, .Name z r] kd tpos] e pos) (.next ((z, c) :: (y, b) :: (x, a) :: ρ)) :=
  .mk fun A env s rm ok S => by
    refine Assign_Tuple (ev_seq S (he.run A env s rm ok S) fun v s₁ k₁ r₁ S₁ => ?_) (hs env) (hw env)
    cases r₁ with
    | tup ha hl hr =>
      rename_i t vs
      obtain ⟨u1, us, rfl, g1, gs⟩ := RepAll.uncons ⟨hl, hr⟩
      obtain ⟨u2, u3, rfl, g2, g3⟩ := gs.two
      rw [arm_assign_Tuple]
      refine wpAny_bind (wpAny_standAt (wpAny_unpack_tuple (items := [u1, u2, u3].toArray) rm.hd ha rfl rfl fun h' hk => ?_))
      have K2 : Keep s₁.heap h' := fun b o e => hk b o (Nat.ne_of_lt (Heap.lt_size e)) e
      have S₂ : St P env ρ { s₁ with heap := h' } := ⟨S₁.F.keeps K2, S₁.tp⟩
      show wpAny _ A (assignInOrder [PySem.assign (.Name x p) env, PySem.assign (.Name y q) env, PySem.assign (.Name z r) env] [u1, u2, u3]) _ _ _
      refine wpAny_bind (wpAny_holding (ev_mono (storeT ok S₂ (.inr ⟨hx, ok.cells _ hx⟩) (g1.mono K2.seq)) fun _ s₃ h₃ => ?_))
      refine wpAny_bind (wpAny_holding (ev_mono (storeT ok h₃.2 (.inr ⟨hy, ok.cells _ hy⟩) ((g2.mono K2.seq).mono (h₃.1.seq S₂))) fun _ s₄ h₄ => ?_))
      refine wpAny_bind (wpAny_holding (ev_mono (storeT ok h₄.2 (.inr ⟨hz, ok.cells _ hz⟩) (((g3.mono K2.seq).mono (h₃.1.seq S₂)).mono (h₄.1.seq h₃.2))) fun _ s₅ h₅ => ?_))
      exact wpAny_pure ⟨((KeepB.of (keeps_trans k₁ ⟨h', _, rfl, K2⟩)).trans h₃.1).trans (h₄.1.trans h₅.1), rfl, h₅.2⟩

/- builtin functions -/
theorem fn_floor_q {n d : Int} (hd : 0 < d) (hb : d < 2 ^ 24) : FnV P k (.builtin "math.floor") [.q n d] (.int (n / d)) := .mk fun A s vs rm B tp r => by
  obtain ⟨v, rfl, rr⟩ := r.one
  cases rr; rename_i x t hx
  refine Flt.call_floor_float rm.hd (fun g => absurd g (by rw [hx.notNaN]; decide)) (fun g => absurd g (by rw [hx.notInf]; decide)) fun _ => ⟨keeps_tok s _, ?_⟩
  rw [hx.floor (q_floor hd hb).1 (q_floor hd hb).2]; exact .int ..
theorem fn_floor_x {n : Int} : FnV P k (.builtin "math.floor") [.fx n] (.int (n / 2)) := .mk fun A s vs rm B tp r => by
  obtain ⟨v, rfl, rr⟩ := r.one
  cases rr; rename_i x t ht hx
  refine Flt.call_floor_float rm.hd (fun g => absurd g (by rw [hx.notNaN]; decide)) (fun g => absurd g (by rw [hx.notInf]; decide)) fun _ => ⟨keeps_tok s _, ?_⟩
  rw [hx.floor (q := n / 2) (by omega) (by omega)]; exact .int ..
theorem fn_floor_l {a b q : Int} (h1 : q * 2 ^ 25 ≤ a) (h2 : b < (q + 1) * 2 ^ 25) : FnV P k (.builtin "math.floor") [.fl a b] (.int q) := .mk fun A s vs rm B tp r => by
  obtain ⟨v, rfl, rr⟩ := r.one
  cases rr; rename_i x t hx
  refine Flt.call_floor_float rm.hd (fun g => absurd g (by rw [hx.notNaN]; decide)) (fun g => absurd g (by rw [hx.notInf]; decide)) fun _ => ⟨keeps_tok s _, ?_⟩
  rw [hx.floor h1 h2]; exact .int ..
theorem fn_floor_i {n : Int} : FnV P k (.builtin "math.floor") [.int n] (.int n) := .mk fun A s vs rm B tp r => by
  obtain ⟨v, rfl, rr⟩ := r.one
  cases rr; exact Flt.call_floor_int ⟨keeps_refl s, .int ..⟩
theorem fn_ceil_q {n d : Int} (hd : 0 < d) (hb : d < 2 ^ 24) : FnV P k (.builtin "math.ceil") [.q n d] (.int (-((-n) / d))) := .mk fun A s vs rm B tp r => by
  obtain ⟨v, rfl, rr⟩ := r.one
  cases rr; rename_i x t hx
  refine Flt.call_ceil_float rm.hd (fun g => absurd g (by rw [hx.notNaN]; decide)) (fun g => absurd g (by rw [hx.notInf]; decide)) fun _ => ⟨keeps_tok s _, ?_⟩
  rw [hx.ceil (q_ceil hd hb).1 (q_ceil hd hb).2]; exact .int ..
theorem fn_ceil_x {n : Int} : FnV P k (.builtin "math.ceil") [.fx n] (.int (-((-n) / 2))) := .mk fun A s vs rm B tp r => by
  obtain ⟨v, rfl, rr⟩ := r.one
  cases rr; rename_i x t ht hx
  refine Flt.call_ceil_float rm.hd (fun g => absurd g (by rw [hx.notNaN]; decide)) (fun g => absurd g (by rw [hx.notInf]; decide)) fun _ => ⟨keeps_tok s _, ?_⟩
  rw [hx.ceil (q := -((-n) / 2)) (by omega) (by omega)]; exact .int ..
theorem fn_trunc_q {n d : Int} (h0 : 0 ≤ n) (hd : 0 < d) (hb : d < 2 ^ 24) : FnV P k (.builtin "math.trunc") [.q n d] (.int (n / d)) := .mk fun A s vs rm B tp r => by
  obtain ⟨v, rfl, rr⟩ := r.one
  cases rr; rename_i x t hx
  refine Flt.call_trunc_float rm.hd (fun g => absurd g (by rw [hx.notNaN]; decide)) (fun g => absurd g (by rw [hx.notInf]; decide)) fun _ => ⟨keeps_tok s _, ?_⟩
  rw [hx.trunc (Int.ediv_nonneg h0 (Int.le_of_lt hd)) (q_floor hd hb).1 (q_floor hd hb).2]; exact .int ..
theorem fn_trunc_x {n : Int} (h0 : 0 ≤ n) : FnV P k (.builtin "math.trunc") [.fx n] (.int (n / 2)) := .mk fun A s vs rm B tp r => by
  obtain ⟨v, rfl, rr⟩ := r.one
  cases rr; rename_i x t ht hx
  refine Flt.call_trunc_float rm.hd (fun g => absurd g (by rw [hx.notNaN]; decide)) (fun g => absurd g (by rw [hx.notInf]; decide)) fun _ => ⟨keeps_tok s _, ?_⟩
  rw [hx.trunc (q := n / 2) (by omega) (by omega) (by omega)]; exact .int ..
theorem fn_trunc_l {a b q : Int} (h0 : 0 ≤ q) (h1 : q * 2 ^ 25 ≤ a) (h2 : b < (q + 1) * 2 ^ 25) : FnV P k (.builtin "math.trunc") [.fl a b] (.int q) := .mk fun A s vs rm B tp r => by
  obtain ⟨v, rfl, rr⟩ := r.one
  cases rr; rename_i x t hx
  refine Flt.call_trunc_float rm.hd (fun g => absurd g (by rw [hx.notNaN]; decide)) (fun g => absurd g (by rw [hx.notInf]; decide)) fun _ => ⟨keeps_tok s _, ?_⟩
  rw [hx.trunc h0 h1 h2]; exact .int ..
theorem fn_int_x {n : Int} (h0 : 0 ≤ n) : FnV P k (.type "int") [.fx n] (.int (n / 2)) := .mk fun A s vs rm B tp r => by
  obtain ⟨v, rfl, rr⟩ := r.one
  cases rr; rename_i x t ht hx
  refine Flt.call_int_float3 rm.hd (fun g => absurd g (by rw [hx.notNaN]; decide)) (fun g => absurd g (by rw [hx.notInf]; decide)) fun _ => ⟨keeps_tok s _, ?_⟩
  rw [hx.trunc (q := n / 2) (by omega) (by omega) (by omega)]; exact .int ..
theorem fn_int_i {n : Int} : FnV P k (.type "int") [.int n] (.int n) := .mk fun A s vs rm B tp r => by
  obtain ⟨v, rfl, rr⟩ := r.one
  cases rr; exact call_int_int ⟨keeps_refl s, .int ..⟩
theorem fn_min_ii {a b : Int} : FnV P k (.builtin "min") [.int a, .int b] (.int (if b < a then b else a)) := .mk fun A s vs rm B tp r => by
  obtain ⟨v, u, rfl, r1, r2⟩ := r.two
  cases r1; cases r2
  refine Flt.min_two_num rm.hd (.int _ _) (.int _ _) fun h' tk hk => ⟨⟨h', tk, rfl, hk⟩, ?_⟩
  simp only [Flt.ltV]
  by_cases h : b < a
  · simp only [h, decide_true, if_true]; exact .int ..
  · simp only [h, decide_false, Bool.false_eq_true, if_false]; exact .int ..

/- a text's own def -/
theorem zip_lookup {h : Heap} : ∀ (names : List Str) (ds : List D) (vs : List Value), RepAll h ds vs → ∀ x d, ((names.zip ds)).lookup x = some d → ∃ v, (names.zip vs).lookup x = some v ∧ Rep h d v
  | [], _, _, _, x, d, e => by simp at e
  | n :: ns, [], _, _, x, d, e => by simp at e
  | n :: ns, d' :: ds, vs, r, x, d, e => by
    obtain ⟨v, us, rfl, h1, h2⟩ := r.uncons
    simp only [List.zip_cons_cons, List.lookup_cons] at e ⊢
    cases hx : x == n with
    | true => rw [hx] at e; cases e; exact ⟨v, rfl, h1⟩
    | false => rw [hx] at e; exact zip_lookup ns ds us h2 x d e
theorem rev_lookup {α : Type} {l : List (Str × α)} (h : (l.map (·.1)).Nodup) (x : Str) : l.reverse.lookup x = l.lookup x := by
  induction l with
  | nil => rfl
  | cons p l ih =>
    obtain ⟨n, v⟩ := p
    rw [List.map_cons, List.nodup_cons] at h
    rw [List.reverse_cons, List.lookup_append, ih h.2, List.lookup_cons, List.lookup_cons, List.lookup_nil]
    cases hx : x == n with
    | true =>
      have : x = n := eq_of_beq hx
      subst this
      have hn : l.lookup x = none := by
        rw [List.lookup_eq_none_iff]
        intro p hp
        have : x ≠ p.1 := fun e => h.1 (List.mem_map.mpr ⟨p, hp, e.symm⟩)
        simpa using this
      rw [hn]; rfl
    | false => cases l.lookup x <;> rfl
theorem zip_fst_nodup {α : Type} {ns : List Str} (h : ns.Nodup) (l : List α) : ((ns.zip l).map (·.1)).Nodup := by
  induction ns generalizing l with
  | nil => simp
  | cons n ns ih =>
    cases l with
    | nil => simp
    | cons a l =>
      rw [List.nodup_cons] at h
      rw [List.zip_cons_cons, List.map_cons, List.nodup_cons]
      refine ⟨fun hm => ?_, ih h.2 l⟩
      obtain ⟨p, hp, e⟩ := List.mem_map.mp hm
      have e' : p.1 = n := e
      exact h.1 (e' ▸ (List.of_mem_zip (a := p.1) (b := p.2) hp).1)

theorem FnV.intro {a : Addr} {o : Obj} {fd : FuncData} {body : List Stmt} {ds es : List D} {us : List Value} {names : List Str} {d : D}
    (ho : P.B.get? a = some o) (hd : o.data = .func fd) (hcd : P.B.CodeRec fd.code fd.qualname) (hbody : fd.body = .stmts body) (hsc : fd.scope = sc) (hg : fd.globals = mainGlobals) (hb : fd.builtins = builtinsNs) (hcl : fd.closure = [])
    (hk : sc.kind = .function) (hco : sc.isCoroutine = false) (hgen : sc.isGenerator = false) (hcell : ∀ x ∈ sc.names, x.2 ≠ .cell) (hnd : names.Nodup) (hloc : ∀ x ∈ names, sc.names.lookup x = some .local)
    (hlen : names.length = (ds ++ es).length) (hes : RepAll P.B es us)
    (hbind : ∀ (s : Shared) (vs : List Value), Keep P.B s.heap → vs.length = ds.length → BindsTo s fd ⟨vs, []⟩ (names.zip (vs ++ us)))
    (h : Ex P k sc (names.zip (ds ++ es)) body (.ret d)) : FnV P (k + 1) (.ref a) ds d := .mk fun A s vs rm B tp r => by
  subst hsc
  refine wpAny_call ?_
  have rr : RepAll s.heap (ds ++ es) (vs ++ us) := r.append (hes.mono B.seq)
  refine codeAny_call_def (fd := fd) (body := body) (binds := names.zip (vs ++ us)) (by have := rm.dp; omega) (B _ _ ho) hd (P.nl.keeps B) (hcd.keeps B) hbody (hbind s vs B r.1) hcell ?_ (fun h₀ hns hkeep => ?_) hco hgen hk
  · intro x hx
    exact hloc _ (List.of_mem_zip hx).1
  · have ok : EnvOK (callEnv fd s.heap.objs.size a) fd.scope := ⟨rfl, hk, hg, hb, fun x hx => (hcell _ (mem_of_lookup hx) rfl).elim⟩
    have hfresh : P.B.get? s.heap.objs.size = none := by
      cases e : P.B.get? s.heap.objs.size with
      | none => rfl
      | some o => exact absurd (Heap.lt_size (B _ _ e)) (Nat.lt_irrefl _)
    have S : St P (callEnv fd s.heap.objs.size a) (names.zip (ds ++ es)) { s with heap := h₀, toks := s.toks + (names.zip (vs ++ us)).length } := by
      refine ⟨⟨B.trans hkeep, ⟨_, hns, fun x e hx _ => ?_⟩, fun x e hx => .inl ?_, fun x e hx hkc => ?_, fun x c hc => ?_, ?_, hfresh⟩, Nat.lt_of_lt_of_le tp (Nat.le_add_right _ _)⟩
      · have := zip_lookup (h := h₀) names (ds ++ es) (vs ++ us) (rr.mono (Keep.seq hkeep)) x e hx
        rw [rev_lookup (zip_fst_nodup hnd _)]; exact this
      · have hm := mem_of_lookup hx
        exact hloc _ (List.of_mem_zip hm).1
      · have hm := mem_of_lookup hx
        have h1 : fd.scope.names.lookup x = some .local := hloc _ (List.of_mem_zip hm).1
        have h2 : fd.scope.names.lookup x = some .cell := hkc
        rw [h1] at h2; cases h2
      · have : (callEnv fd s.heap.objs.size a).cells = [] := hcl
        rw [this] at hc; cases hc
      · have : (callEnv fd s.heap.objs.size a).cells = [] := hcl
        rw [this]; exact .nil
    refine ev_mono (h.run _ _ _ rm.deeper ok S) fun fl s' h' => ?_
    obtain ⟨⟨h'', tk, rfl, kb⟩, v, rfl, rv⟩ := h'
    refine ⟨⟨h'', tk, rfl, fun b o e => kb b o (fun own => ?_) (hkeep b o e)⟩, rv⟩
    rcases own with q | ⟨x, hx⟩
    · have : b = s.heap.objs.size := q
      rw [this] at e
      exact absurd (Heap.lt_size e) (Nat.lt_irrefl _)
    · have : (callEnv fd s.heap.objs.size a).cells = [] := hcl
      rw [this] at hx; cases hx
end
section
open PySem PySem.W PyProof.Rows PySem.Calls
def stAt (i : Nat) : Stmt := (PySem.Challenge.pw_ak5022_01.main.body[i]?).getD default
def bodyAt (i : Nat) : List Stmt := match stAt i with | .FunctionDef _ _ b _ _ _ _ _ _ _ => b | _ => []
def scAt (i : Nat) : Scope := match stAt i with | .FunctionDef _ _ _ _ _ _ sc _ _ _ => sc | _ => default
def argsAt (i : Nat) : Arguments := match stAt i with | .FunctionDef _ a _ _ _ _ _ _ _ _ => a | _ => default
/- what the head is to tell: a look at the heap behind the top, and what it gives -/
abbrev FV := FuncBody × Scope × Arguments × Addr × Addr × List (Str × Addr) × Option (Option (List Value)) × Bool
def dfl (K : Frag) : Value → Option (Option (List Value))
  | .none => some none
  | .ref T => (match K.lookup T with
      | some ⟨_, _, .seq items _, _⟩ => some (some items.toList)
      | _ => none)
  | _ => none
def fnLk (K : Frag) (x : Str) : Option FV := match nsIn K mainGlobals x with
  | some (some (.ref a)) => (match K.lookup a with
      | some ⟨_, _, .func f, _⟩ => some (f.body, f.scope, f.params, f.globals, f.builtins, f.closure, dfl K f.defaults, codeIn K f.code f.qualname)
      | _ => none)
  | _ => none
def fv (i : Nat) (d : Option (List Value)) : FV := (.stmts (bodyAt i), scAt i, argsAt i, mainGlobals, builtinsNs, [], some d, true)
def cLk (K : Frag) (x : Str) : Option (Option Value × Option (Value × List Value)) := match nsIn K mainGlobals x with
  | some none => some (none, none)
  | some (some (.ref a)) => (match K.lookup a with
      | some ⟨c, _, .seq items _, _⟩ => some (some (.ref a), some (c, items.toList))
      | _ => none)
  | some (some v) => some (some v, none)
  | none => none
def febLk (K : Frag) (x : Str) : Option (Addr × Int × List Value × Option (Option Value)) := match nsIn K mainGlobals x with
  | some (some (.ref a)) => (match K.lookup a with
      | some ⟨.ref C, _, .prim (.int j _), _⟩ => (match K.lookup C with
          | some ⟨_, _, .cls cd, _⟩ => some (C, j, cd.mro, nsIn K cd.ns "__eq__")
          | _ => none)
      | _ => none)
  | _ => none
def fragH (as : List Addr) (h : Heap) : Frag := as.filterMap fun a => (h.get? a).map fun o => (a, o)
theorem fragH_in : ∀ (as : List Addr) (h : Heap), (fragH as h).In h
  | [], h => fun a o e => nomatch e
  | b :: as, h => fun a o e => by
    unfold fragH at e
    rw [List.filterMap_cons] at e
    cases q : h.get? b with
    | none => rw [q] at e; exact fragH_in as h a o e
    | some p =>
      rw [q] at e
      dsimp only [Option.map_some] at e
      rw [List.lookup_cons] at e
      cases g : a == b with
      | true => rw [g] at e; cases e; rw [beq_iff_eq.mp g]; exact q
      | false => rw [g] at e; exact fragH_in as h a o e
def mkHook {α : Type} (f : Frag → α) (v : α) (as : List Addr) : Hook :=
  ⟨α, fun s => f (fragH as s.heap), fun _ => v, fun _ h => ∃ K : Frag, K.In h ∧ f K = v, fun _ s e => ⟨_, fragH_in as s.heap, e⟩, fun _ _ _ ⟨K, x, e⟩ k => ⟨K, x.keeps k, e⟩⟩
def addrs : List Addr := [2, 3, 65, 66, 72, 73, 79, 80, 86, 87, 93, 94, 100, 101, 105, 106, 107, 113, 114, 120, 121, 122, 128, 129, 130, 136, 137, 138, 144, 145, 146, 152, 153, 159, 160, 166, 167, 173, 174, 180, 181, 187, 188, 189, 319, 320, 449, 501, 502, 508, 509, 515, 516, 522, 523, 529, 530, 536, 537, 543, 544, 550, 551, 557, 558, 564, 565, 566, 572, 573, 579, 580, 586, 587, 593, 594, 595, 601, 602, 608, 609, 615, 616, 622, 623, 629, 630, 636, 637, 643, 644, 645, 651, 652, 658, 659, 665, 666, 672, 673, 679, 680, 686, 687, 693, 694, 700, 701, 707, 708, 712, 713]
def fnTab : List (Str × Option FV) := [
  (("jwday" : Str), some (fv 4 none)),
  (("weekday_before" : Str), some (fv 5 none)),
  (("search_weekday" : Str), some (fv 6 none)),
  (("nearest_weekday" : Str), some (fv 7 none)),
  (("next_weekday" : Str), some (fv 8 none)),
  (("previous_weekday" : Str), some (fv 9 none)),
  (("_valid_date" : Str), some (fv 14 (some [.none]))),
  (("leap_armenian" : Str), some (fv 15 none)),
  (("to_jd_armenian" : Str), some (fv 17 (some [.none]))),
  (("from_jd_armenian" : Str), some (fv 19 (some [.none]))),
  (("month_length_armenian" : Str), some (fv 21 (some [.none]))),
  (("monthcalendar_armenian" : Str), some (fv 23 (some [.none]))),
  (("is_leap" : Str), some (fv 27 none)),
  (("to_jd_coptic" : Str), some (fv 28 none)),
  (("from_jd_coptic" : Str), some (fv 30 none)),
  (("month_length_coptic" : Str), some (fv 32 none)),
  (("monthcalendar_coptic" : Str), some (fv 34 none)),
  (("isleap" : Str), some (fv 90 none)),
  (("weekday" : Str), some (fv 91 none)),
  (("_validate_month" : Str), some (fv 92 none)),
  (("monthrange" : Str), some (fv 93 none)),
  (("legal_date_gregorian" : Str), some (fv 95 none)),
  (("to_jd_gregorian" : Str), some (fv 97 none)),
  (("from_jd_gregorian" : Str), some (fv 99 none)),
  (("month_length_gregorian" : Str), some (fv 101 none)),
  (("monthcalendar_gregorian" : Str), some (fv 103 none)),
  (("to_jd_indian_civil" : Str), some (fv 108 none)),
  (("from_jd_indian_civil" : Str), some (fv 110 none)),
  (("month_length_indian_civil" : Str), some (fv 112 none)),
  (("monthcalendar_indian_civil" : Str), some (fv 114 none)),
  (("leap_islamic" : Str), some (fv 119 none)),
  (("to_jd_islamic" : Str), some (fv 121 none)),
  (("from_jd_islamic" : Str), some (fv 123 none)),
  (("month_length_islamic" : Str), some (fv 125 none)),
  (("monthcalendar_islamic" : Str), some (fv 127 none)),
  (("from_jd_iso" : Str), some (fv 130 none)),
  (("from_gregorian" : Str), some (fv 132 none)),
  (("leap_julian" : Str), some (fv 135 none)),
  (("month_length_julian" : Str), some (fv 137 none)),
  (("legal_date_julian" : Str), some (fv 139 none)),
  (("from_jd_julian" : Str), some (fv 141 none)),
  (("to_jd_julian" : Str), some (fv 143 none)),
  (("monthcalendar_julian" : Str), some (fv 145 none)),
  (("_law_date" : Str), some (fv 148 none)),
  (("_law_leaf" : Str), some (fv 149 none)),
  (("_law_number" : Str), some (fv 150 none)),
  (("monthcalendarhelper" : Str), some (fv 10 none)),
  (("law" : Str), some (fv 151 none))]
def cTab : List (Str × Option (Option Value × Option (Value × List Value))) := [
  (("floor" : Str), some (some (.builtin "math.floor"), none)),
  (("ceil" : Str), some (some (.builtin "math.ceil"), none)),
  (("trunc" : Str), some (some (.builtin "math.trunc"), none)),
  (("int" : Str), some (none, none)),
  (("min" : Str), some (none, none)),
  (("range" : Str), some (none, none)),
  (("list" : Str), some (none, none)),
  (("len" : Str), some (none, none)),
  (("date" : Str), some (some (.type "datetime.date"), none)),
  (("MINYEAR" : Str), some (some (.int 1 303), none)),
  (("MAXYEAR" : Str), some (some (.int 9999 305), none)),
  (("EPOCH_gregorian" : Str), some (some (.float 4700144277945057280 639), none)),
  (("EPOCH_islamic" : Str), some (some (.float 4701119295650791424 1427), none)),
  (("EPOCH_coptic" : Str), some (some (.float 4700589253736792064 588), none)),
  (("EPOCH_armenian" : Str), some (some (.float 4701007892789067776 510), none)),
  (("EPOCH_SARKAWAG" : Str), some (some (.float 4701801086275551232 512), none)),
  (("YEAR_DAYS" : Str), some (some (.int 365 653), none)),
  (("LEAP_CYCLE_YEARS" : Str), some (some (.int 4 649), none)),
  (("LEAP_CYCLE_DAYS" : Str), some (some (.int 1461 651), none)),
  (("LEAP_SUPPRESSION_YEARS" : Str), some (some (.int 100 645), none)),
  (("LEAP_SUPPRESSION_DAYS" : Str), some (some (.int 36524 647), none)),
  (("INTERCALATION_CYCLE_YEARS" : Str), some (some (.int 400 641), none)),
  (("INTERCALATION_CYCLE_DAYS" : Str), some (some (.int 146097 643), none)),
  (("SAKA_EPOCH" : Str), some (some (.int 78 1368), none)),
  (("HAVE_30_DAYS_gregorian" : Str), some (some (.ref 189), some (.type "tuple", [.int 4 655, .int 6 656, .int 9 657, .int 11 658]))),
  (("HAVE_30_DAYS_julian" : Str), some (some (.ref 645), some (.type "tuple", [.int 4 1506, .int 6 1507, .int 9 1508, .int 11 1509]))),
  (("HAVE_31_DAYS" : Str), some (some (.ref 566), some (.type "tuple", [.int 2 1362, .int 3 1363, .int 4 1364, .int 5 1365, .int 6 1366]))),
  (("HAS_30_DAYS" : Str), some (some (.ref 595), some (.type "tuple", [.int 1 1429, .int 3 1430, .int 5 1431, .int 7 1432, .int 9 1433, .int 11 1434]))),
  (("_days" : Str), some (some (.ref 501), some (.type "tuple", [.ref 482, .ref 485, .ref 488, .ref 491, .ref 494, .ref 497, .ref 500]))),
  (("mdays" : Str), some (some (.ref 502), some (.type "list", [.int 0 1246, .int 31 1247, .int 28 1248, .int 31 1249, .int 30 1250, .int 31 1251, .int 30 1252, .int 31 1253, .int 31 1254, .int 30 1255, .int 31 1256, .int 30 1257, .int 31 1258])))]
abbrev Lk := List (Option FV) × List (Option (Option Value × Option (Value × List Value))) × Option (Addr × Int × List Value × Option (Option Value)) × Option (Option Value)
def look (K : Frag) : Lk := (fnTab.map fun p => fnLk K p.1, cTab.map fun p => cLk K p.1, febLk K "FEBRUARY", nsIn K cStatics "identity.tokens-whose-sharing-is-not-told")
def lits : Lk := (fnTab.map (·.2), cTab.map (·.2), some (320, 2, [.ref 320, .type "int", .type "object"], some none), some none)
end
section
open PySem PySem.W PyProof.Rows PySem.Calls

variable {P : PK} {k : Nat} {sc : Scope} {ρ : List (Str × D)}

/-- a global that holds plain data -/
def GD (P : PK) (x : Str) (d : D) : Prop := ∃ v, P.mg x = some v ∧ Rep P.B d v
/-- a global that is a function, and what it gives back -/
def GF (P : PK) (k : Nat) (x : Str) (ds : List D) (d : D) : Prop := ∃ v, P.mg x = some v ∧ Callee P v ∧ FnV P k v ds d
theorem FnV.le {k j : Nat} {f : Value} {ds : List D} {d : D} (h : FnV P j f ds d) (hj : j ≤ k) : FnV P k f ds d := .mk fun A s vs rm B tp r => h.run A s vs (rm.le hj) B tp r
theorem GF.le {k j : Nat} {x : Str} {ds : List D} {d : D} (h : GF P j x ds d) (hj : j ≤ k) : GF P k x ds d := let ⟨v, h1, h2, h3⟩ := h; ⟨v, h1, h2, h3.le hj⟩
theorem GF.to {k : Nat} {x : Str} {ds : List D} {d d' : D} (h : GF P k x ds d) (e : d = d') : GF P k x ds d' := e ▸ h

theorem Ev.gd {x : Str} {pos : Pos} {d : D} (h : GD P x d) (hk : sc.names.lookup x = some .globalImplicit := by rfl) (hd : (x == ("__debug__" : Str)) = false := by decide) : Ev P k sc ρ (.Name x pos) d :=
  let ⟨_, h1, h2⟩ := h; .glob h1 h2 hk hd
theorem Ev.gf {id : Str} {p pos : Pos} {e : Expr} {es : List Expr} {ds : List D} {d : D} (ha : EvA P k sc ρ (e :: es) ds) (h : GF P k id ds d) (hk : sc.names.lookup id = some .globalImplicit := by rfl)
    (he : ∀ env, starEach (e :: es) env = (false, eval e env) :: starEach es env := by intro _; rfl) (hp : ∀ env, (backTo pos (starEach es env)).any (·.1) = false := by intro _; rfl) (hd : (id == ("__debug__" : Str)) = false := by decide) : Ev P k sc ρ (.Call (.Name id p) (e :: es) [] pos) d :=
  let ⟨_, h1, h2, h3⟩ := h; .call (.glob h1 (.val _) hk hd) h2 ha h3 he hp
theorem Ev.bf {id : Str} {p pos : Pos} {e : Expr} {es : List Expr} {ds : List D} {d : D} {v : Value} (ha : EvA P k sc ρ (e :: es) ds) (hn : P.mg id = none) (hb : bootBuiltins id = some v) (hc : Callee P v) (h : FnV P k v ds d) (hk : sc.names.lookup id = some .globalImplicit := by rfl)
    (he : ∀ env, starEach (e :: es) env = (false, eval e env) :: starEach es env := by intro _; rfl) (hp : ∀ env, (backTo pos (starEach es env)).any (·.1) = false := by intro _; rfl) (hd : (id == ("__debug__" : Str)) = false := by decide) (hq : id ≠ "__name__" := by decide) : Ev P k sc ρ (.Call (.Name id p) (e :: es) [] pos) d :=
  .call (.builtin hn hb hq hk hd) hc ha h he hp

/-- what the top gives (plain data, built-ins) -/
structure Glb (P : PK) : Prop where
  floor : P.mg "floor" = some (.builtin "math.floor")
  ceil : P.mg "ceil" = some (.builtin "math.ceil")
  trunc : P.mg "trunc" = some (.builtin "math.trunc")
  int : P.mg "int" = none
  min : P.mg "min" = none
  eg : GD P "EPOCH_gregorian" (.fx 3442851)
  ei : GD P "EPOCH_islamic" (.fx 3896879)
  ec : GD P "EPOCH_coptic" (.fx 3650059)
  ea : GD P "EPOCH_armenian" (.fx 3845003)
  es : GD P "EPOCH_SARKAWAG" (.fx 4234421)
  yd : GD P "YEAR_DAYS" (.int 365)
  lcy : GD P "LEAP_CYCLE_YEARS" (.int 4)
  lcd : GD P "LEAP_CYCLE_DAYS" (.int 1461)
  lsy : GD P "LEAP_SUPPRESSION_YEARS" (.int 100)
  lsd : GD P "LEAP_SUPPRESSION_DAYS" (.int 36524)
  icy : GD P "INTERCALATION_CYCLE_YEARS" (.int 400)
  icd : GD P "INTERCALATION_CYCLE_DAYS" (.int 146097)
  sk : GD P "SAKA_EPOCH" (.int 78)
  h30g : GD P "HAVE_30_DAYS_gregorian" (.tup [.int 4, .int 6, .int 9, .int 11])
  h30j : GD P "HAVE_30_DAYS_julian" (.tup [.int 4, .int 6, .int 9, .int 11])
  h31 : GD P "HAVE_31_DAYS" (.tup [.int 2, .int 3, .int 4, .int 5, .int 6])
  hi30 : GD P "HAS_30_DAYS" (.tup [.int 1, .int 3, .int 5, .int 7, .int 9, .int 11])
theorem boot_int : bootBuiltins "int" = some (.type "int") := by decide +kernel
theorem boot_min : bootBuiltins "min" = some (.builtin "min") := by decide +kernel

theorem Ev.floor {p pos : Pos} {e : Expr} {a d : D} (G : Glb P) (ha : Ev P k sc ρ e a) (h : FnV P k (.builtin "math.floor") [a] d) (hk : sc.names.lookup ("floor" : Str) = some .globalImplicit := by rfl) (he : ∀ env, starEach [e] env = [(false, eval e env)] := by intro _; rfl) : Ev P k sc ρ (.Call (.Name "floor" p) [e] [] pos) d :=
  .call (.glob G.floor (.val _) hk) (.builtin _) (.cons ha .nil he) h he (fun _ => rfl)
theorem Ev.ceil {p pos : Pos} {e : Expr} {a d : D} (G : Glb P) (ha : Ev P k sc ρ e a) (h : FnV P k (.builtin "math.ceil") [a] d) (hk : sc.names.lookup ("ceil" : Str) = some .globalImplicit := by rfl) (he : ∀ env, starEach [e] env = [(false, eval e env)] := by intro _; rfl) : Ev P k sc ρ (.Call (.Name "ceil" p) [e] [] pos) d :=
  .call (.glob G.ceil (.val _) hk) (.builtin _) (.cons ha .nil he) h he (fun _ => rfl)
theorem Ev.trunc {p pos : Pos} {e : Expr} {a d : D} (G : Glb P) (ha : Ev P k sc ρ e a) (h : FnV P k (.builtin "math.trunc") [a] d) (hk : sc.names.lookup ("trunc" : Str) = some .globalImplicit := by rfl) (he : ∀ env, starEach [e] env = [(false, eval e env)] := by intro _; rfl) : Ev P k sc ρ (.Call (.Name "trunc" p) [e] [] pos) d :=
  .call (.glob G.trunc (.val _) hk) (.builtin _) (.cons ha .nil he) h he (fun _ => rfl)
theorem Ev.int {p pos : Pos} {e : Expr} {a d : D} (G : Glb P) (ha : Ev P k sc ρ e a) (h : FnV P k (.type "int") [a] d) (hk : sc.names.lookup ("int" : Str) = some .globalImplicit := by rfl) (he : ∀ env, starEach [e] env = [(false, eval e env)] := by intro _; rfl) : Ev P k sc ρ (.Call (.Name "int" p) [e] [] pos) d :=
  .call (.builtin G.int boot_int (by decide) hk) (.type _) (.cons ha .nil he) h he (fun _ => rfl)
theorem Ev.min2 {p pos : Pos} {e f : Expr} {a b d : D} (G : Glb P) (ha : Ev P k sc ρ e a) (hb : Ev P k sc ρ f b) (h : FnV P k (.builtin "min") [a, b] d) (hk : sc.names.lookup ("min" : Str) = some .globalImplicit := by rfl) (he : ∀ env, starEach [e, f] env = (false, eval e env) :: starEach [f] env := by intro _; rfl) (he' : ∀ env, starEach [f] env = [(false, eval f env)] := by intro _; rfl) : Ev P k sc ρ (.Call (.Name "min" p) [e, f] [] pos) d :=
  .call (.builtin G.min boot_min (by decide) hk) (.builtin _) (.cons ha (.cons hb .nil he') he) h he (fun env => by rw [he' env]; rfl)

/- the float literals -/
theorem FlIs.lit {x : UInt64} {a : Bool} {m c : Nat} {e lo hi : Int} (hd : Float64.decode x = .fin a m e) (hc : e = -25 - c) (he : -1074 ≤ e) (h1 : lo * 2 ^ c ≤ Float64.sgn a m) (h2 : Float64.sgn a m ≤ hi * 2 ^ c) : FlIs x lo hi := by
  refine ⟨a, m, e, hd, ?_, ?_⟩
  all_goals
    rw [Float64.val_eq hd, Float64.sgn_mul]
    have e1 : (KN : Int) = 2 ^ c * ((2 ^ (e + 1074).toNat : Nat) : Int) := by
      unfold KN
      rw [Int.natCast_pow, Int.natCast_pow]
      have : ((2 : Nat) : Int) = 2 := rfl
      rw [this, ← Int.pow_add]
      congr 1; omega
    rw [e1, ← Int.mul_assoc]
    exact Int.mul_le_mul_of_nonneg_right (by assumption) (Int.natCast_nonneg _)

def litOK (x : UInt64) (c : Nat) (lo hi : Int) : Bool := match Float64.decode x with
  | .fin a m e => decide (e = -25 - c) && decide (-1074 ≤ e) && decide (lo * 2 ^ c ≤ Float64.sgn a m) && decide (Float64.sgn a m ≤ hi * 2 ^ c)
  | _ => false
theorem FlIs.litb {x : UInt64} (c : Nat) {lo hi : Int} (h : litOK x c lo hi = true) : FlIs x lo hi := by
  unfold litOK at h
  split at h
  · rename_i a m e hd
    simp only [Bool.and_eq_true, decide_eq_true_eq] at h
    exact .lit hd h.1.1.1 h.1.1.2 h.1.2 h.2
  · cases h
/- the literals of the text -/
theorem lit_half : FlIs 0x3fe0000000000000 (1 * 2 ^ 24) (1 * 2 ^ 24) := .litb 28 (by decide +kernel)
theorem lit_29 : FlIs 0x403d800000000000 (59 * 2 ^ 24) (59 * 2 ^ 24) := .litb 23 (by decide +kernel)
theorem lit_30 : FlIs 0x403e99a027525461 1026768974 1026768975 := .litb 23 (by decide +kernel)
theorem lit_122 : FlIs 0x405e866666666666 4096996147 4096996148 := .litb 21 (by decide +kernel)
theorem lit_365 : FlIs 0x4076d40000000000 12255756288 12255756288 := .litb 19 (by decide +kernel)
theorem lit_1524 : FlIs 0x4097d20000000000 (3049 * 2 ^ 24) (3049 * 2 ^ 24) := .litb 17 (by decide +kernel)
theorem lit_eg : FlIs 0x413a445180000000 (3442851 * 2 ^ 24) (3442851 * 2 ^ 24) := .litb 7 (by decide +kernel)
theorem lit_ec : FlIs 0x413bd90580000000 (3650059 * 2 ^ 24) (3650059 * 2 ^ 24) := .litb 7 (by decide +kernel)
theorem lit_ea : FlIs 0x413d55c580000000 (3845003 * 2 ^ 24) (3845003 * 2 ^ 24) := .litb 7 (by decide +kernel)
theorem lit_ei : FlIs 0x413dbb1780000000 (3896879 * 2 ^ 24) (3896879 * 2 ^ 24) := .litb 7 (by decide +kernel)
theorem lit_es : FlIs 0x4140272d40000000 (4234421 * 2 ^ 24) (4234421 * 2 ^ 24) := .litb 6 (by decide +kernel)
theorem lit_num : FlIs 0x414027efc0000000 (4235199 * 2 ^ 24) (4235199 * 2 ^ 24) := .litb 6 (by decide +kernel)

theorem cmp_in_tup {a : Int} {is : List Int} : CmpR P .In (.int a) (.tup (is.map .int)) (is.any (fun i => decide (i = a))) := .mk fun A s v u rm B tp r q => by
  cases r; cases q; rename_i t aa vs ha hl hr
  have hx : ∀ y, y ∈ vs.toArray → ∃ (i : Int) (tt : Tok), y = Value.int i tt := fun y hy => by
    rw [List.mem_toArray] at hy
    obtain ⟨j, hj, rfl⟩ := List.mem_iff_getElem.mp hy
    rw [List.length_map] at hl
    have := hr j (.int (is[j]'(by omega))) vs[j] (by rw [List.getElem?_map, List.getElem?_eq_getElem (by omega)]; rfl) (List.getElem?_eq_getElem hj)
    generalize vs[j] = y at *
    cases this; exact ⟨_, _, rfl⟩
  refine SeqAt.in_tupleAt (e := fun y => match y with | .int i _ => decide (i = a) | _ => false) ha (fun y hy => ?_) ⟨keeps_refl s, ?_⟩
  · obtain ⟨i, tt, rfl⟩ := hx y hy
    have := @SeqAt.EqAt.int_int A.in1 s i tt a t
    have e : (i == a) = decide (i = a) := by by_cases g : i = a <;> simp [g]
    rw [e] at this; exact this
  · have e : (vs.toArray.any fun y => match y with | .int i _ => decide (i = a) | _ => false) = is.any (fun i => decide (i = a)) := by
      rw [List.any_toArray]
      clear hx ha
      induction is generalizing vs with
      | nil => rw [List.length_map] at hl; rw [List.length_eq_zero_iff.mp hl]; rfl
      | cons i is ih =>
        obtain ⟨v, us, rfl, g1, g2⟩ := RepAll.uncons (h := s.heap) (d := .int i) (ds := is.map .int) (vs := vs) ⟨hl, hr⟩
        cases g1
        rw [List.any_cons, List.any_cons, ih g2.1 g2.2]
    rw [e]; exact .bool _

theorem EvT.cmp2 {l r₁ r₂ : Expr} {o₁ o₂ : CmpOp} {pos : Pos} {a b c : D} {x y : Bool} (hl : Ev P k sc ρ l a) (h₁ : Ev P k sc ρ r₁ b) (c₁ : CmpR P o₁ a b x) (h₂ : x = true → Ev P k sc ρ r₂ c) (c₂ : x = true → CmpR P o₂ b c y)
    (hm : lastMarks [o₁, o₂] [r₁, r₂] = false := by with_unfolding_all rfl) : EvT P k sc ρ (.Compare l [o₁, o₂] [r₁, r₂] pos) (x && y) :=
  .mk fun A env s rm ok S => isTrue_chain (ev_seq S (hl.run A env s rm ok S) fun v s₁ k₁ g₁ S₁ => test_link (ev_seq S₁ (h₁.run A env s₁ rm ok S₁) fun u s₂ k₂ g₂ S₂ =>
    ev_seq S₂ (c₁.run A s₂ v u (rm.le (Nat.zero_le _)) S₂.F.base S₂.tp (g₁.mono (kk k₂).seq) g₂) fun t s₃ k₃ g₃ S₃ => by
      cases g₃
      refine wpAny_truthy_bool ?_
      have k123 := keeps_trans k₁ (keeps_trans k₂ k₃)
      cases x with
      | false => exact ⟨k123, rfl⟩
      | true =>
        exact test_last (ev_seq S₃ ((h₂ rfl).run A env s₃ rm ok S₃) fun w s₄ k₄ g₄ S₄ => ev_mono ((c₂ rfl).run A s₄ u w (rm.le (Nat.zero_le _)) S₄.F.base S₄.tp ((g₂.mono (kk k₃).seq).mono (kk k₄).seq) g₄) fun z s₅ h₅ => by
          obtain ⟨k₅, g₅⟩ := h₅
          cases g₅
          exact wpAny_truthy_bool ⟨keeps_trans k123 (keeps_trans k₄ k₅), by simp⟩))) hm
theorem Ev.and2 {e f : Expr} {pos : Pos} {a b : Bool} (he : Ev P k sc ρ e (.bool a)) (hf : a = true → Ev P k sc ρ f (.bool b)) : Ev P k sc ρ (.BoolOp .And [e, f] pos) (.bool (a && b)) :=
  .mk fun A env s rm ok S => wpAny_And2 (ev_seq S (he.run A env s rm ok S) fun v s₁ k₁ g₁ S₁ => by
    cases g₁
    refine wpAny_truthy_bool ?_
    cases a with
    | false => exact ⟨k₁, .bool _⟩
    | true => exact ev_mono ((hf rfl).run A env s₁ rm ok S₁) fun u s₂ h₂ => ⟨keeps_trans k₁ h₂.1, h₂.2⟩)
theorem Ev.or2 {e f : Expr} {pos : Pos} {a b : Bool} (he : Ev P k sc ρ e (.bool a)) (hf : a = false → Ev P k sc ρ f (.bool b)) : Ev P k sc ρ (.BoolOp .Or [e, f] pos) (.bool (a || b)) :=
  .mk fun A env s rm ok S => wpAny_Or2 (ev_seq S (he.run A env s rm ok S) fun v s₁ k₁ g₁ S₁ => by
    cases g₁
    refine wpAny_truthy_bool ?_
    cases a with
    | true => exact ⟨k₁, .bool _⟩
    | false => exact ev_mono ((hf rfl).run A env s₁ rm ok S₁) fun u s₂ h₂ => ⟨keeps_trans k₁ h₂.1, h₂.2⟩)
theorem Ex1.expr {e : Expr} {pos : Pos} {b : Bool} (he : Ev P k sc ρ e (.bool b)) (hs : ∀ env, swapsWith e none pos.line env = pure false := by intro _; rfl) : Ex1 P k sc ρ (.Expr e pos) (.next ρ) :=
  .mk fun A env s rm ok S => wpAny_Expr (ev_seq S (he.run A env s rm ok S) fun v s₁ k₁ g₁ S₁ => by
    cases g₁
    exact ⟨KeepB.of k₁, rfl, S₁⟩) (by unfold interactive; rw [ok.scope, ok.kind]; rfl) (hs env)

/-- the global x is the def that stands at place i of the text; it takes m arguments and fills up with es -/
structure FnAt (P : PK) (x : Str) (i : Nat) (names : List Str) (m : Nat) (es : List D) : Prop where
  ex : ∃ (a : Addr) (o : Obj) (fd : FuncData) (us : List Value), P.mg x = some (.ref a) ∧ P.B.get? a = some o ∧ o.data = .func fd ∧ P.B.CodeRec fd.code fd.qualname ∧ fd.body = .stmts (bodyAt i) ∧ fd.scope = scAt i ∧
    fd.globals = mainGlobals ∧ fd.builtins = builtinsNs ∧ fd.closure = [] ∧ RepAll P.B es us ∧ ∀ (s : Shared) (vs : List Value), Keep P.B s.heap → vs.length = m → BindsTo s fd ⟨vs, []⟩ (names.zip (vs ++ us))
def scOK (i : Nat) (names : List Str) : Bool := (scAt i).kind == .function && !(scAt i).isCoroutine && !(scAt i).isGenerator && (scAt i).names.all (fun x => x.2 != .cell) && decide names.Nodup && names.all fun x => (scAt i).names.lookup x == some .local
theorem GF.intro {k : Nat} {x : Str} {i m : Nat} {names : List Str} {ds es : List D} {d : D} (h : FnAt P x i names m es) (hs : scOK i names = true) (hm : ds.length = m) (hn : names.length = (ds ++ es).length) (hE : Ex P k (scAt i) (names.zip (ds ++ es)) (bodyAt i) (.ret d)) : GF P (k + 1) x ds d := by
  obtain ⟨a, o, fd, us, h1, h2, h3, h4, h5, h6, h7, h8, h9, h10, h11⟩ := h.ex
  unfold scOK at hs
  simp only [Bool.and_eq_true, Bool.not_eq_true', decide_eq_true_eq, List.all_eq_true, beq_iff_eq] at hs
  exact ⟨_, h1, .fn h2 h3, FnV.intro h2 h3 h4 h5 h6 h7 h8 h9 hs.1.1.1.1.1 hs.1.1.1.1.2 hs.1.1.1.2 (fun y hy => by simpa using hs.1.1.2 y hy) hs.1.2 hs.2 hn h10 (fun s vs B e => h11 s vs B (hm ▸ e)) hE⟩
theorem fn_floor_l' {a b : Int} (h : b < (a / 2 ^ 25 + 1) * 2 ^ 25) : FnV P k (.builtin "math.floor") [.fl a b] (.int (a / 2 ^ 25)) := fn_floor_l (by omega) h

theorem Ev.ifexp_ii {test body orelse : Expr} {pos : Pos} {b : Bool} {x y : Int} (ht : EvT P k sc ρ test b) (h : Ev P k sc ρ body (.int x)) (h' : Ev P k sc ρ orelse (.int y)) : Ev P k sc ρ (.IfExp test body orelse pos) (.int (if b = true then x else y)) := by
  cases b with
  | true => exact .ifexp_t ht h
  | false => exact .ifexp_f ht h'

theorem keep_push (h : Heap) (o : Obj) : Keep h (h.push o) := fun b o' e => Heap.get?_push_of_some o e
theorem Ev.tuple {es : List Expr} {kd : Nat} {pos : Pos} {ds : List D} (h : EvA P k sc ρ es ds) (hl : ds.length ≤ 1000) : Ev P k sc ρ (.Tuple es kd pos) (.tup ds) :=
  .mk fun A env s rm ok S => wpAny_Tuple (ev_mono (h.run A env s pos rm ok S) fun vs s₁ h₁ => by
    obtain ⟨⟨h', tk, rfl, k₁⟩, r⟩ := h₁
    have hs : (1000 : Nat) ≤ sizeLine := by decide
    refine ⟨by rw [r.1]; omega, ⟨_, tk, rfl, fun b o e => Heap.get?_push_of_some _ (k₁ b o e)⟩, ?_⟩
    exact .tup ⟨_, Heap.get?_push_size _ rfl, rfl, 0, rfl⟩ r.1 (r.mono (keep_push _ _).seq).2)
theorem Ev.list {es : List Expr} {pos : Pos} {ds : List D} (h : EvA P k sc ρ es ds) (hl : ds.length ≤ 1000) : Ev P k sc ρ (.List es pos) (.lst ds) :=
  .mk fun A env s rm ok S => wpAny_List (ev_mono (h.run A env s pos rm ok S) fun vs s₁ h₁ => by
    obtain ⟨⟨h', tk, rfl, k₁⟩, r⟩ := h₁
    have hs : (1000 : Nat) ≤ sizeLine := by decide
    refine ⟨by rw [r.1]; omega, ⟨_, tk, rfl, fun b o e => Heap.get?_push_of_some _ (k₁ b o e)⟩, ?_⟩
    exact .lst ⟨_, Heap.get?_push_size _ rfl, rfl, 0, rfl⟩ r.1 (r.mono (keep_push _ _).seq).2)

theorem bin_sub_if {n i : Int} (hn : Sm n (2 ^ 27)) (hi : Sm i (2 ^ 26)) : BinR P .Sub (.int i) (.fx n) (.fx (2 * i - n)) := .mk fun A s v u rm _ tp r q => by
  cases q; cases r; rename_i x t ht hx tt
  exact sub_if_fits (fits_of (by omega)) ⟨keeps_tok s _, .fx tp (((FlIs.ofInt (by omega)).sub hx (by omega) (by omega)).cast (by omega) (by omega))⟩
theorem nn_div {a d : Int} (ha : 0 ≤ a) (hd : 0 < d) : 0 ≤ a / d := Int.ediv_nonneg ha (Int.le_of_lt hd)
theorem nn_cup {a d : Int} (ha : 0 ≤ a) (hd : 0 < d) : 0 ≤ -((-a) / d) := by
  have := cup (a := a) hd
  refine Int.le_of_not_gt fun g => ?_
  have := Int.mul_neg_of_neg_of_pos g hd
  omega
theorem cup_lt {a d : Int} (ha : 0 ≤ a) (hd : 0 < d) (h : a < 2 ^ 52) : -((-a) / d) < 2 ^ 53 := by
  have h1 : -2 ^ 52 ≤ (-a) / d := by
    rw [Int.le_ediv_iff_mul_le hd]
    have : (2 : Int) ^ 52 * 1 ≤ 2 ^ 52 * d := Int.mul_le_mul_of_nonneg_left (by omega) (by decide)
    omega
  omega
theorem bin_div_ll' {a b c d : Int} (ha : 0 ≤ a) (hb : 0 ≤ b) (hc : 0 < c) (hd : 0 < d) (hq : -((-(b * 2 ^ 25)) / c) < 2 ^ 53) : BinR P .Div (.fl a b) (.fl c d) (.fl (a * 2 ^ 25 / d) (-((-(b * 2 ^ 25)) / c))) :=
  bin_div_ll hc (nn_div (by omega) hd) (nn_cup (by omega) hc) (fdn hd) (cup hc) hq
theorem bin_div_il' {i c d : Int} (h0 : 0 ≤ i) (hi : i < 2 ^ 26) (hc : 0 < c) (hd : 0 < d) (hq : -((-(i * 2 ^ 25 * 2 ^ 25)) / c) < 2 ^ 53) : BinR P .Div (.int i) (.fl c d) (.fl (i * 2 ^ 25 * 2 ^ 25 / d) (-((-(i * 2 ^ 25 * 2 ^ 25)) / c))) :=
  bin_div_il (by omega) hc (nn_div (by omega) hd) (nn_cup (by omega) hc) (fdn hd) (cup hc) hq

theorem Frm.weak {B : Heap} {env : Env} {ρ ρ' : List (Str × D)} {h : Heap} (hw : ∀ x d, ρ'.lookup x = some d → ρ.lookup x = some d) (F : Frm B env ρ h) : Frm B env ρ' h :=
  ⟨F.base, let ⟨m, h1, h2⟩ := F.ns; ⟨m, h1, fun x d e => h2 x d (hw x d e)⟩, fun x d e => F.kinds x d (hw x d e), fun x d e => F.cells x d (hw x d e), F.allcells, F.apart, F.fresh⟩
theorem St.weak {env : Env} {ρ ρ' : List (Str × D)} {s : Shared} (hw : ∀ x d, ρ'.lookup x = some d → ρ.lookup x = some d) (S : St P env ρ s) : St P env ρ' s := ⟨S.F.weak hw, S.tp⟩
theorem Ex.weak {ρ₁ ρ₂ : List (Str × D)} {sts : List Stmt} (h : Ex P k sc ρ sts (.next ρ₁)) (hw : ∀ x d, ρ₂.lookup x = some d → ρ₁.lookup x = some d) : Ex P k sc ρ sts (.next ρ₂) :=
  .mk fun A env s rm ok S => ev_mono (h.run A env s rm ok S) fun fl s' h' => ⟨h'.1, h'.2.1, h'.2.2.weak hw⟩
theorem Ex.weak1 {ρ₁ : List (Str × D)} {sts : List Stmt} {x : Str} {d : D} (h : Ex P k sc ρ sts (.next ρ₁)) (hx : ρ₁.lookup x = some d) : Ex P k sc ρ sts (.next [(x, d)]) :=
  h.weak fun y e hy => by
    rw [List.lookup_cons] at hy
    cases hb : y == x with
    | true => rw [hb] at hy; cases hy; rw [eq_of_beq hb]; exact hx
    | false => rw [hb] at hy; cases hy

/-- a str's lower() -/
theorem Ev.lower {o : Expr} {apos pos : Pos} {x : Str} (ho : Ev P k sc ρ o (.str x)) (hx : x.length ≤ 5592405) (hline : (apos.endLine == pos.line) = true := by rfl) (hbase : ∀ env, attributeBase o "lower" env (eval o env) = eval o env := by intro _; rfl) :
    Ev P k sc ρ (.Call (.Attribute o "lower" apos) [] [] pos) (.str (Txt.lower x)) :=
  .mk fun A env s rm ok S => Call_method0 (hbase env) hline (ev_seq S (ho.run A env s rm ok S) fun v s₁ k₁ r₁ S₁ => by
    cases r₁
    exact SBL.lower hx fun _ => ⟨keeps_trans k₁ (keeps_tok s₁ _), .str ..⟩)
theorem Ev.or_none {e f : Expr} {pos : Pos} {d : D} (he : Ev P k sc ρ e .none) (hf : Ev P k sc ρ f d) : Ev P k sc ρ (.BoolOp .Or [e, f] pos) d :=
  .mk fun A env s rm ok S => wpAny_Or2 (ev_seq S (he.run A env s rm ok S) fun v s₁ k₁ r₁ S₁ => by
    cases r₁
    exact truthy_none (ev_mono (hf.run A env s₁ rm ok S₁) fun u s₂ h₂ => ⟨keeps_trans k₁ h₂.1, h₂.2⟩))
theorem Ev.or_str {e f : Expr} {pos : Pos} {x : Str} (he : Ev P k sc ρ e (.str x)) (hx : 0 < x.length ∧ x.length < 1000) : Ev P k sc ρ (.BoolOp .Or [e, f] pos) (.str x) :=
  .mk fun A env s rm ok S => wpAny_Or2 (ev_seq S (he.run A env s rm ok S) fun v s₁ k₁ r₁ S₁ => by
    cases r₁
    refine SBL.truthy (by omega) ?_
    have : ((x.length : Int) != 0) = true := by simp; omega
    rw [this]
    exact ⟨keeps_trans k₁ (keeps_tok s₁ _), .str ..⟩)

theorem fn_trunc_i {n : Int} : FnV P k (.builtin "math.trunc") [.int n] (.int n) := .mk fun A s vs rm B tp r => by
  obtain ⟨v, rfl, rr⟩ := r.one
  cases rr; exact Flt.call_trunc_int ⟨keeps_refl s, .int ..⟩
theorem bin_div_x365 {n : Int} (h0 : 0 ≤ n) (hn : n < 2 ^ 27) : BinR P .Div (.fx n) (.fl 12255756288 12255756288) (.fl (n * 2 ^ 24 * 2 ^ 25 / 12255756288) (-((-(n * 2 ^ 24 * 2 ^ 25)) / 12255756288))) := .mk fun A s v u rm _ tp r q => by
  cases r; cases q; rename_i x t ht hx y t' hy
  have hc : (0 : Int) < 12255756288 := by decide
  exact truediv_float_or rm.hd (fun g => absurd g (by rw [hy.notZero hc]; decide)) fun _ => ⟨keeps_tok s _, .fl _ (hx.divI hy hc (nn_div (by omega) hc) (nn_cup (by omega) hc) (fdn hc) (cup hc) (by omega) (by omega))⟩
theorem fn_trunc_365 {n : Int} (h0 : 0 ≤ n) : FnV P k (.builtin "math.trunc") [.fl (n * 2 ^ 24 * 2 ^ 25 / 12255756288) (-((-(n * 2 ^ 24 * 2 ^ 25)) / 12255756288))] (.int (2 * n / 1461)) := by
  refine fn_trunc_l (by omega) ?_ ?_
  · rw [Int.le_ediv_iff_mul_le (by decide)]; omega
  · have : -((2 * n / 1461 + 1) * 2 ^ 25 - 1) ≤ (-(n * 2 ^ 24 * 2 ^ 25)) / 12255756288 := by
      rw [Int.le_ediv_iff_mul_le (by decide)]; omega
    omega
end
section
open PySem PySem.W PyProof.Rows PySem.Calls
open Sem (wp)
theorem mro_date : mroOf (.type "datetime.date") = pure [.type "datetime.date", .type "object"] := by rw [mroOf_type]; kernel_rfl
theorem lookup_date_new : typeLookup (.type "datetime.date") "__new__" = pure (some (.builtin "datetime.date.__new__")) := by rw [typeLookup_type, builtinLookup_eq_fast]; kernel_rfl
theorem slot_date_init : Slot "datetime.date" "__init__" "object.__init__" :=
  .of (owner := "object") (n := "__init__") (by rw [typeLookup_type, builtinLookup_eq_fast]; kernel_rfl) (by decide +kernel) (by decide +kernel) (by decide +kernel)
    (by first | exact .inl (by decide +kernel) | exact .inr (by decide +kernel)) (by rw [isSubtype_type]; kernel_rfl)
theorem called_date : TypeCalled "datetime.date" "datetime.date.__new__" "object.__init__" :=
  ⟨by decide +kernel, by decide +kernel, ⟨_, _, mro_date⟩, madeBy_type mro_date lookup_date_new (by decide +kernel), by decide +kernel, by rw [isSubtype_type]; kernel_rfl, slot_date_init⟩
theorem typeCall_date (a b c : Value) : checkTypeCall "datetime.date" ⟨[a, b, c], []⟩ = pure () := by kernel_rfl
theorem newCall_date (a b c : Value) : checkBuiltinCall "datetime.date.__new__" ⟨[.type "datetime.date", a, b, c], []⟩ = pure () := by kernel_rfl
theorem entry_date_new : entryFor table "datetime.date.__new__" = some Builtin.«datetime.date.__new__» := entryFor_of_tree (by kernel_rfl)
theorem sub_date_dt : isSubtype (.type "datetime.date") (.type "datetime.datetime") = pure false := by rw [isSubtype_type]; kernel_rfl
theorem sub_date_date : isSubtype (.type "datetime.date") (.type "datetime.date") = pure true := by rw [isSubtype_type]; kernel_rfl
theorem slot_date_weekday : Slot "datetime.date" "weekday" "datetime.date.weekday" :=
  .of (owner := "datetime.date") (n := "weekday") (by rw [typeLookup_type, builtinLookup_eq_fast]; kernel_rfl) (by decide +kernel) (by decide +kernel) (by decide +kernel)
    (by first | exact .inl (by decide +kernel) | exact .inr (by decide +kernel)) (by rw [isSubtype_type]; kernel_rfl)
theorem type_date_weekday : typeOf (.builtin "datetime.date.weekday") = pure (.type "method_descriptor") := by show builtinType _ = _; rw [builtinType_eq_fast]; kernel_rfl
theorem entry_date_weekday : entryFor table "datetime.date.weekday" = some Builtin.«datetime.date.weekday» := entryFor_of_tree (by kernel_rfl)
theorem slot_date_isocalendar : Slot "datetime.date" "isocalendar" "datetime.date.isocalendar" :=
  .of (owner := "datetime.date") (n := "isocalendar") (by rw [typeLookup_type, builtinLookup_eq_fast]; kernel_rfl) (by decide +kernel) (by decide +kernel) (by decide +kernel)
    (by first | exact .inl (by decide +kernel) | exact .inr (by decide +kernel)) (by rw [isSubtype_type]; kernel_rfl)
theorem type_date_isocalendar : typeOf (.builtin "datetime.date.isocalendar") = pure (.type "method_descriptor") := by show builtinType _ = _; rw [builtinType_eq_fast]; kernel_rfl
theorem entry_date_isocalendar : entryFor table "datetime.date.isocalendar" = some Builtin.«datetime.date.isocalendar» := entryFor_of_tree (by kernel_rfl)
theorem plainAttrs_date : PlainAttrs "datetime.date" := ⟨⟨"object.__getattribute__", by rw [typeLookup_type, builtinLookup_eq_fast]; kernel_rfl, by decide +kernel⟩, by rw [typeLookup_type, builtinLookup_eq_fast]; kernel_rfl⟩
theorem argsOk_date_weekday (a : Value) : argsOk "datetime.date.weekday" ⟨[a], []⟩ := by kernel_rfl
theorem argsOk_date_isocalendar (a : Value) : argsOk "datetime.date.isocalendar" ⟨[a], []⟩ := by kernel_rfl
end
section
open PySem PySem.W PyProof.Rows PySem.Calls
open Sem (wp)
open PySem.Builtin._datetime
def dateObj (y m d : Int) : Obj := { cls := .type "datetime.date", data := .fields #[rawInt y, rawInt m, rawInt d] }
theorem dtCInt_int {prog : Program} {w : World} {A : Around} {E : Value → Shared → Prop} {s : Shared} {i : Int} {t : Tok} {Q : Int → Shared → Prop} (hi : -10000 ≤ i ∧ i ≤ 10000) (h : Q i s) : wpAny (model prog w) A (dtCInt (.int i t)) Q E s := by
  unfold dtCInt
  refine wpAny_bind ?_
  wp_walk
  rw [if_neg (by simp; omega)]
  wp_walk
  rw [if_neg (by omega)]
  wp_walk
  rw [if_neg (by omega)]
  wp_walk
  exact h
theorem checkDate_ok {prog : Program} {w : World} {A : Around} {E : Value → Shared → Prop} {s : Shared} {y m d : Int} {Q : Unit → Shared → Prop} (hy : 1 ≤ y ∧ y ≤ 9999) (hm : 1 ≤ m ∧ m ≤ 12) (hd : 1 ≤ d ∧ d ≤ daysInMonth y m) (h : Q () s) : wpAny (model prog w) A (checkDate y m d) Q E s := by
  unfold checkDate
  rw [if_neg (by simp; omega)]
  wp_walk
  exact h
theorem meets_date_new {y m d : Int} {t u r : Tok} (hy : 1 ≤ y ∧ y ≤ 9999) (hm : 1 ≤ m ∧ m ≤ 12) (hd : 1 ≤ d ∧ d ≤ daysInMonth y m) (hd2 : d ≤ 31) :
    Meets (Builtin.«datetime.date.__new__» ⟨[.type "datetime.date", .int y t, .int m u, .int d r], []⟩) (fun _ R s => R (.ok (.ret (.ref s.heap.objs.size))) { s with heap := s.heap.push (dateObj y m d) }) :=
  .of_wp fun prog w A R s h => by
    obtain ⟨hp, g, dd, tk, os⟩ := s
    have h1 := sub_date_dt
    have h2 := sub_date_date
    have e1 : -10000 ≤ y ∧ y ≤ 10000 := by omega
    have e2 : -10000 ≤ m ∧ m ≤ 10000 := by omega
    have e3 : -10000 ≤ d ∧ d ≤ 10000 := by omega
    wp_walk using dtCInt_int e1, dtCInt_int e2, dtCInt_int e3, checkDate_ok hy hm hd
    exact ⟨_, rfl, h⟩
theorem args_object_init_4 (a b c d : Value) : argsOk "object.__init__" ⟨[a, b, c, d], []⟩ := by kernel_rfl
theorem call_date {prog : Program} {w : World} {A : Around} {E : Value → Shared → Prop} {s : Shared} {Q : Value → Shared → Prop} {y m d : Int} {t u r : Tok} (hy : 1 ≤ y ∧ y ≤ 9999) (hm : 1 ≤ m ∧ m ≤ 12) (hd : 1 ≤ d ∧ d ≤ daysInMonth y m) (hd2 : d ≤ 31)
    (h : Q (.ref s.heap.objs.size) { s with heap := s.heap.push (dateObj y m d) }) : wpAny (model prog w) A (call (.type "datetime.date") [.int y t, .int m u, .int d r]) Q E s :=
  callType_new called_date (by decide) (typeCall_date _ _ _) (newCall_date _ _ _) (fun obj => args_object_init_4 obj _ _ _) entry_date_new (meets_date_new hy hm hd hd2)
    ⟨⟨_, Heap.get?_push_size _ rfl, rfl⟩, h⟩
theorem call_date_weekday {M : Model} {A : Around} {E : Value → Shared → Prop} {s : Shared} {Q : Fin → Shared → Prop} {y m d : Int} {a : Addr} (ha : s.heap.get? a = some (dateObj y m d))
    (h : ∀ t, Q (.done (.ret (.int (weekdayOf (toOrdinal y m d)) t))) { s with toks := s.toks + 1 }) : wpAny M A (Builtin.«datetime.date.weekday» ⟨[.ref a], []⟩) Q E s := by
  obtain ⟨hp, g, dd, tk, os⟩ := s
  have h2 : isSubtype (dateObj y m d).cls (.type "datetime.date") = pure true := sub_date_date
  wp_walk using AutoSeq1.wpAny_loadPart' ha
  exact h _
theorem call_date_isocalendar {M : Model} {A : Around} {E : Value → Shared → Prop} {s : Shared} {Q : Fin → Shared → Prop} {y m d : Int} {a : Addr} (ha : s.heap.get? a = some (dateObj y m d))
    (h : ∀ t u r, Q (.done (.ret (.ref s.heap.objs.size))) { s with heap := s.heap.push { cls := .type "datetime.IsoCalendarDate", data := .seq #[.int (isoCalendarOf y m d).1 t, .int (isoCalendarOf y m d).2.1 u, .int (isoCalendarOf y m d).2.2 r] }, toks := s.toks + 1 + 1 + 1 }) : wpAny M A (Builtin.«datetime.date.isocalendar» ⟨[.ref a], []⟩) Q E s := by
  obtain ⟨hp, g, dd, tk, os⟩ := s
  have h2 : isSubtype (dateObj y m d).cls (.type "datetime.date") = pure true := sub_date_date
  wp_walk using AutoSeq1.wpAny_loadPart' ha
  exact h _ _ _
variable {P : PK} {k : Nat} {sc : Scope} {ρ : List (Str × D)}
/-- a call of date: the object -/
structure EvDate (P : PK) (k : Nat) (sc : Scope) (ρ : List (Str × D)) (e : Expr) (y m d : Int) : Prop where
  run : ∀ (A : Around) (env : Env) (s : Shared), Room k A → EnvOK env sc → St P env ρ s → wpAny (model P.prog P.w) A (eval e env) (fun v s' => Keeps s s' ∧ ∃ a, v = .ref a ∧ s'.heap.get? a = some (dateObj y m d)) NoE s
theorem EvDate.call {id : Str} {p pos : Pos} {e : Expr} {es : List Expr} {y m d : Int} (hf : Ev P k sc ρ (.Name id p) (.val (.type "datetime.date"))) (ha : EvA P k sc ρ (e :: es) [.int y, .int m, .int d])
    (hy : 1 ≤ y ∧ y ≤ 9999) (hm : 1 ≤ m ∧ m ≤ 12) (hd : 1 ≤ d ∧ d ≤ daysInMonth y m) (hd2 : d ≤ 31)
    (he : ∀ env, starEach (e :: es) env = (false, eval e env) :: starEach es env := by intro _; rfl) (hp : ∀ env, (backTo pos (starEach es env)).any (·.1) = false := by intro _; rfl) : EvDate P k sc ρ (.Call (.Name id p) (e :: es) [] pos) y m d :=
  .mk fun A env s rm ok S => by
    refine wpAny_Call_Name_kw (ev_seq S (hf.run A env s rm ok S) fun v s₁ k1 r1 S₁ => ?_)
    cases r1
    exact callWith_type1 (ev_seq S₁ (ha.run A env s₁ pos rm ok S₁) fun vs s₂ k₂ r₂ S₂ => by
      obtain ⟨v1, us, rfl, q1, q2⟩ := r₂.uncons
      obtain ⟨v2, v3, rfl, q2, q3⟩ := q2.two
      cases q1; cases q2; cases q3
      refine call_date hy hm hd hd2 ⟨keeps_trans k1 (keeps_trans k₂ ⟨_, s₂.toks, rfl, keep_push _ _⟩), _, rfl, Heap.get?_push_size _ rfl⟩) (he env) (hp env)
theorem typeIs_date {s : Shared} {a : Addr} {y m d : Int} (h : s.heap.get? a = some (dateObj y m d)) : s.TypeIs (.ref a) "datetime.date" := ⟨_, h, rfl⟩
theorem Ev.weekday {o : Expr} {apos pos : Pos} {y m d : Int} (ho : EvDate P k sc ρ o y m d) (hline : (apos.endLine == pos.line) = true := by rfl) (hbase : ∀ env, attributeBase o "weekday" env (eval o env) = eval o env := by intro _; rfl) :
    Ev P k sc ρ (.Call (.Attribute o "weekday" apos) [] [] pos) (.int (weekdayOf (toOrdinal y m d))) :=
  .mk fun A env s rm ok S => Call_method0 (hbase env) hline (ev_seq S (ho.run A env s rm ok S) fun v s₁ k₁ r₁ S₁ => by
    obtain ⟨a, rfl, ha⟩ := r₁
    refine ⟨"datetime.date", _, plainAttrs_date, slot_date_weekday, type_date_weekday, typeIs_date ha, fun b e => by cases e; exact ⟨_, ha, rfl⟩, ?_⟩
    refine Calls.callWith_builtin rfl (PySem.evalArgs_none ?_)
    exact wpAny_call_entry slot_date_weekday (typeIs_date ha) entry_date_weekday (call_date_weekday ha fun t => ⟨_, rfl, keeps_trans k₁ (keeps_tok s₁ _), .int ..⟩) (argsOk_date_weekday _))
theorem Ev.isocalendar {o : Expr} {apos pos : Pos} {y m d : Int} (ho : EvDate P k sc ρ o y m d) (hline : (apos.endLine == pos.line) = true := by rfl) (hbase : ∀ env, attributeBase o "isocalendar" env (eval o env) = eval o env := by intro _; rfl) :
    Ev P k sc ρ (.Call (.Attribute o "isocalendar" apos) [] [] pos) (.sq "datetime.IsoCalendarDate" [.int (isoCalendarOf y m d).1, .int (isoCalendarOf y m d).2.1, .int (isoCalendarOf y m d).2.2]) :=
  .mk fun A env s rm ok S => Call_method0 (hbase env) hline (ev_seq S (ho.run A env s rm ok S) fun v s₁ k₁ r₁ S₁ => by
    obtain ⟨a, rfl, ha⟩ := r₁
    refine ⟨"datetime.date", _, plainAttrs_date, slot_date_isocalendar, type_date_isocalendar, typeIs_date ha, fun b e => by cases e; exact ⟨_, ha, rfl⟩, ?_⟩
    refine Calls.callWith_builtin rfl (PySem.evalArgs_none ?_)
    exact wpAny_call_entry slot_date_isocalendar (typeIs_date ha) entry_date_isocalendar (call_date_isocalendar ha fun t u r => ⟨_, rfl, keeps_trans k₁ ⟨_, _, rfl, keep_push _ _⟩,
      .sq (vs := [.int _ t, .int _ u, .int _ r]) (Heap.get?_push_size _ rfl) rfl rfl rfl (RepAll.cons (.int ..) (RepAll.cons (.int ..) (RepAll.cons (.int ..) RepAll.nil))).2⟩) (argsOk_date_isocalendar _))
end
section
open PySem PySem.W PyProof.Rows PySem.Calls
open Sem (wp)
variable {P : PK} {k : Nat} {sc : Scope} {ρ : List (Str × D)}
theorem slot_iso_getitem : Slot "datetime.IsoCalendarDate" "__getitem__" "tuple.__getitem__" :=
  .of (owner := "tuple") (n := "__getitem__") (by rw [typeLookup_type, builtinLookup_eq_fast]; kernel_rfl) (by decide +kernel) (by decide +kernel) (by decide +kernel)
    (by first | exact .inl (by decide +kernel) | exact .inr (by decide +kernel)) (by rw [isSubtype_type]; kernel_rfl)
theorem getItem_iso {prog : Program} {w : World} {A : Around} {E : Value → Shared → Prop} {s : Shared} {t : Addr} {o : Obj} {n : Nat} {items : Array Value} {k : Int} {u : Tok} {j : Nat} {x : Value} {Q : Value → Shared → Prop} (ho : s.heap.get? t = some o) (hc : o.cls = .type "datetime.IsoCalendarDate") (hd : o.data = .seq items n)
    (hlo : -(2 ^ 63) ≤ k) (hhi : k < 2 ^ 63) (hj : seqIndex? k items.size = some j) (hx : items[j]? = some x) (h : Q x s) : wpAny (model prog w) A (getItem (.ref t) (.int k u)) Q E s := by
  have hT : s.TypeIs (.ref t) "datetime.IsoCalendarDate" := ⟨o, ho, hc⟩
  unfold getItem
  try with_reducible refine wpAny_holding ?_
  first | refine wpAny_bind (wpAny_pure ?_) | skip
  refine wpAny_bind (wpAny_sequenceKey hT (by decide) ?_)
  refine wpAny_bind (wpAny_callSpecial?_slot (name := Str.ofString "__getitem__") hT slot_iso_getitem
    (wpAny_call_entry slot_iso_getitem hT PyProof.Rows.entry_tuple_getitem ?_ (PyProof.Rows.args_tuple_getitem _ _)))
  show wpAny _ _ (Builtin.Tuple.tupleItemsOf (.ref t) >>= _) _ _ s
  unfold Builtin.Tuple.tupleItemsOf
  refine wpAny_bind (wpAny_bind (wpAny_seqItems ho hd (wpAny_pure ?_)))
  refine wpAny_bind (wpAny_typeOf (typeIs_int s k u) ?_)
  rw [if_neg (by decide)]
  refine wpAny_bind (wpAny_specialOf (T := "int") (typeIs_int s k u) int_index ?_)
  rw [if_neg (by simp)]
  refine wpAny_bind (wpAny_of_eq (a := k) rfl ?_)
  rw [if_neg (by simp only [Bool.or_eq_true, decide_eq_true_eq]; omega)]
  simp only [hj, Option.bind_some, hx]
  exact wpAny_pure ⟨_, rfl, wpAny_pure h⟩
theorem seqIdx {j n : Nat} (h : j < n) : seqIndex? (j : Int) n = some j := by
  unfold seqIndex?
  simp
  omega
theorem lt_of_get {α : Type} {l : List α} {j : Nat} {x : α} (h : l[j]? = some x) : j < l.length := by
  rcases Nat.lt_or_ge j l.length with g | g
  · exact g
  · rw [List.getElem?_eq_none g] at h; cases h
abbrev PlainSub (slice : Expr) : Prop := ∀ (t : Addr) (k : Int) (u : Tok), subscripted slice false (.ref t) (.int k u) = operate [.ref t, .int k u] (getItem (.ref t) (.int k u))
theorem Ev.sub_tup {value slice : Expr} {pos : Pos} {ds : List D} {i : Int} {d : D} (hv : Ev P k sc ρ value (.tup ds)) (hi : Ev P k sc ρ slice (.int i)) (h0 : 0 ≤ i) (h1 : i < 2 ^ 60) (hj : ds[i.toNat]? = some d)
    (hs : PlainSub slice := by intro _ _ _; with_unfolding_all rfl) : Ev P k sc ρ (.Subscript value slice pos) d :=
  .mk fun A env s rm ok S => Subscript_ (ev_seq S (hv.run A env s rm ok S) fun v s₁ k₁ r₁ S₁ => ev_seq S₁ (hi.run A env s₁ rm ok S₁) fun u s₂ k₂ r₂ S₂ => by
    have r₁' := r₁.mono (kk k₂).seq
    cases r₂
    cases r₁'
    rename_i a vs ha hl hr
    have hlt := lt_of_get hj
    have e : (i.toNat : Int) = i := Int.toNat_of_nonneg h0
    obtain ⟨j, hj2⟩ : ∃ j, vs[i.toNat]? = some j := ⟨_, List.getElem?_eq_getElem (by omega)⟩
    exact item_tupleT (j := i.toNat) ha (by omega) (by omega) (by rw [← e]; exact seqIdx (by omega)) hj2 ⟨keeps_trans k₁ k₂, hr _ _ _ hj hj2⟩ (hs _ _ _))
theorem Ev.sub_lst {value slice : Expr} {pos : Pos} {ds : List D} {i : Int} {d : D} (hv : Ev P k sc ρ value (.lst ds)) (hi : Ev P k sc ρ slice (.int i)) (h0 : 0 ≤ i) (h1 : i < 2 ^ 60) (hj : ds[i.toNat]? = some d)
    (hs : PlainSub slice := by intro _ _ _; with_unfolding_all rfl) : Ev P k sc ρ (.Subscript value slice pos) d :=
  .mk fun A env s rm ok S => Subscript_ (ev_seq S (hv.run A env s rm ok S) fun v s₁ k₁ r₁ S₁ => ev_seq S₁ (hi.run A env s₁ rm ok S₁) fun u s₂ k₂ r₂ S₂ => by
    have r₁' := r₁.mono (kk k₂).seq
    cases r₂
    cases r₁'
    rename_i a vs ha hl hr
    have hlt := lt_of_get hj
    obtain ⟨j, hj2⟩ : ∃ j, vs[i.toNat]? = some j := ⟨_, List.getElem?_eq_getElem (by omega)⟩
    exact tail_any ha.typeIs slot_list_getitem.lookup (wpAny_getItem_list ha h0 (by omega) (by simpa using hj2) ⟨keeps_trans k₁ k₂, hr _ _ _ hj hj2⟩) (hs _ _ _))
theorem Ev.sub_iso {value slice : Expr} {pos : Pos} {ds : List D} {i : Int} {d : D} (hv : Ev P k sc ρ value (.sq "datetime.IsoCalendarDate" ds)) (hi : Ev P k sc ρ slice (.int i)) (h0 : 0 ≤ i) (h1 : i < 2 ^ 60) (hj : ds[i.toNat]? = some d)
    (hs : PlainSub slice := by intro _ _ _; with_unfolding_all rfl) : Ev P k sc ρ (.Subscript value slice pos) d :=
  .mk fun A env s rm ok S => Subscript_ (ev_seq S (hv.run A env s rm ok S) fun v s₁ k₁ r₁ S₁ => ev_seq S₁ (hi.run A env s₁ rm ok S₁) fun u s₂ k₂ r₂ S₂ => by
    have r₁' := r₁.mono (kk k₂).seq
    cases r₂
    cases r₁'
    rename_i a o n vs ha hd hc hl hr
    have hlt := lt_of_get hj
    have e : (i.toNat : Int) = i := Int.toNat_of_nonneg h0
    obtain ⟨j, hj2⟩ : ∃ j, vs[i.toNat]? = some j := ⟨_, List.getElem?_eq_getElem (by omega)⟩
    exact tail_any (T := "datetime.IsoCalendarDate") ⟨o, ha, hc⟩ slot_iso_getitem.lookup (getItem_iso ha hc hd (j := i.toNat) (by omega) (by omega) (by rw [← e]; exact seqIdx (by simp; omega)) (by simpa using hj2) ⟨keeps_trans k₁ k₂, hr _ _ _ hj hj2⟩) (hs _ _ _))
end
section
open PySem PySem.W PyProof.Rows PySem.Calls
open Sem (wp)
variable {P : PK} {k : Nat} {sc : Scope} {ρ : List (Str × D)}
/-- a global that is an object of a subclass of int -/
structure SubInt (P : PK) (a : Addr) (j : Int) : Prop where
  ex : ∃ (C : Addr) (o : Obj) (t : Tok), P.B.get? a = some o ∧ o.cls = .ref C ∧ o.data = .prim (.int j t) ∧ Looks (model P.prog P.w) P.B (isSubtype (.ref C) (.type "int")) true ∧ Looks (model P.prog P.w) P.B (typeLookup (.ref C) "__eq__") (some (.builtin "int.__eq__"))
theorem int_eq_slot : Slot "int" "__eq__" "int.__eq__" :=
  .of (owner := "int") (n := "__eq__") (by rw [typeLookup_type, builtinLookup_eq_fast]; kernel_rfl) (by decide +kernel) (by decide +kernel) (by decide +kernel)
    (by first | exact .inl (by decide +kernel) | exact .inr (by decide +kernel)) (by rw [isSubtype_type]; kernel_rfl)
theorem int_eq_entry : entryFor table "int.__eq__" = some Builtin.«int.__eq__» := entryFor_of_tree (by kernel_rfl)
theorem int_eq_args (a b : Value) : argsOk "int.__eq__" ⟨[a, b], []⟩ := by unfold argsOk; kernel_rfl
theorem cmp_eq_sub {a : Addr} {i j : Int} (h : SubInt P a j) : CmpR P .Eq (.int i) (.val (.ref a)) (j == i) := .mk fun A s v u rm B tp r q => by
  cases r; cases q; rename_i t
  obtain ⟨C, o, t', ho, hc, hd, L1, L2⟩ := h.ex
  have ho' := B _ _ ho
  have L1' := L1.keeps B
  have L2' := L2.keeps B
  obtain ⟨hp, g, d, tk, os⟩ := s
  have L0 : Looks (model P.prog P.w) hp (typeOf (.ref a)) (.ref C) := by
    intro A Q E s k q
    refine wpAny_typeOf_ref (k _ _ ho') ?_
    rw [hc]; exact q
  unfold compareOp
  refine wpAny_holding (wpAny_bind (wpAny_cRoomFor (by have := rm.un; omega) ?_))
  show wpAny _ _ (typeOf (.int i t) >>= fun ta => _) _ _ _
  refine wpAny_bind (wpAny_typeOf (typeIs_int _ _ _) (wpAny_bind (L0.at ?_)))
  have hne : ((Value.type "int") != Value.ref C) = true := by simp
  simp only [hne, if_true]
  refine wpAny_bind (L1'.at ?_)
  simp only [if_true]
  unfold tryCompare
  refine wpAny_bind (wpAny_bind (wpAny_holding ?_))
  unfold bindSpecialIfBound?
  refine wpAny_bind (wpAny_bind ?_)
  refine wpAny_bind (L0.at (L2'.at ?_))
  simp only [int_eq_slot.bind]
  have fin : wpAny (model P.prog P.w) A (call (.builtin "int.__eq__") [.ref a, .int i t]) (fun v s' => v = .bool (j == i) ∧ s' = ⟨hp, g, d, tk, os⟩) NoE ⟨hp, g, d, tk, os⟩ := by
    refine wpAny_call (codeAny_call_builtin int_eq_slot.plain int_eq_entry ?_)
    refine check_slot (owner := "int") (n := "__eq__") (by decide +kernel) (by decide +kernel) (L0.andThen L1') (int_eq_args _ _) ?_
    wp_walk using AutoSeq1.wpAny_loadPart' ho'
    simp only [hd]
    wp_walk
    exact ⟨rfl, rfl⟩
  refine wpAny_bind (wpAny_askSetting (wpAny_ite ?_))
  split
  · refine wpAny_bind (wpAny_pure (wpAny_pure ?_))
    refine wpAny_bind (ev_mono fin fun v s' hv => ?_)
    obtain ⟨rfl, rfl⟩ := hv
    exact wpAny_pure (wpAny_pure (wpAny_bind (wpAny_rule (wpAny_pure ⟨keeps_refl _, .bool _⟩))))
  · refine wpAny_tryCatch (wpAny_bind (wpAny_pure (wpAny_pure ?_)))
    refine wpAny_bind (ev_mono fin fun v s' hv => ?_)
    obtain ⟨rfl, rfl⟩ := hv
    exact wpAny_pure (wpAny_pure (wpAny_bind (wpAny_rule (wpAny_pure ⟨keeps_refl _, .bool _⟩))))
end
section
open PySem PySem.W PyProof.Rows PySem.Calls
open Sem (wp)
variable {P : PK} {k : Nat} {sc : Scope} {ρ : List (Str × D)}

/-- an iterator that still has ds to give; H the heap that the items lie in -/
def Itr (H h : Heap) (J : Addr) (ds : List D) : Prop :=
  (∃ (ax : Addr) (items : Array Value) (i : Nat), h.IsListIter J ax i ∧ H.IsList ax items ∧ i ≤ items.size ∧ RepAll H ds (items.toList.drop i)) ∨
  (∃ a c : Int, IsRangeIter h J a ds.length c ∧ ∀ (i : Nat) (d : D), ds[i]? = some d → d = .int (a + i * c))
theorem Itr.frame {H h h' : Heap} {J : Addr} {ds : List D} (x : Itr H h J ds) (k : ∀ o, h.get? J = some o → h'.get? J = some o) : Itr H h' J ds := by
  rcases x with ⟨ax, items, i, h1, h2, h3, h4⟩ | ⟨a, c, h1, h2⟩
  · exact .inl ⟨ax, items, i, h1.at k, h2, h3, h4⟩
  · exact .inr ⟨a, c, k _ h1, h2⟩
theorem isList_keep {H h : Heap} {a : Addr} {items : Array Value} (x : H.IsList a items) (k : Keep H h) : h.IsList a items := let ⟨o, ho, r⟩ := x; ⟨o, k _ _ ho, r⟩
theorem Itr.next {H : Heap} {J : Addr} {d : D} {ds : List D} {prog : Program} {w : World} {A : Around} {s : Shared} {Q : Option Value → Shared → Prop} {E : Value → Shared → Prop} (hk : Keep H s.heap) (hJ : H.get? J = none) (x : Itr H s.heap J (d :: ds))
    (h : ∀ v h' tk, s.toks ≤ tk → Rep H d v → Heap.SameBut J s.heap h' → Itr H h' J ds → Q (some v) { s with heap := h', toks := tk }) : wpAny (model prog w) A (pyNext (.ref J)) Q E s := by
  rcases x with ⟨ax, items, i, h1, h2, h3, h4⟩ | ⟨a, c, h1, h2⟩
  · obtain ⟨v, us, e, r1, r2⟩ := h4.uncons
    have hi : items[i]? = some v := by
      have : (items.toList.drop i)[0]? = some v := by rw [e]; rfl
      rw [List.getElem?_drop] at this
      simpa using this
    refine wpAny_pyNext_list_item h1 (isList_keep h2 hk) hi fun h' g1 g2 => h v h' s.toks (Nat.le_refl _) r1 g2 (.inl ⟨ax, items, i + 1, g1, h2, ?_, ?_⟩)
    · have := (Array.getElem?_eq_some_iff.mp hi).1; omega
    · have : items.toList.drop (i + 1) = us := by rw [← List.drop_drop, e]; rfl
      rw [this]; exact r2
  · refine wpAny_pyNext_range_item h1 (by simp) fun h' g1 g2 => h _ h' _ (Nat.le_succ _) ?_ g2 (.inr ⟨a + c, c, ?_, fun i d' hd => ?_⟩)
    · have := h2 0 d rfl
      rw [this]
      have e : a + ((0 : Nat) : Int) * c = a := by simp
      rw [e]; exact .int ..
    · have e : ((d :: ds).length : Int) - 1 = ds.length := by simp
      rw [e] at g1; exact g1
    · have := h2 (i + 1) d' (by simpa using hd)
      rw [this]
      congr 1
      push_cast
      rw [Int.add_mul]; omega
theorem Itr.done {H : Heap} {J : Addr} {prog : Program} {w : World} {A : Around} {s : Shared} {Q : Option Value → Shared → Prop} {E : Value → Shared → Prop} (hh : A.handled = none) (hk : Keep H s.heap) (x : Itr H s.heap J [])
    (h : ∀ h', Heap.ExtBut J s.heap h' → Q none { s with heap := h' }) : wpAny (model prog w) A (pyNext (.ref J)) Q E s := by
  rcases x with ⟨ax, items, i, h1, h2, h3, h4⟩ | ⟨a, c, h1, h2⟩
  · have : items.toList.length ≤ i := List.drop_eq_nil_iff.mp h4.unnil
    refine wpAny_pyNext_list_end hh h1 (isList_keep h2 hk) (by simp at this; simp [this]) fun h' g => h h' g
  · exact wpAny_pyNext_range_end hh h1 (by simp) fun h' g => h h' g
theorem Itr.self {H : Heap} {J : Addr} {ds : List D} {prog : Program} {w : World} {A : Around} {s : Shared} {Q : Value → Shared → Prop} {E : Value → Shared → Prop} (x : Itr H s.heap J ds) (h : Q (.ref J) s) : wpAny (model prog w) A (pyIter (.ref J)) Q E s := by
  rcases x with ⟨ax, items, i, h1, h2, h3, h4⟩ | ⟨a, c, h1, h2⟩
  · exact wpAny_pyIter_listiter h1 h
  · exact wpAny_pyIter_rangeiter h1 h

/-- the state, seen from an older heap -/
structure StH (P : PK) (H : Heap) (env : Env) (ρ : List (Str × D)) (s : Shared) : Prop where
  keep : Keep H s.heap
  base : Keep P.B H
  ns : ∃ m, s.heap.Ns env.locals m ∧ ∀ x d, ρ.lookup x = some d → env.kindOf x = some .local → ∃ v, m x = some v ∧ Rep H d v
  kinds : ∀ x d, ρ.lookup x = some d → env.kindOf x = some .local ∨ env.kindOf x = some .cell
  cells : ∀ x d, ρ.lookup x = some d → env.kindOf x = some .cell → ∃ c v, env.cells.lookup x = some c ∧ s.heap.IsCell c (some v) ∧ Rep H d v
  allcells : ∀ x c, (x, c) ∈ env.cells → (∃ v, s.heap.IsCell c v) ∧ P.B.get? c = none
  apart : env.cells.Pairwise fun x y => x.2 ≠ y.2
  fresh : P.B.get? env.locals = none
  tp : 0 < s.toks
theorem StH.st {H : Heap} {env : Env} {s : Shared} (S : StH P H env ρ s) : St P env ρ s :=
  ⟨⟨S.base.trans S.keep, let ⟨m, h1, h2⟩ := S.ns; ⟨m, h1, fun x d e q => let ⟨v, g1, g2⟩ := h2 x d e q; ⟨v, g1, g2.mono S.keep.seq⟩⟩, S.kinds,
    fun x d e q => let ⟨c, v, g1, g2, g3⟩ := S.cells x d e q; ⟨c, v, g1, g2, g3.mono S.keep.seq⟩, S.allcells, S.apart, S.fresh⟩, S.tp⟩
theorem St.stH {env : Env} {s : Shared} (S : St P env ρ s) : StH P s.heap env ρ s :=
  ⟨Keep.refl _, S.F.base, S.F.ns, S.F.kinds, S.F.cells, S.F.allcells, S.F.apart, S.F.fresh, S.tp⟩
theorem StH.keeps {H : Heap} {env : Env} {s s' : Shared} (S : StH P H env ρ s) (k : Keep s.heap s'.heap) (tp : 0 < s'.toks) : StH P H env ρ s' :=
  ⟨S.keep.trans k, S.base, let ⟨m, h1, h2⟩ := S.ns; ⟨m, h1.keeps k, h2⟩, S.kinds, fun x d e q => let ⟨c, v, g1, g2, g3⟩ := S.cells x d e q; ⟨c, v, g1, g2.keeps k, g3⟩,
    fun x c e => let ⟨⟨v, h1⟩, h2⟩ := S.allcells x c e; ⟨⟨v, h1.keeps k⟩, h2⟩, S.apart, S.fresh, tp⟩
/-- an object outside changes: neither the locals nor a cell nor in H -/
theorem StH.change {H : Heap} {env : Env} {s : Shared} {b : Addr} {h' : Heap} {tk : Nat} (S : StH P H env ρ s) (hs : Heap.ExtBut b s.heap h') (hH : H.get? b = none) (hL : b ≠ env.locals) (hc : ∀ v, ¬ s.heap.IsCell b v) (tp : 0 < tk) : StH P H env ρ { s with heap := h', toks := tk } := by
  refine ⟨fun a o e => hs a o (fun q => by subst q; rw [hH] at e; cases e) (S.keep a o e), S.base, ?_, S.kinds, ?_, ?_, S.apart, S.fresh, tp⟩
  · obtain ⟨m, h1, h2⟩ := S.ns
    exact ⟨m, h1.at' fun o e => hs _ o (Ne.symm hL) e, h2⟩
  · intro x d e q
    obtain ⟨c, v, g1, g2, g3⟩ := S.cells x d e q
    have : c ≠ b := fun q => hc _ (q ▸ g2)
    exact ⟨c, v, g1, let ⟨o, ho, hd⟩ := g2; ⟨o, hs _ o this ho, hd⟩, g3⟩
  · intro x c e
    obtain ⟨⟨v, g2⟩, h2⟩ := S.allcells x c e
    have : c ≠ b := fun q => hc _ (q ▸ g2)
    exact ⟨⟨v, let ⟨o, ho, hd⟩ := g2; ⟨o, hs _ o this ho, hd⟩⟩, h2⟩
/-- a local is stored -/
theorem StH.store {H : Heap} {x : Str} {v : Value} {d : D} {A : Around} {env : Env} {s : Shared} {Q : Unit → Shared → Prop} {E : Value → Shared → Prop} (ok : EnvOK env sc) (S : StH P H env ρ s) (hL : H.get? env.locals = none) (hx : sc.names.lookup x = some .local) (r : Rep H d v)
    (h : ∀ h', Heap.SameBut env.locals s.heap h' → StH P H env ((x, d) :: ρ) { s with heap := h', toks := s.toks + 1 } → Q () { s with heap := h', toks := s.toks + 1 }) : wpAny (model P.prog P.w) A (storeName env x v) Q E s := by
  have hkind : env.scope.kind = .function := by rw [ok.scope]; exact ok.kind
  have hko : ∀ y, env.kindOf y = sc.names.lookup y := fun y => by unfold Env.kindOf; rw [ok.scope]
  obtain ⟨m, hm, hv⟩ := S.ns
  have hLc : ∀ c v₀, s.heap.IsCell c v₀ → env.locals ≠ c := fun c v₀ hc e => by
    subst e
    obtain ⟨o, es, ep, ho, hd, _⟩ := hm
    obtain ⟨o', ho', hd'⟩ := hc
    rw [ho] at ho'; cases ho'
    rw [hd] at hd'; cases hd'
  refine wpAny_storeName_local (by rw [hko]; exact hx) hm (fun h' hn' hs' => h h' hs' ?_) (by rw [hkind]; rfl)
  refine ⟨?_, S.base, ⟨_, hn', ?_⟩, ?_, ?_, ?_, S.apart, S.fresh, Nat.succ_pos _⟩
  · intro b o e
    refine hs'.extBut b o (fun q => ?_) (S.keep b o e)
    subst q; rw [hL] at e; cases e
  · intro y e hy hk
    rw [lookup_cons] at hy
    by_cases g : y = x
    · rw [if_pos g] at hy; cases hy
      exact ⟨v, if_pos g, r⟩
    · rw [if_neg g] at hy
      obtain ⟨u, h1, h2⟩ := hv y e hy hk
      exact ⟨u, by rw [if_neg g]; exact h1, h2⟩
  · intro y e hy
    rw [lookup_cons] at hy
    by_cases g : y = x
    · subst g; exact .inl (by rw [hko]; exact hx)
    · rw [if_neg g] at hy; exact S.kinds y e hy
  · intro y e hy hk
    rw [lookup_cons] at hy
    by_cases g : y = x
    · subst g; rw [hko, hx] at hk; cases hk
    · rw [if_neg g] at hy
      obtain ⟨c, u, h1, h2, h3⟩ := S.cells y e hy hk
      exact ⟨c, u, h1, h2.sameBut hs' (Ne.symm (hLc _ _ h2)), h3⟩
  · intro y c hc
    obtain ⟨⟨u, h1⟩, h2⟩ := S.allcells y c hc
    exact ⟨⟨u, h1.sameBut hs' (Ne.symm (hLc _ _ h1))⟩, h2⟩
theorem StH.weak {H : Heap} {env : Env} {ρ' : List (Str × D)} {s : Shared} (S : StH P H env ρ s) (hw : ∀ x d, ρ'.lookup x = some d → ρ.lookup x = some d) : StH P H env ρ' s :=
  ⟨S.keep, S.base, let ⟨m, h1, h2⟩ := S.ns; ⟨m, h1, fun x d e => h2 x d (hw x d e)⟩, fun x d e => S.kinds x d (hw x d e), fun x d e => S.cells x d (hw x d e), S.allcells, S.apart, S.fresh, S.tp⟩
theorem StH.drop {H : Heap} {env : Env} {x : Str} {d : D} {s : Shared} (S : StH P H env ((x, d) :: ρ) s) (hx : ρ.lookup x = none) : StH P H env ρ s :=
  S.weak fun y e hy => by
    rw [lookup_cons]
    by_cases g : y = x
    · subst g; rw [hx] at hy; cases hy
    · rw [if_neg g]; exact hy

/-- what may stand behind «in» -/
structure ItEx (P : PK) (k : Nat) (sc : Scope) (ρ : List (Str × D)) (e : Expr) (ds : List D) : Prop where
  run : ∀ (A : Around) (env : Env) (s : Shared) (H : Heap), Room k A → EnvOK env sc → StH P H env ρ s → wpAny (model P.prog P.w) A (eval e env) (fun x s₁ => Keeps s s₁ ∧ 0 < s₁.toks ∧ ∀ (Q : Value → Shared → Prop) (E : Value → Shared → Prop),
    (∀ J h' tk, s₁.heap.get? J = none → (∃ o, h'.get? J = some o ∧ (∃ c, o.cls = .type c) ∧ ∀ v, o.data ≠ .cell v) → s₁.toks ≤ tk → Keep s₁.heap h' → Itr H h' J ds → Q (.ref J) { s₁ with heap := h', toks := tk }) → wpAny (model P.prog P.w) A (pyIter x) Q E s₁) NoE s
theorem ItEx.name {x : Str} {pos : Pos} {ds : List D} (hx : ρ.lookup x = some (.lst ds)) (hd : (x == ("__debug__" : Str)) = false := by decide) : ItEx P k sc ρ (.Name x pos) ds :=
  .mk fun A env s H _ ok S => by
    have fin : ∀ v, Rep H (.lst ds) v → Keeps s s ∧ 0 < s.toks ∧ ∀ (Q : Value → Shared → Prop) (E : Value → Shared → Prop),
      (∀ J h' tk, s.heap.get? J = none → (∃ o, h'.get? J = some o ∧ (∃ c, o.cls = .type c) ∧ ∀ v, o.data ≠ .cell v) → s.toks ≤ tk → Keep s.heap h' → Itr H h' J ds → Q (.ref J) { s with heap := h', toks := tk }) → wpAny (model P.prog P.w) A (pyIter v) Q E s := by
      intro v r
      cases r
      rename_i a vs ha hl hr
      refine ⟨keeps_refl s, S.tp, fun Q E h => ?_⟩
      have hfr : s.heap.get? s.heap.objs.size = none := by
        cases e : s.heap.get? s.heap.objs.size with
        | none => rfl
        | some o => exact absurd (Heap.lt_size e) (Nat.lt_irrefl _)
      exact wpAny_pyIter_list (isList_keep ha S.keep) (h _ _ s.toks hfr ⟨_, Heap.get?_push_size _ rfl, ⟨_, rfl⟩, fun v e => by cases e⟩ (Nat.le_refl _) (keep_push _ _) (.inl ⟨a, vs.toArray, 0, ⟨_, Heap.get?_push_size _ rfl, rfl, rfl⟩, ha, Nat.zero_le _, ⟨hl, hr⟩⟩))
    rcases S.kinds x _ hx with hk | hk
    · obtain ⟨m, hm, hv⟩ := S.ns
      obtain ⟨v, h1, h2⟩ := hv x _ hx hk
      exact wpAny_Name (wpAny_loadName_local (by rw [ok.scope]; exact ok.kind) hk hm h1 (fin v h2)) hd
    · obtain ⟨c, v, h1, h2, h3⟩ := S.cells x _ hx hk
      exact wpAny_Name (wpAny_loadName_cell (by rw [ok.scope]; exact ok.kind) hk h1 h2 (fin v h3)) hd
end
section
open PySem PySem.W PyProof.Rows PySem.Calls
open Sem (wp)
variable {P : PK} {k : Nat} {sc : Scope} {ρ : List (Str × D)}

theorem RepAll.rep {h : Heap} {ds : List D} {vs : List Value} (r : RepAll h ds vs) : ∀ n : Nat, RepAll h (List.replicate n ds).flatten (List.replicate n vs).flatten
  | 0 => by simpa using RepAll.nil
  | n + 1 => by rw [List.replicate_succ, List.replicate_succ, List.flatten_cons, List.flatten_cons]; exact r.append (r.rep n)
theorem new_lst {s : Shared} {vs : List Value} {ds : List D} (r : RepAll s.heap ds vs) : PostE (.lst ds) s (.ref s.heap.objs.size) { s with heap := s.heap.push { cls := .type "list", data := .seq vs.toArray } } :=
  ⟨⟨_, s.toks, rfl, keep_push _ _⟩, .lst ⟨_, Heap.get?_push_size _ rfl, rfl, 0, rfl⟩ r.1 (r.mono (keep_push _ _).seq).2⟩
theorem bin_mul_lst {ds : List D} {x : Int} (h0 : 0 ≤ x) (hx : x ≤ 1000) (hl : ds.length ≤ 1000) : BinR P .Mult (.lst ds) (.int x) (.lst (List.replicate x.toNat ds).flatten) := .mk fun A s v u rm B tp r q => by
  cases r; cases q; rename_i l vs ha hl' hr u
  have RA : RepAll s.heap ds vs := ⟨hl', hr⟩
  obtain ⟨⟨cls, d, data, sl⟩, ho, hcl, k, hd⟩ := id ha
  simp only at hcl hd
  replace hcl : cls = .type "list" := hcl
  subst hcl hd
  have hsz' : vs.toArray.size * x.toNat ≤ 2 ^ 24 := by
    have h1 : vs.length * x.toNat ≤ 1000 * 1000 := Nat.mul_le_mul (by omega) (by omega)
    simp; omega
  refine wpAny_binaryOp_repeat_ref (T := "list") (U := "int") (by decide) ⟨_, ho, rfl⟩ (fun s' => typeIs_int s' x u) noFill_list_mul F.fills_int_mul F.slot_int_rmul repeat_list F.slot_int_index.lookup
    (call_meets F.slot_int_rmul (typeIs_int s x u) F.entry_int_rmul (F.args_int_rmul_2 _ _) (lm_int_rmul_list_any x u l vs.toArray k d sl)
      ⟨ho, rfl, ⟨_, ho, rfl⟩, call_meets F.slot_list_mul ⟨_, ho, rfl⟩ F.entry_list_mul (F.args_list_mul_2 _ _)
        (lm_list_mul_any l vs.toArray k d sl x u (by simp [Builtin.List.listFitsIndex]; omega) (by omega) (by simp [Builtin.List.listTooLong, sizeLine]; simp at hsz'; omega))
        ⟨ho, ?_⟩⟩)
  rw [listMul_foldl_if]
  exact new_lst (RA.rep _)
theorem bin_mul_lst_r {ds : List D} {x : Int} (h0 : 0 ≤ x) (hx : x ≤ 1000) (hl : ds.length ≤ 1000) : BinR P .Mult (.int x) (.lst ds) (.lst (List.replicate x.toNat ds).flatten) := .mk fun A s v u rm B tp q r => by
  cases r; cases q; rename_i l vs ha hl' hr u
  have RA : RepAll s.heap ds vs := ⟨hl', hr⟩
  obtain ⟨⟨cls, d, data, sl⟩, ho, hcl, k, hd⟩ := id ha
  simp only at hcl hd
  replace hcl : cls = .type "list" := hcl
  subst hcl hd
  have hsz' : vs.toArray.size * x.toNat ≤ 2 ^ 24 := by
    have h1 : vs.length * x.toNat ≤ 1000 * 1000 := Nat.mul_le_mul (by omega) (by omega)
    simp; omega
  refine lm_binaryOp_repeat_right (T := "list") (U := "int") (by decide) (fun s' => typeIs_int s' x u) ⟨_, ho, rfl⟩ F.fills_int_mul noFill_list_mul F.slot_int_mul lm_noRepeat_int repeat_list F.slot_int_index.lookup
    (call_meets F.slot_int_mul (typeIs_int s x u) F.entry_int_mul (F.args_int_mul_2 _ _) (lm_int_mul_list_any x u l vs.toArray k d sl)
      ⟨ho, rfl, ⟨_, ho, rfl⟩, call_meets F.slot_list_mul ⟨_, ho, rfl⟩ F.entry_list_mul (F.args_list_mul_2 _ _)
        (lm_list_mul_any l vs.toArray k d sl x u (by simp [Builtin.List.listFitsIndex]; omega) (by omega) (by simp [Builtin.List.listTooLong, sizeLine]; simp at hsz'; omega))
        ⟨ho, ?_⟩⟩)
  rw [listMul_foldl_if]
  exact new_lst (RA.rep _)
theorem bin_add_lst {ds es : List D} (h1 : ds.length ≤ 1000) (h2 : es.length ≤ 1000) : BinR P .Add (.lst ds) (.lst es) (.lst (ds ++ es)) := .mk fun A s v u rm B tp r q => by
  cases r; cases q; rename_i l vs ha hl hr b ws hb hm hq
  have RA : RepAll s.heap ds vs := ⟨hl, hr⟩
  have RB : RepAll s.heap es ws := ⟨hm, hq⟩
  obtain ⟨⟨cls, dd, data, sl⟩, ho, hc, n, hd⟩ := id ha
  obtain ⟨⟨cls2, dd2, data2, sl2⟩, ho2, hc2, n2, hd2⟩ := id hb
  simp only at hc hd hc2 hd2
  replace hc : cls = .type "list" := hc
  replace hc2 : cls2 = .type "list" := hc2
  subst hc hd hc2 hd2
  have e : vs.toArray ++ ws.toArray = (vs ++ ws).toArray := by simp
  refine concat_meets ⟨_, ho, rfl⟩ ⟨_, ho2, rfl⟩ noFill_list_add seq_list_add PySem.F.slot_list_add PySem.F.entry_list_add (PySem.F.args_list_add_2 _ _) (list_addW l b vs.toArray ws.toArray n n2 dd dd2 sl sl2 (by have : sizeLine = 2 ^ 24 := rfl; simp; omega)) ⟨ho, ho2, ?_⟩
  rw [e]
  exact new_lst (RA.append RB)
theorem fn_len_lst {ds : List D} (h : ds.length ≤ 10000) : FnV P k (.builtin "len") [.lst ds] (.int ds.length) := .mk fun A s vs rm B tp r => by
  obtain ⟨v, rfl, rr⟩ := r.one
  cases rr; rename_i l vs ha hl hr
  refine Calls.call_len_list ha (by simp; omega) ⟨⟨s.heap, _, rfl, Keep.refl _⟩, ?_⟩
  have : (vs.toArray.size : Int) = ds.length := by simp [hl]
  rw [this]; exact .int ..
/-- a slice of a list that a name holds -/
theorem Ev.slice {x : Str} {px p pos : Pos} {lo hi : Expr} {ds : List D} {a b : Nat} (hv : Ev P k sc ρ (.Name x px) (.lst ds)) (hlo : Ev P k sc ρ lo (.int a)) (hhi : Ev P k sc ρ hi (.int b)) (hab : a ≤ b) (hb : b ≤ ds.length) (hl : ds.length ≤ 1000) :
    Ev P k sc ρ (.Subscript (.Name x px) (.Slice (some lo) (some hi) none p) pos) (.lst ((ds.drop a).take (b - a))) :=
  .mk fun A env s rm ok S => wpAny_Subscript_list_slice (ev_seq S (hv.run A env s rm ok S) fun v s₁ k₁ r₁ S₁ => ev_seq S₁ (hlo.run A env s₁ rm ok S₁) fun u s₂ k₂ r₂ S₂ => ev_seq S₂ (hhi.run A env s₂ rm ok S₂) fun y s₃ k₃ r₃ S₃ => by
    have r₁' := (r₁.mono (kk k₂).seq).mono (kk k₃).seq
    cases r₂; cases r₃; cases r₁'
    rename_i t1 t2 l vs ha hl' hr
    refine ⟨l, vs.toArray, some a, some b, rfl, ha, by have : sizeLine = 2 ^ 24 := rfl; simp; omega, .int .., .int .., ?_⟩
    rw [slicePick_run vs.toArray a b (by simp; omega) hab]
    refine ⟨keeps_trans k₁ (keeps_trans k₂ (keeps_trans k₃ ⟨_, s₃.toks, rfl, fun b o e => Heap.get?_push_of_some _ (Heap.get?_push_of_some _ e)⟩)), ?_⟩
    refine .lst (vs := ((vs.drop a).take (b - a))) ⟨_, by rw [← Heap.size_push]; exact Heap.get?_push_size _ rfl, rfl, 0, rfl⟩ (by simp [hl']) fun i d v e1 e2 => ?_
    rw [List.getElem?_take] at e1 e2
    split at e1
    · rename_i g
      rw [if_pos g] at e2
      rw [List.getElem?_drop] at e1 e2
      exact (hr _ _ _ e1 e2).mono (fun b o xs n e q => Heap.get?_push_of_some _ (Heap.get?_push_of_some _ e))
    · cases e1)

/-- a range object -/
structure EvRange (P : PK) (k : Nat) (sc : Scope) (ρ : List (Str × D)) (e : Expr) (a b c : Int) : Prop where
  run : ∀ (A : Around) (env : Env) (s : Shared), Room k A → EnvOK env sc → St P env ρ s → wpAny (model P.prog P.w) A (eval e env) (fun v s' => Keeps s s' ∧ ∃ r t u w, v = .ref r ∧ IsRange s'.heap r a b c t u w) NoE s
theorem boot_range : bootBuiltins "range" = some (.type "range") := by decide +kernel
theorem boot_list : bootBuiltins "list" = some (.type "list") := by decide +kernel
theorem boot_len : bootBuiltins "len" = some (.builtin "len") := by decide +kernel
theorem EvRange.call {p pos : Pos} {e : Expr} {es : List Expr} {ds : List D} {a b c : Int} (hn : P.mg "range" = none) (ha : EvA P k sc ρ (e :: es) ds)
    (h : ∀ (A : Around) (s : Shared) (vs : List Value), Room k A → RepAll s.heap ds vs → wpAny (model P.prog P.w) A (PySem.call (.type "range") vs) (fun v s' => Keeps s s' ∧ ∃ r t u w, v = .ref r ∧ IsRange s'.heap r a b c t u w) NoE s)
    (hk : sc.names.lookup ("range" : Str) = some .globalImplicit := by rfl) (he : ∀ env, starEach (e :: es) env = (false, eval e env) :: starEach es env := by intro _; rfl) (hp : ∀ env, (backTo pos (starEach es env)).any (·.1) = false := by intro _; rfl) : EvRange P k sc ρ (.Call (.Name "range" p) (e :: es) [] pos) a b c :=
  .mk fun A env s rm ok S => by
    refine wpAny_Call_Name_kw (ev_seq S ((Ev.builtin hn boot_range (by decide) hk).run A env s rm ok S) fun v s₁ k1 r1 S₁ => ?_)
    cases r1
    exact callWith_type1 (ev_seq S₁ (ha.run A env s₁ pos rm ok S₁) fun vs s₂ k₂ r₂ S₂ => ev_mono (h A s₂ vs rm r₂) fun v s₃ h₃ => ⟨keeps_trans k1 (keeps_trans k₂ h₃.1), h₃.2⟩) (he env) (hp env)
theorem EvRange.r1 {p pos : Pos} {e : Expr} {b : Int} (hn : P.mg "range" = none) (ha : Ev P k sc ρ e (.int b)) (hk : sc.names.lookup ("range" : Str) = some .globalImplicit := by rfl) (he : ∀ env, starEach [e] env = [(false, eval e env)] := by intro _; rfl) : EvRange P k sc ρ (.Call (.Name "range" p) [e] [] pos) 0 b 1 :=
  .call hn (.cons ha .nil he) (fun A s vs rm r => by
    obtain ⟨v, rfl, rr⟩ := r.one
    cases rr
    exact call_range_1 ⟨⟨_, _, rfl, keep_push _ _⟩, _, _, _, _, rfl, IsRange.new ..⟩) hk he (fun _ => rfl)
theorem EvRange.r2 {p pos : Pos} {e f : Expr} {a b : Int} (hn : P.mg "range" = none) (ha : Ev P k sc ρ e (.int a)) (hb : Ev P k sc ρ f (.int b)) (hk : sc.names.lookup ("range" : Str) = some .globalImplicit := by rfl) (he : ∀ env, starEach [e, f] env = (false, eval e env) :: starEach [f] env := by intro _; rfl) (he' : ∀ env, starEach [f] env = [(false, eval f env)] := by intro _; rfl) :
    EvRange P k sc ρ (.Call (.Name "range" p) [e, f] [] pos) a b 1 :=
  .call hn (.cons ha (.cons hb .nil he') he) (fun A s vs rm r => by
    obtain ⟨v, u, rfl, r1, r2⟩ := r.two
    cases r1; cases r2
    exact call_range_2 ⟨⟨_, _, rfl, keep_push _ _⟩, _, _, _, _, rfl, IsRange.new ..⟩) hk he (fun env => by rw [he' env]; rfl)
theorem EvRange.r3 {p pos : Pos} {e f g : Expr} {a b c : Int} (hn : P.mg "range" = none) (ha : Ev P k sc ρ e (.int a)) (hb : Ev P k sc ρ f (.int b)) (hc : Ev P k sc ρ g (.int c)) (hc0 : c ≠ 0) (hp : Builtin.divisionGoesByPylong (b - a) c = false) (hk : sc.names.lookup ("range" : Str) = some .globalImplicit := by rfl)
    (he : ∀ env, starEach [e, f, g] env = (false, eval e env) :: starEach [f, g] env := by intro _; rfl) (he' : ∀ env, starEach [f, g] env = (false, eval f env) :: starEach [g] env := by intro _; rfl) (he2 : ∀ env, starEach [g] env = [(false, eval g env)] := by intro _; rfl) :
    EvRange P k sc ρ (.Call (.Name "range" p) [e, f, g] [] pos) a b c :=
  .call hn (.cons ha (.cons hb (.cons hc .nil he2) he') he) (fun A s vs rm r => by
    obtain ⟨v, us, rfl, r1, rs⟩ := r.uncons
    obtain ⟨u, w, rfl, r2, r3⟩ := rs.two
    cases r1; cases r2; cases r3
    exact call_range_3 hc0 ⟨⟨_, _, rfl, keep_push _ _⟩, _, _, _, _, rfl, IsRange.new ..⟩ (.inl hp)) hk he (fun env => by rw [he' env, he2 env]; rfl)
theorem range_small {a b c : Int} (ha : -10000 ≤ a ∧ a ≤ 10000) (hb : -10000 ≤ b ∧ b ≤ 10000) (hc : 1 ≤ c ∧ c ≤ 10000) (hs : -(2 ^ 60) ≤ Builtin.Range.rangeSize a b c ∧ Builtin.Range.rangeSize a b c ≤ 2 ^ 60) : Builtin.Range.small a b c = true := by
  unfold Builtin.Range.small
  simp only [Builtin.Range.rangeFitsLong, Bool.and_eq_true, Bool.or_eq_true, decide_eq_true_eq, beq_iff_eq]
  rw [if_pos (by omega)]
  simp only [Bool.and_eq_true, decide_eq_true_eq]
  omega
def rangeD (a c : Int) (n : Nat) : List D := (List.range n).map fun i : Nat => D.int (a + (i : Int) * c)
theorem ItEx.range {e : Expr} {a b c : Int} {n : Nat} (h : EvRange P k sc ρ e a b c) (ha : -10000 ≤ a ∧ a ≤ 10000) (hb : -10000 ≤ b ∧ b ≤ 10000) (hc : 1 ≤ c ∧ c ≤ 10000) (hn : Builtin.Range.rangeSize a b c = n) (hn1 : n ≤ 10000) : ItEx P k sc ρ e (rangeD a c n) :=
  .mk fun A env s H rm ok S => ev_seq S.st (h.run A env s rm ok S.st) fun v s₁ k₁ r₁ S₁ => by
    obtain ⟨r, t, u, w, rfl, hr⟩ := r₁
    refine ⟨k₁, S₁.tp, fun Q E hQ => ?_⟩
    have hfr : s₁.heap.get? s₁.heap.objs.size = none := by
      cases e : s₁.heap.get? s₁.heap.objs.size with
      | none => rfl
      | some o => exact absurd (Heap.lt_size e) (Nat.lt_irrefl _)
    refine wpAny_pyIter_range hr (range_small ha hb hc (by omega)) (hQ _ _ s₁.toks hfr ⟨_, Heap.get?_push_size _ rfl, ⟨_, rfl⟩, fun v e => by cases e⟩ (Nat.le_refl _) (keep_push _ _) (.inr ⟨a, c, ?_, fun i d hd => ?_⟩))
    · have e1 : ((rangeD a c n).length : Int) = Builtin.Range.rangeSize a b c := by rw [hn]; simp [rangeD]
      rw [e1]; exact Heap.get?_push_size _ rfl
    · unfold rangeD at hd
      rw [List.getElem?_map] at hd
      obtain ⟨j, hj, rfl⟩ := Option.map_eq_some_iff.mp hd
      have hi := (List.getElem?_eq_some_iff.mp hj).1
      rw [List.length_range] at hi
      rw [List.getElem?_range hi] at hj
      cases hj; rfl
theorem Ev.list_range {p pos : Pos} {e : Expr} {a b c : Int} {n : Nat} (hl : P.mg "list" = none) (h : EvRange P k sc ρ e a b c) (ha : -10000 ≤ a ∧ a ≤ 10000) (hb : -10000 ≤ b ∧ b ≤ 10000) (hc : 1 ≤ c ∧ c ≤ 10000) (hn : Builtin.Range.rangeSize a b c = n) (hn1 : n ≤ 10000)
    (hk : sc.names.lookup ("list" : Str) = some .globalImplicit := by rfl) (he : ∀ env, starEach [e] env = [(false, eval e env)] := by intro _; rfl) : Ev P k sc ρ (.Call (.Name "list" p) [e] [] pos) (.lst (rangeD a c n)) :=
  .mk fun A env s rm ok S => by
    refine wpAny_Call_Name_kw (ev_seq S ((Ev.builtin hl boot_list (by decide) hk).run A env s rm ok S) fun v s₁ k1 r1 S₁ => ?_)
    cases r1
    refine callWith_type1 ?_ (he env) rfl
    refine wpAny_items_cons (rest := []) (env := env) (ev_seq S₁ (h.run A env s₁ rm ok S₁) fun v s₂ k₂ r₂ S₂ => ?_) (he env)
    obtain ⟨r, t, u, w, rfl, hr⟩ := r₂
    refine wpAny_items_nil ?_
    refine call_list_range rm.hd hr (range_small ha hb hc (by omega)) hn (by omega) fun h' tk acc' c' hkp hS hacc => ?_
    refine ⟨keeps_trans k1 (keeps_trans k₂ ⟨h', tk, rfl, hkp⟩), .lst (vs := acc'.toList) ⟨_, hS, rfl, c', by simp⟩ (by simp [hacc.1, rangeD]) fun i d v e1 e2 => ?_⟩
    obtain ⟨t', rfl⟩ := hacc.2 i v (by simpa using e2)
    unfold rangeD at e1
    rw [List.getElem?_map] at e1
    obtain ⟨j, hj, rfl⟩ := Option.map_eq_some_iff.mp e1
    have hi := (List.getElem?_eq_some_iff.mp hj).1
    rw [List.length_range] at hi
    rw [List.getElem?_range hi] at hj
    cases hj; exact .int ..
theorem Ev.len {p pos : Pos} {e : Expr} {ds : List D} (hn : P.mg "len" = none) (ha : Ev P k sc ρ e (.lst ds)) (hl : ds.length ≤ 10000) (hk : sc.names.lookup ("len" : Str) = some .globalImplicit := by rfl) (he : ∀ env, starEach [e] env = [(false, eval e env)] := by intro _; rfl) : Ev P k sc ρ (.Call (.Name "len" p) [e] [] pos) (.int ds.length) :=
  .call (.builtin hn boot_len (by decide) hk) (.builtin _) (.cons ha .nil he) (fn_len_lst hl) he (fun _ => rfl)
end
section
open PySem PySem.W PyProof.Rows PySem.Calls
open Sem (wp)
variable {P : PK} {k : Nat} {sc : Scope} {ρ : List (Str × D)}

def Scal : D → Prop | .none | .bool _ | .int _ | .fx _ | .fl _ _ | .q _ _ | .str _ => True | _ => False
theorem Rep.scal {h h' : Heap} {d : D} {v : Value} (hd : Scal d) (r : Rep h d v) : Rep h' d v := by
  cases r <;> first | exact hd.elim | (constructor <;> assumption) | constructor
theorem Rep.scal_ref {h : Heap} {d : D} {a : Addr} (hd : Scal d) (r : Rep h d (.ref a)) : False := by
  cases r <;> exact hd.elim
def RowD (e : D) : Prop := ∃ r ds, e = .lst (r :: ds) ∧ ∀ d ∈ r :: ds, Scal d
def Safe (h : Heap) (Dc : Addr) (e : D) (v : Value) : Prop := (Scal e ∧ Rep h e v) ∨ (∃ r ds a vs, e = .lst (r :: ds) ∧ (∀ d ∈ r :: ds, Scal d) ∧ v = .ref a ∧ a ≠ Dc ∧ h.IsList a (List.toArray vs) ∧ RepAll h (r :: ds) vs)
def Accs (h : Heap) (Dc : Addr) (es : List D) (ys : Array Value) : Prop := ys.toList.length = es.length ∧ ∀ (i : Nat) (e : D) (v : Value), es[i]? = some e → ys.toList[i]? = some v → Safe h Dc e v
def Homog (es : List D) : Prop := (∀ e ∈ es, Scal e) ∨ (∀ e ∈ es, RowD e)
def ListKeep (Dc : Addr) (h h' : Heap) : Prop := ∀ b o xs n, b ≠ Dc → h.get? b = some o → o.data = .seq xs n → h'.get? b = some o
theorem Safe.mono {h h' : Heap} {Dc : Addr} {e : D} {v : Value} (x : Safe h Dc e v) (k : ListKeep Dc h h') : Safe h' Dc e v := by
  rcases x with ⟨h1, h2⟩ | ⟨r, ds, a, vs, rfl, h2, rfl, h3, ⟨o, ho, hc, n, hd⟩, h5⟩
  · exact .inl ⟨h1, h2.scal h1⟩
  · exact .inr ⟨r, ds, a, vs, rfl, h2, rfl, h3, ⟨o, k a o _ n h3 ho hd, hc, n, hd⟩, h5.1, fun i d v e1 e2 => (h5.2 i d v e1 e2).scal (h2 d (List.mem_of_getElem? e1))⟩
theorem Accs.mono {h h' : Heap} {Dc : Addr} {es : List D} {ys : Array Value} (x : Accs h Dc es ys) (k : ListKeep Dc h h') : Accs h' Dc es ys := ⟨x.1, fun i e v h1 h2 => (x.2 i e v h1 h2).mono k⟩
theorem Safe.new {h : Heap} {Dc : Addr} {es : List D} {ys : Array Value} {e : D} {v : Value} (hp : h.PlainList Dc ys) (ha : Accs h Dc es ys) (hom : Homog (es ++ [e])) (r : Rep h e v) : Safe h Dc e v := by
  rcases hom with hom | hom
  · exact .inl ⟨hom e (by simp), r⟩
  · obtain ⟨r0, ds, rfl, hs⟩ := hom e (by simp)
    cases r
    rename_i a vs hl hlen hr
    refine .inr ⟨r0, ds, a, vs, rfl, hs, rfl, fun q => ?_, hl, hlen, hr⟩
    subst q
    obtain ⟨n, hpl⟩ := hp
    obtain ⟨o, ho, _, n', hd⟩ := hl
    rw [hpl] at ho; cases ho
    simp only at hd
    cases hd
    obtain ⟨v0, us, rfl, q1, q2⟩ := RepAll.uncons ⟨hlen, hr⟩
    have hlen2 := ha.1
    cases es with
    | nil => simp at hlen2
    | cons e0 es' =>
      rcases ha.2 0 e0 v0 rfl rfl with ⟨g1, g2⟩ | ⟨_, _, a', _, _, _, rfl, _⟩
      · obtain ⟨_, _, rfl, _⟩ := hom e0 (by simp)
        exact g1.elim
      · exact q1.scal_ref (hs r0 (by simp))
theorem Accs.push {h : Heap} {Dc : Addr} {es : List D} {ys : Array Value} {e : D} {v : Value} (ha : Accs h Dc es ys) (hv : Safe h Dc e v) : Accs h Dc (es ++ [e]) (ys.push v) := by
  refine ⟨by simp [ha.1.symm], fun i d u e1 e2 => ?_⟩
  rw [Array.toList_push] at e2
  have hl := ha.1
  rcases Nat.lt_trichotomy i es.length with g | g | g
  · rw [List.getElem?_append_left g] at e1
    rw [List.getElem?_append_left (by omega)] at e2
    exact ha.2 i d u e1 e2
  · subst g
    rw [List.getElem?_append_right (Nat.le_refl _)] at e1
    rw [List.getElem?_append_right (by omega)] at e2
    simp [hl] at e1 e2
    subst e1; subst e2; exact hv
  · rw [List.getElem?_eq_none (by simp; omega)] at e1; cases e1
theorem Homog.pre {es fs : List D} (h : Homog (es ++ fs)) : Homog es := by
  rcases h with h | h
  · exact .inl fun e he => h e (List.mem_append_left _ he)
  · exact .inr fun e he => h e (List.mem_append_left _ he)

/-- the tests of a clause -/
structure Tst (P : PK) (k : Nat) (sc : Scope) (ρ : List (Str × D)) (ifs : List Expr) (b : Bool) : Prop where
  run : ∀ (A : Around) (env : Env) (s : Shared), Room k A → EnvOK env sc → St P env ρ s → wpAny (model P.prog P.w) A (forIn ifs true fun c r => if r = true then do let ok ← isTrue c env (eval c env); pure (ForInStep.yield ok) else pure (ForInStep.yield r)) (fun b' s' => Keeps s s' ∧ b' = b) NoE s
theorem Tst.nil : Tst P k sc ρ [] true := .mk fun A env s _ _ _ => wpAny_tests_nil ⟨keeps_refl s, rfl⟩
theorem Tst.one {c : Expr} {b : Bool} (h : EvT P k sc ρ c b) : Tst P k sc ρ [c] b := .mk fun A env s rm ok S => wpAny_tests_one (h.run A env s rm ok S)
/-- one turn: the item d gives r -/
inductive Turn (P : PK) (k : Nat) (sc : Scope) (ρ : List (Str × D)) (x : Str) (ifs : List Expr) (elt : Expr) (d : D) : Option D → Prop
  | no (h : Tst P k sc ((x, d) :: ρ) ifs false) : Turn P k sc ρ x ifs elt d none
  | yes {e : D} (h : Tst P k sc ((x, d) :: ρ) ifs true) (he : Ev P k sc ((x, d) :: ρ) elt e) : Turn P k sc ρ x ifs elt d (some e)

def LoopRule (P : PK) (c : Code) (it acc : Value) (env : Env) (target : Expr) (ifs : List Expr) (elt : Expr) : Prop :=
  ∀ (A : Around) (R : Result → Shared → Prop) (s : Shared) (I : Nat → Shared → Prop) (turn : ∀ n s, I n s → wpAny (model P.prog P.w) A (pyNext it) (fun r s₁ => match r with
      | none => R (.ok .next) s₁
      | some v => wpAny (model P.prog P.w) A (PySem.assign target env v) (fun _ s₂ =>
          wpAny (model P.prog P.w) A (forIn ifs true fun c r => if r = true then do let ok ← isTrue c env (eval c env); pure (ForInStep.yield ok) else pure (ForInStep.yield r)) (fun ok s₃ =>
            if ok = true then wpAny (model P.prog P.w) A (eval elt env) (fun x s₄ =>
              wpAny (model P.prog P.w) A (PySem.call (.builtin "list.append") [acc, x]) (fun _ s₅ => ∃ m, m < n ∧ I m s₅) (notedBy (model P.prog P.w) A env fun e s' => R (.error e) s') s₄) (notedBy (model P.prog P.w) A env fun e s' => R (.error e) s') s₃
            else ∃ m, m < n ∧ I m s₃) (notedBy (model P.prog P.w) A env fun e s' => R (.error e) s') s₂) (notedBy (model P.prog P.w) A env fun e s' => R (.error e) s') s₁) (notedBy (model P.prog P.w) A env fun e s' => R (.error e) s') s)
    (n : Nat) (h : I n s), codeAny (model P.prog P.w) A c R s
theorem rule0 {x : Str} {px : Pos} {iter elt : Expr} {ifs : List Expr} {scope : Scope} {pos : Pos} {it acc : Value} {env : Env} : LoopRule P (.compLoop (.ListComp elt [⟨.Name x px, iter, ifs, 0⟩] scope pos) 0 it acc env) it acc env (.Name x px) ifs elt :=
  fun A R s I turn n h => codeAny_compLoop_tests I turn n h
theorem compTurn_list1' (elt target iter : Expr) (g0 : Comprehension) (ifs : List Expr) (scope : Scope) (pos : Pos) (it acc : Value) (env : Env) :
    compTurn (.ListComp elt [g0, ⟨target, iter, ifs, 0⟩] scope pos) 1 it acc env = (do
      standAt iter.pos
      match ← pyNext it with
      | none => pure (.done .next)
      | some v =>
        letOwnedTupleGo target it v
        PySem.assign target env v
        let mut ok := true
        for c in ifs do
          if ok then ok ← isTrue c env (eval c env)
        if ok then
          (do let _ ← PySem.call (.builtin "list.append") [acc, ← eval elt env])
        again (.compLoop (.ListComp elt [g0, ⟨target, iter, ifs, 0⟩] scope pos) 1 it acc env)) := by rfl
theorem rule1 {x : Str} {px : Pos} {iter elt : Expr} {g0 : Comprehension} {ifs : List Expr} {scope : Scope} {pos : Pos} {it acc : Value} {env : Env} : LoopRule P (.compLoop (.ListComp elt [g0, ⟨.Name x px, iter, ifs, 0⟩] scope pos) 1 it acc env) it acc env (.Name x px) ifs elt :=
  fun A R s I turn n h => by
  refine codeAny_loop rfl I (fun n s hI => ?_) n h
  show wpAny _ A ((compTurn (.ListComp elt [g0, ⟨.Name x px, iter, ifs, 0⟩] scope pos) 1 it acc env).onRaise (fun x => do noteFrame x env; theTreesLotGoes x)) _ _ s
  refine wpAny_noted ?_
  rw [compTurn_list1']
  refine wpAny_bind (wpAny_standAt (wpAny_bind (wpAny_mono (turn n s hI) (fun r s₁ h₁ => ?_) fun _ _ h' => h')))
  cases r with
  | none => exact wpAny_pure h₁
  | some v =>
    refine wpAny_bind (wpAny_of_eq (rfl : letOwnedTupleGo (.Name x px) it v = pure ()) ?_)
    refine wpAny_bind (wpAny_mono h₁ (fun _ s₂ h₂ => wpAny_bind (wpAny_mono h₂ (fun ok s₃ h₃ => ?_) fun _ _ h' => h')) fun _ _ h' => h')
    cases ok with
    | false => exact wpAny_pure ⟨rfl, h₃⟩
    | true =>
      exact wpAny_bind (wpAny_bind (wpAny_mono h₃ (fun x s₄ h₄ => wpAny_bind (wpAny_mono h₄ (fun _ s₅ h₅ => wpAny_pure (wpAny_pure ⟨rfl, h₅⟩)) fun _ _ h' => h')) fun _ _ h' => h'))

theorem listKeep_same {b Dc : Addr} {h h' : Heap} (hs : Heap.ExtBut b h h') (hb : ∀ o xs n, h.get? b = some o → o.data ≠ .seq xs n) : ListKeep Dc h h' := fun a o xs n _ e q => hs a o (fun g => by subst g; exact hb o xs n e q) e
theorem listKeep_dc {Dc : Addr} {h h' : Heap} (hs : Heap.ExtBut Dc h h') : ListKeep Dc h h' := fun a o xs n g e q => hs a o g e
theorem Keep.list {Dc : Addr} {h h' : Heap} (k : Keep h h') : ListKeep Dc h h' := fun a o xs n g e q => k a o e
theorem Itr.noSeq {H h : Heap} {J : Addr} {ds : List D} (x : Itr H h J ds) : (∀ o xs n, h.get? J = some o → o.data ≠ .seq xs n) ∧ ∀ v, ¬ h.IsCell J v := by
  rcases x with ⟨ax, items, i, ⟨o, ho, hc, hd⟩, _⟩ | ⟨a, c, h1, _⟩
  · exact ⟨fun o' xs n e q => (by rw [ho] at e; cases e; rw [hd] at q; cases q), fun v ⟨o', ho', hd'⟩ => (by rw [ho] at ho'; cases ho'; rw [hd] at hd'; cases hd')⟩
  · exact ⟨fun o' xs n e q => (by rw [h1] at e; cases e; cases q), fun v ⟨o', ho', hd'⟩ => (by rw [h1] at ho'; cases ho'; cases hd')⟩

theorem StH.keeps' {H : Heap} {env : Env} {s : Shared} {h' : Heap} {tk : Nat} (S : StH P H env ρ s) (k : ∀ b o, s.heap.get? b = some o → h'.get? b = some o) (tp : 0 < tk) : StH P H env ρ { s with heap := h', toks := tk } := S.keeps (s' := { s with heap := h', toks := tk }) k tp
theorem last_loop {c : Code} {x : Str} {px : Pos} {ifs : List Expr} {elt : Expr} {J Dc : Addr} {cenv : Env} {A : Around} {H : Heap} {ts : List (D × Option D)} {es0 : List D} {R : Result → Shared → Prop} {s₀ : Shared}
    (hL : LoopRule P c (.ref J) (.ref Dc) cenv (.Name x px) ifs elt) (rm : Room k A) (ok : EnvOK cenv sc) (hx : sc.names.lookup x = some .local) (hx0 : ρ.lookup x = none)
    (hJ : H.get? J = none) (hDc : H.get? Dc = none) (hC : H.get? cenv.locals = none) (hJD : J ≠ Dc) (hJC : J ≠ cenv.locals) (hDC : Dc ≠ cenv.locals)
    (hom : Homog (es0 ++ ts.filterMap (·.2))) (hsz : (es0 ++ ts.filterMap (·.2)).length ≤ 10000) (hturn : ∀ t ∈ ts, Turn P k sc ρ x ifs elt t.1 t.2)
    (S : StH P H cenv ρ s₀) (it : Itr H s₀.heap J (ts.map (·.1))) (acc : ∃ ys, s₀.heap.PlainList Dc ys ∧ Accs s₀.heap Dc es0 ys)
    (hR : ∀ h' tk, StH P H cenv ρ { s₀ with heap := h', toks := tk } → (∀ b o, b ≠ cenv.locals → b ≠ J → b ≠ Dc → s₀.heap.get? b = some o → h'.get? b = some o) → (∃ ys, h'.PlainList Dc ys ∧ Accs h' Dc (es0 ++ ts.filterMap (·.2)) ys) → R (.ok .next) { s₀ with heap := h', toks := tk }) :
    codeAny (model P.prog P.w) A c R s₀ := by
  have nsNo : ∀ s : Shared, StH P H cenv ρ s → ∀ o xs n, s.heap.get? cenv.locals = some o → o.data ≠ .seq xs n := fun s S o xs n e q => by
    obtain ⟨m, ⟨o', es, ep, ho, hd, _⟩, _⟩ := S.ns
    rw [ho] at e; cases e
    rw [hd] at q; cases q
  refine hL A R s₀ (fun n s => ∃ ts1 ts2 h' tk, ts = ts1 ++ ts2 ∧ n = ts2.length ∧ s = { s₀ with heap := h', toks := tk } ∧ StH P H cenv ρ s ∧ (∀ b o, b ≠ cenv.locals → b ≠ J → b ≠ Dc → s₀.heap.get? b = some o → h'.get? b = some o) ∧
    Itr H h' J (ts2.map (·.1)) ∧ ∃ ys, h'.PlainList Dc ys ∧ Accs h' Dc (es0 ++ ts1.filterMap (·.2)) ys) ?_ ts.length
    ⟨[], ts, s₀.heap, s₀.toks, rfl, rfl, rfl, S, fun _ _ _ _ _ e => e, it, by simpa using acc⟩
  rintro n s ⟨ts1, ts2, h', tk, e1, rfl, rfl, S1, kb, it1, ys, hp, ha⟩
  have hnoJ := it1.noSeq
  cases ts2 with
  | nil =>
    refine Itr.done rm.hd S1.keep it1 fun h2 hs2 => ?_
    rw [List.append_nil] at e1; subst e1
    refine hR h2 tk (S1.change hs2 hJ hJC hnoJ.2 S1.tp) (fun b o g1 g2 g3 e => hs2 b o g2 (kb b o g1 g2 g3 e)) ⟨ys, hp.extBut hs2 (Ne.symm hJD), ha.mono (listKeep_same hs2 hnoJ.1)⟩
  | cons t ts2 =>
    obtain ⟨d, r⟩ := t
    refine Itr.next S1.keep hJ it1 fun v h2 tk2 htk2 rd hs2 it2 => ?_
    have S2 : StH P H cenv ρ { s₀ with heap := h2, toks := tk2 } := S1.change hs2.extBut hJ hJC hnoJ.2 (Nat.lt_of_lt_of_le S1.tp htk2)
    have kb2 : ∀ b o, b ≠ cenv.locals → b ≠ J → b ≠ Dc → s₀.heap.get? b = some o → h2.get? b = some o := fun b o g1 g2 g3 e => hs2.extBut b o g2 (kb b o g1 g2 g3 e)
    have hp2 := hp.extBut hs2.extBut (Ne.symm hJD)
    have ha2 := ha.mono (listKeep_same hs2.extBut hnoJ.1)
    refine wpAny_assign_Name ?_
    refine StH.store ok S2 hC hx rd fun h3 hs3 S3 => ?_
    have kb3 : ∀ b o, b ≠ cenv.locals → b ≠ J → b ≠ Dc → s₀.heap.get? b = some o → h3.get? b = some o := fun b o g1 g2 g3 e => hs3.extBut b o g1 (kb2 b o g1 g2 g3 e)
    have hp3 := hp2.extBut hs3.extBut hDC
    have ha3 := ha2.mono (listKeep_same hs3.extBut (nsNo _ S2))
    have it3 : Itr H h3 J (ts2.map (·.1)) := it2.frame fun o e => hs3.extBut _ o hJC e
    have hT := hturn (d, r) (by rw [e1]; simp)
    dsimp only at hT
    cases hT with
    | no hno =>
      refine ev_seq S3.st (hno.run A cenv _ rm ok S3.st) fun b s4 k4 r4 S4 => ?_
      subst r4
      obtain ⟨h4, tk4, rfl, k4⟩ := k4
      simp only [Bool.false_eq_true, if_false]
      exact ⟨ts2.length, by simp, ts1 ++ [(d, none)], ts2, h4, tk4, by rw [e1]; simp, rfl, rfl, (S3.keeps' k4 S4.tp).drop hx0, fun b o g1 g2 g3 e => k4 b o (kb3 b o g1 g2 g3 e), it3.frame fun o e => k4 _ o e,
        ys, hp3.at fun o e => k4 _ o e, by simpa using ha3.mono (Keep.list k4)⟩
    | yes hyes he =>
      rename_i e
      refine ev_seq S3.st (hyes.run A cenv _ rm ok S3.st) fun b s4 k4 r4 S4 => ?_
      subst r4
      obtain ⟨h4, tk4, rfl, k4⟩ := k4
      simp only [if_true]
      refine ev_seq S4 (he.run A cenv _ rm ok S4) fun y s5 k5 r5 S5 => ?_
      obtain ⟨h5, tk5, rfl, k5⟩ := k5
      have hp5 : h5.PlainList Dc ys := (hp3.at fun o e => k4 _ o e).at fun o e => k5 _ o e
      have ha5 := (ha3.mono (Keep.list k4)).mono (Keep.list k5)
      have hom' : Homog ((es0 ++ ts1.filterMap (·.2)) ++ [e]) := by
        have : es0 ++ ts.filterMap (·.2) = (es0 ++ ts1.filterMap (·.2)) ++ [e] ++ ts2.filterMap (·.2) := by rw [e1]; simp
        rw [this] at hom; exact hom.pre
      have hsv := Safe.new hp5 ha5 hom' r5
      have hlen : ys.size ≤ sizeLine := by
        have h1 := ha5.1
        have : (es0 ++ ts.filterMap (·.2)).length = (es0 ++ ts1.filterMap (·.2)).length + 1 + (ts2.filterMap (·.2)).length := by rw [e1]; simp; omega
        have h3 : sizeLine = 2 ^ 24 := rfl
        simp only [Array.length_toList] at h1
        omega
      refine wpAny_list_append_plain (hsz := hlen) hp5 fun h6 hp6 hs6 => ?_
      have S5' : StH P H cenv ((x, d) :: ρ) { s₀ with heap := h5, toks := tk5 } := (S3.keeps' k4 S4.tp).keeps' k5 S5.tp
      have hcD : ∀ v, ¬ h5.IsCell Dc v := fun v ⟨o, ho, hd⟩ => by
        obtain ⟨n, hn⟩ := hp5
        rw [hn] at ho; cases ho; cases hd
      refine ⟨ts2.length, by simp, ts1 ++ [(d, some e)], ts2, h6, tk5, by rw [e1]; simp, rfl, rfl, (StH.change (s := { s₀ with heap := h5, toks := tk5 }) S5' hs6.extBut hDc hDC hcD S5.tp).drop hx0, fun b o g1 g2 g3 e => hs6.extBut b o g3 (k5 b o (k4 b o (kb3 b o g1 g2 g3 e))),
        ((it3.frame fun o e => k4 _ o e).frame fun o e => k5 _ o e).frame fun o e => hs6.extBut _ o hJD e, ys.push y, hp6, ?_⟩
      have := (ha5.push hsv).mono (listKeep_dc hs6.extBut)
      simpa [List.filterMap_append] using this
end
section
open PySem PySem.W PyProof.Rows PySem.Calls
open Sem (wp)
variable {P : PK} {k : Nat} {sc : Scope} {ρ : List (Str × D)}

theorem compTurn_outer (elt t0 i0 t1 i1 : Expr) (ifs : List Expr) (scope : Scope) (pos : Pos) (it acc : Value) (env : Env) :
    compTurn (.ListComp elt [⟨t0, i0, [], 0⟩, ⟨t1, i1, ifs, 0⟩] scope pos) 0 it acc env = (do
      standAt i0.pos
      match ← pyNext it with
      | none => pure (.done .next)
      | some v =>
        letOwnedTupleGo t0 it v
        PySem.assign t0 env v
        let x ← eval i1 env
        standAt i1.pos
        let x ← foldedSetIterable i1 env x
        let _ ← runOwn (.compStart (.ListComp elt [⟨t0, i0, [], 0⟩, ⟨t1, i1, ifs, 0⟩] scope pos) 1 (← holding [x] (pyIter x)) acc env) env
        again (.compLoop (.ListComp elt [⟨t0, i0, [], 0⟩, ⟨t1, i1, ifs, 0⟩] scope pos) 0 it acc env)) := by rfl
theorem start1 {elt : Expr} {g0 g1 : Comprehension} {scope : Scope} {pos : Pos} {it acc : Value} {env : Env} {A : Around} {R : Result → Shared → Prop} {s : Shared} (hg : g1.is_async = 0)
    (h0 : codeAny (model P.prog P.w) A (.compLoop (.ListComp elt [g0, g1] scope pos) 1 it acc env) R s)
    (h : wpAny (model P.prog P.w) A (pyIter it) (fun it' s' => codeAny (model P.prog P.w) A (.compLoop (.ListComp elt [g0, g1] scope pos) 1 it' acc env) R s')
      (notedBy (model P.prog P.w) A env fun x s' => R (.error x) s') s) :
    codeAny (model P.prog P.w) A (.compStart (.ListComp elt [g0, g1] scope pos) 1 it acc env) R s := by
  refine codeAny_of_tree ?_
  show wpAny _ _ ((compStart (.ListComp elt [g0, g1] scope pos) 1 it acc env).onRaise (fun x => do noteFrame x env; standAt theWindowsPlace)) _ _ s
  refine wpAny_notedAt ?_
  obtain ⟨t1, i1, ifs1, as1⟩ := g1
  simp only at hg
  subst hg
  unfold compStart
  show wpAny _ _ (ask >>= _) _ _ s
  refine wpAny_bind (wpAny_askSetting (wpAny_ite ?_))
  split
  · first
      | exact wpAny_bind (wpAny_pure (wpAny_pure (And.intro rfl h0)))
      | exact wpAny_pure (And.intro rfl h0)
  · first
      | exact wpAny_bind (wpAny_rule (wpAny_bind (wpAny_standAt (wpAny_bind (wpAny_mono h (fun it' s' h' => wpAny_pure (And.intro rfl h')) fun _ _ x => x)))))
      | (refine wpAny_bind (wpAny_rule ?_); show wpAny _ _ (standAt i1.pos >>= _) _ _ s; exact wpAny_bind (wpAny_standAt (wpAny_bind (wpAny_mono h (fun it' s' h' => wpAny_pure (And.intro rfl h')) fun _ _ x => x))))

/-- two clauses: what the outer item gives -/
structure Turn2 (P : PK) (k : Nat) (sc : Scope) (ρ : List (Str × D)) (x0 x1 : Str) (i1 : Expr) (ifs : List Expr) (elt : Expr) (d : D) (ts : List (D × Option D)) : Prop where
  it : ItEx P k sc ((x0, d) :: ρ) i1 (ts.map (·.1))
  turn : ∀ t ∈ ts, Turn P k sc ((x0, d) :: ρ) x1 ifs elt t.1 t.2

theorem outer_loop {x0 x1 : Str} {px0 px1 : Pos} {i0 i1 : Expr} {ifs : List Expr} {elt : Expr} {scope : Scope} {pos : Pos} {J Dc : Addr} {cenv : Env} {A : Around} {H : Heap} {tss : List (D × List (D × Option D))} {R : Result → Shared → Prop} {s₀ : Shared}
    (rm : Room k A) (ok : EnvOK cenv sc) (hx : sc.names.lookup x0 = some .local) (hx0 : ρ.lookup x0 = none) (hx1 : sc.names.lookup x1 = some .local) (hx10 : ρ.lookup x1 = none) (h01 : x0 ≠ x1)
    (hJ : H.get? J = none) (hDc : H.get? Dc = none) (hC : H.get? cenv.locals = none) (hJD : J ≠ Dc) (hJC : J ≠ cenv.locals) (hDC : Dc ≠ cenv.locals)
    (hom : Homog (tss.flatMap fun t => t.2.filterMap (·.2))) (hsz : (tss.flatMap fun t => t.2.filterMap (·.2)).length ≤ 10000) (hturn : ∀ t ∈ tss, Turn2 P k sc ρ x0 x1 i1 ifs elt t.1 t.2)
    (hs : ∀ x, foldedSetIterable i1 cenv x = pure x)
    (S : StH P H cenv ρ s₀) (it : Itr H s₀.heap J (tss.map (·.1))) (acc : ∃ ys, s₀.heap.PlainList Dc ys ∧ Accs s₀.heap Dc [] ys)
    (hR : ∀ h' tk, StH P H cenv ρ { s₀ with heap := h', toks := tk } → (∀ b o, b ≠ cenv.locals → b ≠ J → b ≠ Dc → s₀.heap.get? b = some o → h'.get? b = some o) → (∃ ys, h'.PlainList Dc ys ∧ Accs h' Dc (tss.flatMap fun t => t.2.filterMap (·.2)) ys) → R (.ok .next) { s₀ with heap := h', toks := tk }) :
    codeAny (model P.prog P.w) A (.compLoop (.ListComp elt [⟨.Name x0 px0, i0, [], 0⟩, ⟨.Name x1 px1, i1, ifs, 0⟩] scope pos) 0 (.ref J) (.ref Dc) cenv) R s₀ := by
  have nsNo : ∀ ρ', ∀ s : Shared, StH P H cenv ρ' s → ∀ o xs n, s.heap.get? cenv.locals = some o → o.data ≠ .seq xs n := fun ρ' s S o xs n e q => by
    obtain ⟨m, ⟨o', es, ep, ho, hd, _⟩, _⟩ := S.ns
    rw [ho] at e; cases e
    rw [hd] at q; cases q
  refine codeAny_loop rfl (fun n s => ∃ ts1 ts2 h' tk, tss = ts1 ++ ts2 ∧ n = ts2.length ∧ s = { s₀ with heap := h', toks := tk } ∧ StH P H cenv ρ s ∧ (∀ b o, b ≠ cenv.locals → b ≠ J → b ≠ Dc → s₀.heap.get? b = some o → h'.get? b = some o) ∧
    Itr H h' J (ts2.map (·.1)) ∧ ∃ ys, h'.PlainList Dc ys ∧ Accs h' Dc (ts1.flatMap fun t => t.2.filterMap (·.2)) ys) ?_ tss.length
    ⟨[], tss, s₀.heap, s₀.toks, rfl, rfl, rfl, S, fun _ _ _ _ _ e => e, it, by simpa using acc⟩
  rintro n s ⟨ts1, ts2, h', tk, e1, rfl, rfl, S1, kb, it1, ys, hp, ha⟩
  show wpAny _ A ((compTurn (.ListComp elt [⟨.Name x0 px0, i0, [], 0⟩, ⟨.Name x1 px1, i1, ifs, 0⟩] scope pos) 0 (.ref J) (.ref Dc) cenv).onRaise (fun x => do noteFrame x cenv; theTreesLotGoes x)) _ _ _
  refine wpAny_noted ?_
  rw [compTurn_outer]
  refine wpAny_bind (wpAny_standAt (wpAny_bind ?_))
  have hnoJ := it1.noSeq
  cases ts2 with
  | nil =>
    refine Itr.done rm.hd S1.keep it1 fun h2 hs2 => ?_
    rw [List.append_nil] at e1; subst e1
    exact wpAny_pure (hR h2 tk (S1.change hs2 hJ hJC hnoJ.2 S1.tp) (fun b o g1 g2 g3 e => hs2 b o g2 (kb b o g1 g2 g3 e)) ⟨ys, hp.extBut hs2 (Ne.symm hJD), ha.mono (listKeep_same hs2 hnoJ.1)⟩)
  | cons t ts2 =>
    obtain ⟨d, ts⟩ := t
    refine Itr.next S1.keep hJ it1 fun v h2 tk2 htk2 rd hs2 it2 => ?_
    have S2 : StH P H cenv ρ { s₀ with heap := h2, toks := tk2 } := S1.change hs2.extBut hJ hJC hnoJ.2 (Nat.lt_of_lt_of_le S1.tp htk2)
    have kb2 : ∀ b o, b ≠ cenv.locals → b ≠ J → b ≠ Dc → s₀.heap.get? b = some o → h2.get? b = some o := fun b o g1 g2 g3 e => hs2.extBut b o g2 (kb b o g1 g2 g3 e)
    have hp2 := hp.extBut hs2.extBut (Ne.symm hJD)
    have ha2 := ha.mono (listKeep_same hs2.extBut hnoJ.1)
    refine wpAny_bind (wpAny_of_eq (rfl : letOwnedTupleGo (.Name x0 px0) (.ref J) v = pure ()) ?_)
    refine wpAny_bind (wpAny_assign_Name ?_)
    refine StH.store ok S2 hC hx rd fun h3 hs3 S3 => ?_
    have kb3 : ∀ b o, b ≠ cenv.locals → b ≠ J → b ≠ Dc → s₀.heap.get? b = some o → h3.get? b = some o := fun b o g1 g2 g3 e => hs3.extBut b o g1 (kb2 b o g1 g2 g3 e)
    have hp3 := hp2.extBut hs3.extBut hDC
    have ha3 := ha2.mono (listKeep_same hs3.extBut (nsNo _ _ S2))
    have it3 : Itr H h3 J (ts2.map (·.1)) := it2.frame fun o e => hs3.extBut _ o hJC e
    obtain ⟨hI, hT⟩ := hturn (d, ts) (by rw [e1]; simp)
    refine wpAny_bind (ev_mono (hI.run A cenv _ H rm ok S3) fun x s4 h4' => ?_)
    obtain ⟨⟨h4, tk4, rfl, k4⟩, tp4, hit⟩ := h4'
    refine wpAny_bind (wpAny_standAt (wpAny_bind (wpAny_of_eq (hs x) (wpAny_bind (wpAny_holding ?_)))))
    refine hit _ _ fun J1 h5 tk5 hJ1 hJ1o htk5 k5 it5 => ?_
    have S4 : StH P H cenv ((x0, d) :: ρ) { s₀ with heap := h4, toks := tk4 } := S3.keeps' k4 tp4
    have S5 : StH P H cenv ((x0, d) :: ρ) { s₀ with heap := h5, toks := tk5 } := S4.keeps' k5 (Nat.lt_of_lt_of_le tp4 htk5)
    have k45 : Keep h3 h5 := Keep.trans k4 k5
    have hp5 : h5.PlainList Dc ys := hp3.at fun o e => k45 _ o e
    have ha5 := ha3.mono (Keep.list k45)
    have it5' : Itr H h5 J (ts2.map (·.1)) := it3.frame fun o e => k45 _ o e
    have ne1 : ∀ b o, h4.get? b = some o → J1 ≠ b := fun b o e q => by subst q; rw [hJ1] at e; cases e
    have hJ1D : J1 ≠ Dc := by
      obtain ⟨n, hn⟩ := hp3
      exact ne1 _ _ (k4 _ _ hn)
    have hJ1C : J1 ≠ cenv.locals := by
      obtain ⟨m, ⟨o', es, ep, ho, hd, _⟩, _⟩ := S4.ns
      exact ne1 _ _ ho
    have hJ1J : J1 ≠ J := by
      have : ∃ o, h3.get? J = some o := by
        rcases it3 with ⟨ax, items, i, ⟨o, ho, _⟩, _⟩ | ⟨a, c, h1, _⟩
        · exact ⟨o, ho⟩
        · exact ⟨_, h1⟩
      obtain ⟨o, ho⟩ := this
      exact ne1 _ _ (k4 _ _ ho)
    have hJ1H : H.get? J1 = none := by
      cases e : H.get? J1 with
      | none => rfl
      | some o => have := S4.keep _ _ e; rw [hJ1] at this; cases this
    have hlook : ((x0, d) :: ρ).lookup x1 = none := by rw [lookup_cons, if_neg (Ne.symm h01)]; exact hx10
    have efl : (tss.flatMap fun t => t.2.filterMap (·.2)) = ((ts1.flatMap fun t => t.2.filterMap (·.2)) ++ ts.filterMap (·.2)) ++ (ts2.flatMap fun t => t.2.filterMap (·.2)) := by
      rw [e1]; simp [List.flatMap_append, List.flatMap_cons]
    have inner : codeAny (model P.prog P.w) A (.compLoop (.ListComp elt [⟨.Name x0 px0, i0, [], 0⟩, ⟨.Name x1 px1, i1, ifs, 0⟩] scope pos) 1 (.ref J1) (.ref Dc) cenv) (fun r s' => match r with
        | .ok f => wpAny (model P.prog P.w) A (again (.compLoop (.ListComp elt [⟨.Name x0 px0, i0, [], 0⟩, ⟨.Name x1 px1, i1, ifs, 0⟩] scope pos) 0 (.ref J) (.ref Dc) cenv)) (fun fin s' => match fin with | .done f => R (.ok f) s' | .again c' => c' = .compLoop (.ListComp elt [⟨.Name x0 px0, i0, [], 0⟩, ⟨.Name x1 px1, i1, ifs, 0⟩] scope pos) 0 (.ref J) (.ref Dc) cenv ∧ ∃ m, m < ((d, ts) :: ts2).length ∧ (∃ ts1 ts2 h' tk, tss = ts1 ++ ts2 ∧ m = ts2.length ∧ s' = { s₀ with heap := h', toks := tk } ∧ StH P H cenv ρ s' ∧ (∀ b o, b ≠ cenv.locals → b ≠ J → b ≠ Dc → s₀.heap.get? b = some o → h'.get? b = some o) ∧
    Itr H h' J (ts2.map (·.1)) ∧ ∃ ys, h'.PlainList Dc ys ∧ Accs h' Dc (ts1.flatMap fun t => t.2.filterMap (·.2)) ys)) (fun _ _ => False) s'
        | .error e => False) { s₀ with heap := h5, toks := tk5 } := by
      refine last_loop (k := k) (sc := sc) (ρ := (x0, d) :: ρ) (H := H) (ts := ts) (es0 := ts1.flatMap fun t => t.2.filterMap (·.2)) rule1 rm ok hx1 hlook hJ1H hDc hC hJ1D hJ1C hDC
        (by rw [efl] at hom; exact hom.pre) (by rw [efl] at hsz; simp only [List.length_append] at hsz ⊢; omega) hT S5 it5 ⟨ys, hp5, ha5⟩ fun h6 tk6 S6 kb6 hacc6 => ?_
      refine wpAny_pure ⟨rfl, ts2.length, by simp, ts1 ++ [(d, ts)], ts2, h6, tk6, by rw [e1]; simp, rfl, rfl, S6.drop hx0, fun b o g1 g2 g3 e => ?_, it5'.frame fun o e => kb6 _ o hJC (Ne.symm hJ1J) hJD e, ?_⟩
      · have h45 := k45 b o (kb3 b o g1 g2 g3 e)
        exact kb6 b o g1 (fun q => by subst q; have := k4 _ _ (kb3 _ o g1 g2 g3 e); rw [hJ1] at this; cases this) g3 h45
      · obtain ⟨ys', hp', ha'⟩ := hacc6
        exact ⟨ys', hp', by simpa [List.flatMap_append] using ha'⟩
    refine wpAny_bind (wpAny_runOwn ?_)
    have fin := start1 (P := P) (A := A) (g0 := ⟨.Name x0 px0, i0, [], 0⟩) (g1 := ⟨.Name x1 px1, i1, ifs, 0⟩) rfl inner (Itr.self it5 inner)
    exact codeAny_mono fin fun r s' hr => by
      cases r with
      | ok f => exact wpAny_mono hr (fun _ _ x => x) fun _ _ x => x.elim
      | error e => exact hr.elim
end
section
open PySem PySem.W PyProof.Rows PySem.Calls
open Sem (wp)
variable {P : PK} {k : Nat} {sc : Scope} {ρ : List (Str × D)}

def relS (scope sc : Scope) : Scope := { scope with names := scope.names.map fun (n, k) => if (k == .free && sc.kind == .function && sc.names.lookup n == some .cell) then (n, .cell) else (n, k) }
theorem relS_eq {scope : Scope} {env : Env} (h : env.scope = sc) : relabel scope env = relS scope sc := by subst h; rfl
def clOf (scope : Scope) (env : Env) : List (Str × Addr) := (scope.names.filter fun x => x.2 == .free).reverse.map fun x => (x.1, (env.cells.lookup x.1).getD 0)
theorem closure_go {env : Env} : ∀ (names : List (Str × NameKind)) (acc : List (Str × Addr)), (∀ y ∈ names, y.2 = .free → ∃ c, env.cells.lookup y.1 = some c) →
    (forIn names acc (fun x cs => do
      let (name, kind) := x
      if kind == NameKind.free then do let c ← cellOf env name; pure (ForInStep.yield ((name, c) :: cs)) else pure (ForInStep.yield cs)) : Sem (List (Str × Addr))) = pure (((names.filter fun x => x.2 == .free).reverse.map fun x => (x.1, (env.cells.lookup x.1).getD 0)) ++ acc)
  | [], acc, _ => by simp
  | (n, kd) :: r, acc, h => by
    rw [List.forIn_cons]
    by_cases g : kd = .free
    · subst g
      obtain ⟨c, hc⟩ := h (n, .free) (by simp) rfl
      have e : cellOf env n = pure c := by unfold cellOf; rw [hc]
      simp only [beq_self_eq_true, if_true, e, pure_bind]
      rw [closure_go r _ fun y hy => h y (List.mem_cons_of_mem _ hy)]
      have hc' : List.lookup n env.cells = some c := hc
      simp [List.filter_cons, hc']
    · have g' : (kd == NameKind.free) = false := by simpa using g
      simp only [g', Bool.false_eq_true, if_false, pure_bind]
      rw [closure_go r _ fun y hy => h y (List.mem_cons_of_mem _ hy)]
      simp [List.filter_cons, g']
theorem closureFor_of {scope : Scope} {env : Env} (h : ∀ y ∈ scope.names, y.2 = .free → ∃ c, env.cells.lookup y.1 = some c) : closureFor scope env = pure (clOf scope env) := by
  unfold closureFor
  have := closure_go scope.names [] h
  simp only [List.append_nil] at this
  unfold clOf
  rw [← this]
  simp
theorem lookup_mem_eq {L : List (Str × Addr)} {n : Str} {c : Addr} (h1 : (n, c) ∈ L) (h2 : ∀ c', (n, c') ∈ L → c' = c) : L.lookup n = some c := by
  induction L with
  | nil => cases h1
  | cons p r ih =>
    obtain ⟨a, b⟩ := p
    rw [List.lookup_cons]
    by_cases g : n = a
    · subst g
      simp only [beq_self_eq_true]
      rw [h2 b (by simp)]
    · have g' : (n == a) = false := by simpa using g
      rw [g']
      refine ih ?_ fun c' hc => h2 c' (List.mem_cons_of_mem _ hc)
      rcases List.mem_cons.mp h1 with q | q
      · cases q; exact absurd rfl g
      · exact q
theorem clOf_mem {scope : Scope} {env : Env} {n : Str} {c : Addr} (h : ∀ y ∈ scope.names, y.2 = .free → ∃ c, env.cells.lookup y.1 = some c) (hm : (n, c) ∈ clOf scope env) : env.cells.lookup n = some c := by
  unfold clOf at hm
  obtain ⟨y, hy, e⟩ := List.mem_map.mp hm
  obtain ⟨hy1, hy2⟩ := List.mem_filter.mp (List.mem_reverse.mp hy)
  cases e
  obtain ⟨c', hc'⟩ := h y hy1 (by simpa using hy2)
  rw [hc']; rfl
theorem clOf_lookup {scope : Scope} {env : Env} {n : Str} (h : ∀ y ∈ scope.names, y.2 = .free → ∃ c, env.cells.lookup y.1 = some c) (hn : scope.names.lookup n = some .free) : (clOf scope env).lookup n = env.cells.lookup n := by
  obtain ⟨c, hc⟩ := h (n, .free) (mem_of_lookup hn) rfl
  rw [hc]
  refine lookup_mem_eq ?_ fun c' hc' => ?_
  · unfold clOf
    refine List.mem_map.mpr ⟨(n, .free), List.mem_reverse.mpr (List.mem_filter.mpr ⟨mem_of_lookup hn, rfl⟩), ?_⟩
    have hc2 : List.lookup n env.cells = some c := hc
    simp [hc2]
  · have := clOf_mem h hc'
    rw [hc] at this; cases this; rfl
theorem clOf_apart {scope : Scope} {env : Env} (h : ∀ y ∈ scope.names, y.2 = .free → ∃ c, env.cells.lookup y.1 = some c) (hnd : (scope.names.map (·.1)).Nodup) (ha : env.cells.Pairwise fun x y => x.2 ≠ y.2) : (clOf scope env).Pairwise fun x y => x.2 ≠ y.2 := by
  have h1 : ((scope.names.filter fun x => x.2 == .free).map (·.1)).Nodup := hnd.sublist (List.filter_sublist.map _)
  have h2 : (clOf scope env).Pairwise fun x y => x.1 ≠ y.1 := by
    unfold clOf
    rw [List.pairwise_map, List.pairwise_reverse]
    have := List.pairwise_map.mp h1
    exact this.imp fun q => Ne.symm q
  refine h2.imp_of_mem fun {a b} hma hmb hne q => hne ?_
  obtain ⟨n, c⟩ := a
  obtain ⟨n', c'⟩ := b
  have e1 := clOf_mem h hma
  have e2 := clOf_mem h hmb
  simp only at q
  subst q
  exact name_of_addr ha (mem_of_lookup e1) (mem_of_lookup e2)

/-- the scope of a comprehension fits -/
structure CompOK (sc scope : Scope) (ρ ρf : List (Str × D)) : Prop where
  kind : scope.kind = .function
  nocell : ∀ y ∈ scope.names, y.2 ≠ .cell
  locals : ∀ y ∈ scope.names, y.2 = .local → scope.names.lookup y.1 = some .local
  nodup : (scope.names.map (·.1)).Nodup
  free : ∀ y ∈ scope.names, y.2 = .free → sc.names.lookup y.1 = some .cell ∧ ∃ d, ρ.lookup y.1 = some d
  rf : ∀ y d, ρf.lookup y = some d → scope.names.lookup y = some .free ∧ ρ.lookup y = some d
theorem relS_local {scope : Scope} {x : Str} (h : scope.names.lookup x = some .local) : (relS scope sc).names.lookup x = some .local := by
  unfold relS
  have : ∀ names : List (Str × NameKind), names.lookup x = some .local → (names.map fun (n, k) => if (k == NameKind.free && sc.kind == .function && sc.names.lookup n == some .cell) then (n, NameKind.cell) else (n, k)).lookup x = some .local := by
    intro names
    induction names with
    | nil => intro h; cases h
    | cons p r ih =>
      obtain ⟨n, kd⟩ := p
      intro h
      rw [List.lookup_cons] at h
      rw [List.map_cons]
      by_cases g : x = n
      · subst g
        simp only [beq_self_eq_true] at h
        cases h
        simp [List.lookup_cons]
      · have g' : (x == n) = false := by simpa using g
        rw [g'] at h
        show List.lookup x ((if (kd == NameKind.free && sc.kind == .function && sc.names.lookup n == some .cell) = true then (n, NameKind.cell) else (n, kd)) :: _) = _
        by_cases hcond : (kd == NameKind.free && sc.kind == .function && sc.names.lookup n == some .cell) = true
        · rw [if_pos hcond, List.lookup_cons, g']; exact ih h
        · rw [if_neg hcond, List.lookup_cons, g']; exact ih h
  exact this _ h
theorem relS_free {scope : Scope} {x : Str} (hk : sc.kind = .function) (h : scope.names.lookup x = some .free) (hc : sc.names.lookup x = some .cell) : (relS scope sc).names.lookup x = some .cell := by
  unfold relS
  have : ∀ names : List (Str × NameKind), names.lookup x = some .free → (names.map fun (n, k) => if (k == NameKind.free && sc.kind == .function && sc.names.lookup n == some .cell) then (n, NameKind.cell) else (n, k)).lookup x = some .cell := by
    intro names
    induction names with
    | nil => intro h; cases h
    | cons p r ih =>
      obtain ⟨n, kd⟩ := p
      intro h
      rw [List.lookup_cons] at h
      rw [List.map_cons]
      by_cases g : x = n
      · subst g
        simp only [beq_self_eq_true] at h
        cases h
        have hc' : List.lookup x sc.names = some NameKind.cell := hc
        simp [List.lookup_cons, hk, hc']
      · have g' : (x == n) = false := by simpa using g
        rw [g'] at h
        show List.lookup x ((if (kd == NameKind.free && sc.kind == .function && sc.names.lookup n == some .cell) = true then (n, NameKind.cell) else (n, kd)) :: _) = _
        by_cases hcond : (kd == NameKind.free && sc.kind == .function && sc.names.lookup n == some .cell) = true
        · rw [if_pos hcond, List.lookup_cons, g']; exact ih h
        · rw [if_neg hcond, List.lookup_cons, g']; exact ih h
  exact this _ h

theorem relS_cell_inv {scope : Scope} {x : Str} (hn : ∀ y ∈ scope.names, y.2 ≠ .cell) (h : (relS scope sc).names.lookup x = some .cell) : scope.names.lookup x = some .free ∧ sc.names.lookup x = some .cell := by
  unfold relS at h
  have : ∀ names : List (Str × NameKind), (∀ y ∈ names, y.2 ≠ .cell) → (names.map fun (n, k) => if (k == NameKind.free && sc.kind == .function && sc.names.lookup n == some .cell) then (n, NameKind.cell) else (n, k)).lookup x = some .cell → names.lookup x = some .free ∧ sc.names.lookup x = some .cell := by
    intro names
    induction names with
    | nil => intro _ h; cases h
    | cons p r ih =>
      obtain ⟨n, kd⟩ := p
      intro hn h
      replace h : List.lookup x ((if (kd == NameKind.free && sc.kind == .function && sc.names.lookup n == some .cell) = true then (n, NameKind.cell) else (n, kd)) :: (r.map fun (n, k) => if (k == NameKind.free && sc.kind == .function && sc.names.lookup n == some .cell) then (n, NameKind.cell) else (n, k))) = some .cell := h
      by_cases g : x = n
      · subst g
        by_cases hcond : (kd == NameKind.free && sc.kind == .function && sc.names.lookup x == some .cell) = true
        · simp only [Bool.and_eq_true, beq_iff_eq] at hcond
          refine ⟨?_, hcond.2⟩
          rw [List.lookup_cons, beq_self_eq_true, hcond.1.1]
        · rw [if_neg hcond, List.lookup_cons, beq_self_eq_true] at h
          cases h
          exact absurd rfl (hn (x, .cell) (by simp))
      · have g' : (x == n) = false := by simpa using g
        rw [List.lookup_cons, g']
        refine ih (fun y hy => hn y (List.mem_cons_of_mem _ hy)) ?_
        by_cases hcond : (kd == NameKind.free && sc.kind == .function && sc.names.lookup n == some .cell) = true
        · rw [if_pos hcond, List.lookup_cons, g'] at h; exact h
        · rw [if_neg hcond, List.lookup_cons, g'] at h; exact h
  exact this _ hn h

theorem get_size (h : Heap) : h.get? h.objs.size = none := by
  cases e : h.get? h.objs.size with
  | none => rfl
  | some o => exact absurd (Heap.lt_size e) (Nat.lt_irrefl _)

theorem comp_block {target iter : Expr} {ifs : List Expr} {rest : List Comprehension} {elt : Expr} {scope : Scope} {pos : Pos} {A : Around} {env : Env} {H : Heap} {s₂ : Shared} {J : Addr} {ds : List D} {ρf : List (Str × D)} {RR : Value → Addr → Result → Shared → Prop}
    (hc : CompOK sc scope ρ ρf) (rm : Room k A) (ok : EnvOK env sc) (S : StH P H env ρ s₂) (it : Itr H s₂.heap J ds) (hJ : H.get? J = none)
    (hloop : ∀ (Dc C : Addr) (s₃ : Shared), EnvOK (compEnvC scope (clOf scope env) C env) (relS scope sc) → StH P H (compEnvC scope (clOf scope env) C env) ρf s₃ → Itr H s₃.heap J ds → (∃ ys, s₃.heap.PlainList Dc ys ∧ Accs s₃.heap Dc [] ys) →
      H.get? Dc = none → H.get? C = none → J ≠ Dc → J ≠ C → Dc ≠ C → (∃ h' tk, s₃ = { s₂ with heap := h', toks := tk } ∧ Keep s₂.heap h') → s₂.heap.get? Dc = none → s₂.heap.get? C = none →
      codeAny (model P.prog P.w) A (.compLoop (.ListComp elt (⟨target, iter, ifs, 0⟩ :: rest) scope pos) 0 (.ref J) (.ref Dc) (compEnvC scope (clOf scope env) C env)) (RR (.ref Dc) C) s₃) :
    wpAny (model P.prog P.w) A (newList []) (fun acc s₃ => wpAny (model P.prog P.w) A (newFunctionEnv scope env.globals (clOf scope env) [] env.qual none .none (some env)) (fun cenv s₄ =>
      codeAny (model P.prog P.w) A (.compStart (.ListComp elt (⟨target, iter, ifs, 0⟩ :: rest) scope pos) 0 (.ref J) acc { cenv with scope := relabel scope env }) (RR acc cenv.locals) s₄) NoE s₃) NoE s₂ := by
  refine wpAny_newObj_type (wpAny_newFunctionEnv hc.nocell (by intro y hy; simp at hy) (fun h₁ hns₁ hsb₁ => ?_) hc.kind)
  dsimp only at hns₁ hsb₁ ⊢
  generalize hH2 : s₂.heap.push { cls := .type "list", dict := none, data := .seq ([] : List Value).toArray } = H2 at hns₁ hsb₁ ⊢
  have hCz : H2.objs.size = s₂.heap.objs.size + 1 := by rw [← hH2, Heap.size_push]
  have hDC : s₂.heap.objs.size ≠ H2.objs.size := by rw [hCz]; exact Nat.ne_of_lt (Nat.lt_succ_self _)
  have below : ∀ b, b < s₂.heap.objs.size → b ≠ H2.objs.size ∧ b ≠ s₂.heap.objs.size := fun b hb => ⟨by rw [hCz]; exact Nat.ne_of_lt (Nat.lt_succ_of_lt hb), Nat.ne_of_lt hb⟩
  have old : Keep s₂.heap h₁ := fun b o e => hsb₁.extBut b o (below b (Heap.lt_size e)).1 (Heap.get?_push_of_some _ (hH2 ▸ Heap.get?_push_of_some _ e))
  have hacc : h₁.PlainList s₂.heap.objs.size #[] := ⟨_, hsb₁.extBut _ _ hDC (Heap.get?_push_of_some _ (hH2 ▸ Heap.get?_push_size _ rfl))⟩
  have fresh2 : ∀ a, s₂.heap.objs.size ≤ a → s₂.heap.get? a = none := fun a ha => by
    cases e : s₂.heap.get? a with
    | none => rfl
    | some o' => exact absurd (Heap.lt_size e) (Nat.not_lt.mpr ha)
  have freshH : ∀ a, s₂.heap.get? a = none → H.get? a = none := fun a ha => by
    cases e : H.get? a with
    | none => rfl
    | some o => have := S.keep _ _ e; rw [ha] at this; cases this
  have hDf := fresh2 _ (Nat.le_refl _)
  have hCf := fresh2 H2.objs.size (by rw [hCz]; exact Nat.le_succ _)
  have hJo : ∃ o, s₂.heap.get? J = some o := by
    rcases it with ⟨ax, items, i, ⟨o, ho, _⟩, _⟩ | ⟨a, c, h1, _⟩
    · exact ⟨o, ho⟩
    · exact ⟨_, h1⟩
  obtain ⟨oJ, hoJ⟩ := hJo
  have hJlt := Heap.lt_size hoJ
  have hkind : env.scope.kind = .function := by rw [ok.scope]; exact ok.kind
  have hko : ∀ y, env.kindOf y = sc.names.lookup y := fun y => by unfold Env.kindOf; rw [ok.scope]
  have hfree : ∀ y ∈ scope.names, y.2 = .free → ∃ c, env.cells.lookup y.1 = some c := fun y hy hf => by
    obtain ⟨h1, d, h2⟩ := hc.free y hy hf
    obtain ⟨c, v, h3, _⟩ := S.cells y.1 d h2 (by rw [hko]; exact h1)
    exact ⟨c, h3⟩
  have S1 : StH P H env ρ { s₂ with heap := h₁, toks := s₂.toks + ([] : List (Str × Value)).length } := S.keeps' old S.tp
  have okc : EnvOK (compEnvC scope (clOf scope env) H2.objs.size env) (relS scope sc) := ⟨relS_eq ok.scope, hc.kind, ok.glob, ok.bu, fun x hx => by
    obtain ⟨h1, h2⟩ := relS_cell_inv hc.nocell hx
    obtain ⟨c, h3⟩ := hfree (x, .free) (mem_of_lookup h1) rfl
    exact ⟨c, (clOf_lookup hfree h1).trans h3⟩⟩
  have Sc : StH P H (compEnvC scope (clOf scope env) H2.objs.size env) ρf { s₂ with heap := h₁, toks := s₂.toks + ([] : List (Str × Value)).length } := by
    have hkoc : ∀ y, (compEnvC scope (clOf scope env) H2.objs.size env).kindOf y = (relS scope sc).names.lookup y := fun y => by unfold Env.kindOf; rw [okc.scope]
    have hcell : ∀ x d, ρf.lookup x = some d → (relS scope sc).names.lookup x = some .cell ∧ sc.names.lookup x = some .cell := fun x d e => by
      obtain ⟨h1, h2⟩ := hc.rf x d e
      have h3 := (hc.free (x, .free) (mem_of_lookup h1) rfl).1
      exact ⟨relS_free ok.kind h1 h3, h3⟩
    refine ⟨S1.keep, S.base, ⟨_, hns₁, fun x d e q => ?_⟩, fun x d e => .inr (by rw [hkoc]; exact (hcell x d e).1), fun x d e q => ?_, fun x c hm => ?_, clOf_apart hfree hc.nodup S.apart, ?_, S.tp⟩
    · rw [hkoc, (hcell x d e).1] at q; cases q
    · obtain ⟨h1, h2⟩ := hc.rf x d e
      obtain ⟨c, v, g1, g2, g3⟩ := S1.cells x d h2 (by rw [hko]; exact (hcell x d e).2)
      exact ⟨c, v, (clOf_lookup hfree h1).trans g1, g2, g3⟩
    · have := clOf_mem hfree hm
      exact S1.allcells x c (mem_of_lookup this)
    · have hb : P.B.get? H2.objs.size = none := by
        cases e : P.B.get? H2.objs.size with
        | none => rfl
        | some o => have := S.keep _ _ (S.base _ _ e); rw [hCf] at this; cases this
      exact hb
  have loop := hloop s₂.heap.objs.size H2.objs.size _ okc Sc (it.frame fun o e => old _ o e) ⟨#[], hacc, rfl, fun i e v h1 _ => by simp at h1⟩ (freshH _ hDf) (freshH _ hCf) (below _ hJlt).2 (below _ hJlt).1 hDC ⟨h₁, _, rfl, old⟩ hDf hCf
  exact codeAny_compStart_list loop (Itr.self (it.frame fun o e => old _ o e) loop)
end
section
open PySem PySem.W PyProof.Rows PySem.Calls
open Sem (wp)
variable {P : PK} {k : Nat} {sc : Scope} {ρ : List (Str × D)}

theorem Safe.rep {h : Heap} {Dc : Addr} {e : D} {v : Value} (x : Safe h Dc e v) : Rep h e v := by
  rcases x with ⟨_, h2⟩ | ⟨r, ds, a, vs, rfl, h2, rfl, h3, h4, h5⟩
  · exact h2
  · exact .lst h4 h5.1 h5.2
theorem Accs.rep {h : Heap} {Dc : Addr} {es : List D} {ys : Array Value} (hp : h.PlainList Dc ys) (x : Accs h Dc es ys) : Rep h (.lst es) (.ref Dc) :=
  .lst (vs := ys.toList) (by simpa using hp.isList) x.1 fun i d v e1 e2 => (x.2 i d v e1 e2).rep
theorem nsKeep {C : Addr} {h h' : Heap} {m : Str → Option Value} (hn : h.Ns C m) (hs : Heap.ExtBut C h h') : SeqKeep h h' := fun b o xs n e q => hs b o (fun g => by
  subst g
  obtain ⟨o', es, ep, ho, hd, _⟩ := hn
  rw [ho] at e; cases e
  rw [hd] at q; cases q) e
theorem St.change {env : Env} {s : Shared} {C : Addr} {h' : Heap} {m : Str → Option Value} (S : St P env ρ s) (hn : s.heap.Ns C m) (hs : Heap.ExtBut C s.heap h') (hB : P.B.get? C = none) (hL : C ≠ env.locals) : St P env ρ { s with heap := h' } := by
  have sk := nsKeep hn hs
  have hc : ∀ v, ¬ s.heap.IsCell C v := fun v ⟨o', ho', hd'⟩ => by
    obtain ⟨o, es, ep, ho, hd, _⟩ := hn
    rw [ho] at ho'; cases ho'
    rw [hd] at hd'; cases hd'
  refine ⟨⟨fun a o e => hs a o (fun q => by subst q; rw [hB] at e; cases e) (S.F.base a o e), ?_, S.F.kinds, ?_, ?_, S.F.apart, S.F.fresh⟩, S.tp⟩
  · obtain ⟨m', h1, h2⟩ := S.F.ns
    exact ⟨m', h1.at' fun o e => hs _ o (Ne.symm hL) e, fun x d e q => let ⟨v, g1, g2⟩ := h2 x d e q; ⟨v, g1, g2.mono sk⟩⟩
  · intro x d e q
    obtain ⟨c, v, g1, g2, g3⟩ := S.F.cells x d e q
    have : c ≠ C := fun q => hc _ (q ▸ g2)
    exact ⟨c, v, g1, let ⟨o, ho, hd⟩ := g2; ⟨o, hs _ o this ho, hd⟩, g3.mono sk⟩
  · intro x c e
    obtain ⟨⟨v, g2⟩, h2⟩ := S.F.allcells x c e
    have : c ≠ C := fun q => hc _ (q ▸ g2)
    exact ⟨⟨v, let ⟨o, ho, hd⟩ := g2; ⟨o, hs _ o this ho, hd⟩⟩, h2⟩

/-- what a comprehension's loop gives -/
def LoopOK (P : PK) (k : Nat) (sc : Scope) (ρ : List (Str × D)) (e : Expr) (scope : Scope) (ρf : List (Str × D)) (ds : List D) (es : List D) : Prop :=
  ∀ (A : Around) (env : Env) (H : Heap) (J Dc C : Addr) (s₃ : Shared) (R : Result → Shared → Prop), Room k A → EnvOK (compEnvC scope (clOf scope env) C env) (relS scope sc) → StH P H (compEnvC scope (clOf scope env) C env) ρf s₃ → Itr H s₃.heap J ds → (∃ ys, s₃.heap.PlainList Dc ys ∧ Accs s₃.heap Dc [] ys) →
    H.get? J = none → H.get? Dc = none → H.get? C = none → J ≠ Dc → J ≠ C → Dc ≠ C →
    (∀ h' tk m ys, h'.Ns C m → 0 < tk → (∀ b o, b ≠ C → b ≠ J → b ≠ Dc → s₃.heap.get? b = some o → h'.get? b = some o) → h'.PlainList Dc ys → Accs h' Dc es ys → R (.ok .next) { s₃ with heap := h', toks := tk }) →
    codeAny (model P.prog P.w) A (.compLoop e 0 (.ref J) (.ref Dc) (compEnvC scope (clOf scope env) C env)) R s₃

theorem LoopOK.one {x : Str} {px : Pos} {iter elt : Expr} {ifs : List Expr} {scope : Scope} {pos : Pos} {ρf : List (Str × D)} {ts : List (D × Option D)} (hx : scope.names.lookup x = some .local) (hx0 : ρf.lookup x = none)
    (hom : Homog (ts.filterMap (·.2))) (hsz : (ts.filterMap (·.2)).length ≤ 10000) (hturn : ∀ t ∈ ts, Turn P k (relS scope sc) ρf x ifs elt t.1 t.2) :
    LoopOK P k sc ρ (.ListComp elt [⟨.Name x px, iter, ifs, 0⟩] scope pos) scope ρf (ts.map (·.1)) (ts.filterMap (·.2)) := by
  intro A env H J Dc C s₃ R rm ok S it acc hJ hD hC hJD hJC hDC hR
  refine last_loop (ρ := ρf) (es0 := []) (px := px) rule0 rm ok (relS_local hx) hx0 hJ hD hC hJD hJC hDC hom hsz hturn S it acc fun h4 tk4 S4 kb hacc => ?_
  obtain ⟨m, hm, _⟩ := S4.ns
  obtain ⟨ys, hp, ha⟩ := hacc
  exact hR h4 tk4 m ys hm S4.tp kb hp ha
theorem LoopOK.two {x0 x1 : Str} {px0 px1 : Pos} {i0 i1 elt : Expr} {ifs : List Expr} {scope : Scope} {pos : Pos} {ρf : List (Str × D)} {tss : List (D × List (D × Option D))} (hx : scope.names.lookup x0 = some .local) (hx0 : ρf.lookup x0 = none) (hx1 : scope.names.lookup x1 = some .local) (hx10 : ρf.lookup x1 = none) (h01 : x0 ≠ x1)
    (hom : Homog (tss.flatMap fun t => t.2.filterMap (·.2))) (hsz : (tss.flatMap fun t => t.2.filterMap (·.2)).length ≤ 10000) (hturn : ∀ t ∈ tss, Turn2 P k (relS scope sc) ρf x0 x1 i1 ifs elt t.1 t.2)
    (hs : ∀ env x, foldedSetIterable i1 env x = pure x := by intro _ _; rfl) :
    LoopOK P k sc ρ (.ListComp elt [⟨.Name x0 px0, i0, [], 0⟩, ⟨.Name x1 px1, i1, ifs, 0⟩] scope pos) scope ρf (tss.map (·.1)) (tss.flatMap fun t => t.2.filterMap (·.2)) := by
  intro A env H J Dc C s₃ R rm ok S it acc hJ hD hC hJD hJC hDC hR
  refine outer_loop (ρ := ρf) rm ok (relS_local hx) hx0 (relS_local hx1) hx10 h01 hJ hD hC hJD hJC hDC hom hsz hturn (hs _) S it acc fun h4 tk4 S4 kb hacc => ?_
  obtain ⟨m, hm, _⟩ := S4.ns
  obtain ⟨ys, hp, ha⟩ := hacc
  exact hR h4 tk4 m ys hm S4.tp kb hp ha

theorem Ev.comp {target iter : Expr} {ifs : List Expr} {rest : List Comprehension} {elt : Expr} {scope : Scope} {pos : Pos} {ds es : List D} {ρf : List (Str × D)} (hc : CompOK sc scope ρ ρf) (hit : ItEx P k sc ρ iter ds)
    (hl : LoopOK P k sc ρ (.ListComp elt (⟨target, iter, ifs, 0⟩ :: rest) scope pos) scope ρf ds es) (hs : ∀ env x, foldedSetIterable iter env x = pure x := by intro _ _; rfl) : Ev P k sc ρ (.ListComp elt (⟨target, iter, ifs, 0⟩ :: rest) scope pos) (.lst es) :=
  .mk fun A env s rm ok S => by
    have SH := S.stH
    have hko : ∀ y, env.kindOf y = sc.names.lookup y := fun y => by unfold Env.kindOf; rw [ok.scope]
    have hfree : ∀ y ∈ scope.names, y.2 = .free → ∃ c, env.cells.lookup y.1 = some c := fun y hy hf => by
      obtain ⟨h1, d, h2⟩ := hc.free y hy hf
      obtain ⟨c, v, h3, _⟩ := SH.cells y.1 d h2 (by rw [hko]; exact h1)
      exact ⟨c, h3⟩
    rw [eval_ListComp]
    refine wpAny_comprehension_free (use := none) (cl := clOf scope env) rfl (hs env) (closureFor_of hfree) hc.kind hc.locals (ev_mono (hit.run A env s s.heap rm ok SH) fun x s₁ h₁ => ?_)
    obtain ⟨⟨h1, tk1, rfl, k1⟩, tp1, hI⟩ := h₁
    refine hI _ _ fun J h2 tk2 hJ hJo htk2 k2 it => ?_
    have hJH : s.heap.get? J = none := by
      cases e : s.heap.get? J with
      | none => rfl
      | some o => have := k1 _ _ e; rw [hJ] at this; cases this
    have S2 : StH P s.heap env ρ { s with heap := h2, toks := tk2 } := (SH.keeps' k1 tp1).keeps' k2 (Nat.lt_of_lt_of_le tp1 htk2)
    refine comp_block (k := k) (RR := fun acc C => compPost (model P.prog P.w) A NoE none (PostE (.lst es) s) acc C) hc rm ok S2 it hJH ?_
    rintro Dc C _ okc Sc it3 acc hDH hCH hJD hJC hDC ⟨h3, tk3, rfl, k3⟩ hD2 hC2
    refine hl A env s.heap J Dc C _ _ rm okc Sc it3 acc hJH hDH hCH hJD hJC hDC fun h4 tk4 m ys hm tp4 kb hp ha => ?_
    refine ⟨m, hm, fun h5 hs5 => ⟨⟨h5, tk4, rfl, fun b o e => ?_⟩, (ha.rep hp).mono (nsKeep hm hs5.extBut)⟩⟩
    have hb1 : b ≠ C := fun q => by subst q; rw [hCH] at e; cases e
    have hb2 : b ≠ J := fun q => by subst q; rw [hJH] at e; cases e
    have hb3 : b ≠ Dc := fun q => by subst q; rw [hDH] at e; cases e
    exact hs5.extBut b o hb1 (kb b o hb1 hb2 hb3 (k3 b o (k2 b o (k1 b o e))))

theorem swaps_true {elt : Expr} {gens : List Comprehension} {scope : Scope} {p py : Pos} {y : Str} {line : Nat} (h1 : sc.kind = .function) (h2 : sc.names.lookup y = some .local) (h3 : (py.line == p.line) = true) (h4 : (!(scope.names.any fun (n, k) => n == y && (k == .local || k == .cell))) = true) {env : Env} (ok : EnvOK env sc) :
    swapsWith (.ListComp elt gens scope p) (some (.Name y py)) line env = pure true := by
  show (pure (env.blockKind == .function && env.kindOf y == some .local && py.line == p.line && !(scope.names.any fun (n, k) => n == y && (k == .local || k == .cell))) : Sem Bool) = pure true
  have e1 : env.blockKind = .function := by unfold Env.blockKind; rw [ok.scope, h1]; rfl
  have e2 : env.kindOf y = some .local := by unfold Env.kindOf; rw [ok.scope]; exact h2
  rw [e1, e2, h3, h4]; rfl
theorem Ex1.assign_comp {y : Str} {py spos : Pos} {target iter : Expr} {ifs : List Expr} {rest : List Comprehension} {elt : Expr} {scope : Scope} {pos : Pos} {ds es : List D} {ρf : List (Str × D)} (hc : CompOK sc scope ρ ρf) (hit : ItEx P k sc ρ iter ds)
    (hl : LoopOK P k sc ρ (.ListComp elt (⟨target, iter, ifs, 0⟩ :: rest) scope pos) scope ρf ds es) (hy : sc.names.lookup y = some .local := by rfl) (h3 : (py.line == pos.line) = true := by rfl) (h4 : (!(scope.names.any fun (n, k) => n == y && (k == .local || k == .cell))) = true := by decide)
    (hs : ∀ env x, foldedSetIterable iter env x = pure x := by intro _ _; rfl) : Ex1 P k sc ρ (.Assign [.Name y py] (.ListComp elt (⟨target, iter, ifs, 0⟩ :: rest) scope pos) spos) (.next ((y, .lst es) :: ρ)) :=
  .mk fun A env s rm ok S => by
    have SH := S.stH
    have hko : ∀ y, env.kindOf y = sc.names.lookup y := fun y => by unfold Env.kindOf; rw [ok.scope]
    have hfree : ∀ y ∈ scope.names, y.2 = .free → ∃ c, env.cells.lookup y.1 = some c := fun y hy hf => by
      obtain ⟨h1, d, h2⟩ := hc.free y hy hf
      obtain ⟨c, v, h3, _⟩ := SH.cells y.1 d h2 (by rw [hko]; exact h1)
      exact ⟨c, h3⟩
    rw [exec_Assign_Name_used _ _ _ _ (swaps_true ok.kind hy h3 h4 ok)]
    refine wpAny_bind (wpAny_standAt (wpAny_bind ?_))
    show wpAny _ A (do let _ ← comprehension (.ListComp elt (⟨target, iter, ifs, 0⟩ :: rest) scope pos) scope env _ (newList []) false (eval iter env) (some (PySem.assign (.Name y py) env))) _ _ s
    refine wpAny_bind (wpAny_mono (wpAny_comprehension_free (use := some (PySem.assign (.Name y py) env)) (cl := clOf scope env) (Q := fun _ s' => KeepB env s s' ∧ OutOK P env (.next ((y, .lst es) :: ρ)) .next s') rfl (hs env) (closureFor_of hfree) hc.kind hc.locals
      (ev_mono (hit.run A env s s.heap rm ok SH) fun x s₁ h₁ => ?_)) (fun _ s' hq => wpAny_pure (wpAny_pure hq)) fun _ _ e => e)
    obtain ⟨⟨h1, tk1, rfl, k1⟩, tp1, hI⟩ := h₁
    refine hI _ _ fun J h2 tk2 hJ hJo htk2 k2 it => ?_
    have hJH : s.heap.get? J = none := by
      cases e : s.heap.get? J with
      | none => rfl
      | some o => have := k1 _ _ e; rw [hJ] at this; cases this
    have S2 : StH P s.heap env ρ { s with heap := h2, toks := tk2 } := (SH.keeps' k1 tp1).keeps' k2 (Nat.lt_of_lt_of_le tp1 htk2)
    refine comp_block (k := k) (RR := fun acc C => compPost (model P.prog P.w) A NoE (some (PySem.assign (.Name y py) env)) (fun _ s' => KeepB env s s' ∧ OutOK P env (.next ((y, .lst es) :: ρ)) .next s') acc C) hc rm ok S2 it hJH ?_
    rintro Dc C _ okc Sc it3 acc hDH hCH hJD hJC hDC ⟨h3, tk3, rfl, k3⟩ hD2 hC2
    refine hl A env s.heap J Dc C _ _ rm okc Sc it3 acc hJH hDH hCH hJD hJC hDC fun h4 tk4 m ys hm tp4 kb hp ha => ?_
    have k4 : Keep s.heap h4 := fun b o e => by
      have hb1 : b ≠ C := fun q => by subst q; rw [hCH] at e; cases e
      have hb2 : b ≠ J := fun q => by subst q; rw [hJH] at e; cases e
      have hb3 : b ≠ Dc := fun q => by subst q; rw [hDH] at e; cases e
      exact kb b o hb1 hb2 hb3 (k3 b o (k2 b o (k1 b o e)))
    have S4 : St P env ρ { s with heap := h4, toks := tk4 } := S.keeps ⟨h4, tk4, rfl, k4⟩ tp4
    show wpAny _ A (PySem.assign (.Name y py) env (.ref Dc)) _ _ _
    have hCL : C ≠ env.locals := fun q => by
      obtain ⟨m', ⟨o, es, ep, ho, _⟩, _⟩ := S.F.ns
      rw [← q, hCH] at ho; cases ho
    have hCown : ¬ Own env C := fun own => by
      rcases own with q | ⟨z, hz⟩
      · exact hCL q
      · obtain ⟨⟨v, o, ho, _⟩, _⟩ := S.F.allcells z C hz
        rw [hCH] at ho; cases ho
    have hCB : P.B.get? C = none := by
      cases e : P.B.get? C with
      | none => rfl
      | some o => have := S.F.base _ _ e; rw [hCH] at this; cases this
    refine ev_mono (storeT ok S4 (.inl hy) (ha.rep hp)) fun _ s5 h5' => ?_
    obtain ⟨⟨h5, tk5, rfl, kb5⟩, S5⟩ := h5'
    have hm5 : h5.Ns C m := hm.at' fun o e => kb5 _ o hCown e
    refine ⟨m, hm5, fun h6 hs6 => ⟨⟨h6, tk5, rfl, fun b o nb e => hs6.extBut b o (fun q => by subst q; rw [hCH] at e; cases e) (kb5 b o nb (k4 b o e))⟩, rfl, ?_⟩⟩
    exact St.change (s := { s with heap := h5, toks := tk5 }) S5 hm5 hs6.extBut hCB hCL
end
section
open PySem PySem.W PyProof.Rows PySem.Calls
open Sem (wp)
variable {P : PK} {k : Nat} {sc : Scope} {ρ : List (Str × D)}

theorem bindL_lookup {kindOf : Str → Option NameKind} : ∀ (l : List (Str × Value)) (m : Str → Option Value), (l.map (·.1)).Nodup → (∀ x ∈ l, kindOf x.1 = some .local) → ∀ x, bindL kindOf l m x = (l.lookup x).or (m x)
  | [], m, _, _, x => by simp [bindL]
  | (n, v) :: r, m, hn, hl, x => by
    have hn2 := List.nodup_cons.mp (by simpa using hn : (n :: r.map (·.1)).Nodup)
    unfold bindL
    rw [if_pos (hl (n, v) (by simp)), bindL_lookup r _ hn2.2 (fun y hy => hl y (List.mem_cons_of_mem _ hy)) x, List.lookup_cons]
    by_cases g : x = n
    · subst g
      have : r.lookup x = none := by
        cases e : r.lookup x with
        | none => rfl
        | some u => exact absurd (List.mem_map.mpr ⟨_, mem_of_lookup e, rfl⟩) hn2.1
      simp [this]
    · have g' : (x == n) = false := by simpa using g
      simp [g', g]

/-- a function with cells of its own -/
theorem FnV.introC {a : Addr} {o : Obj} {fd : FuncData} {body : List Stmt} {ds : List D} {names : List Str} {d : D}
    (ho : P.B.get? a = some o) (hd : o.data = .func fd) (hcd : P.B.CodeRec fd.code fd.qualname) (hbody : fd.body = .stmts body) (hsc : fd.scope = sc) (hg : fd.globals = mainGlobals) (hb : fd.builtins = builtinsNs) (hcl : fd.closure = [])
    (hk : sc.kind = .function) (hco : sc.isCoroutine = false) (hgen : sc.isGenerator = false) (hcs : ∀ L x c, (x, c) ∈ cellsFrom L sc.names [] → (cellsFrom L sc.names []).lookup x = some c) (hnd : names.Nodup) (hloc : ∀ x ∈ names, sc.names.lookup x = some .local)
    (hlen : names.length = ds.length) (hcells : ∀ L x, sc.names.lookup x = some .cell → ∃ c, (cellsFrom L sc.names []).lookup x = some c)
    (hbind : ∀ (vs : List Value), vs.length = ds.length → bindArgs fd ⟨vs, []⟩ = pure (names.zip vs))
    (h : Ex P k sc (names.zip ds) body (.ret d)) : FnV P (k + 1) (.ref a) ds d := .mk fun A s vs rm B tp r => by
  subst hsc
  refine wpAny_call ?_
  have hzip : (names.zip vs).map (·.1) = names := by rw [← List.unzip_fst, List.unzip_zip (by rw [hlen, r.1])]
  refine codeAny_call_function (by have := rm.dp; omega) (B _ _ ho) hd hco hgen hbody (hcd.keeps B) ?_
  rw [hbind vs r.1, hcl]
  refine wpAny_pure (wpAny_with_toks (n := 1) tp (wpAny_newFunctionEnv_cells hk (fun x hx => .inl (hloc _ (List.of_mem_zip hx).1)) fun env he s₁ IC htk => ?_))
  have he' : env = callEnvC fd s.heap.objs.size a := he
  clear he
  subst he'
  refine ⟨(P.nl.keeps B).keeps IC.toInCall.keep, codeAny_func ?_⟩
  have ok : EnvOK (callEnvC fd s.heap.objs.size a) fd.scope := ⟨rfl, hk, hg, hb, fun x hx => hcells _ x hx⟩
  have hfr : ∀ b, s.heap.objs.size ≤ b → P.B.get? b = none := fun b hb => by
    cases e : P.B.get? b with
    | none => rfl
    | some o => exact absurd (Heap.lt_size (B _ _ e)) (Nat.not_lt.mpr hb)
  have hks : ∀ y, (callEnvC fd s.heap.objs.size a).kindOf y = fd.scope.names.lookup y := fun y => rfl
  obtain ⟨h₁, tk₁, hs₁⟩ := IC.toInCall.same
  have kp := IC.toInCall.keep
  have hcel : (callEnvC fd s.heap.objs.size a).cells = cellsFrom (s.heap.objs.size + 1) fd.scope.names [] := rfl
  have S : St P (callEnvC fd s.heap.objs.size a) (names.zip ds) s₁ := by
    refine ⟨⟨B.trans kp, ⟨_, IC.toInCall.ns, fun x e hx _ => ?_⟩, fun x e hx => .inl ?_, fun x e hx hkc => ?_, fun x c hc => ?_, IC.apart, hfr _ (Nat.le_refl _)⟩, htk⟩
    · rw [bindL_lookup _ _ (by rw [hzip]; exact hnd) (fun y hy => by rw [hks]; exact hloc _ (List.of_mem_zip hy).1)]
      obtain ⟨v, h1, h2⟩ := zip_lookup (h := s.heap) names ds vs r x e hx
      exact ⟨v, by rw [h1]; rfl, h2.mono (Keep.seq kp)⟩
    · exact hloc _ (List.of_mem_zip (mem_of_lookup hx)).1
    · have h1 : fd.scope.names.lookup x = some .local := hloc _ (List.of_mem_zip (mem_of_lookup hx)).1
      rw [hks, h1] at hkc; cases hkc
    · refine ⟨⟨_, IC.cell x c (hcs _ x c hc)⟩, hfr c (Nat.le_of_lt (IC.above x c hc))⟩
  refine ev_mono (h.run _ _ s₁ rm.deeper ok S) fun fl s' h' => ?_
  obtain ⟨⟨h'', tk, rfl, kb⟩, v, rfl, rv⟩ := h'
  subst hs₁
  refine ⟨⟨h'', tk, rfl, fun b o e => kb b o (fun own => ?_) (kp b o e)⟩, rv⟩
  rcases own with q | ⟨x, hx⟩
  · have : b = s.heap.objs.size := q
    rw [this] at e
    exact absurd (Heap.lt_size e) (Nat.lt_irrefl _)
  · exact absurd (Heap.lt_size e) (Nat.not_lt.mpr (Nat.le_of_lt (IC.above x b hx)))
end
section
open PySem PySem.W PyProof.Rows PySem.Calls PySem.SeqAt
open Sem (wp)
variable {P : PK} {k : Nat} {sc : Scope} {ρ : List (Str × D)}

theorem eqS_same {a : D} (h : scal a = true) : eqS a a = true := by cases a <;> simp_all [scal, eqS]
theorem rep_at {h : Heap} {ds : List D} {vs : List Value} (r : RepAll h ds vs) {j : Nat} (h1 : j < vs.toArray.size) : ∃ d, ds[j]? = some d ∧ Rep h d vs.toArray[j] := by
  have hj : j < vs.length := by simpa using h1
  have hd : j < ds.length := by rw [← r.1]; exact hj
  refine ⟨ds[j], List.getElem?_eq_getElem hd, ?_⟩
  have := r.2 j ds[j] vs[j] (List.getElem?_eq_getElem hd) (List.getElem?_eq_getElem hj)
  simpa using this
theorem cmp_ne_lst_same {ds : List D} (hs : ∀ d ∈ ds, scal d = true) : CmpR P .NotEq (.lst ds) (.lst ds) false := .mk fun A s v u rm B tp r q => by
  cases r; cases q; rename_i a vs ha hl hr b ws hb hm hq
  have RA : RepAll s.heap ds vs := ⟨hl, hr⟩
  have RB : RepAll s.heap ds ws := ⟨hm, hq⟩
  have key := RcNeAt.lists (A := A) (s := s) (e := fun _ => true) ha hb (by simp [hl, hm]) (by have := rm.un; omega) fun j h1 h2 => by
    obtain ⟨d, e1, r1⟩ := rep_at RA h1
    obtain ⟨d', e2, r2⟩ := rep_at RB h2
    rw [e1] at e2; cases e2
    have hd := hs d (List.mem_of_getElem? e1)
    have := eqAt_of (A := A.in1) B r1 r2 hd hd (fun _ => rfl) (fun _ => rfl)
    rw [eqS_same hd] at this; exact this
  exact key _ _ _ _ (by have : (!(List.range vs.toArray.size).all fun _ => true) = false := by simp
                        rw [this]; exact ⟨keeps_refl s, .bool _⟩)
theorem cmp_ne_tup_same {ds : List D} (hs : ∀ d ∈ ds, scal d = true) : CmpR P .NotEq (.tup ds) (.tup ds) false := .mk fun A s v u rm B tp r q => by
  cases r; cases q; rename_i a vs ha hl hr b ws hb hm hq
  have RA : RepAll s.heap ds vs := ⟨hl, hr⟩
  have RB : RepAll s.heap ds ws := ⟨hm, hq⟩
  have key := RcNeAt.tuples (A := A) (s := s) (e := fun _ => true) ha hb (by have := rm.un; omega) fun j h1 h2 => by
    obtain ⟨d, e1, r1⟩ := rep_at RA h1
    obtain ⟨d', e2, r2⟩ := rep_at RB h2
    rw [e1] at e2; cases e2
    have hd := hs d (List.mem_of_getElem? e1)
    have := eqAt_of (A := A.in1) B r1 r2 hd hd (fun _ => rfl) (fun _ => rfl)
    rw [eqS_same hd] at this; exact this
  exact key _ _ _ _ (by have : (!((List.range (min vs.toArray.size ws.toArray.size)).all (fun _ => true) && vs.toArray.size == ws.toArray.size)) = false := by simp [hl, hm]
                        rw [this]; exact ⟨keeps_refl s, .bool _⟩)
theorem cmp_eq_lst_no {ds es : List D} (hlen : ds.length = es.length) (hs : ∀ d ∈ ds, scal d = true ∧ flt d = false) (ht : ∀ d ∈ es, scal d = true ∧ flt d = false) (hne : ∃ (j : Nat) (a b : D), ds[j]? = some a ∧ es[j]? = some b ∧ eqS a b = false) : CmpR P .Eq (.lst ds) (.lst es) false := .mk fun A s v u rm B tp r q => by
  cases r; cases q; rename_i a vs ha hl hr b ws hb hm hq
  have RA : RepAll s.heap ds vs := ⟨hl, hr⟩
  have RB : RepAll s.heap es ws := ⟨hm, hq⟩
  have hsz : vs.toArray.size = ws.toArray.size := by simp [hl, hm, hlen]
  refine eq_listAt (e := fun j => match ds[j]?, es[j]? with | some x, some y => eqS x y | _, _ => true) ha hb hsz (by have := rm.un; omega) (fun j h1 h2 => ?_) ?_
  · obtain ⟨d, e1, r1⟩ := rep_at RA h1
    obtain ⟨d', e2, r2⟩ := rep_at RB h2
    obtain ⟨g1, g2⟩ := hs d (List.mem_of_getElem? e1)
    obtain ⟨g3, g4⟩ := ht d' (List.mem_of_getElem? e2)
    simp only [e1, e2]
    exact eqAt_of (A := A.in1) B r1 r2 g1 g3 (fun q => by rw [g2] at q; cases q) (fun q => by rw [g4] at q; cases q)
  · obtain ⟨j, x, y, e1, e2, e3⟩ := hne
    have : ((List.range vs.toArray.size).all fun j => match ds[j]?, es[j]? with | some x, some y => eqS x y | _, _ => true) = false := by
      rw [List.all_eq_false]
      have hj := (List.getElem?_eq_some_iff.mp e1).1
      exact ⟨j, by simp [hl]; exact hj, by simp only [e1, e2, e3]; decide⟩
    rw [this]; exact ⟨keeps_refl s, .bool _⟩
theorem cmp_eq_ni {b : Int} : CmpR P .Eq .none (.int b) false := .mk fun A s v u rm _ tp r q => by
  cases r; cases q
  exact RcAt.none_int b _ _ _ _ _ ⟨keeps_refl s, .bool _⟩

/-- a function that ends without return -/
theorem FnV.introN {a : Addr} {o : Obj} {fd : FuncData} {body : List Stmt} {ds es : List D} {us : List Value} {names : List Str} {ρ' : List (Str × D)}
    (ho : P.B.get? a = some o) (hd : o.data = .func fd) (hcd : P.B.CodeRec fd.code fd.qualname) (hbody : fd.body = .stmts body) (hsc : fd.scope = sc) (hg : fd.globals = mainGlobals) (hb : fd.builtins = builtinsNs) (hcl : fd.closure = [])
    (hk : sc.kind = .function) (hco : sc.isCoroutine = false) (hgen : sc.isGenerator = false) (hcell : ∀ x ∈ sc.names, x.2 ≠ .cell) (hnd : names.Nodup) (hloc : ∀ x ∈ names, sc.names.lookup x = some .local)
    (hlen : names.length = (ds ++ es).length) (hes : RepAll P.B es us)
    (hbind : ∀ (s : Shared) (vs : List Value), Keep P.B s.heap → vs.length = ds.length → BindsTo s fd ⟨vs, []⟩ (names.zip (vs ++ us)))
    (h : Ex P k sc (names.zip (ds ++ es)) body (.next ρ')) : FnV P (k + 1) (.ref a) ds .none := .mk fun A s vs rm B tp r => by
  subst hsc
  refine wpAny_call ?_
  have rr : RepAll s.heap (ds ++ es) (vs ++ us) := r.append (hes.mono B.seq)
  refine codeAny_call_def (fd := fd) (body := body) (binds := names.zip (vs ++ us)) (by have := rm.dp; omega) (B _ _ ho) hd (P.nl.keeps B) (hcd.keeps B) hbody (hbind s vs B r.1) hcell ?_ (fun h₀ hns hkeep => ?_) hco hgen hk
  · intro x hx
    exact hloc _ (List.of_mem_zip hx).1
  · have ok : EnvOK (callEnv fd s.heap.objs.size a) fd.scope := ⟨rfl, hk, hg, hb, fun x hx => (hcell _ (mem_of_lookup hx) rfl).elim⟩
    have hfresh : P.B.get? s.heap.objs.size = none := by
      cases e : P.B.get? s.heap.objs.size with
      | none => rfl
      | some o => exact absurd (Heap.lt_size (B _ _ e)) (Nat.lt_irrefl _)
    have S : St P (callEnv fd s.heap.objs.size a) (names.zip (ds ++ es)) { s with heap := h₀, toks := s.toks + (names.zip (vs ++ us)).length } := by
      refine ⟨⟨B.trans hkeep, ⟨_, hns, fun x e hx _ => ?_⟩, fun x e hx => .inl ?_, fun x e hx hkc => ?_, fun x c hc => ?_, ?_, hfresh⟩, Nat.lt_of_lt_of_le tp (Nat.le_add_right _ _)⟩
      · have := zip_lookup (h := h₀) names (ds ++ es) (vs ++ us) (rr.mono (Keep.seq hkeep)) x e hx
        rw [rev_lookup (zip_fst_nodup hnd _)]; exact this
      · have hm := mem_of_lookup hx
        exact hloc _ (List.of_mem_zip hm).1
      · have hm := mem_of_lookup hx
        have h1 : fd.scope.names.lookup x = some .local := hloc _ (List.of_mem_zip hm).1
        have h2 : fd.scope.names.lookup x = some .cell := hkc
        rw [h1] at h2; cases h2
      · have : (callEnv fd s.heap.objs.size a).cells = [] := hcl
        rw [this] at hc; cases hc
      · have : (callEnv fd s.heap.objs.size a).cells = [] := hcl
        rw [this]; exact .nil
    refine ev_mono (h.run _ _ _ rm.deeper ok S) fun fl s' h' => ?_
    obtain ⟨⟨h'', tk, rfl, kb⟩, rfl, rv⟩ := h'
    refine ⟨⟨h'', tk, rfl, fun b o e => kb b o (fun own => ?_) (hkeep b o e)⟩, .none⟩
    rcases own with q | ⟨x, hx⟩
    · have : b = s.heap.objs.size := q
      rw [this] at e
      exact absurd (Heap.lt_size e) (Nat.lt_irrefl _)
    · have : (callEnv fd s.heap.objs.size a).cells = [] := hcl
      rw [this] at hx; cases hx
theorem GF.introN {k : Nat} {x : Str} {i m : Nat} {names : List Str} {ds es : List D} {ρ' : List (Str × D)} (h : FnAt P x i names m es) (hs : scOK i names = true) (hm : ds.length = m) (hn : names.length = (ds ++ es).length) (hE : Ex P k (scAt i) (names.zip (ds ++ es)) (bodyAt i) (.next ρ')) : GF P (k + 1) x ds .none := by
  obtain ⟨a, o, fd, us, h1, h2, h3, h4, h5, h6, h7, h8, h9, h10, h11⟩ := h.ex
  unfold scOK at hs
  simp only [Bool.and_eq_true, Bool.not_eq_true', decide_eq_true_eq, List.all_eq_true, beq_iff_eq] at hs
  exact ⟨_, h1, .fn h2 h3, FnV.introN h2 h3 h4 h5 h6 h7 h8 h9 hs.1.1.1.1.1 hs.1.1.1.1.2 hs.1.1.1.2 (fun y hy => by simpa using hs.1.1.2 y hy) hs.1.2 hs.2 hn h10 (fun s vs B e => h11 s vs B (hm ▸ e)) hE⟩
theorem Ex1.exprN {e : Expr} {pos : Pos} (he : Ev P k sc ρ e .none) (hs : ∀ env, swapsWith e none pos.line env = pure false := by intro _; rfl) : Ex1 P k sc ρ (.Expr e pos) (.next ρ) :=
  .mk fun A env s rm ok S => wpAny_Expr (ev_seq S (he.run A env s rm ok S) fun v s₁ k₁ g₁ S₁ => by
    cases g₁
    exact ⟨KeepB.of k₁, rfl, S₁⟩) (by unfold interactive; rw [ok.scope, ok.kind]; rfl) (hs env)
/-- a def with cells of its own -/
structure FnAtC (P : PK) (x : Str) (i : Nat) (names : List Str) : Prop where
  ex : ∃ (a : Addr) (o : Obj) (fd : FuncData), P.mg x = some (.ref a) ∧ P.B.get? a = some o ∧ o.data = .func fd ∧ P.B.CodeRec fd.code fd.qualname ∧ fd.body = .stmts (bodyAt i) ∧ fd.scope = scAt i ∧
    fd.globals = mainGlobals ∧ fd.builtins = builtinsNs ∧ fd.closure = [] ∧ ∀ (vs : List Value), vs.length = names.length → bindArgs fd ⟨vs, []⟩ = pure (names.zip vs)
def scOKC (i : Nat) (names : List Str) : Bool := (scAt i).kind == .function && !(scAt i).isCoroutine && !(scAt i).isGenerator && decide names.Nodup && names.all fun x => (scAt i).names.lookup x == some .local
theorem GF.introC {k : Nat} {x : Str} {i : Nat} {names : List Str} {ds : List D} {d : D} (h : FnAtC P x i names) (hs : scOKC i names = true) (hn : names.length = ds.length) (hcs : ∀ L x c, (x, c) ∈ cellsFrom L (scAt i).names [] → (cellsFrom L (scAt i).names []).lookup x = some c)
    (hcells : ∀ L x, (scAt i).names.lookup x = some .cell → ∃ c, (cellsFrom L (scAt i).names []).lookup x = some c) (hE : Ex P k (scAt i) (names.zip ds) (bodyAt i) (.ret d)) : GF P (k + 1) x ds d := by
  obtain ⟨a, o, fd, h1, h2, h3, h4, h5, h6, h7, h8, h9, h11⟩ := h.ex
  unfold scOKC at hs
  simp only [Bool.and_eq_true, Bool.not_eq_true', decide_eq_true_eq, List.all_eq_true, beq_iff_eq] at hs
  exact ⟨_, h1, .fn h2 h3, FnV.introC h2 h3 h4 h5 h6 h7 h8 h9 hs.1.1.1.1 hs.1.1.1.2 hs.1.1.2 hcs hs.1.2 hs.2 hn hcells (fun vs e => h11 vs (e.trans hn.symm)) hE⟩
end
open PySem PySem.W PyProof.Rows PySem.Calls
section
variable {P : PK} {k : Nat} {sc : Scope} {ρ : List (Str × D)}
theorem lookup_cons_ne {x y : Str} {d : D} (h : (y == x) = false) : List.lookup y ((x, d) :: ρ) = ρ.lookup y := by rw [List.lookup_cons, h]
end
local macro_rules | `(tactic| walk_at "om") => `(tactic| first | omega | (constructor <;> omega) | decide)
local macro_rules | `(tactic| walk_at "bn") => `(tactic| first
  | exact bin_add_ii | exact bin_sub_ii
  | (refine' bin_mod_ii ?k1; (case k1 => walk_at "om"))
  | (refine' bin_mul_ii ?k1; (case k1 => walk_at "om"))
  | (refine' bin_mul_ii' ?k1; (case k1 => walk_at "om"))
  | (refine' bin_add_fi ?k1 ?k2; (case k1 => walk_at "om"); (case k2 => walk_at "om"))
  | (refine' bin_add_if ?k1 ?k2; (case k1 => walk_at "om"); (case k2 => walk_at "om"))
  | (refine' bin_sub_fi ?k1 ?k2; (case k1 => walk_at "om"); (case k2 => walk_at "om"))
  | (refine' bin_add_ff ?k1 ?k2; (case k1 => walk_at "om"); (case k2 => walk_at "om"))
  | (refine' bin_sub_ff ?k1 ?k2; (case k1 => walk_at "om"); (case k2 => walk_at "om"))
  | (refine' bin_div_ii ?k1 ?k2; (case k1 => walk_at "om"); (case k2 => walk_at "om"))
  | (refine' bin_div_fi ?k1 ?k2 ?k3; (case k1 => walk_at "om"); (case k2 => walk_at "om"); (case k3 => walk_at "om"))
  | (refine' bin_div_ff ?k1 ?k2 ?k3; (case k1 => walk_at "om"); (case k2 => walk_at "om"); (case k3 => walk_at "om"))
  | (refine' bin_mod_fi ?k1 ?k2 ?k3; (case k1 => walk_at "om"); (case k2 => walk_at "om"); (case k3 => walk_at "om"))
  | (refine' bin_mul_fi ?k1 ?k2 ?k3; (case k1 => walk_at "om"); (case k2 => walk_at "om"); (case k3 => walk_at "om"))
  | (refine' bin_mul_if ?k1 ?k2 ?k3; (case k1 => walk_at "om"); (case k2 => walk_at "om"); (case k3 => walk_at "om"))
  | (refine' bin_add_qi ?k1 ?k2 ?k3; (case k1 => walk_at "om"); (case k2 => walk_at "om"); (case k3 => walk_at "om"))
  | (refine' bin_add_li ?k1 ?k2 ?k3; (case k1 => walk_at "om"); (case k2 => walk_at "om"); (case k3 => walk_at "om"))
  | exact bin_add_ib | exact bin_sub_ib
  | (refine' bin_div_x365 ?k1 ?k2; (case k1 => walk_at "om"); (case k2 => walk_at "om"))
  | (refine' bin_sub_if ?k1 ?k2; (case k1 => walk_at "om"); (case k2 => walk_at "om"))
  | (refine' bin_mul_li ?k1 ?k2 ?k3 ?k4; (case k1 => walk_at "om"); (case k2 => walk_at "om"); (case k3 => walk_at "om"); (case k4 => walk_at "om"))
  | (refine' bin_sub_il ?k1 ?k2 ?k3; (case k1 => walk_at "om"); (case k2 => walk_at "om"); (case k3 => walk_at "om"))
  | (refine' bin_div_ll' ?k1 ?k2 ?k3 ?k4 ?k5; (case k1 => walk_at "om"); (case k2 => walk_at "om"); (case k3 => walk_at "om"); (case k4 => walk_at "om"); (case k5 => walk_at "om"))
  | (refine' bin_div_il' ?k1 ?k2 ?k3 ?k4 ?k5; (case k1 => walk_at "om"); (case k2 => walk_at "om"); (case k3 => walk_at "om"); (case k4 => walk_at "om"); (case k5 => walk_at "om")))
local macro_rules | `(tactic| walk_at "inp") => `(tactic| first
  | exact inp_add_ii | exact inp_sub_ii
  | (refine' inp_add_fi ?k1 ?k2; (case k1 => walk_at "om"); (case k2 => walk_at "om"))
  | (refine' inp_sub_fi ?k1 ?k2; (case k1 => walk_at "om"); (case k2 => walk_at "om"))
  | (refine' inp_add_ff ?k1 ?k2; (case k1 => walk_at "om"); (case k2 => walk_at "om")))
local macro_rules | `(tactic| walk_at "fn") => `(tactic| first
  | exact fn_floor_x | exact fn_floor_i | exact fn_ceil_x | exact fn_int_i | exact fn_min_ii
  | (refine' fn_floor_l' ?k1; (case k1 => walk_at "om"))
  | (refine' fn_floor_q ?k1 ?k2; (case k1 => walk_at "om"); (case k2 => walk_at "om"))
  | (refine' fn_ceil_q ?k1 ?k2; (case k1 => walk_at "om"); (case k2 => walk_at "om"))
  | (refine' fn_trunc_q ?k1 ?k2 ?k3; (case k1 => walk_at "om"); (case k2 => walk_at "om"); (case k3 => walk_at "om"))
  | (refine' fn_trunc_365 ?k1; (case k1 => walk_at "om"))
  | exact fn_trunc_i
  | (refine' fn_trunc_x ?k1; (case k1 => walk_at "om"))
  | (refine' fn_int_x ?k1; (case k1 => walk_at "om")))
local macro_rules | `(tactic| walk_at "gd") => `(tactic| first
  | exact Glb.eg (by assumption) | exact Glb.ei (by assumption) | exact Glb.ec (by assumption) | exact Glb.ea (by assumption) | exact Glb.es (by assumption)
  | exact Glb.yd (by assumption) | exact Glb.lcy (by assumption) | exact Glb.lcd (by assumption) | exact Glb.lsy (by assumption) | exact Glb.lsd (by assumption) | exact Glb.icy (by assumption) | exact Glb.icd (by assumption) | exact Glb.sk (by assumption)
  | exact Glb.h30g (by assumption) | exact Glb.h30j (by assumption) | exact Glb.h31 (by assumption) | exact Glb.hi30 (by assumption))
local macro_rules | `(tactic| walk_at "gf") => `(tactic| fail "gf: no def")
local macro_rules | `(tactic| walk_at "cm") => `(tactic| first
  | exact cmp_eq_ii | exact cmp_ne_ii | exact cmp_lt_ii | exact cmp_le_ii | exact cmp_gt_ii | exact cmp_ge_ii | exact cmp_lt_fi | exact cmp_eq_fi | exact cmp_eq_ss | exact cmp_eq_ns
  | exact cmp_in_tup (is := [4, 6, 9, 11]) | exact cmp_in_tup (is := [2, 3, 4, 5, 6]) | exact cmp_in_tup (is := [1, 3, 5, 7, 9, 11]))
local macro_rules | `(tactic| walk_at "ev") => `(tactic| first
  | exact Ev.cint | exact Ev.cbool | exact Ev.cnone | exact Ev.cstr
  | exact Ev.cfx lit_half | exact Ev.cfx lit_29 | exact Ev.cfl lit_30 | exact Ev.cfl lit_122 | exact Ev.cfl lit_365 | exact Ev.cfx lit_1524
  | (refine' Ev.name ?k1; (case k1 => with_reducible_and_instances rfl))
  | (refine' Ev.name ?k1; (case k1 => rfl))
  | (refine' Ev.bin ?k1 ?k2 ?k3; (case k1 => walk_at "ev"); (case k2 => walk_at "ev"); (case k3 => walk_at "bn"))
  | (refine' Ev.gd ?k1; (case k1 => walk_at "gd"))
  | (refine' Ev.un ?k1 ?k2; (case k1 => walk_at "ev"); (case k2 => exact un_neg_i))
  | (refine' Ev.floor (by assumption) ?k1 ?k2; (case k1 => walk_at "ev"); (case k2 => walk_at "fn"))
  | (refine' Ev.trunc (by assumption) ?k1 ?k2; (case k1 => walk_at "ev"); (case k2 => walk_at "fn"))
  | (refine' Ev.ceil (by assumption) ?k1 ?k2; (case k1 => walk_at "ev"); (case k2 => walk_at "fn"))
  | (refine' Ev.int (by assumption) ?k1 ?k2; (case k1 => walk_at "ev"); (case k2 => walk_at "fn"))
  | (refine' Ev.min2 (by assumption) ?k1 ?k2 ?k3; (case k1 => walk_at "ev"); (case k2 => walk_at "ev"); (case k3 => walk_at "fn"))
  | (refine' Ev.gf ?k1 ?k2; (case k1 => walk_at "ea"); (case k2 => walk_at "gf"))
  | (refine' Ev.cmp ?k1 ?k2 ?k3; (case k1 => walk_at "ev"); (case k2 => walk_at "ev"); (case k3 => walk_at "cm")))
local macro_rules | `(tactic| walk_at "ev") => `(tactic| first
  | (refine' Ev.and2 ?k1 ?k2; (case k1 => walk_at "ev"); (case k2 => intro _; walk_at "ev"))
  | (refine' Ev.or2 ?k1 ?k2; (case k1 => walk_at "ev"); (case k2 => intro _; walk_at "ev"))
  | (refine' Ev.ifexp_ii ?k1 ?k2 ?k3; (case k1 => walk_at "et"); (case k2 => walk_at "ev"); (case k3 => walk_at "ev"))
  | fail "ev")
local macro_rules | `(tactic| walk_at "et") => `(tactic| first
  | (refine' EvT.cmp ?k1 ?k2 ?k3; (case k1 => walk_at "ev"); (case k2 => walk_at "ev"); (case k3 => walk_at "cm"))
  | (refine' EvT.cmp2 ?k1 ?k2 ?k3 ?k4 ?k5; (case k1 => walk_at "ev"); (case k2 => walk_at "ev"); (case k3 => walk_at "cm"); (case k4 => intro _; walk_at "ev"); (case k5 => intro _; walk_at "cm"))
  | (refine' EvT.not ?k1; (case k1 => walk_at "et"))
  | (refine' EvT.bool ?k1; (case k1 => walk_at "al"))
  | (refine' EvT.val ?k1; (case k1 => walk_at "ev")))
local macro_rules | `(tactic| walk_at "al") => `(tactic| first
  | exact AllT.and_nil | exact AllT.or_nil
  | (refine' AllT.and ?k1 ?k2; (case k1 => walk_at "et"); (case k2 => intro _; walk_at "al"))
  | (refine' AllT.or ?k1 ?k2; (case k1 => walk_at "et"); (case k2 => intro _; walk_at "al")))
local macro_rules | `(tactic| walk_at "ea") => `(tactic| first
  | exact EvA.nil
  | (refine' EvA.cons ?k1 ?k2; (case k1 => walk_at "ev"); (case k2 => walk_at "ea")))
local macro_rules | `(tactic| walk_at "as") => `(tactic| first | rfl | (refine congrArg D.int ?_; omega) | (refine congrArg D.fx ?_; omega))
local macro_rules | `(tactic| walk_at "lk") => `(tactic| first
  | assumption
  | (refine Eq.trans (lookup_cons_ne (by decide)) ?_; walk_at "lk"))
local macro_rules | `(tactic| walk_at "ev") => `(tactic| first
  | (refine' Ev.name ?k1; (case k1 => walk_at "lk"))
  | (refine' Ev.lower ?k1 ?k2; (case k1 => walk_at "ev"); (case k2 => decide))
  | (refine' Ev.tuple ?k1 ?k2; (case k1 => walk_at "ea"); (case k2 => exact Nat.le_of_ble_eq_true rfl))
  | fail "ev")
section
variable {P : PK} {k : Nat} {sc : Scope} {ρ : List (Str × D)}

/- the driver: «ev» an expression, «bn» an operation, «gd» a global's data, «fn» a built-in's value, «gf» a def's value, «om» the bounds -/
theorem jwday_c (G : Glb P) (h : FnAt P "jwday" 4 ["j"] 1 []) {n : Int} (h0 : 0 ≤ n) (h1 : n < 2 ^ 26) : GF P 1 "jwday" [.fx n] (.int ((n + 1) / 2 % 7)) := by
  refine GF.intro (k := 0) h (by decide +kernel) rfl rfl ?_
  show Ex P 0 (scAt 4) [("j", .fx n)] (bodyAt 4) (.ret (.int ((n + 1) / 2 % 7)))
  refine Ex.ret (Ex1.return ?_)
  walk_at "ev"

def isl (y : Int) : Bool := decide (y % 4 = 0) && (decide (y % 100 ≠ 0) || decide (y % 400 = 0))
theorem isleap_c (h : FnAt P "isleap" 90 ["year"] 1 []) {y : Int} : GF P 1 "isleap" [.int y] (.bool (isl y)) := by
  refine GF.intro (k := 0) h (by decide +kernel) rfl rfl ?_
  show Ex P 0 (scAt 90) [("year", .int y)] (bodyAt 90) (.ret (.bool (decide (y % 4 = 0) && (decide (y % 100 ≠ 0) || decide (y % 400 = 0)))))
  refine Ex.ret (Ex1.return ?_)
  walk_at "ev"

def ml30 (m : Int) : Int := if (([4, 6, 9, 11] : List Int).any fun i => decide (i = m)) = true then 30 else 31
def mlG (y m : Int) : Int := if m = 2 then (if isl y = true then 29 else 28) else ml30 m
section greg
variable (G : Glb P) (hl : FnAt P "isleap" 90 ["year"] 1 [])
include G hl
local macro_rules | `(tactic| walk_at "gf") => `(tactic| exact GF.le (isleap_c (by assumption)) (by decide))
theorem legal_g (h : FnAt P "legal_date_gregorian" 95 ["year", "month", "day"] 3 []) {y m d : Int} (h1 : 1 ≤ d) (h2 : d ≤ mlG y m) : GF P 2 "legal_date_gregorian" [.int y, .int m, .int d] (.bool true) := by
  refine GF.intro (k := 1) h (by decide +kernel) rfl rfl ?_
  show Ex P 1 (scAt 95) [("year", .int y), ("month", .int m), ("day", .int d)] (bodyAt 95) (.ret (.bool true))
  unfold mlG at h2
  by_cases hm : m = 2
  · rw [if_pos hm] at h2
    refine Ex.cons (Ex1.if_t (EvT.cast (by walk_at "et") (decide_eq_true hm)) (Ex.cons (Ex1.assign (by walk_at "ev")) Ex.nil)) ?_
    refine Ex.cons (Ex1.if_f (EvT.cast (by walk_at "et") (by simp only [Bool.not_eq_false', Bool.and_eq_true, decide_eq_true_eq]; omega)) Ex.nil) ?_
    exact Ex.ret (Ex1.return (by walk_at "ev"))
  · rw [if_neg hm] at h2
    refine Ex.cons (Ex1.if_f (EvT.cast (by walk_at "et") (decide_eq_false hm)) (Ex.cons (Ex1.assign (by walk_at "ev")) Ex.nil)) ?_
    refine Ex.cons (Ex1.if_f (EvT.cast (by walk_at "et") (by simp only [Bool.not_eq_false', Bool.and_eq_true, decide_eq_true_eq]; unfold ml30 at h2; omega)) Ex.nil) ?_
    exact Ex.ret (Ex1.return (by walk_at "ev"))
end greg
end
section
variable {P : PK} {k : Nat} {sc : Scope} {ρ : List (Str × D)}
def adjG (y m : Int) : Int := if m ≤ 2 then 0 else if isl y = true then -1 else -2
def ysG (y : Int) : Int := 365 * (y - 1) + (y - 1) / 4 - (y - 1) / 100 + (y - 1) / 400
def moG (y m d : Int) : Int := (367 * m - 362) / 12 + adjG y m + d
/-- the day's number: that of its midnight and a half -/
def toG (y m d : Int) : Int := 1721424 + ysG y + moG y m d

theorem mlG_le (y m : Int) : mlG y m ≤ 31 := by unfold mlG ml30; split <;> split <;> omega

section greg
variable (G : Glb P) (hl : FnAt P "isleap" 90 ["year"] 1 []) (hg : FnAt P "legal_date_gregorian" 95 ["year", "month", "day"] 3 [])
include G hl hg
local macro_rules | `(tactic| walk_at "gf") => `(tactic| first
  | exact GF.le (isleap_c (by assumption)) (by decide)
  | exact GF.le (legal_g (by assumption) (by assumption) (by assumption) (by omega) (by omega)) (by decide))
theorem to_g (h : FnAt P "to_jd_gregorian" 97 ["year", "month", "day"] 3 []) {y m d : Int} (hy : 1 ≤ y ∧ y ≤ 9999) (hm : 1 ≤ m ∧ m ≤ 12) (h1 : 1 ≤ d) (h2 : d ≤ mlG y m) : GF P 3 "to_jd_gregorian" [.int y, .int m, .int d] (.fx (2 * toG y m d + 1)) := by
  have h3 := mlG_le y m
  refine GF.intro (k := 2) h (by decide +kernel) rfl rfl ?_
  show Ex P 2 (scAt 97) [("year", .int y), ("month", .int m), ("day", .int d)] (bodyAt 97) (.ret (.fx (2 * toG y m d + 1)))
  refine Ex.cons (Ex1.expr (by walk_at "ev")) ?_
  unfold toG ysG moG adjG
  by_cases hm2 : m ≤ 2
  · refine Ex.cons (Ex1.if_t (EvT.cast (by walk_at "et") (decide_eq_true hm2)) (Ex.cons (Ex1.assign (by walk_at "ev")) Ex.nil)) ?_
    refine Ex.ret (Ex1.return (Ev.cast (by walk_at "ev") ?_))
    rw [if_pos hm2]; congr 1; omega
  · cases hi : isl y with
    | true =>
      refine Ex.cons (Ex1.if_f (EvT.cast (by walk_at "et") (decide_eq_false hm2)) (Ex.cons (Ex1.if_t (EvT.cast (by walk_at "et") hi) (Ex.cons (Ex1.assign (by walk_at "ev")) Ex.nil)) Ex.nil)) ?_
      refine Ex.ret (Ex1.return (Ev.cast (by walk_at "ev") ?_))
      rw [if_neg hm2, if_pos rfl]; congr 1; omega
    | false =>
      refine Ex.cons (Ex1.if_f (EvT.cast (by walk_at "et") (decide_eq_false hm2)) (Ex.cons (Ex1.if_f (EvT.cast (by walk_at "et") hi) (Ex.cons (Ex1.assign (by walk_at "ev")) Ex.nil)) Ex.nil)) ?_
      refine Ex.ret (Ex1.return (Ev.cast (by walk_at "ev") ?_))
      rw [if_neg hm2, if_neg (by decide)]; congr 1; omega
end greg
end
section
variable {P : PK} {k : Nat} {sc : Scope} {ρ : List (Str × D)}
/-- the arithmetic of the Gregorian cycle -/
theorem greg_cycle {Y yd : Int} (hY : 0 ≤ Y) (h0 : 0 ≤ yd) (h1 : yd ≤ 365) (hl : yd = 365 → (Y + 1) % 4 = 0 ∧ ((Y + 1) % 100 ≠ 0 ∨ (Y + 1) % 400 = 0)) :
    ∃ qc a1 ce a2 qd a3 yi : Int, (365 * Y + Y / 4 - Y / 100 + Y / 400 + yd) / 146097 = qc ∧ (365 * Y + Y / 4 - Y / 100 + Y / 400 + yd) % 146097 = a1 ∧ a1 / 36524 = ce ∧ a1 % 36524 = a2 ∧ a2 / 1461 = qd ∧ a2 % 1461 = a3 ∧ a3 / 365 = yi ∧
      0 ≤ a1 ∧ a1 < 146097 ∧ 0 ≤ a2 ∧ a2 < 36524 ∧ 0 ≤ a3 ∧ a3 < 1461 ∧
      (((ce = 4 ∨ yi = 4) ∧ qc * 400 + ce * 100 + qd * 4 + yi = Y + 1) ∨ (ce ≠ 4 ∧ yi ≠ 4 ∧ qc * 400 + ce * 100 + qd * 4 + yi = Y)) := by
  refine ⟨_, _, _, _, _, _, _, rfl, rfl, rfl, rfl, rfl, rfl, rfl, ?_⟩
  obtain ⟨q4, r, hr, hr0, hr1⟩ : ∃ q4 r : Int, Y = 400 * q4 + r ∧ 0 ≤ r ∧ r < 400 := ⟨Y / 400, Y % 400, by omega, by omega, by omega⟩
  obtain ⟨c, r2, h2, h20, h21⟩ : ∃ c r2 : Int, r = 100 * c + r2 ∧ 0 ≤ r2 ∧ r2 < 100 := ⟨r / 100, r % 100, by omega, by omega, by omega⟩
  obtain ⟨q, i, h3, h30, h31⟩ : ∃ q i : Int, r2 = 4 * q + i ∧ 0 ≤ i ∧ i < 4 := ⟨r2 / 4, r2 % 4, by omega, by omega, by omega⟩
  have hc : 0 ≤ c ∧ c ≤ 3 := by omega
  have hq : 0 ≤ q ∧ q ≤ 24 := by omega
  have e0 : 365 * Y + Y / 4 - Y / 100 + Y / 400 + yd = 146097 * q4 + (36524 * c + 1461 * q + 365 * i + yd) := by omega
  have hR : 0 ≤ 36524 * c + 1461 * q + 365 * i + yd ∧ 36524 * c + 1461 * q + 365 * i + yd < 146097 := by omega
  have e1 : (365 * Y + Y / 4 - Y / 100 + Y / 400 + yd) / 146097 = q4 := by rw [e0]; omega
  have e2 : (365 * Y + Y / 4 - Y / 100 + Y / 400 + yd) % 146097 = 36524 * c + 1461 * q + 365 * i + yd := by rw [e0]; omega
  rw [e1, e2]
  by_cases hlast : c = 3 ∧ q = 24 ∧ i = 3 ∧ yd = 365
  · obtain ⟨rfl, rfl, rfl, rfl⟩ := hlast
    omega
  · have hlt : 1461 * q + 365 * i + yd < 36524 := by omega
    have e3 : (36524 * c + 1461 * q + 365 * i + yd) / 36524 = c := by omega
    have e4 : (36524 * c + 1461 * q + 365 * i + yd) % 36524 = 1461 * q + 365 * i + yd := by omega
    rw [e3, e4]
    have e5 : (1461 * q + 365 * i + yd) / 1461 = q := by omega
    have e6 : (1461 * q + 365 * i + yd) % 1461 = 365 * i + yd := by omega
    rw [e5, e6]
    omega

theorem mo_facts {y m d : Int} (hm : 1 ≤ m ∧ m ≤ 12) (h1 : 1 ≤ d) (h2 : d ≤ mlG y m) :
    0 ≤ moG y m d - 1 ∧ moG y m d - 1 ≤ 364 + (if isl y = true then 1 else 0) ∧ moG y m 1 = moG y m d - d + 1 ∧ moG y 1 1 = 1 ∧
    (2 * (moG y m d - 1 + (if moG y m d - 1 < 58 + (if isl y = true then 1 else 0) then 0 else if isl y = true then 1 else 2)) * 12 + 746) / 734 = m := by
  have hm' : m = 1 ∨ m = 2 ∨ m = 3 ∨ m = 4 ∨ m = 5 ∨ m = 6 ∨ m = 7 ∨ m = 8 ∨ m = 9 ∨ m = 10 ∨ m = 11 ∨ m = 12 := by omega
  cases hi : isl y <;> rcases hm' with rfl | rfl | rfl | rfl | rfl | rfl | rfl | rfl | rfl | rfl | rfl | rfl <;>
    simp [mlG, ml30, hi] at h2 <;> simp [moG, adjG, hi] <;> omega
end
section
variable {P : PK} {k : Nat} {sc : Scope} {ρ : List (Str × D)}
abbrev Has (ρ : List (Str × D)) (x : Str) (d : D) : Prop := ρ.lookup x = some d
theorem mlG_ge (y m : Int) : 1 ≤ mlG y m := by unfold mlG ml30; split <;> split <;> omega
theorem isl_iff {y : Int} : isl y = true ↔ y % 4 = 0 ∧ (y % 100 ≠ 0 ∨ y % 400 = 0) := by
  unfold isl; simp

section greg
variable (G : Glb P) (hl : FnAt P "isleap" 90 ["year"] 1 []) (hg : FnAt P "legal_date_gregorian" 95 ["year", "month", "day"] 3 []) (ht : FnAt P "to_jd_gregorian" 97 ["year", "month", "day"] 3 [])
include G hl hg ht
local macro_rules | `(tactic| walk_at "gf") => `(tactic| first
  | exact GF.le (isleap_c (by assumption)) (by decide)
  | exact GF.le (to_g (by assumption) (by assumption) (by assumption) (by assumption) (by omega) (by omega) (by omega) (by omega)) (by decide))
theorem from_g (h : FnAt P "from_jd_gregorian" 99 ["jd"] 1 []) {y m d : Int} (hy : 1 ≤ y ∧ y ≤ 9999) (hm : 1 ≤ m ∧ m ≤ 12) (h1 : 1 ≤ d) (h2 : d ≤ mlG y m) :
    GF P 4 "from_jd_gregorian" [.fx (2 * toG y m d + 1)] (.tup [.int y, .int m, .int d]) := by
  obtain ⟨f1, f2, f3, f4, f5⟩ := mo_facts (y := y) hm h1 h2
  have g1 := mlG_ge y 1
  have g2 := mlG_ge y m
  have hi := @isl_iff y
  have g3 := mlG_le y m
  refine GF.intro (k := 3) h (by decide +kernel) rfl rfl ?_
  show Ex P 3 (scAt 99) [("jd", .fx (2 * toG y m d + 1))] (bodyAt 99) (.ret (.tup [.int y, .int m, .int d]))
  have hN : toG y m d = 1721425 + ysG y + (moG y m d - 1) := by unfold toG; omega
  have hN1 : toG y 1 1 = 1721425 + ysG y := by unfold toG; omega
  have hNm : toG y m 1 = toG y m d - d + 1 := by unfold toG; omega
  generalize toG y m d = N at *
  generalize moG y m d - 1 = yd at *
  have hys : ysG y = 365 * (y - 1) + (y - 1) / 4 - (y - 1) / 100 + (y - 1) / 400 := rfl
  have hyd : yd ≤ 365 := by split at f2 <;> omega
  obtain ⟨qc, a1, ce, a2, qd, a3, yi, c1, c2, c3, c4, c5, c6, c7, b1, b2, b3, b4, b5, b6, hcase⟩ := greg_cycle (Y := y - 1) (yd := yd) (by omega) f1 hyd (fun e => by
    have : isl y = true := by
      cases hb : isl y with
      | true => rfl
      | false => rw [hb] at f2; simp at f2; omega
    rw [show y - 1 + 1 = y by omega]; exact hi.mp this)
  rw [← hys] at c1 c2
  have hys0 : 0 ≤ ysG y ∧ ysG y ≤ 3651700 := by omega
  generalize ysG y = ys at *
  refine Ex.cons (Ex1.assign (d := .fx (2 * N + 1)) (Ev.cast (by walk_at "ev") (by walk_at "as"))) ?_
  refine Ex.cons (Ex1.assign (d := .fx (2 * (ys + yd))) (Ev.cast (by walk_at "ev") (by walk_at "as"))) ?_
  refine Ex.cons (Ex1.assign (d := .int qc) (Ev.cast (by walk_at "ev") (by walk_at "as"))) ?_
  refine Ex.cons (Ex1.assign (d := .fx (2 * a1)) (Ev.cast (by walk_at "ev") (by walk_at "as"))) ?_
  refine Ex.cons (Ex1.assign (d := .int ce) (Ev.cast (by walk_at "ev") (by walk_at "as"))) ?_
  refine Ex.cons (Ex1.assign (d := .fx (2 * a2)) (Ev.cast (by walk_at "ev") (by walk_at "as"))) ?_
  refine Ex.cons (Ex1.assign (d := .int qd) (Ev.cast (by walk_at "ev") (by walk_at "as"))) ?_
  refine Ex.cons (Ex1.assign (d := .fx (2 * a3)) (Ev.cast (by walk_at "ev") (by walk_at "as"))) ?_
  refine Ex.cons (Ex1.assign (d := .int yi) (Ev.cast (by walk_at "ev") (by walk_at "as"))) ?_
  have hbi : (if isl y = true then (1 : Int) else 0) = 0 ∨ (if isl y = true then (1 : Int) else 0) = 1 := by split <;> simp
  have fin : ∀ ρ : List (Str × D), Has ρ "wjd" (.fx (2 * N + 1)) → Has ρ "year" (.int y) → Ex P 3 (scAt 99) ρ ((bodyAt 99).drop 11) (.ret (.tup [.int y, .int m, .int d])) := by
    intro ρ l1 l2
    refine Ex.cons (Ex1.assign (d := .fx (2 * yd)) (Ev.cast (by walk_at "ev") (by walk_at "as"))) ?_
    refine Ex.cons (Ex1.assign (d := .bool (isl y)) (by walk_at "ev")) ?_
    have rest : ∀ la : Int, la = (if yd < 58 + (if isl y = true then 1 else 0) then 0 else if isl y = true then 1 else 2) → ∀ ρ : List (Str × D), Has ρ "wjd" (.fx (2 * N + 1)) → Has ρ "year" (.int y) → Has ρ "yearday" (.fx (2 * yd)) → Has ρ "leap_adj" (.int la) →
        Ex P 3 (scAt 99) ρ ((bodyAt 99).drop 14) (.ret (.tup [.int y, .int m, .int d])) := by
      intro la hla ρ l1 l2 l3 l4
      rw [← hla] at f5
      have hla' : 0 ≤ la ∧ la ≤ 2 := by rw [hla]; split <;> (try split) <;> omega
      refine Ex.cons (Ex1.assign (d := .int m) (Ev.cast (by walk_at "ev") (by walk_at "as"))) ?_
      refine Ex.cons (Ex1.assign (d := .int d) (Ev.cast (by walk_at "ev") (by walk_at "as"))) ?_
      exact Ex.ret (Ex1.return (by walk_at "ev"))
    by_cases hb : yd < 58 + (if isl y = true then 1 else 0)
    · refine Ex.cons (Ex1.if_t (EvT.cast (by walk_at "et") (decide_eq_true (by omega))) (Ex.cons (Ex1.assign (by walk_at "ev")) Ex.nil)) ?_
      exact rest _ (by rw [if_pos hb]) _ l1 l2 rfl rfl
    · rcases Bool.eq_false_or_eq_true (isl y) with hi2 | hi2
      · refine Ex.cons (Ex1.if_f (EvT.cast (by walk_at "et") (decide_eq_false (by omega))) (Ex.cons (Ex1.if_t (EvT.cast (by walk_at "et") hi2) (Ex.cons (Ex1.assign (by walk_at "ev")) Ex.nil)) Ex.nil)) ?_
        exact rest _ (by rw [if_neg hb, if_pos hi2]) _ l1 l2 rfl rfl
      · refine Ex.cons (Ex1.if_f (EvT.cast (by walk_at "et") (decide_eq_false (by omega))) (Ex.cons (Ex1.if_f (EvT.cast (by walk_at "et") hi2) (Ex.cons (Ex1.assign (by walk_at "ev")) Ex.nil)) Ex.nil)) ?_
        exact rest _ (by rw [if_neg hb, if_neg (by rw [hi2]; decide)]) _ l1 l2 rfl rfl
  rcases hcase with ⟨q1, q2⟩ | ⟨q1, q2, q3⟩
  · refine Ex.cons (Ex1.assign (d := .int y) (Ev.cast (by walk_at "ev") (by walk_at "as"))) ?_
    refine Ex.cons (Ex1.if_f (EvT.cast (by walk_at "et") (by simp; omega)) Ex.nil) ?_
    exact fin _ rfl rfl
  · refine Ex.cons (Ex1.assign (d := .int (y - 1)) (Ev.cast (by walk_at "ev") (by walk_at "as"))) ?_
    refine Ex.cons (Ex1.if_t (EvT.cast (by walk_at "et") (by simp; omega)) (Ex.cons (Ex1.aug (d := .int (y - 1 + 1)) (a := .int (y - 1)) (b := .int 1) (by rfl) (by walk_at "ev") (by walk_at "inp")) Ex.nil)) ?_
    exact fin _ rfl (by rw [show y - 1 + 1 = y by omega]; rfl)
end greg
end
section
variable {P : PK} {k : Nat} {sc : Scope} {ρ : List (Str × D)}
def sarka : Str := "sarkawag"
def lpS (y : Int) : Bool := decide (y % 4 = 0)
def mlN (m : Int) : Int := if m = 13 then 5 else 30
def mlS (y m : Int) : Int := if m = 13 then (if lpS y = true then 6 else 5) else 30
theorem low1 : ((Txt.lower "moveable" : Str) == ("sarkawag" : Str)) = false := by decide +kernel
theorem low2 : ((Txt.lower "sarkawag" : Str) == ("sarkawag" : Str)) = true := by decide +kernel
section arm
variable (G : Glb P)
include G
theorem leapa_c (h : FnAt P "leap_armenian" 15 ["year"] 1 []) {y : Int} (hy : 533 ≤ y) : GF P 1 "leap_armenian" [.int y] (.bool (lpS y)) := by
  refine GF.intro (k := 0) h (by decide +kernel) rfl rfl ?_
  show Ex P 0 (scAt 15) [("year", .int y)] (bodyAt 15) (.ret (.bool (decide (y % 4 = 0))))
  refine Ex.cons (Ex1.if_f (EvT.cast (by walk_at "et") (decide_eq_false (by omega))) Ex.nil) ?_
  exact Ex.ret (Ex1.return (by walk_at "ev"))
theorem valid_n (h : FnAt P "_valid_date" 14 ["year", "month", "day", "method"] 4 []) {y m d : Int} (hy : 1 ≤ y) (hm : 1 ≤ m ∧ m ≤ 13) (h1 : 1 ≤ d) (h2 : d ≤ mlN m) : GF P 2 "_valid_date" [.int y, .int m, .int d, .none] (.bool true) := by
  refine GF.intro (k := 1) h (by decide +kernel) rfl rfl ?_
  show Ex P 1 (scAt 14) [("year", .int y), ("month", .int m), ("day", .int d), ("method", .none)] (bodyAt 14) (.ret (.bool true))
  refine Ex.cons (Ex1.try (Ex.cons (Ex1.assert (EvT.cast (by walk_at "et") (by simp; omega))) Ex.nil)) ?_
  refine Ex.cons (Ex1.assign (by walk_at "ev")) ?_
  refine Ex.cons (Ex1.assign (Ev.or_none (by walk_at "ev") (by walk_at "ev"))) ?_
  have rest : ∀ (ρ : List (Str × D)) (x : Int), d ≤ x → Has ρ "day_max" (.int x) → Has ρ "year_min" (.int 1) → Has ρ "year" (.int y) → Has ρ "day" (.int d) → Ex P 1 (scAt 14) ρ ((bodyAt 14).drop 4) (.ret (.bool true)) := by
    intro ρ x hx l1 l2 l3 l4
    refine Ex.cons (Ex1.try (Ex.cons (Ex1.assert (EvT.cast (by walk_at "et") (decide_eq_true (by omega)))) Ex.nil)) ?_
    refine Ex.cons (Ex1.try (Ex.cons (Ex1.assert (EvT.cast (by walk_at "et") (by simp; omega))) Ex.nil)) ?_
    exact Ex.ret (Ex1.return (by walk_at "ev"))
  unfold mlN at h2
  by_cases hm13 : m = 13
  · rw [if_pos hm13] at h2
    refine Ex.cons (Ex1.if_f (EvT.cast (by walk_at "et") low1) (Ex.cons (Ex1.assign (by walk_at "ev")) (Ex.cons (Ex1.if_t (EvT.cast (by walk_at "et") (decide_eq_true hm13)) (Ex.cons (Ex1.assign (by walk_at "ev")) Ex.nil)) Ex.nil))) ?_
    exact rest _ 5 h2 rfl rfl rfl rfl
  · rw [if_neg hm13] at h2
    refine Ex.cons (Ex1.if_f (EvT.cast (by walk_at "et") low1) (Ex.cons (Ex1.assign (by walk_at "ev")) (Ex.cons (Ex1.if_f (EvT.cast (by walk_at "et") (decide_eq_false hm13)) Ex.nil) Ex.nil))) ?_
    exact rest _ 30 h2 rfl rfl rfl rfl
section
variable (hl : FnAt P "leap_armenian" 15 ["year"] 1 [])
include hl
local macro_rules | `(tactic| walk_at "gf") => `(tactic| exact GF.le (leapa_c (by assumption) (by assumption) (by omega)) (by decide))
theorem valid_s (h : FnAt P "_valid_date" 14 ["year", "month", "day", "method"] 4 []) {y m d : Int} (hy : 533 ≤ y) (hm : 1 ≤ m ∧ m ≤ 13) (h1 : 1 ≤ d) (h2 : d ≤ mlS y m) : GF P 2 "_valid_date" [.int y, .int m, .int d, .str "sarkawag"] (.bool true) := by
  refine GF.intro (k := 1) h (by decide +kernel) rfl rfl ?_
  show Ex P 1 (scAt 14) [("year", .int y), ("month", .int m), ("day", .int d), ("method", .str "sarkawag")] (bodyAt 14) (.ret (.bool true))
  refine Ex.cons (Ex1.try (Ex.cons (Ex1.assert (EvT.cast (by walk_at "et") (by simp; omega))) Ex.nil)) ?_
  refine Ex.cons (Ex1.assign (by walk_at "ev")) ?_
  refine Ex.cons (Ex1.assign (Ev.or_str (by walk_at "ev") (by decide))) ?_
  have rest : ∀ (ρ : List (Str × D)) (x : Int), d ≤ x → Has ρ "day_max" (.int x) → Has ρ "year_min" (.int 533) → Has ρ "year" (.int y) → Has ρ "day" (.int d) → Ex P 1 (scAt 14) ρ ((bodyAt 14).drop 4) (.ret (.bool true)) := by
    intro ρ x hx l1 l2 l3 l4
    refine Ex.cons (Ex1.try (Ex.cons (Ex1.assert (EvT.cast (by walk_at "et") (decide_eq_true (by omega)))) Ex.nil)) ?_
    refine Ex.cons (Ex1.try (Ex.cons (Ex1.assert (EvT.cast (by walk_at "et") (by simp; omega))) Ex.nil)) ?_
    exact Ex.ret (Ex1.return (by walk_at "ev"))
  unfold mlS at h2
  by_cases hm13 : m = 13
  · rw [if_pos hm13] at h2
    refine Ex.cons (Ex1.if_t (EvT.cast (by walk_at "et") low2) (Ex.cons (Ex1.assign (by walk_at "ev")) (Ex.cons (Ex1.if_t (EvT.cast (by walk_at "et") (decide_eq_true hm13)) (Ex.cons (Ex1.assign (by walk_at "ev")) Ex.nil)) Ex.nil))) ?_
    exact rest _ _ h2 rfl rfl rfl rfl
  · rw [if_neg hm13] at h2
    refine Ex.cons (Ex1.if_t (EvT.cast (by walk_at "et") low2) (Ex.cons (Ex1.assign (by walk_at "ev")) (Ex.cons (Ex1.if_f (EvT.cast (by walk_at "et") (decide_eq_false hm13)) Ex.nil) Ex.nil))) ?_
    exact rest _ 30 h2 rfl rfl rfl rfl
theorem mla_n (h : FnAt P "month_length_armenian" 21 ["year", "month", "method"] 3 []) {y m : Int} (hm : 1 ≤ m ∧ m ≤ 13) : GF P 2 "month_length_armenian" [.int y, .int m, .none] (.int (mlN m)) := by
  refine GF.intro (k := 1) h (by decide +kernel) rfl rfl ?_
  show Ex P 1 (scAt 21) [("year", .int y), ("month", .int m), ("method", .none)] (bodyAt 21) (.ret (.int (mlN m)))
  refine Ex.cons (Ex1.if_f (EvT.cast (by walk_at "et") (decide_eq_false (by omega))) Ex.nil) ?_
  unfold mlN
  by_cases hm13 : m = 13
  · rw [if_pos hm13]
    exact Ex.ret (Ex1.if_t (EvT.cast (by walk_at "et") (decide_eq_true hm13)) (Ex.ret (Ex1.return (Ev.ifexp_f (EvT.bool (AllT.and_f (by walk_at "et"))) (by walk_at "ev")))))
  · rw [if_neg hm13]
    refine Ex.cons (Ex1.if_f (EvT.cast (by walk_at "et") (decide_eq_false hm13)) Ex.nil) ?_
    exact Ex.ret (Ex1.return (by walk_at "ev"))
theorem mla_s (h : FnAt P "month_length_armenian" 21 ["year", "month", "method"] 3 []) {y m : Int} (hy : 533 ≤ y) (hm : 1 ≤ m ∧ m ≤ 13) : GF P 2 "month_length_armenian" [.int y, .int m, .str "sarkawag"] (.int (mlS y m)) := by
  refine GF.intro (k := 1) h (by decide +kernel) rfl rfl ?_
  show Ex P 1 (scAt 21) [("year", .int y), ("month", .int m), ("method", .str "sarkawag")] (bodyAt 21) (.ret (.int (mlS y m)))
  refine Ex.cons (Ex1.if_f (EvT.cast (by walk_at "et") (decide_eq_false (by omega))) Ex.nil) ?_
  unfold mlS
  by_cases hm13 : m = 13
  · rw [if_pos hm13]
    refine Ex.ret (Ex1.if_t (EvT.cast (by walk_at "et") (decide_eq_true hm13)) (Ex.ret (Ex1.return (Ev.cast (by walk_at "ev") ?_))))
    have e : ((PySem.Str.ofString "sarkawag") == (PySem.Str.ofString "sarkawag")) = true := by decide +kernel
    simp [e]
  · rw [if_neg hm13]
    refine Ex.cons (Ex1.if_f (EvT.cast (by walk_at "et") (decide_eq_false hm13)) Ex.nil) ?_
    exact Ex.ret (Ex1.return (by walk_at "ev"))
end
end arm
end
section
variable {P : PK} {k : Nat} {sc : Scope} {ρ : List (Str × D)}
theorem mlN_ge (m : Int) : 1 ≤ mlN m ∧ mlN m ≤ 30 := by unfold mlN; split <;> omega
theorem mlS_ge (y m : Int) : 1 ≤ mlS y m ∧ mlS y m ≤ 30 := by unfold mlS; split <;> (try split) <;> omega
def toN (y m d : Int) : Int := 1922501 + 365 * y + ((m - 1) * 30 + d)
def toS (y m d : Int) : Int := 2117210 + 365 * (y - 533) + (y - 533) / 4 + ((m - 1) * 30 + d)
section arm
variable (G : Glb P) (hl : FnAt P "leap_armenian" 15 ["year"] 1 []) (hv : FnAt P "_valid_date" 14 ["year", "month", "day", "method"] 4 [])
include G hl hv
section
local macro_rules | `(tactic| walk_at "gf") => `(tactic| exact GF.le (valid_n (by assumption) (by assumption) (by omega) (by omega) (by omega) (by omega)) (by decide))
theorem to_n_ex {y m d : Int} (hy : 1 ≤ y ∧ y ≤ 9999) (hm : 1 ≤ m ∧ m ≤ 13) (h1 : 1 ≤ d) (h2 : d ≤ mlN m) : Ex P 2 (scAt 17) [("year", .int y), ("month", .int m), ("day", .int d), ("method", .none)] (bodyAt 17) (.ret (.fx (2 * toN y m d + 1))) := by
  have h3 := mlN_ge m
  refine Ex.cons (Ex1.expr (by walk_at "ev")) ?_
  refine Ex.cons (Ex1.assign (by walk_at "ev")) ?_
  refine Ex.cons (Ex1.if_f (EvT.cast (by walk_at "et") rfl) Ex.nil) ?_
  unfold toN
  exact Ex.ret (Ex1.return (Ev.cast (by walk_at "ev") (by walk_at "as")))
end
theorem to_n3 (h : FnAt P "to_jd_armenian" 17 ["year", "month", "day", "method"] 3 [.none]) {y m d : Int} (hy : 1 ≤ y ∧ y ≤ 9999) (hm : 1 ≤ m ∧ m ≤ 13) (h1 : 1 ≤ d) (h2 : d ≤ mlN m) : GF P 3 "to_jd_armenian" [.int y, .int m, .int d] (.fx (2 * toN y m d + 1)) :=
  GF.intro (k := 2) h (by decide +kernel) rfl rfl (to_n_ex G hl hv hy hm h1 h2)
theorem to_n4 (h : FnAt P "to_jd_armenian" 17 ["year", "month", "day", "method"] 4 []) {y m d : Int} (hy : 1 ≤ y ∧ y ≤ 9999) (hm : 1 ≤ m ∧ m ≤ 13) (h1 : 1 ≤ d) (h2 : d ≤ mlN m) : GF P 3 "to_jd_armenian" [.int y, .int m, .int d, .none] (.fx (2 * toN y m d + 1)) :=
  GF.intro (k := 2) h (by decide +kernel) rfl rfl (to_n_ex G hl hv hy hm h1 h2)
section
local macro_rules | `(tactic| walk_at "gf") => `(tactic| exact GF.le (valid_s (by assumption) (by assumption) (by assumption) (by omega) (by omega) (by omega) (by omega)) (by decide))
theorem to_s (h : FnAt P "to_jd_armenian" 17 ["year", "month", "day", "method"] 4 []) {y m d : Int} (hy : 533 ≤ y ∧ y ≤ 9999) (hm : 1 ≤ m ∧ m ≤ 13) (h1 : 1 ≤ d) (h2 : d ≤ mlS y m) : GF P 3 "to_jd_armenian" [.int y, .int m, .int d, .str "sarkawag"] (.fx (2 * toS y m d + 1)) := by
  refine GF.intro (k := 2) h (by decide +kernel) rfl rfl ?_
  show Ex P 2 (scAt 17) [("year", .int y), ("month", .int m), ("day", .int d), ("method", .str "sarkawag")] (bodyAt 17) (.ret (.fx (2 * toS y m d + 1)))
  have h3 := mlS_ge y m
  refine Ex.cons (Ex1.expr (by walk_at "ev")) ?_
  refine Ex.cons (Ex1.assign (by walk_at "ev")) ?_
  have e : ((PySem.Str.ofString "sarkawag") == (PySem.Str.ofString "sarkawag")) = true := by decide +kernel
  unfold toS
  refine Ex.ret (Ex1.if_t (EvT.cast (by walk_at "et") e) ?_)
  refine Ex.cons (Ex1.assign (by walk_at "ev")) ?_
  refine Ex.cons (Ex1.assign (by walk_at "ev")) ?_
  exact Ex.ret (Ex1.return (Ev.cast (by walk_at "ev") (by walk_at "as")))
end
omit hl hv
theorem from_n_ex {y m d : Int} (hy : 1 ≤ y ∧ y ≤ 9999) (hm : 1 ≤ m ∧ m ≤ 13) (h1 : 1 ≤ d) (h2 : d ≤ mlN m) : Ex P 0 (scAt 19) [("jd", .fx (2 * toN y m d + 1)), ("method", .none)] (bodyAt 19) (.ret (.tup [.int y, .int m, .int d])) := by
  have hN : toN y m d = 1922501 + 365 * y + ((m - 1) * 30 + d) := rfl
  have hb : (m - 1) * 30 + d ≤ 365 ∧ d ≤ 30 := by
    unfold mlN at h2; split at h2 <;> omega
  generalize toN y m d = N at *
  refine Ex.cons (Ex1.if_f (EvT.cast (by walk_at "et") rfl) Ex.nil) ?_
  refine Ex.cons (Ex1.assign (d := .fx (2 * (365 * y + ((m - 1) * 30 + d)))) (Ev.cast (by walk_at "ev") (by walk_at "as"))) ?_
  refine Ex.cons (Ex1.if_f (EvT.cast (by walk_at "et") (decide_eq_false (by omega))) Ex.nil) ?_
  refine Ex.cons (Ex1.assign (d := .int y) (Ev.cast (by walk_at "ev") (by walk_at "as"))) ?_
  have em : (2 * (365 * y + ((m - 1) * 30 + d)) - 2 * 1) % (2 * 365) = 60 * (m - 1) + 2 * d - 2 := by omega
  refine Ex.cons (Ex1.assign (d := .int (m - 1)) (Ev.cast (by walk_at "ev") (by rw [em]; walk_at "as"))) ?_
  refine Ex.cons (Ex1.assign (d := .fx (2 * d)) (Ev.cast (by walk_at "ev") (by walk_at "as"))) ?_
  exact Ex.ret (Ex1.return (Ev.cast (by walk_at "ev") (by rw [show 2 * d / 2 = d by omega, show m - 1 + 1 = m by omega])))
theorem from_n (h : FnAt P "from_jd_armenian" 19 ["jd", "method"] 1 [.none]) {y m d : Int} (hy : 1 ≤ y ∧ y ≤ 9999) (hm : 1 ≤ m ∧ m ≤ 13) (h1 : 1 ≤ d) (h2 : d ≤ mlN m) : GF P 1 "from_jd_armenian" [.fx (2 * toN y m d + 1)] (.tup [.int y, .int m, .int d]) :=
  GF.intro (k := 0) h (by decide +kernel) rfl rfl (from_n_ex G hy hm h1 h2)
theorem from_s (h : FnAt P "from_jd_armenian" 19 ["jd", "method"] 2 []) {y m d : Int} (hy : 533 ≤ y ∧ y ≤ 9999) (hm : 1 ≤ m ∧ m ≤ 13) (h1 : 1 ≤ d) (h2 : d ≤ mlS y m) : GF P 1 "from_jd_armenian" [.fx (2 * toS y m d + 1), .str "sarkawag"] (.tup [.int y, .int m, .int d]) := by
  refine GF.intro (k := 0) h (by decide +kernel) rfl rfl ?_
  show Ex P 0 (scAt 19) [("jd", .fx (2 * toS y m d + 1)), ("method", .str "sarkawag")] (bodyAt 19) (.ret (.tup [.int y, .int m, .int d]))
  have hN : toS y m d = 2117210 + 365 * (y - 533) + (y - 533) / 4 + ((m - 1) * 30 + d) := rfl
  have hb : ((m - 1) * 30 + d ≤ 365 ∨ (m - 1) * 30 + d = 366 ∧ y % 4 = 0) ∧ d ≤ 30 ∧ (m = 13 → d ≤ 6) := by
    unfold mlS lpS at h2
    by_cases c : m = 13
    · rw [if_pos c] at h2
      by_cases c2 : y % 4 = 0
      · simp [c2] at h2; omega
      · simp [c2] at h2; omega
    · rw [if_neg c] at h2; omega
  have hd := mlS_ge y m
  obtain ⟨Y, hY⟩ : ∃ Y, Y = y - 533 := ⟨_, rfl⟩
  rw [← hY] at hN
  generalize toS y m d = N at *
  have e : ((PySem.Str.ofString "sarkawag") == (PySem.Str.ofString "sarkawag")) = true := by decide +kernel
  refine Ex.ret (Ex1.if_t (EvT.cast (by walk_at "et") e) ?_)
  refine Ex.cons (Ex1.assign (d := .fx (2 * (365 * Y + Y / 4 + ((m - 1) * 30 + d)))) (Ev.cast (by walk_at "ev") (by walk_at "as"))) ?_
  refine Ex.cons (Ex1.if_f (EvT.cast (by walk_at "et") (decide_eq_false (by omega))) Ex.nil) ?_
  rcases hb.1 with c | ⟨c, c'⟩
  · refine Ex.cons (Ex1.assign (d := .int Y) (Ev.cast (by walk_at "ev") (by walk_at "as"))) ?_
    refine Ex.cons (Ex1.assign (d := .fx (2 * ((m - 1) * 30 + d))) (Ev.cast (by walk_at "ev") (by walk_at "as"))) ?_
    refine Ex.cons (Ex1.if_f (EvT.cast (by walk_at "et") (decide_eq_false (by omega))) Ex.nil) ?_
    refine Ex.cons (Ex1.assign (d := .int (m - 1)) (Ev.cast (by walk_at "ev") (by walk_at "as"))) ?_
    refine Ex.cons (Ex1.assign (d := .fx (2 * d)) (Ev.cast (by walk_at "ev") (by walk_at "as"))) ?_
    exact Ex.ret (Ex1.return (Ev.cast (by walk_at "ev") (by rw [show 2 * d / 2 = d by omega, show m - 1 + 1 = m by omega, show Y + 533 = y by omega])))
  · refine Ex.cons (Ex1.assign (d := .int (Y + 1)) (Ev.cast (by walk_at "ev") (by walk_at "as"))) ?_
    refine Ex.cons (Ex1.assign (d := .fx 0) (Ev.cast (by walk_at "ev") (by walk_at "as"))) ?_
    refine Ex.cons (Ex1.if_t (EvT.cast (by walk_at "et") rfl) (Ex.cons (Ex1.assign (d := .int 366) (Ev.ifexp_t (EvT.cast (by walk_at "et") (decide_eq_true (by omega))) (by walk_at "ev"))) (Ex.cons (Ex1.aug (a := .int (Y + 1)) (b := .int 1) (d := .int (Y + 1 - 1)) (by rfl) (by walk_at "ev") (by walk_at "inp")) Ex.nil))) ?_
    refine Ex.cons (Ex1.assign (d := .int (m - 1)) (Ev.cast (by walk_at "ev") (by walk_at "as"))) ?_
    refine Ex.cons (Ex1.assign (d := .int d) (Ev.cast (by walk_at "ev") (by walk_at "as"))) ?_
    exact Ex.ret (Ex1.return (Ev.cast (by walk_at "ev") (by rw [show m - 1 + 1 = m by omega, show Y + 1 - 1 + 533 = y by omega])))
end arm
end
section
variable {P : PK} {k : Nat} {sc : Scope} {ρ : List (Str × D)}
section utils
variable (G : Glb P) (hj : FnAt P "jwday" 4 ["j"] 1 []) (hwb : FnAt P "weekday_before" 5 ["weekday", "jd"] 2 []) (hsw : FnAt P "search_weekday" 6 ["weekday", "jd", "direction", "offset"] 4 [])
def wbf (w n : Int) : Int := n - 2 * ((n - 2 * w + 1) / 2 % 7)
include G hj in
section
local macro_rules | `(tactic| walk_at "gf") => `(tactic| exact GF.le (jwday_c (by assumption) (by assumption) (by omega) (by omega)) (by decide))
theorem wb_c (h : FnAt P "weekday_before" 5 ["weekday", "jd"] 2 []) {w n : Int} (hw : 0 ≤ w ∧ w ≤ 6) (h0 : 100 ≤ n) (h1 : n < 2 ^ 25) : GF P 2 "weekday_before" [.int w, .fx n] (.fx (wbf w n)) := by
  refine GF.intro (k := 1) h (by decide +kernel) rfl rfl ?_
  show Ex P 1 (scAt 5) [("weekday", .int w), ("jd", .fx n)] (bodyAt 5) (.ret (.fx (wbf w n)))
  unfold wbf
  exact Ex.ret (Ex1.return (Ev.cast (by walk_at "ev") (by walk_at "as")))
end
include G hj hwb in
section
local macro_rules | `(tactic| walk_at "gf") => `(tactic| exact GF.le (wb_c (by assumption) (by assumption) (by assumption) (by omega) (by omega) (by omega)) (by decide))
theorem sw_c (h : FnAt P "search_weekday" 6 ["weekday", "jd", "direction", "offset"] 4 []) {w n a b : Int} (hw : 0 ≤ w ∧ w ≤ 6) (h0 : 200 ≤ n) (h1 : n < 2 ^ 24) (hab : -10 ≤ a * b ∧ a * b ≤ 10) (ha : -10 ≤ a ∧ a ≤ 10) (hb : -10 ≤ b ∧ b ≤ 10) :
    GF P 3 "search_weekday" [.int w, .fx n, .int a, .int b] (.fx (wbf w (n + 2 * (a * b)))) := by
  refine GF.intro (k := 2) h (by decide +kernel) rfl rfl ?_
  show Ex P 2 (scAt 6) [("weekday", .int w), ("jd", .fx n), ("direction", .int a), ("offset", .int b)] (bodyAt 6) (.ret (.fx (wbf w (n + 2 * (a * b)))))
  exact Ex.ret (Ex1.return (Ev.cast (by walk_at "ev") (by walk_at "as")))
end
include G hj hwb hsw
local macro_rules | `(tactic| walk_at "gf") => `(tactic| exact GF.le (sw_c (by assumption) (by assumption) (by assumption) (by assumption) (by omega) (by omega) (by omega) (by decide) (by decide) (by decide)) (by decide))
theorem near_c (h : FnAt P "nearest_weekday" 7 ["weekday", "jd"] 2 []) {w n : Int} (hw : 0 ≤ w ∧ w ≤ 6) (h0 : 200 ≤ n) (h1 : n < 2 ^ 24) : GF P 4 "nearest_weekday" [.int w, .fx n] (.fx (wbf w (n + 6))) := by
  refine GF.intro (k := 3) h (by decide +kernel) rfl rfl ?_
  show Ex P 3 (scAt 7) [("weekday", .int w), ("jd", .fx n)] (bodyAt 7) (.ret (.fx (wbf w (n + 6))))
  exact Ex.ret (Ex1.return (Ev.cast (by walk_at "ev") rfl))
theorem next_c (h : FnAt P "next_weekday" 8 ["weekday", "jd"] 2 []) {w n : Int} (hw : 0 ≤ w ∧ w ≤ 6) (h0 : 200 ≤ n) (h1 : n < 2 ^ 24) : GF P 4 "next_weekday" [.int w, .fx n] (.fx (wbf w (n + 14))) := by
  refine GF.intro (k := 3) h (by decide +kernel) rfl rfl ?_
  show Ex P 3 (scAt 8) [("weekday", .int w), ("jd", .fx n)] (bodyAt 8) (.ret (.fx (wbf w (n + 14))))
  exact Ex.ret (Ex1.return (Ev.cast (by walk_at "ev") rfl))
theorem prev_c (h : FnAt P "previous_weekday" 9 ["weekday", "jd"] 2 []) {w n : Int} (hw : 0 ≤ w ∧ w ≤ 6) (h0 : 200 ≤ n) (h1 : n < 2 ^ 24) : GF P 4 "previous_weekday" [.int w, .fx n] (.fx (wbf w (n + -2))) := by
  refine GF.intro (k := 3) h (by decide +kernel) rfl rfl ?_
  show Ex P 3 (scAt 9) [("weekday", .int w), ("jd", .fx n)] (bodyAt 9) (.ret (.fx (wbf w (n + -2))))
  exact Ex.ret (Ex1.return (Ev.cast (by walk_at "ev") rfl))
end utils
end
section
variable {P : PK} {k : Nat} {sc : Scope} {ρ : List (Str × D)}
/-- what the top gives, once more -/
structure Glb2 (P : PK) : Prop where
  range : P.mg "range" = none
  list : P.mg "list" = none
  len : P.mg "len" = none
  date : P.mg "date" = some (.type "datetime.date")
  miny : GD P "MINYEAR" (.int 1)
  maxy : GD P "MAXYEAR" (.int 9999)
  dys : ∃ vs : List Value, vs.length = 7 ∧ GD P "_days" (.tup (vs.map .val))
  mdays : GD P "mdays" (.lst ([0, 31, 28, 31, 30, 31, 30, 31, 31, 30, 31, 30, 31].map .int))
  feb : ∃ a, P.mg "FEBRUARY" = some (.ref a) ∧ SubInt P a 2
section cal
open PySem.Builtin._datetime PySem.Builtin.Time
theorem leap_isl (y : Int) : timeIsLeap y = isl y := by
  unfold timeIsLeap isl
  rw [Bool.eq_iff_iff]
  simp
theorem daysIn (y m : Int) (hm : 1 ≤ m ∧ m ≤ 12) : daysInMonth y m = mlG y m := by
  unfold daysInMonth mlG ml30
  rw [leap_isl]
  have : m = 1 ∨ m = 2 ∨ m = 3 ∨ m = 4 ∨ m = 5 ∨ m = 6 ∨ m = 7 ∨ m = 8 ∨ m = 9 ∨ m = 10 ∨ m = 11 ∨ m = 12 := by omega
  rcases this with h | h | h | h | h | h | h | h | h | h | h | h <;> subst h <;> cases isl y <;> rfl
variable (G : Glb P) (G2 : Glb2 P)
include G2
theorem weekday_c (h : FnAt P "weekday" 91 ["year", "month", "day"] 3 []) {y m : Int} (hy : 1 ≤ y ∧ y ≤ 9999) (hm : 1 ≤ m ∧ m ≤ 12) : ∃ v, GF P 1 "weekday" [.int y, .int m, .int 1] (.val v) := by
  obtain ⟨vs, hl, hg⟩ := G2.dys
  have hi : 0 ≤ weekdayOf (toOrdinal y m 1) ∧ weekdayOf (toOrdinal y m 1) ≤ 6 := by unfold weekdayOf; omega
  have h1 : (vs.map D.val)[(weekdayOf (toOrdinal y m 1)).toNat]? = some (.val (vs[(weekdayOf (toOrdinal y m 1)).toNat]'(by omega))) := by
    rw [List.getElem?_map, List.getElem?_eq_getElem (by omega)]; rfl
  refine ⟨_, GF.intro (k := 0) h (by decide +kernel) rfl rfl (d := .val (vs[(weekdayOf (toOrdinal y m 1)).toNat]'(by omega))) ?_⟩
  show Ex P 0 (scAt 91) [("year", .int y), ("month", .int m), ("day", .int 1)] (bodyAt 91) _
  have g1 := mlG_ge y m
  refine Ex.cons (Ex1.if_f (EvT.cast (EvT.not (EvT.cmp2 (Ev.gd G2.miny) (by walk_at "ev") (by walk_at "cm") (fun _ => Ev.gd G2.maxy) (fun _ => by walk_at "cm"))) (by simp; omega)) Ex.nil) ?_
  exact Ex.ret (Ex1.return (Ev.sub_tup (Ev.gd hg) (Ev.weekday (EvDate.call (Ev.glob G2.date (.val _)) (by walk_at "ea") hy hm (by rw [daysIn y m hm]; omega) (by omega))) hi.1 (by omega) h1))
omit G2
theorem validate_c (h : FnAt P "_validate_month" 92 ["month"] 1 []) {m : Int} (hm : 1 ≤ m ∧ m ≤ 12) : GF P 1 "_validate_month" [.int m] .none := by
  refine GF.introN (k := 0) (ρ' := [("month", .int m)]) h (by decide +kernel) rfl rfl ?_
  show Ex P 0 (scAt 92) [("month", .int m)] (bodyAt 92) _
  exact Ex.cons (Ex1.if_f (EvT.cast (by walk_at "et") (by simp; omega)) Ex.nil) Ex.nil
include G2 in
theorem monthrange_c (hl : FnAt P "isleap" 90 ["year"] 1 []) (hw : FnAt P "weekday" 91 ["year", "month", "day"] 3 []) (hv : FnAt P "_validate_month" 92 ["month"] 1 []) (h : FnAt P "monthrange" 93 ["year", "month"] 2 []) {y m : Int} (hy : 1 ≤ y ∧ y ≤ 9999) (hm : 1 ≤ m ∧ m ≤ 12) :
    ∃ v, GF P 2 "monthrange" [.int y, .int m] (.tup [.val v, .int (mlG y m)]) := by
  obtain ⟨v, gv⟩ := weekday_c G2 hw hy hm
  obtain ⟨a, ha, hs⟩ := G2.feb
  refine ⟨v, GF.intro (k := 1) h (by decide +kernel) rfl rfl ?_⟩
  show Ex P 1 (scAt 93) [("year", .int y), ("month", .int m)] (bodyAt 93) _
  refine Ex.cons (Ex1.exprN (Ev.gf (by walk_at "ea") (validate_c hv hm))) ?_
  refine Ex.cons (Ex1.assign (d := .val v) (Ev.gf (by walk_at "ea") gv)) ?_
  obtain ⟨x, hx⟩ : ∃ x, ([0, 31, 28, 31, 30, 31, 30, 31, 31, 30, 31, 30, 31] : List Int)[m.toNat]? = some x := ⟨_, List.getElem?_eq_getElem (by show m.toNat < 13; omega)⟩
  refine Ex.cons (Ex1.assign (d := .int (mlG y m)) (Ev.cast (Ev.bin (Ev.sub_lst (Ev.gd G2.mdays) (by walk_at "ev") (by omega) (by omega) (by rw [List.getElem?_map, hx]; rfl)) (Ev.and2 (Ev.cmp (by walk_at "ev") (Ev.glob ha (.val _)) (cmp_eq_sub hs)) (fun _ => Ev.gf (by walk_at "ea") (GF.le (isleap_c hl) (by decide)))) bin_add_ib) ?_)) ?_
  · refine congrArg D.int ?_
    unfold mlG ml30
    have : m = 1 ∨ m = 2 ∨ m = 3 ∨ m = 4 ∨ m = 5 ∨ m = 6 ∨ m = 7 ∨ m = 8 ∨ m = 9 ∨ m = 10 ∨ m = 11 ∨ m = 12 := by omega
    rcases this with h | h | h | h | h | h | h | h | h | h | h | h <;> subst h <;> cases hx <;> cases isl y <;> rfl
  · exact Ex.ret (Ex1.return (by walk_at "ev"))
include G2 in
theorem mlg_c (hl : FnAt P "isleap" 90 ["year"] 1 []) (hw : FnAt P "weekday" 91 ["year", "month", "day"] 3 []) (hv : FnAt P "_validate_month" 92 ["month"] 1 []) (hr : FnAt P "monthrange" 93 ["year", "month"] 2 []) (h : FnAt P "month_length_gregorian" 101 ["year", "month"] 2 []) {y m : Int} (hy : 1 ≤ y ∧ y ≤ 9999) (hm : 1 ≤ m ∧ m ≤ 12) :
    GF P 3 "month_length_gregorian" [.int y, .int m] (.int (mlG y m)) := by
  obtain ⟨v, gv⟩ := monthrange_c G2 hl hw hv hr hy hm
  refine GF.intro (k := 2) h (by decide +kernel) rfl rfl ?_
  show Ex P 2 (scAt 101) [("year", .int y), ("month", .int m)] (bodyAt 101) _
  exact Ex.ret (Ex1.return (Ev.sub_tup (Ev.gf (by walk_at "ea") gv) Ev.cint (by decide) (by decide) rfl))
include G2 in
theorem from_iso_g (h : FnAt P "from_gregorian" 132 ["year", "month", "day"] 3 []) {y m d : Int} (hy : 1 ≤ y ∧ y ≤ 9999) (hm : 1 ≤ m ∧ m ≤ 12) (h1 : 1 ≤ d) (h2 : d ≤ mlG y m) :
    GF P 1 "from_gregorian" [.int y, .int m, .int d] (.sq "datetime.IsoCalendarDate" [.int (isoCalendarOf y m d).1, .int (isoCalendarOf y m d).2.1, .int (isoCalendarOf y m d).2.2]) := by
  refine GF.intro (k := 0) h (by decide +kernel) rfl rfl ?_
  show Ex P 0 (scAt 132) [("year", .int y), ("month", .int m), ("day", .int d)] (bodyAt 132) _
  have g := mlG_le y m
  exact Ex.ret (Ex1.return (Ev.isocalendar (EvDate.call (Ev.glob G2.date (.val _)) (by walk_at "ea") hy hm (by rw [daysIn y m hm]; omega) (by omega))))
end cal
/-- f(*g(..)) -/
theorem Ev.gfS {id : Str} {p p2 pos : Pos} {e : Expr} {ds : List D} {d : D} (ha : Ev P k sc ρ e (.tup ds)) (hlen : ds.length ≤ 1000) (h : GF P k id ds d) (hfn : ∀ v, P.mg id = some v → ∃ a o fd, v = .ref a ∧ P.B.get? a = some o ∧ o.data = .func fd) (hk : sc.names.lookup id = some .globalImplicit := by rfl)
    (hd : (id == ("__debug__" : Str)) = false := by decide) : Ev P k sc ρ (.Call (.Name id p) [.Starred e p2] [] pos) d :=
  .mk fun A env s rm ok S => by
    obtain ⟨f, hf, _, hF⟩ := h
    obtain ⟨a, o, fd, rfl, ho, hdt⟩ := hfn f hf
    refine wpAny_Call_Name_kw (ev_seq S ((Ev.glob hf (.val _) hk hd).run A env s rm ok S) fun v s₁ k1 r1 S₁ => ?_)
    cases r1
    refine callWith_function (o := o) (fd := fd) ?_
    show wpAny _ A (evalArgs (.ref a) true [(true, (do let v ← eval e env; standAt pos; pure v))] []) _ _ _
    refine ks_lone (ev_seq S₁ (ha.run A env s₁ rm ok S₁) fun v s₂ k₂ r₂ S₂ => ?_)
    cases r₂
    rename_i t vs ht hl hr
    have ht' := ht
    obtain ⟨ot, hot, hct, n, hdd⟩ := ht
    have hT : s₂.TypeIs (.ref t) "tuple" := ⟨ot, hot, hct⟩
    have fin : wpAny (model P.prog P.w) A (collect (.ref t)) (fun vs s₂ => (s₂.heap.get? a = some o ∧ o.data = .func fd) ∧ wpAny (model P.prog P.w) A (PySem.call (.ref a) ([] ++ vs) []) (PostE d s) NoE s₂) NoE s₂ := by
      refine wpAny_collect_seq t (.inr rfl) hot hct hdd (fun h' hk' => ?_) (by have : sizeLine = 2 ^ 24 := rfl; simp [hl]; omega)
      have K3 : Keeps s₂ { s₂ with heap := h' } := ⟨h', _, rfl, hk'⟩
      refine ⟨⟨hk' _ _ (S₂.F.base _ _ ho), hdt⟩, ?_⟩
      have S₃ := S₂.keeps K3 S₂.tp
      refine ev_mono (hF.run A _ _ rm S₃.F.base S₃.tp ((show RepAll s₂.heap ds vs from ⟨hl, hr⟩).mono (Keep.seq hk'))) fun v s₄ h₄ => ⟨keeps_trans k1 (keeps_trans k₂ (keeps_trans K3 h₄.1)), h₄.2⟩
    unfold StarOf notIterableAtAll
    exact wpAny_bind (wpAny_specialOf hT PySem.F.slot_tuple_iter.lookup (wpAny_pure ⟨rfl, fin⟩))
theorem iso_c (G : Glb P) (G2 : Glb2 P) (hl : FnAt P "isleap" 90 ["year"] 1 []) (hg : FnAt P "legal_date_gregorian" 95 ["year", "month", "day"] 3 []) (ht : FnAt P "to_jd_gregorian" 97 ["year", "month", "day"] 3 []) (hf : FnAt P "from_jd_gregorian" 99 ["jd"] 1 []) (hi : FnAt P "from_gregorian" 132 ["year", "month", "day"] 3 [])
    (h : FnAt P "from_jd_iso" 130 ["jd"] 1 []) {y m d : Int} (hy : 1 ≤ y ∧ y ≤ 9999) (hm : 1 ≤ m ∧ m ≤ 12) (h1 : 1 ≤ d) (h2 : d ≤ mlG y m) :
    GF P 5 "from_jd_iso" [.fx (2 * toG y m d + 1)] (.sq "datetime.IsoCalendarDate" [.int (PySem.Builtin._datetime.isoCalendarOf y m d).1, .int (PySem.Builtin._datetime.isoCalendarOf y m d).2.1, .int (PySem.Builtin._datetime.isoCalendarOf y m d).2.2]) := by
  refine GF.intro (k := 4) h (by decide +kernel) rfl rfl ?_
  show Ex P 4 (scAt 130) [("jd", .fx (2 * toG y m d + 1))] (bodyAt 130) _
  exact Ex.ret (Ex1.return (Ev.gfS (Ev.gf (by walk_at "ea") (from_g G hl hg ht hf hy hm h1 h2)) (Nat.le_of_ble_eq_true rfl) (GF.le (from_iso_g G2 hi hy hm h1 h2) (by decide)) (fun v hv => by
    obtain ⟨a, o, fd, us, e1, e2, e3, _⟩ := hi.ex
    rw [e1] at hv; cases hv
    exact ⟨a, o, fd, rfl, e2, e3⟩)))
end
section
variable {P : PK} {k : Nat} {sc : Scope} {ρ : List (Str × D)}
/-- the scope of a comprehension, checked -/
def compB (sc scope : Scope) (fn : List Str) : Bool := scope.kind == .function && scope.names.all (fun y => y.2 != .cell) && decide (scope.names.map (·.1)).Nodup && scope.names.all (fun y => y.2 != .local || scope.names.lookup y.1 == some .local) &&
  ((scope.names.filter fun y => y.2 == .free).map (·.1) == fn) && fn.all (fun y => scope.names.lookup y == some .free && sc.names.lookup y == some .cell)
def LooksL (ρ : List (Str × D)) : List (Str × D) → Prop | [] => True | p :: r => ρ.lookup p.1 = some p.2 ∧ LooksL ρ r
theorem LooksL.mem {ρ : List (Str × D)} : ∀ {l : List (Str × D)}, LooksL ρ l → ∀ p ∈ l, ρ.lookup p.1 = some p.2
  | [], _, p, hp => nomatch hp
  | q :: r, h, p, hp => by
    rcases List.mem_cons.mp hp with e | e
    · subst e; exact h.1
    · exact h.2.mem p e
theorem CompOK.of {sc scope : Scope} {ρ ρf : List (Str × D)} (hb : compB sc scope (ρf.map (·.1)) = true) (hl : LooksL ρ ρf) : CompOK sc scope ρ ρf := by
  unfold compB at hb
  simp only [Bool.and_eq_true, List.all_eq_true, decide_eq_true_eq, beq_iff_eq, bne_iff_ne, Bool.or_eq_true] at hb
  obtain ⟨⟨⟨⟨⟨h1, h2⟩, h3⟩, h4⟩, h5⟩, h6⟩ := hb
  refine ⟨h1, fun y hy => h2 y hy, fun y hy e => ?_, h3, fun y hy e => ?_, fun y d e => ?_⟩
  · rcases h4 y hy with g | g
    · exact absurd e g
    · exact g
  · have hm : y.1 ∈ ρf.map (·.1) := by
      rw [← h5]
      exact List.mem_map.mpr ⟨y, List.mem_filter.mpr ⟨hy, by rw [e]; rfl⟩, rfl⟩
    refine ⟨(h6 y.1 hm).2, ?_⟩
    obtain ⟨p, hp, e2⟩ := List.mem_map.mp hm
    exact ⟨p.2, by rw [← e2]; exact hl.mem p hp⟩
  · have hm := mem_of_lookup e
    exact ⟨(h6 y (List.mem_map.mpr ⟨_, hm, rfl⟩)).1, hl.mem _ hm⟩
def daysD (p n : Nat) : List D := List.replicate p D.none ++ rangeD 1 1 n ++ List.replicate 7 D.none
def rowD_ (p n j : Nat) : List D := ((daysD p n).drop (7 * j)).take 7
def rowsN (p n : Nat) : Nat := (p + n - 1) / 7 + 1
def leafD (p n : Nat) : List D := (List.range (rowsN p n)).map fun j => D.lst (rowD_ p n j)
theorem daysD_len (p n : Nat) : (daysD p n).length = p + n + 7 := by simp [daysD, rangeD]; omega
theorem daysD_scal {p n : Nat} {d : D} (h : d ∈ daysD p n) : Scal d := by
  unfold daysD at h
  rcases List.mem_append.mp h with h | h
  · rcases List.mem_append.mp h with h | h
    · rw [(List.mem_replicate.mp h).2]; trivial
    · unfold rangeD at h
      obtain ⟨i, _, rfl⟩ := List.mem_map.mp h
      trivial
  · rw [(List.mem_replicate.mp h).2]; trivial
theorem rowD_row {p n j : Nat} (h : 7 * j < p + n) : RowD (.lst (rowD_ p n j)) := by
  have hl : (rowD_ p n j).length = 7 := by unfold rowD_; rw [List.length_take, List.length_drop, daysD_len]; omega
  have hs : ∀ d ∈ rowD_ p n j, Scal d := fun d hd => daysD_scal (List.mem_of_mem_drop (List.mem_of_mem_take hd))
  cases e : rowD_ p n j with
  | nil => rw [e] at hl; cases hl
  | cons r ds => exact ⟨r, ds, rfl, fun d hd => hs d (e ▸ hd)⟩
theorem rowsN_lt {p n j : Nat} (h0 : 0 < p + n) (h : j < rowsN p n) : 7 * j < p + n := by unfold rowsN at h; omega
section helper
variable (G2 : Glb2 P)
include G2
theorem helper_c (h : FnAtC P "monthcalendarhelper" 10 ["start_weekday", "month_length"]) {w : Int} {n : Nat} (hw : 0 ≤ w ∧ w ≤ 6) (hn : 1 ≤ n ∧ n ≤ 40) : GF P 1 "monthcalendarhelper" [.int w, .int n] (.lst (leafD ((w + 1) % 7).toNat n)) := by
  obtain ⟨p, hp⟩ : ∃ p : Nat, p = ((w + 1) % 7).toNat := ⟨_, rfl⟩
  have hp1 : (w + 1) % 7 = (p : Int) := by omega
  have hp2 : p ≤ 6 := by omega
  rw [← hp]
  refine GF.introC (k := 0) h (by decide +kernel) rfl (fun L x c hm => ?_) (fun L x hx => ?_) ?_
  · have e : cellsFrom L (scAt 10).names [] = [(("days" : Str), L)] := rfl
    rw [e] at hm ⊢
    simp at hm
    obtain ⟨rfl, rfl⟩ := hm
    rfl
  · have e : cellsFrom L (scAt 10).names [] = [(("days" : Str), L)] := rfl
    have e2 : (scAt 10).names.lookup x = some .cell → x = "days" := fun hx => by
      have hm := mem_of_lookup hx
      have e3 : ((scAt 10).names.filter fun y => y.2 == .cell) = [(("days" : Str), NameKind.cell)] := rfl
      have : (x, NameKind.cell) ∈ (scAt 10).names.filter fun y => y.2 == .cell := List.mem_filter.mpr ⟨hm, rfl⟩
      rw [e3] at this
      simp at this
      exact this
    rw [e, e2 hx]
    exact ⟨L, rfl⟩
  show Ex P 0 (scAt 10) [("start_weekday", .int w), ("month_length", .int n)] (bodyAt 10) _
  refine Ex.cons (Ex1.assign (d := .int p) (Ev.cast (by walk_at "ev") (by rw [hp1]))) ?_
  refine Ex.cons (Ex1.assignC (d := .lst (daysD p n)) (Ev.cast (Ev.bin (Ev.bin (Ev.bin (Ev.list (by walk_at "ea") (by decide)) (by walk_at "ev") (bin_mul_lst (by omega) (by omega) (by decide)))
    (Ev.list_range G2.list (EvRange.r2 (b := 1 + n) G2.range Ev.cint (by walk_at "ev")) (by decide) (by omega) (by decide) (n := n) (by rw [rangeSize_one]; split <;> omega) (by omega)) (bin_add_lst (by simp; omega) (by simp [rangeD]; omega)))
    (Ev.bin (by walk_at "ev") (Ev.list (by walk_at "ea") (by decide)) (bin_mul_lst_r (by decide) (by decide) (by decide))) (bin_add_lst (by simp [rangeD]; omega) (by decide))) ?_)) ?_
  · refine congrArg D.lst ?_
    unfold daysD
    have e1 : ∀ m : Nat, (List.replicate m [D.none]).flatten = List.replicate m D.none := fun m => by
      induction m with
      | zero => rfl
      | succ m ih => rw [List.replicate_succ, List.flatten_cons, ih]; rfl
    rw [e1, e1]
    rfl
  · refine Ex.ret (Ex1.return (Ev.cast (x := .lst (((List.range (rowsN p n)).map fun j : Nat => (D.int (0 + (j : Int) * 7), some (D.lst (rowD_ p n j)))).filterMap (·.2))) (Ev.comp (ρf := [("days", .lst (daysD p n))]) ?_ (ItEx.range (n := rowsN p n) (EvRange.r3 (a := 0) (b := p + n) (c := 7) G2.range Ev.cint (by walk_at "ev") Ev.cint (by decide) (PyProof.noPylong_small (by omega))) (by decide) (by omega) (by decide) ?_ ?_) ?_) ?_))
    · exact CompOK.of rfl ⟨rfl, trivial⟩
    · unfold Builtin.Range.rangeSize rowsN
      rw [if_pos (by decide), if_pos (by omega)]
      omega
    · unfold rowsN; omega
    · have e : rangeD 0 7 (rowsN p n) = ((List.range (rowsN p n)).map fun j : Nat => (D.int (0 + (j : Int) * 7), some (D.lst (rowD_ p n j)))).map (·.1) := by simp [rangeD]
      have ef : ((List.range (rowsN p n)).map fun j : Nat => (D.int (0 + (j : Int) * 7), some (D.lst (rowD_ p n j)))).filterMap (·.2) = leafD p n := by unfold leafD; rw [List.filterMap_map]; simp [Function.comp_def]
      rw [e]
      refine LoopOK.one rfl rfl ?_ ?_ fun t ht => ?_
      · rw [ef]
        refine .inr fun d hd => ?_
        obtain ⟨j, hj, rfl⟩ := List.mem_map.mp hd
        exact rowD_row (rowsN_lt (by omega) (List.mem_range.mp hj))
      · rw [ef]; unfold leafD; rw [List.length_map, List.length_range]; unfold rowsN; omega
      · obtain ⟨j, hj, rfl⟩ := List.mem_map.mp ht
        have hj2 := rowsN_lt (by omega) (List.mem_range.mp hj)
        have hl := daysD_len p n
        refine Turn.yes Tst.nil ?_
        exact Ev.cast (Ev.slice (a := 7 * j) (b := 7 * j + 7) (by walk_at "ev") (Ev.cast (by walk_at "ev") (congrArg D.int (by push_cast; omega))) (Ev.cast (by walk_at "ev") (congrArg D.int (by push_cast; omega))) (by omega) (by omega) (by omega)) (by unfold rowD_; rw [show 7 * j + 7 - 7 * j = 7 by omega])
    · refine congrArg D.lst ?_
      unfold leafD; rw [List.filterMap_map]; simp [Function.comp_def]
end helper
end
section
variable {P : PK} {k : Nat} {sc : Scope} {ρ : List (Str × D)}
def lpJ (y : Int) : Bool := decide (y % 4 = 0)
def mlJ (y m : Int) : Int := if m = 2 then (if lpJ y = true then 29 else 28) else ml30 m
theorem leapj_c (h : FnAt P "leap_julian" 135 ["year"] 1 []) {y : Int} : GF P 1 "leap_julian" [.int y] (.bool (lpJ y)) := by
  refine GF.intro (k := 0) h (by decide +kernel) rfl rfl ?_
  show Ex P 0 (scAt 135) [("year", .int y)] (bodyAt 135) (.ret (.bool (decide (y % 4 = 0))))
  exact Ex.ret (Ex1.return (by walk_at "ev"))
/-- the months' share in a Julian day's number -/
def YJ (y m : Int) : Int := if m ≤ 2 then y - 1 else y
def MJ (m : Int) : Int := if m ≤ 2 then m + 12 else m
def aJ (y m : Int) : Int := 1461 * (YJ y m + 4716) / 4
def bJ (m : Int) : Int := 306001 * (MJ m + 1) / 10000
def toJ (y m d : Int) : Int := aJ y m + bJ m + d - 1525

theorem fl30 {t : Int} (h : 4 ≤ t ∧ t ≤ 15) : 306001 * t / 10000 * 2 ^ 25 ≤ 1026768974 * t ∧ 1026768975 * t < (306001 * t / 10000 + 1) * 2 ^ 25 := by
  have : t = 4 ∨ t = 5 ∨ t = 6 ∨ t = 7 ∨ t = 8 ∨ t = 9 ∨ t = 10 ∨ t = 11 ∨ t = 12 ∨ t = 13 ∨ t = 14 ∨ t = 15 := by omega
  rcases this with rfl | rfl | rfl | rfl | rfl | rfl | rfl | rfl | rfl | rfl | rfl | rfl <;> decide
theorem fn_floor_30 {t : Int} (h : 4 ≤ t ∧ t ≤ 15) : FnV P k (.builtin "math.floor") [.fl (1026768974 * t) (1026768975 * t)] (.int (306001 * t / 10000)) := fn_floor_l (fl30 h).1 (fl30 h).2
local macro_rules | `(tactic| walk_at "fn") => `(tactic| (refine' fn_floor_30 ?k1; (case k1 => omega)))
theorem mlJ_ge (y m : Int) : 1 ≤ mlJ y m ∧ mlJ y m ≤ 31 := by unfold mlJ ml30; split <;> split <;> omega
section jul
variable (G : Glb P) (hl : FnAt P "leap_julian" 135 ["year"] 1 [])
include G hl
section
local macro_rules | `(tactic| walk_at "gf") => `(tactic| exact GF.le (leapj_c (by assumption)) (by decide))
theorem mlj_c (h : FnAt P "month_length_julian" 137 ["year", "month"] 2 []) {y m : Int} : GF P 2 "month_length_julian" [.int y, .int m] (.int (mlJ y m)) := by
  refine GF.intro (k := 1) h (by decide +kernel) rfl rfl ?_
  show Ex P 1 (scAt 137) [("year", .int y), ("month", .int m)] (bodyAt 137) (.ret (.int (mlJ y m)))
  unfold mlJ
  by_cases hm : m = 2
  · rw [if_pos hm]
    refine Ex.cons (Ex1.if_t (EvT.cast (by walk_at "et") (decide_eq_true hm)) (Ex.cons (Ex1.assign (by walk_at "ev")) Ex.nil)) ?_
    exact Ex.ret (Ex1.return (by walk_at "ev"))
  · rw [if_neg hm]
    refine Ex.cons (Ex1.if_f (EvT.cast (by walk_at "et") (decide_eq_false hm)) (Ex.cons (Ex1.assign (by walk_at "ev")) Ex.nil)) ?_
    exact Ex.ret (Ex1.return (by walk_at "ev"))
end
variable (hml : FnAt P "month_length_julian" 137 ["year", "month"] 2 [])
include hml
section
local macro_rules | `(tactic| walk_at "gf") => `(tactic| exact GF.le (mlj_c (by assumption) (by assumption) (by assumption)) (by decide))
theorem legal_j (h : FnAt P "legal_date_julian" 139 ["year", "month", "day"] 3 []) {y m d : Int} (h1 : 1 ≤ d) (h2 : d ≤ mlJ y m) : GF P 3 "legal_date_julian" [.int y, .int m, .int d] (.bool true) := by
  refine GF.intro (k := 2) h (by decide +kernel) rfl rfl ?_
  show Ex P 2 (scAt 139) [("year", .int y), ("month", .int m), ("day", .int d)] (bodyAt 139) (.ret (.bool true))
  refine Ex.cons (Ex1.assign (by walk_at "ev")) ?_
  refine Ex.cons (Ex1.if_f (EvT.cast (by walk_at "et") (by simp only [Bool.not_eq_false', Bool.and_eq_true, decide_eq_true_eq]; omega)) Ex.nil) ?_
  exact Ex.ret (Ex1.return (by walk_at "ev"))
end
variable (hlg : FnAt P "legal_date_julian" 139 ["year", "month", "day"] 3 [])
include hlg
section
local macro_rules | `(tactic| walk_at "gf") => `(tactic| exact GF.le (legal_j (by assumption) (by assumption) (by assumption) (by assumption) (by omega) (by omega)) (by decide))
theorem to_j (h : FnAt P "to_jd_julian" 143 ["year", "month", "day"] 3 []) {y m d : Int} (hy : 1 ≤ y ∧ y ≤ 9999) (hm : 1 ≤ m ∧ m ≤ 12) (h1 : 1 ≤ d) (h2 : d ≤ mlJ y m) : GF P 4 "to_jd_julian" [.int y, .int m, .int d] (.fx (2 * toJ y m d + 1)) := by
  have h3 : mlJ y m ≤ 31 := by unfold mlJ ml30; split <;> split <;> omega
  refine GF.intro (k := 3) h (by decide +kernel) rfl rfl ?_
  show Ex P 3 (scAt 143) [("year", .int y), ("month", .int m), ("day", .int d)] (bodyAt 143) (.ret (.fx (2 * toJ y m d + 1)))
  refine Ex.cons (Ex1.expr (by walk_at "ev")) ?_
  have rest : ∀ (Y M : Int) (ρ : List (Str × D)), 0 ≤ Y → Y ≤ 9999 → 3 ≤ M → M ≤ 14 → Has ρ "year" (.int Y) → Has ρ "month" (.int M) → Has ρ "day" (.int d) → Ex P 3 (scAt 143) ρ ((bodyAt 143).drop 2) (.ret (.fx (2 * (1461 * (Y + 4716) / 4 + 306001 * (M + 1) / 10000 + d - 1525) + 1))) := by
    intro Y M ρ y0 y1 m0 m1 l1 l2 l3
    exact Ex.ret (Ex1.return (Ev.cast (by walk_at "ev") (by walk_at "as")))
  unfold toJ aJ bJ YJ MJ
  by_cases hm2 : m ≤ 2
  · rw [if_pos hm2, if_pos hm2]
    refine Ex.cons (Ex1.if_t (EvT.cast (by walk_at "et") (decide_eq_true hm2)) (Ex.cons (Ex1.aug (by rfl) (by walk_at "ev") (by walk_at "inp")) (Ex.cons (Ex1.aug (by rfl) (by walk_at "ev") (by walk_at "inp")) Ex.nil))) ?_
    exact rest (y - 1) (m + 12) _ (by omega) (by omega) (by omega) (by omega) rfl rfl rfl
  · rw [if_neg hm2, if_neg hm2]
    refine Ex.cons (Ex1.if_f (EvT.cast (by walk_at "et") (decide_eq_false hm2)) Ex.nil) ?_
    exact rest y m _ (by omega) (by omega) (by omega) (by omega) rfl rfl rfl
end
end jul
end
section
variable {P : PK} {k : Nat} {sc : Scope} {ρ : List (Str × D)}
local macro_rules | `(tactic| walk_at "fn") => `(tactic| (refine' fn_floor_30 ?k1; (case k1 => omega)))
theorem fn_floor_c {b C : Int} (h1 : 1461 * C + 489 ≤ 4 * b) (h2 : 4 * b ≤ 1461 * (C + 1) + 488) :
    FnV P k (.builtin "math.floor") [.fl ((b * 2 ^ 25 - 4096996148) * 2 ^ 25 / 12255756288) (-((-((b * 2 ^ 25 - 4096996147) * 2 ^ 25)) / 12255756288))] (.int C) := by
  refine fn_floor_l ?_ ?_
  · rw [Int.le_ediv_iff_mul_le (by decide)]; omega
  · have : -((C + 1) * 2 ^ 25 - 1) ≤ (-((b * 2 ^ 25 - 4096996147) * 2 ^ 25)) / 12255756288 := by
      rw [Int.le_ediv_iff_mul_le (by decide)]; omega
    omega
theorem fn_floor_e {t r : Int} (ht : 4 ≤ t ∧ t ≤ 15) (h1 : 306001 * t / 10000 + 1 ≤ r) (h2 : r ≤ 306001 * (t + 1) / 10000) :
    FnV P k (.builtin "math.floor") [.fl (r * 2 ^ 25 * 2 ^ 25 / 1026768975) (-((-(r * 2 ^ 25 * 2 ^ 25)) / 1026768974))] (.int t) := by
  have : t = 4 ∨ t = 5 ∨ t = 6 ∨ t = 7 ∨ t = 8 ∨ t = 9 ∨ t = 10 ∨ t = 11 ∨ t = 12 ∨ t = 13 ∨ t = 14 ∨ t = 15 := by omega
  refine fn_floor_l ?_ ?_
  · rw [Int.le_ediv_iff_mul_le (by decide)]
    rcases this with rfl | rfl | rfl | rfl | rfl | rfl | rfl | rfl | rfl | rfl | rfl | rfl <;> omega
  · have : -((t + 1) * 2 ^ 25 - 1) ≤ (-(r * 2 ^ 25 * 2 ^ 25)) / 1026768974 := by
      rw [Int.le_ediv_iff_mul_le (by decide)]
      rcases this with rfl | rfl | rfl | rfl | rfl | rfl | rfl | rfl | rfl | rfl | rfl | rfl <;> omega
    omega
theorem jul_facts {y m d : Int} (hm : 1 ≤ m ∧ m ≤ 12) (h1 : 1 ≤ d) (h2 : d ≤ mlJ y m) :
    4 ≤ MJ m + 1 ∧ MJ m + 1 ≤ 15 ∧ bJ m = 306001 * (MJ m + 1) / 10000 ∧ bJ m + d ≤ 306001 * (MJ m + 2) / 10000 ∧ aJ y m = 1461 * (YJ y m + 4716) / 4 ∧
    1461 * (YJ y m + 4716) + 489 ≤ 4 * (aJ y m + bJ m + d) ∧ 4 * (aJ y m + bJ m + d) ≤ 1461 * (YJ y m + 4716 + 1) + 488 := by
  have hm' : m = 1 ∨ m = 2 ∨ m = 3 ∨ m = 4 ∨ m = 5 ∨ m = 6 ∨ m = 7 ∨ m = 8 ∨ m = 9 ∨ m = 10 ∨ m = 11 ∨ m = 12 := by omega
  cases hi : lpJ y <;> rcases hm' with rfl | rfl | rfl | rfl | rfl | rfl | rfl | rfl | rfl | rfl | rfl | rfl <;>
    simp [mlJ, ml30, hi] at h2 <;> simp [lpJ] at hi <;> simp [aJ, bJ, YJ, MJ] <;> omega
section jul
variable (G : Glb P)
include G
theorem from_j (h : FnAt P "from_jd_julian" 141 ["jd"] 1 []) {y m d : Int} (hy : 1 ≤ y ∧ y ≤ 9999) (hm : 1 ≤ m ∧ m ≤ 12) (h1 : 1 ≤ d) (h2 : d ≤ mlJ y m) :
    GF P 1 "from_jd_julian" [.fx (2 * toJ y m d + 1)] (.tup [.int y, .int m, .int d]) := by
  obtain ⟨f1, f2, f3, f4, f5, f6, f7⟩ := jul_facts (y := y) hm h1 h2
  have hd31 : d ≤ 31 := by have := mlJ_ge y m; omega
  refine GF.intro (k := 0) h (by decide +kernel) rfl rfl ?_
  show Ex P 0 (scAt 141) [("jd", .fx (2 * toJ y m d + 1))] (bodyAt 141) (.ret (.tup [.int y, .int m, .int d]))
  have hN : toJ y m d = aJ y m + bJ m + d - 1525 := rfl
  have hb : 122 ≤ bJ m ∧ bJ m ≤ 460 := by omega
  have hC : 4716 ≤ YJ y m + 4716 ∧ YJ y m + 4716 ≤ 14716 := by unfold YJ; split <;> omega
  have hYM : (m ≤ 2 ∧ YJ y m = y - 1 ∧ MJ m = m + 12) ∨ (2 < m ∧ YJ y m = y ∧ MJ m = m) := by
    unfold YJ MJ
    by_cases h : m ≤ 2
    · rw [if_pos h, if_pos h]; exact .inl ⟨h, rfl, rfl⟩
    · rw [if_neg h, if_neg h]; exact .inr ⟨by omega, rfl, rfl⟩
  generalize toJ y m d = N at *
  generalize bJ m = B at *
  generalize aJ y m = Aa at *
  obtain ⟨C, eC⟩ : ∃ C, C = YJ y m + 4716 := ⟨_, rfl⟩
  obtain ⟨t, et⟩ : ∃ t, t = MJ m + 1 := ⟨_, rfl⟩
  rw [← eC] at f5 f6 f7 hC
  rw [← et] at f1 f2 f3
  rw [show MJ m + 2 = t + 1 by omega] at f4
  refine Ex.cons (Ex1.aug (d := .fx (2 * N + 1 + 1)) (a := .fx (2 * N + 1)) (b := .fx 1) (by rfl) (by walk_at "ev") (by walk_at "inp")) ?_
  refine Ex.cons (Ex1.assign (d := .int (N + 1)) (Ev.cast (by walk_at "ev") (by walk_at "as"))) ?_
  refine Ex.cons (Ex1.assign (d := .int (Aa + B + d)) (Ev.cast (by walk_at "ev") (by walk_at "as"))) ?_
  refine Ex.cons (Ex1.assign (d := .int C) (Ev.floor G (by walk_at "ev") (fn_floor_c f6 f7))) ?_
  refine Ex.cons (Ex1.assign (d := .int Aa) (Ev.cast (by walk_at "ev") (by walk_at "as"))) ?_
  refine Ex.cons (Ex1.assign (d := .int t) (Ev.floor G (Ev.bin (Ev.cast (y := .int (B + d)) (by walk_at "ev") (by walk_at "as")) (by walk_at "ev") (by walk_at "bn")) (fn_floor_e ⟨f1, f2⟩ (by omega) (by omega)))) ?_
  have rest : ∀ ρ : List (Str × D), Has ρ "month" (.int m) → Has ρ "c" (.int C) → Has ρ "b" (.int (Aa + B + d)) → Has ρ "d" (.int Aa) → Has ρ "e" (.int t) → Ex P 0 (scAt 141) ρ ((bodyAt 141).drop 7) (.ret (.tup [.int y, .int m, .int d])) := by
    intro ρ l1 l2 l3 l4 l5
    have rest2 : ∀ ρ : List (Str × D), Has ρ "month" (.int m) → Has ρ "year" (.int y) → Has ρ "b" (.int (Aa + B + d)) → Has ρ "d" (.int Aa) → Has ρ "e" (.int t) → Ex P 0 (scAt 141) ρ ((bodyAt 141).drop 8) (.ret (.tup [.int y, .int m, .int d])) := by
      intro ρ l1 l2 l3 l4 l5
      refine Ex.cons (Ex1.assign (d := .int d) (Ev.cast (by walk_at "ev") (by walk_at "as"))) ?_
      exact Ex.ret (Ex1.return (by walk_at "ev"))
    by_cases hm2 : 2 < m
    · refine Ex.cons (Ex1.if_t (EvT.cast (by walk_at "et") (decide_eq_true (by omega))) (Ex.cons (Ex1.assign (d := .int y) (Ev.cast (by walk_at "ev") (by walk_at "as"))) Ex.nil)) ?_
      exact rest2 _ l1 rfl l3 l4 l5
    · refine Ex.cons (Ex1.if_f (EvT.cast (by walk_at "et") (decide_eq_false (by omega))) (Ex.cons (Ex1.assign (d := .int y) (Ev.cast (by walk_at "ev") (by walk_at "as"))) Ex.nil)) ?_
      exact rest2 _ l1 rfl l3 l4 l5
  by_cases ht : t < 14
  · refine Ex.cons (Ex1.if_t (EvT.cast (by walk_at "et") (decide_eq_true (by omega))) (Ex.cons (Ex1.assign (d := .int m) (Ev.cast (by walk_at "ev") (by walk_at "as"))) Ex.nil)) ?_
    exact rest _ rfl rfl rfl rfl rfl
  · refine Ex.cons (Ex1.if_f (EvT.cast (by walk_at "et") (decide_eq_false (by omega))) (Ex.cons (Ex1.assign (d := .int m) (Ev.cast (by walk_at "ev") (by walk_at "as"))) Ex.nil)) ?_
    exact rest _ rfl rfl rfl rfl rfl
end jul
end
section
variable {P : PK} {k : Nat} {sc : Scope} {ρ : List (Str × D)}
def lpI (y : Int) : Bool := decide ((y * 11 + 14) % 30 < 11)
def longI (y m : Int) : Bool := (([1, 3, 5, 7, 9, 11] : List Int).any fun i => decide (i = m)) || (decide (m = 12) && lpI y)
def mlI (y m : Int) : Int := if longI y m = true then 30 else 29
def cI (m : Int) : Int := -((-(59 * (m - 1))) / 2)
def toI (y m d : Int) : Int := d + cI m + (y - 1) * 354 + (3 + 11 * y) / 30 + 1948438
theorem mlI_ge (y m : Int) : 1 ≤ mlI y m ∧ mlI y m ≤ 30 := by unfold mlI; split <;> omega
theorem leapi_c (h : FnAt P "leap_islamic" 119 ["year"] 1 []) {y : Int} (hy : 1 ≤ y ∧ y ≤ 9999) : GF P 1 "leap_islamic" [.int y] (.bool (lpI y)) := by
  refine GF.intro (k := 0) h (by decide +kernel) rfl rfl ?_
  show Ex P 0 (scAt 119) [("year", .int y)] (bodyAt 119) (.ret (.bool (decide ((y * 11 + 14) % 30 < 11))))
  exact Ex.ret (Ex1.return (by walk_at "ev"))
theorem isl_facts {y m d : Int} (hy : 1 ≤ y) (hm : 1 ≤ m ∧ m ≤ 12) (h1 : 1 ≤ d) (h2 : d ≤ mlI y m) :
    0 ≤ cI m ∧ cI m ≤ 325 ∧ cI 1 = 0 ∧ 0 ≤ cI m + d - 1 ∧ cI m + d - 1 ≤ 354 ∧ (cI m + d - 1 = 354 → lpI y = true) ∧ (30 * ((y - 1) * 354 + (3 + 11 * y) / 30 + (cI m + d - 1)) + 10646) / 10631 = y ∧
    (if -((-(2 * (cI m + d - 1 - 29))) / 59) + 1 < 12 then -((-(2 * (cI m + d - 1 - 29))) / 59) + 1 else 12) = m := by
  have hm' : m = 1 ∨ m = 2 ∨ m = 3 ∨ m = 4 ∨ m = 5 ∨ m = 6 ∨ m = 7 ∨ m = 8 ∨ m = 9 ∨ m = 10 ∨ m = 11 ∨ m = 12 := by omega
  cases hi : lpI y <;> rcases hm' with rfl | rfl | rfl | rfl | rfl | rfl | rfl | rfl | rfl | rfl | rfl | rfl <;>
    simp [mlI, longI, hi] at h2 <;> simp [lpI] at hi <;> simp [cI] <;> (try have hx : (y * 11 + 14) / 30 = (3 + 11 * y) / 30 + 1 := by omega) <;> omega
section islam
variable (G : Glb P)
include G
theorem to_i (h : FnAt P "to_jd_islamic" 121 ["year", "month", "day"] 3 []) {y m d : Int} (hy : 1 ≤ y ∧ y ≤ 9999) (hm : 1 ≤ m ∧ m ≤ 12) (h1 : 1 ≤ d) (h2 : d ≤ 31) : GF P 1 "to_jd_islamic" [.int y, .int m, .int d] (.fx (2 * toI y m d + 1)) := by
  refine GF.intro (k := 0) h (by decide +kernel) rfl rfl ?_
  show Ex P 0 (scAt 121) [("year", .int y), ("month", .int m), ("day", .int d)] (bodyAt 121) (.ret (.fx (2 * toI y m d + 1)))
  unfold toI cI
  exact Ex.ret (Ex1.return (Ev.cast (by walk_at "ev") (by walk_at "as")))
section
variable (hl : FnAt P "leap_islamic" 119 ["year"] 1 [])
include hl
local macro_rules | `(tactic| walk_at "gf") => `(tactic| exact GF.le (leapi_c (by assumption) (by assumption)) (by decide))
theorem mli_c (h : FnAt P "month_length_islamic" 125 ["year", "month"] 2 []) {y m : Int} (hy : 1 ≤ y ∧ y ≤ 9999) : GF P 2 "month_length_islamic" [.int y, .int m] (.int (mlI y m)) := by
  refine GF.intro (k := 1) h (by decide +kernel) rfl rfl ?_
  show Ex P 1 (scAt 125) [("year", .int y), ("month", .int m)] (bodyAt 125) (.ret (.int (mlI y m)))
  unfold mlI
  by_cases hb : longI y m = true
  · rw [if_pos hb]
    unfold longI at hb
    refine Ex.ret (Ex1.if_t (EvT.cast (by walk_at "et") (by simpa only [Bool.and_true, Bool.or_false] using hb)) (Ex.ret (Ex1.return (by walk_at "ev"))))
  · rw [if_neg hb]
    unfold longI at hb
    refine Ex.cons (Ex1.if_f (EvT.cast (by walk_at "et") (by simpa only [Bool.and_true, Bool.or_false, Bool.not_eq_true] using hb)) Ex.nil) ?_
    exact Ex.ret (Ex1.return (by walk_at "ev"))
end
variable (ht : FnAt P "to_jd_islamic" 121 ["year", "month", "day"] 3 [])
include ht
local macro_rules | `(tactic| walk_at "gf") => `(tactic| exact GF.le (to_i (by assumption) (by assumption) (by omega) (by omega) (by omega) (by omega)) (by decide))
theorem from_i (h : FnAt P "from_jd_islamic" 123 ["jd"] 1 []) {y m d : Int} (hy : 1 ≤ y ∧ y ≤ 9999) (hm : 1 ≤ m ∧ m ≤ 12) (h1 : 1 ≤ d) (h2 : d ≤ mlI y m) :
    GF P 2 "from_jd_islamic" [.fx (2 * toI y m d + 1)] (.tup [.int y, .int m, .int d]) := by
  obtain ⟨f0, f0', f1, f2, f3, f4, f5, f6⟩ := isl_facts hy.1 hm h1 h2
  have hd31 : d ≤ 31 := by have := mlI_ge y m; omega
  refine GF.intro (k := 1) h (by decide +kernel) rfl rfl ?_
  show Ex P 1 (scAt 123) [("jd", .fx (2 * toI y m d + 1))] (bodyAt 123) (.ret (.tup [.int y, .int m, .int d]))
  have hN : toI y m d = d + cI m + (y - 1) * 354 + (3 + 11 * y) / 30 + 1948438 := rfl
  have hN1 : toI y 1 1 = 1 + cI 1 + (y - 1) * 354 + (3 + 11 * y) / 30 + 1948438 := rfl
  have hNm : toI y m 1 = 1 + cI m + (y - 1) * 354 + (3 + 11 * y) / 30 + 1948438 := rfl
  generalize toI y m d = N at *
  refine Ex.cons (Ex1.assign (d := .fx (2 * N + 1)) (Ev.cast (by walk_at "ev") (by walk_at "as"))) ?_
  refine Ex.cons (Ex1.assign (d := .int y) (Ev.cast (by walk_at "ev") (by walk_at "as"))) ?_
  refine Ex.cons (Ex1.assign (d := .int m) (Ev.cast (by walk_at "ev") (by
    refine congrArg D.int ?_
    rw [← f6]
    have e : 2 * N + 1 - (2 * 29 + (2 * toI y 1 1 + 1)) = 2 * (cI m + d - 1 - 29) := by omega
    rw [e]))) ?_
  refine Ex.cons (Ex1.assign (d := .int d) (Ev.cast (by walk_at "ev") (by walk_at "as"))) ?_
  exact Ex.ret (Ex1.return (by walk_at "ev"))
end islam

/- the Coptic calendar -/
def lpC (y : Int) : Bool := decide (y % 4 = 3) || decide (y % 4 = -1)
def mlC (y m : Int) : Int := if m ≤ 12 then 30 else if lpC y = true then 6 else 5
def toC (y m d : Int) : Int := d + (m - 1) * 30 + (y - 1) * 365 + y / 4 + 1825028
theorem mlC_ge (y m : Int) : 1 ≤ mlC y m ∧ mlC y m ≤ 30 := by unfold mlC; split <;> (try split) <;> omega
theorem leapc_c (h : FnAt P "is_leap" 27 ["year"] 1 []) {y : Int} : GF P 1 "is_leap" [.int y] (.bool (lpC y)) := by
  refine GF.intro (k := 0) h (by decide +kernel) rfl rfl ?_
  show Ex P 0 (scAt 27) [("year", .int y)] (bodyAt 27) (.ret (.bool (decide (y % 4 = 3) || decide (y % 4 = -1))))
  exact Ex.ret (Ex1.return (by walk_at "ev"))
section copt
variable (G : Glb P)
include G
theorem to_c (h : FnAt P "to_jd_coptic" 28 ["year", "month", "day"] 3 []) {y m d : Int} (hy : 1 ≤ y ∧ y ≤ 9999) (hm : 1 ≤ m ∧ m ≤ 13) (h1 : 1 ≤ d) (h2 : d ≤ 31) : GF P 1 "to_jd_coptic" [.int y, .int m, .int d] (.fx (2 * toC y m d + 1)) := by
  refine GF.intro (k := 0) h (by decide +kernel) rfl rfl ?_
  show Ex P 0 (scAt 28) [("year", .int y), ("month", .int m), ("day", .int d)] (bodyAt 28) (.ret (.fx (2 * toC y m d + 1)))
  unfold toC
  exact Ex.ret (Ex1.return (Ev.cast (by walk_at "ev") (by walk_at "as")))
section
variable (hl : FnAt P "is_leap" 27 ["year"] 1 [])
include hl
local macro_rules | `(tactic| walk_at "gf") => `(tactic| exact GF.le (leapc_c (by assumption)) (by decide))
theorem mlc_c (h : FnAt P "month_length_coptic" 32 ["year", "month"] 2 []) {y m : Int} (hm : 1 ≤ m ∧ m ≤ 13) : GF P 2 "month_length_coptic" [.int y, .int m] (.int (mlC y m)) := by
  refine GF.intro (k := 1) h (by decide +kernel) rfl rfl ?_
  show Ex P 1 (scAt 32) [("year", .int y), ("month", .int m)] (bodyAt 32) (.ret (.int (mlC y m)))
  unfold mlC
  by_cases hb : m ≤ 12
  · rw [if_pos hb]
    exact Ex.ret (Ex1.if_t (EvT.cast (by walk_at "et") (decide_eq_true hb)) (Ex.ret (Ex1.return (by walk_at "ev"))))
  · rw [if_neg hb]
    refine Ex.cons (Ex1.if_f (EvT.cast (by walk_at "et") (decide_eq_false hb)) Ex.nil) ?_
    refine Ex.ret (Ex1.if_t (EvT.cast (by walk_at "et") (decide_eq_true (by omega))) ?_)
    rcases Bool.eq_false_or_eq_true (lpC y) with hi | hi
    · rw [if_pos hi]
      exact Ex.ret (Ex1.if_t (EvT.cast (by walk_at "et") hi) (Ex.ret (Ex1.return (by walk_at "ev"))))
    · rw [if_neg (by rw [hi]; decide)]
      refine Ex.cons (Ex1.if_f (EvT.cast (by walk_at "et") hi) Ex.nil) ?_
      exact Ex.ret (Ex1.return (by walk_at "ev"))
end
variable (ht : FnAt P "to_jd_coptic" 28 ["year", "month", "day"] 3 [])
include ht
local macro_rules | `(tactic| walk_at "gf") => `(tactic| exact GF.le (to_c (by assumption) (by assumption) (by omega) (by omega) (by omega) (by omega)) (by decide))
theorem from_c (h : FnAt P "from_jd_coptic" 30 ["jdc"] 1 []) {y m d : Int} (hy : 1 ≤ y ∧ y ≤ 9999) (hm : 1 ≤ m ∧ m ≤ 13) (h1 : 1 ≤ d) (h2 : d ≤ mlC y m) :
    GF P 2 "from_jd_coptic" [.fx (2 * toC y m d + 1)] (.tup [.int y, .int m, .int d]) := by
  have hd31 := mlC_ge y m
  refine GF.intro (k := 1) h (by decide +kernel) rfl rfl ?_
  show Ex P 1 (scAt 30) [("jdc", .fx (2 * toC y m d + 1))] (bodyAt 30) (.ret (.tup [.int y, .int m, .int d]))
  have hN : toC y m d = d + (m - 1) * 30 + (y - 1) * 365 + y / 4 + 1825028 := rfl
  have hN1 : toC y 1 1 = 1 + (1 - 1) * 30 + (y - 1) * 365 + y / 4 + 1825028 := rfl
  have hlast : m = 13 → d ≤ 5 ∨ y % 4 = 3 := by
    intro e
    unfold mlC lpC at h2
    rw [if_neg (by omega)] at h2
    by_cases q : y % 4 = 3
    · exact .inr q
    · have : (decide (y % 4 = 3) || decide (y % 4 = -1)) = false := by simp; omega
      rw [this, if_neg (by decide)] at h2
      exact .inl h2
  have hm30 : m ≤ 12 ∨ d ≤ 6 := by
    unfold mlC at h2
    by_cases q : m ≤ 12
    · exact .inl q
    · rw [if_neg q] at h2; right; split at h2 <;> omega
  generalize toC y m d = N at *
  refine Ex.cons (Ex1.assign (d := .int y) (Ev.cast (by walk_at "ev") (by walk_at "as"))) ?_
  refine Ex.cons (Ex1.assign (d := .fx (2 * ((m - 1) * 30 + d - 1))) (Ev.cast (by walk_at "ev") (by walk_at "as"))) ?_
  refine Ex.cons (Ex1.assign (d := .int m) (Ev.cast (by walk_at "ev") (by walk_at "as"))) ?_
  refine Ex.cons (Ex1.assign (d := .fx (2 * d)) (Ev.cast (by walk_at "ev") (by walk_at "as"))) ?_
  exact Ex.ret (Ex1.return (Ev.cast (by walk_at "ev") (by rw [show 2 * d / 2 = d by omega])))
end copt
end
section
variable {P : PK} {k : Nat} {sc : Scope} {ρ : List (Str × D)}
theorem greg_month {y yd : Int} (h0 : 0 ≤ yd) (h1 : yd ≤ 364 + (if isl y = true then 1 else 0)) : ∃ m d : Int, (1 ≤ m ∧ m ≤ 12) ∧ 1 ≤ d ∧ d ≤ mlG y m ∧ moG y m d = yd + 1 := by
  have pick : ∀ (m : Int), (1 ≤ m ∧ m ≤ 12) → 1 ≤ yd + 1 - ((367 * m - 362) / 12 + adjG y m) → yd + 1 - ((367 * m - 362) / 12 + adjG y m) ≤ mlG y m → ∃ m d : Int, (1 ≤ m ∧ m ≤ 12) ∧ 1 ≤ d ∧ d ≤ mlG y m ∧ moG y m d = yd + 1 := by
    intro m hm a b
    exact ⟨m, yd + 1 - ((367 * m - 362) / 12 + adjG y m), hm, a, b, by unfold moG; omega⟩
  have c : (yd < 31) ∨ (31 ≤ yd ∧ yd < 59 + (if isl y = true then 1 else 0)) ∨ (59 + (if isl y = true then 1 else 0) ≤ yd ∧ yd < 90 + (if isl y = true then 1 else 0)) ∨ (90 + (if isl y = true then 1 else 0) ≤ yd ∧ yd < 120 + (if isl y = true then 1 else 0))
    ∨ (120 + (if isl y = true then 1 else 0) ≤ yd ∧ yd < 151 + (if isl y = true then 1 else 0)) ∨ (151 + (if isl y = true then 1 else 0) ≤ yd ∧ yd < 181 + (if isl y = true then 1 else 0)) ∨ (181 + (if isl y = true then 1 else 0) ≤ yd ∧ yd < 212 + (if isl y = true then 1 else 0))
    ∨ (212 + (if isl y = true then 1 else 0) ≤ yd ∧ yd < 243 + (if isl y = true then 1 else 0)) ∨ (243 + (if isl y = true then 1 else 0) ≤ yd ∧ yd < 273 + (if isl y = true then 1 else 0)) ∨ (273 + (if isl y = true then 1 else 0) ≤ yd ∧ yd < 304 + (if isl y = true then 1 else 0))
    ∨ (304 + (if isl y = true then 1 else 0) ≤ yd ∧ yd < 334 + (if isl y = true then 1 else 0)) ∨ (334 + (if isl y = true then 1 else 0) ≤ yd) := by omega
  rcases Bool.eq_false_or_eq_true (isl y) with hi | hi <;> simp [hi] at c h1 <;> rcases c with c | c | c | c | c | c | c | c | c | c | c | c
  all_goals first
    | (refine pick 1 (by omega) ?_ ?_ <;> simp [adjG, mlG, ml30] <;> omega)
    | (refine pick 2 (by omega) ?_ ?_ <;> simp [adjG, mlG, hi] <;> omega)
    | (refine pick 3 (by omega) ?_ ?_ <;> simp [adjG, mlG, ml30, hi] <;> omega)
    | (refine pick 4 (by omega) ?_ ?_ <;> simp [adjG, mlG, ml30, hi] <;> omega)
    | (refine pick 5 (by omega) ?_ ?_ <;> simp [adjG, mlG, ml30, hi] <;> omega)
    | (refine pick 6 (by omega) ?_ ?_ <;> simp [adjG, mlG, ml30, hi] <;> omega)
    | (refine pick 7 (by omega) ?_ ?_ <;> simp [adjG, mlG, ml30, hi] <;> omega)
    | (refine pick 8 (by omega) ?_ ?_ <;> simp [adjG, mlG, ml30, hi] <;> omega)
    | (refine pick 9 (by omega) ?_ ?_ <;> simp [adjG, mlG, ml30, hi] <;> omega)
    | (refine pick 10 (by omega) ?_ ?_ <;> simp [adjG, mlG, ml30, hi] <;> omega)
    | (refine pick 11 (by omega) ?_ ?_ <;> simp [adjG, mlG, ml30, hi] <;> omega)
    | (refine pick 12 (by omega) ?_ ?_ <;> simp [adjG, mlG, ml30, hi] <;> omega)

/-- a leap year as a number -/
def lp (y : Int) : Int := if isl y = true then 1 else 0
theorem lp_01 (y : Int) : lp y = 0 ∨ lp y = 1 := by unfold lp; split <;> simp
theorem ysG_next {y : Int} : ysG (y + 1) = ysG y + 365 + lp y := by
  unfold ysG lp
  have hi := @isl_iff y
  split
  · have := hi.mp (by assumption); omega
  · have h1 : ¬ (y % 4 = 0 ∧ (y % 100 ≠ 0 ∨ y % 400 = 0)) := fun g => by have := hi.mpr g; contradiction
    omega
theorem greg_year {D : Int} (h0 : 0 ≤ D) : ∃ y yd : Int, 1 ≤ y ∧ 0 ≤ yd ∧ yd ≤ 364 + lp y ∧ D = ysG y + yd := by
  obtain ⟨q4, r, hr, hr0, hr1⟩ : ∃ q4 r : Int, D = 146097 * q4 + r ∧ 0 ≤ r ∧ r < 146097 := ⟨D / 146097, D % 146097, by omega, by omega, by omega⟩
  obtain ⟨c, r2, h2, h20, h21, hc, hcc⟩ : ∃ c r2 : Int, r = 36524 * c + r2 ∧ 0 ≤ r2 ∧ (r2 < 36524 ∨ r2 = 36524 ∧ c = 3) ∧ 0 ≤ c ∧ c ≤ 3 := by
    by_cases h : r = 146096
    · exact ⟨3, 36524, by omega, by omega, by omega, by omega, by omega⟩
    · exact ⟨r / 36524, r % 36524, by omega, by omega, by omega, by omega, by omega⟩
  obtain ⟨q, r3, h3, h30, h31, hq, hqq⟩ : ∃ q r3 : Int, r2 = 1461 * q + r3 ∧ 0 ≤ r3 ∧ r3 < 1461 ∧ 0 ≤ q ∧ q ≤ 24 := ⟨r2 / 1461, r2 % 1461, by omega, by omega, by omega, by omega, by omega⟩
  obtain ⟨i, yd, h4, h40, h41, hi0, hi1⟩ : ∃ i yd : Int, r3 = 365 * i + yd ∧ 0 ≤ yd ∧ (yd < 365 ∨ yd = 365 ∧ i = 3) ∧ 0 ≤ i ∧ i ≤ 3 := by
    by_cases h : r3 = 1460
    · exact ⟨3, 365, by omega, by omega, by omega, by omega, by omega⟩
    · exact ⟨r3 / 365, r3 % 365, by omega, by omega, by omega, by omega, by omega⟩
  refine ⟨400 * q4 + 100 * c + 4 * q + i + 1, yd, by omega, h40, ?_, ?_⟩
  · rcases h41 with h | ⟨h, h'⟩
    · have := lp_01 (400 * q4 + 100 * c + 4 * q + i + 1); omega
    · have : isl (400 * q4 + 100 * c + 4 * q + i + 1) = true := isl_iff.mpr (by omega)
      unfold lp; rw [if_pos this]; omega
  · unfold ysG
    have e1 : (400 * q4 + 100 * c + 4 * q + i + 1 - 1) / 4 = 100 * q4 + 25 * c + q := by omega
    have e2 : (400 * q4 + 100 * c + 4 * q + i + 1 - 1) / 100 = 4 * q4 + c := by omega
    have e3 : (400 * q4 + 100 * c + 4 * q + i + 1 - 1) / 400 = q4 := by omega
    omega
theorem greg_exists {N : Int} (h0 : 1721425 ≤ N) : ∃ y m d : Int, 1 ≤ y ∧ (1 ≤ m ∧ m ≤ 12) ∧ 1 ≤ d ∧ d ≤ mlG y m ∧ N = toG y m d := by
  obtain ⟨y, yd, h1, h2, h3, h4⟩ := greg_year (D := N - 1721425) (by omega)
  obtain ⟨m, d, hm, hd, hd', he⟩ := greg_month (y := y) h2 h3
  exact ⟨y, m, d, h1, hm, hd, hd', by unfold toG; omega⟩
end
section
variable {P : PK} {k : Nat} {sc : Scope} {ρ : List (Str × D)}
/- the Indian calendar -/
def caD (y : Int) : Int := 30 + lp (y + 78)
def mlD (y m : Int) : Int := if m = 1 then caD y else if m ≤ 6 then 31 else 30
def moD (y m : Int) : Int := if m = 1 then 0 else caD y + (if 5 < m - 2 then 5 else m - 2) * 31 + (if 8 ≤ m then (m - 7) * 30 else 0)
def toD (y m d : Int) : Int := 1721505 + ysG (y + 78) + moD y m + (d - 1)
theorem mlD_ge (y m : Int) : 1 ≤ mlD y m ∧ mlD y m ≤ 31 := by
  have := lp_01 (y + 78)
  unfold mlD caD; split <;> (try split) <;> omega
section ind
variable (G : Glb P) (hl : FnAt P "isleap" 90 ["year"] 1 []) (hg : FnAt P "legal_date_gregorian" 95 ["year", "month", "day"] 3 []) (ht : FnAt P "to_jd_gregorian" 97 ["year", "month", "day"] 3 [])
include G hl hg ht
section
local macro_rules | `(tactic| walk_at "gf") => `(tactic| first
  | exact GF.le (isleap_c (by assumption)) (by decide)
  | exact GF.le (to_g (by assumption) (by assumption) (by assumption) (by assumption) (by omega) (by omega) (by omega) (by omega)) (by decide))
theorem to_d (h : FnAt P "to_jd_indian_civil" 108 ["year", "month", "day"] 3 []) {y m d : Int} (hy : 1 ≤ y ∧ y ≤ 9900) (hm : 1 ≤ m ∧ m ≤ 12) (h1 : 1 ≤ d) (h2 : d ≤ 31) : GF P 4 "to_jd_indian_civil" [.int y, .int m, .int d] (.fx (2 * toD y m d + 1)) := by
  refine GF.intro (k := 3) h (by decide +kernel) rfl rfl ?_
  show Ex P 3 (scAt 108) [("year", .int y), ("month", .int m), ("day", .int d)] (bodyAt 108) (.ret (.fx (2 * toD y m d + 1)))
  have hl3 : mlG (y + 78) 3 = 31 := by simp [mlG, ml30]
  have hlp : lp (y + 78) = (if isl (y + 78) = true then (1 : Int) else 0) := rfl
  have hlp1 := lp_01 (y + 78)
  have hys : 0 ≤ ysG (y + 78) ∧ ysG (y + 78) ≤ 3651700 := by unfold ysG; omega
  have hst : ∀ x, toG (y + 78) 3 (22 - (if isl (y + 78) = true then (1 : Int) else 0)) = x → x = 1721505 + ysG (y + 78) := by
    intro x e
    subst e
    unfold toG moG adjG
    rw [if_neg (by decide)]
    rcases Bool.eq_false_or_eq_true (isl (y + 78)) with hi | hi
    · rw [if_pos hi, if_pos hi]; omega
    · rw [if_neg (by rw [hi]; decide), if_neg (by rw [hi]; decide)]; omega
  obtain ⟨N0, eN⟩ : ∃ x, toG (y + 78) 3 (22 - (if isl (y + 78) = true then (1 : Int) else 0)) = x := ⟨_, rfl⟩
  have hN0 := hst _ eN
  refine Ex.cons (Ex1.assign (by walk_at "ev")) ?_
  refine Ex.cons (Ex1.assign (by walk_at "ev")) ?_
  refine Ex.cons (Ex1.assign (d := .fx (2 * N0 + 1)) (Ev.cast (by walk_at "ev") (by rw [eN]))) ?_
  have rest : ∀ ρ : List (Str × D), Has ρ "start" (.fx (2 * N0 + 1)) → Has ρ "caitra" (.int (caD y)) → Has ρ "month" (.int m) → Has ρ "day" (.int d) → Ex P 3 (scAt 108) ρ ((bodyAt 108).drop 4) (.ret (.fx (2 * toD y m d + 1))) := by
    intro ρ l1 l2 l3 l4
    have hca : caD y = 30 + lp (y + 78) := rfl
    have hmo : moD y m = if m = 1 then 0 else caD y + (if 5 < m - 2 then 5 else m - 2) * 31 + (if 8 ≤ m then (m - 7) * 30 else 0) := rfl
    have hto : toD y m d = 1721505 + ysG (y + 78) + moD y m + (d - 1) := rfl
    generalize caD y = ca at *
    by_cases hm1 : m = 1
    · rw [if_pos hm1] at hmo
      refine Ex.cons (Ex1.if_t (EvT.cast (by walk_at "et") (decide_eq_true hm1)) (Ex.cons (Ex1.assign (d := .fx (2 * toD y m d + 1)) (Ev.cast (by walk_at "ev") (by walk_at "as"))) Ex.nil)) ?_
      exact Ex.ret (Ex1.return (by walk_at "ev"))
    · rw [if_neg hm1] at hmo
      refine Ex.cons (Ex1.if_f (ρ := ρ) (o := .next [("jd", .fx (2 * toD y m d + 1))]) (EvT.cast (by walk_at "et") (decide_eq_false hm1)) ?_) ?_
      · have hmm : (if 5 < m - 2 then (5 : Int) else m - 2) ≤ 5 ∧ 0 ≤ (if 5 < m - 2 then (5 : Int) else m - 2) := by split <;> omega
        have hsum : ca + (if 5 < m - 2 then 5 else m - 2) * 31 + (if 8 ≤ m then (m - 7) * 30 else 0) = moD y m := by rw [hmo]
        obtain ⟨mm, emm⟩ : ∃ mm, mm = (if 5 < m - 2 then (5 : Int) else m - 2) := ⟨_, rfl⟩
        rw [← emm] at hmm hsum
        refine Ex.cons (Ex1.assign (by walk_at "ev")) ?_
        refine Ex.cons (Ex1.assign (by walk_at "ev")) ?_
        refine Ex.cons (Ex1.assign (d := .int mm) (Ev.cast (by walk_at "ev") (by rw [emm]))) ?_
        refine Ex.cons (Ex1.aug (by rfl) (by walk_at "ev") (by walk_at "inp")) ?_
        by_cases h8 : 8 ≤ m
        · rw [if_pos h8] at hsum
          refine Ex.cons (Ex1.if_t (EvT.cast (by walk_at "et") (decide_eq_true h8)) (Ex.cons (Ex1.assign (by walk_at "ev")) (Ex.cons (Ex1.aug (by rfl) (by walk_at "ev") (by walk_at "inp")) Ex.nil))) ?_
          exact Ex.weak1 (Ex.cons (Ex1.aug (by rfl) (by walk_at "ev") (by walk_at "inp")) Ex.nil) (congrArg some (by walk_at "as"))
        · rw [if_neg h8] at hsum
          refine Ex.cons (Ex1.if_f (EvT.cast (by walk_at "et") (decide_eq_false h8)) Ex.nil) ?_
          exact Ex.weak1 (Ex.cons (Ex1.aug (by rfl) (by walk_at "ev") (by walk_at "inp")) Ex.nil) (congrArg some (by walk_at "as"))
      · exact Ex.ret (Ex1.return (by walk_at "ev"))
  rcases Bool.eq_false_or_eq_true (isl (y + 78)) with hi | hi
  · refine Ex.cons (Ex1.if_t (EvT.cast (by walk_at "et") hi) (Ex.cons (Ex1.assign (d := .int (caD y)) (Ev.cast (by walk_at "ev") (by rw [if_pos hi] at hlp; unfold caD; rw [hlp]; rfl))) Ex.nil)) ?_
    exact rest _ rfl rfl rfl rfl
  · refine Ex.cons (Ex1.if_f (EvT.cast (by walk_at "et") hi) (Ex.cons (Ex1.assign (d := .int (caD y)) (Ev.cast (by walk_at "ev") (by rw [if_neg (by rw [hi]; decide)] at hlp; unfold caD; rw [hlp]; rfl))) Ex.nil)) ?_
    exact rest _ rfl rfl rfl rfl
end
end ind
end
section
variable {P : PK} {k : Nat} {sc : Scope} {ρ : List (Str × D)}
section ind
variable (G : Glb P) (hl : FnAt P "isleap" 90 ["year"] 1 []) (hg : FnAt P "legal_date_gregorian" 95 ["year", "month", "day"] 3 []) (ht : FnAt P "to_jd_gregorian" 97 ["year", "month", "day"] 3 []) (hf : FnAt P "from_jd_gregorian" 99 ["jd"] 1 [])
include G
section
theorem mld_c (h : FnAt P "month_length_indian_civil" 112 ["year", "month"] 2 []) {y m : Int} (hm : 2 ≤ m ∧ m ≤ 12) : GF P 2 "month_length_indian_civil" [.int y, .int m] (.int (mlD y m)) := by
  refine GF.intro (k := 1) h (by decide +kernel) rfl rfl ?_
  show Ex P 1 (scAt 112) [("year", .int y), ("month", .int m)] (bodyAt 112) (.ret (.int (mlD y m)))
  have hm1 : ¬ m = 1 := by omega
  unfold mlD
  rw [if_neg hm1]
  by_cases hb : m ≤ 6
  · rw [if_pos hb]
    refine Ex.ret (Ex1.if_t (EvT.bool (AllT.or_t (EvT.cast (by walk_at "et") ?_))) (Ex.ret (Ex1.return (by walk_at "ev"))))
    have : m = 2 ∨ m = 3 ∨ m = 4 ∨ m = 5 ∨ m = 6 := by omega
    rcases this with rfl | rfl | rfl | rfl | rfl <;> decide
  · rw [if_neg hb]
    refine Ex.cons (Ex1.if_f (EvT.bool (AllT.or_f (EvT.cast (by walk_at "et") ?_) (AllT.or_f (EvT.bool (AllT.and_f (EvT.cast (by walk_at "et") (decide_eq_false hm1)))) AllT.or_nil))) Ex.nil) ?_
    · simp; omega
    · exact Ex.ret (Ex1.return (by walk_at "ev"))
end
include hl hg ht hf
local macro_rules | `(tactic| walk_at "gf") => `(tactic| first
  | exact GF.le (isleap_c (by assumption)) (by decide)
  | exact GF.le (to_g (by assumption) (by assumption) (by assumption) (by assumption) (by omega) (by omega) (by omega) (by omega)) (by decide))
theorem from_d (h : FnAt P "from_jd_indian_civil" 110 ["jd"] 1 []) {y m d : Int} (hy : 1 ≤ y ∧ y ≤ 9900) (hm : 1 ≤ m ∧ m ≤ 12) (h1 : 1 ≤ d) (h2 : d ≤ mlD y m) :
    GF P 5 "from_jd_indian_civil" [.fx (2 * toD y m d + 1)] (.tup [.int y, .int m, .int d]) := by
  have hlp := lp_01 (y + 78)
  have hca : caD y = 30 + lp (y + 78) := rfl
  have hto : toD y m d = 1721505 + ysG (y + 78) + moD y m + (d - 1) := rfl
  have hys : 0 ≤ ysG (y + 78) ∧ ysG (y + 78) ≤ 3651700 := by unfold ysG; omega
  have hd31 := mlD_ge y m
  -- the day in the months behind the first
  obtain ⟨q, hq⟩ : ∃ q, q = moD y m - caD y + (d - 1) := ⟨_, rfl⟩
  have hmo : (m = 1 ∧ moD y m = 0 ∧ d ≤ caD y) ∨ (2 ≤ m ∧ m ≤ 6 ∧ q = (m - 2) * 31 + (d - 1) ∧ d ≤ 31) ∨ (7 ≤ m ∧ q = 155 + (m - 7) * 30 + (d - 1) ∧ d ≤ 30) := by
    unfold mlD at h2
    by_cases c1 : m = 1
    · rw [if_pos c1] at h2
      exact .inl ⟨c1, by unfold moD; rw [if_pos c1], h2⟩
    · rw [if_neg c1] at h2
      have e : moD y m = caD y + (if 5 < m - 2 then 5 else m - 2) * 31 + (if 8 ≤ m then (m - 7) * 30 else 0) := by unfold moD; rw [if_neg c1]
      by_cases c2 : m ≤ 6
      · rw [if_pos c2] at h2
        rw [if_neg (by omega), if_neg (by omega)] at e
        exact .inr (.inl ⟨by omega, c2, by omega, h2⟩)
      · rw [if_neg c2] at h2
        have e2 : (if 5 < m - 2 then (5 : Int) else m - 2) = 5 := by split <;> omega
        rw [e2] at e
        refine .inr (.inr ⟨by omega, ?_, h2⟩)
        by_cases c3 : 8 ≤ m
        · rw [if_pos c3] at e; omega
        · rw [if_neg c3] at e; omega
  refine GF.intro (k := 4) h (by decide +kernel) rfl rfl ?_
  show Ex P 4 (scAt 110) [("jd", .fx (2 * toD y m d + 1))] (bodyAt 110) (.ret (.tup [.int y, .int m, .int d]))
  -- the Gregorian year
  obtain ⟨gy, Yd, hgy, hY0, hY1, hcase⟩ : ∃ gy Yd : Int, toD y m d = 1721425 + ysG gy + Yd ∧ 0 ≤ Yd ∧ Yd ≤ 364 + lp gy ∧ ((gy = y + 78 ∧ Yd = 80 + moD y m + (d - 1)) ∨ (gy = y + 78 + 1 ∧ Yd < 80 ∧ 7 ≤ m ∧ Yd = q + caD y + 80 - 365 - lp (y + 78))) := by
    by_cases c : 80 + moD y m + (d - 1) ≤ 364 + lp (y + 78)
    · exact ⟨y + 78, 80 + moD y m + (d - 1), by omega, by omega, c, .inl ⟨rfl, rfl⟩⟩
    · have hn := ysG_next (y := y + 78)
      have hl2 := lp_01 (y + 78 + 1)
      exact ⟨y + 78 + 1, 80 + moD y m + (d - 1) - 365 - lp (y + 78), by omega, by omega, by omega, .inr ⟨rfl, by omega, by omega, by omega⟩⟩
  obtain ⟨gm, gd, hgm, hgd, hgd', hgo⟩ := greg_month (y := gy) hY0 (by unfold lp at hY1; exact hY1)
  have hNg : toD y m d = toG gy gm gd := by unfold toG; omega
  have hg1 : toG gy 1 1 = 1721425 + ysG gy := by
    have : moG gy 1 1 = 1 := by simp [moG, adjG]
    unfold toG; omega
  have hgyr : 1 ≤ gy ∧ gy ≤ 9999 := by omega
  have hlpg := lp_01 gy
  have hlpd : lp gy = (if isl gy = true then (1 : Int) else 0) := rfl
  have hmlg : 1 ≤ mlG gy 1 := mlG_ge gy 1
  have hysg : 0 ≤ ysG gy ∧ ysG gy ≤ 3651800 := by unfold ysG; omega
  have hfg := GF.le (k := 4) (from_g G hl hg ht hf (y := gy) (m := gm) (d := gd) hgyr hgm hgd hgd') (by decide)
  rw [← hNg] at hfg
  generalize toD y m d = N at *
  generalize hca' : caD y = ca at *
  generalize moD y m = mo at *
  refine Ex.cons (Ex1.assign (by walk_at "ev")) ?_
  refine Ex.cons (Ex1.assign (d := .fx (2 * N + 1)) (Ev.cast (by walk_at "ev") (by walk_at "as"))) ?_
  refine Ex.cons (Ex1.tuple3 (a := .int gy) (b := .int gm) (c := .int gd) (Ev.gf (EvA.cons (by walk_at "ev") EvA.nil) hfg) rfl rfl rfl) ?_
  refine Ex.cons (Ex1.assign (by walk_at "ev")) ?_
  refine Ex.cons (Ex1.assign (by walk_at "ev")) ?_
  refine Ex.cons (Ex1.assign (by walk_at "ev")) ?_
  refine Ex.cons (Ex1.assign (d := .fx (2 * Yd)) (Ev.cast (by walk_at "ev") (by walk_at "as"))) ?_
  obtain ⟨cg, hcg⟩ : ∃ cg, cg = 30 + lp gy := ⟨_, rfl⟩
  have hcg1 : m = 1 → cg = ca := by
    intro e
    rcases hcase with ⟨e1, _⟩ | ⟨_, _, e3, _⟩
    · subst e1; omega
    · omega
  -- behind the leap day's choice
  have rest : ∀ ρ : List (Str × D), Has ρ "start" (.int 80) → Has ρ "caitra" (.int cg) → Has ρ "year" (.int (gy - 78)) → Has ρ "yday" (.fx (2 * Yd)) → Ex P 4 (scAt 110) ρ ((bodyAt 110).drop 8) (.ret (.tup [.int y, .int m, .int d])) := by
    intro ρ l1 l2 l3 l4
    -- behind the year's choice
    have rest2 : ∀ ρ : List (Str × D), Has ρ "caitra" (.int cg) → Has ρ "year" (.int y) → Has ρ "yday" (.fx (2 * (cg + q))) → Ex P 4 (scAt 110) ρ ((bodyAt 110).drop 10) (.ret (.tup [.int y, .int m, .int d])) := by
      intro ρ l2 l3 l4
      have fin : ∀ ρ : List (Str × D), Has ρ "year" (.int y) → Has ρ "month" (.int m) → Has ρ "day" (.fx (2 * d)) → Ex P 4 (scAt 110) ρ ((bodyAt 110).drop 11) (.ret (.tup [.int y, .int m, .int d])) := by
        intro ρ l1 l2 l3
        exact Ex.ret (Ex1.return (Ev.cast (by walk_at "ev") (by rw [show 2 * d / 2 = d by omega])))
      rcases hmo with ⟨c1, c2, c3⟩ | ⟨c1, c2, c3, c4⟩ | ⟨c1, c3, c4⟩
      · have hcg2 := hcg1 c1
        subst c1
        refine Ex.cons (Ex1.if_t (EvT.cast (by walk_at "et") (decide_eq_true (by omega))) (Ex.cons (Ex1.assign (by walk_at "ev")) (Ex.cons (Ex1.assign (d := .fx (2 * d)) (Ev.cast (by walk_at "ev") (by walk_at "as"))) Ex.nil))) ?_
        exact fin _ l3 rfl rfl
      · refine Ex.cons (Ex1.if_f (EvT.cast (by walk_at "et") (decide_eq_false (by omega))) (Ex.cons (Ex1.assign (d := .fx (2 * q)) (Ev.cast (by walk_at "ev") (by walk_at "as"))) (Ex.cons (Ex1.if_t (EvT.cast (by walk_at "et") (decide_eq_true (by omega)))
          (Ex.cons (Ex1.assign (d := .int m) (Ev.cast (by walk_at "ev") (by walk_at "as"))) (Ex.cons (Ex1.assign (d := .fx (2 * d)) (Ev.cast (by walk_at "ev") (by walk_at "as"))) Ex.nil))) Ex.nil))) ?_
        exact fin _ l3 rfl rfl
      · refine Ex.cons (Ex1.if_f (EvT.cast (by walk_at "et") (decide_eq_false (by omega))) (Ex.cons (Ex1.assign (d := .fx (2 * q)) (Ev.cast (by walk_at "ev") (by walk_at "as"))) (Ex.cons (Ex1.if_f (EvT.cast (by walk_at "et") (decide_eq_false (by omega)))
          (Ex.cons (Ex1.aug (by rfl) (by walk_at "ev") (by walk_at "inp")) (Ex.cons (Ex1.assign (d := .int m) (Ev.cast (by walk_at "ev") (by walk_at "as"))) (Ex.cons (Ex1.assign (d := .fx (2 * d)) (Ev.cast (by walk_at "ev") (by walk_at "as"))) Ex.nil)))) Ex.nil))) ?_
        exact fin _ l3 rfl rfl
    rcases hcase with ⟨e1, e2⟩ | ⟨e1, e2, e3, e4⟩
    · refine Ex.cons (Ex1.if_f (EvT.cast (by walk_at "et") (decide_eq_false (by omega))) Ex.nil) ?_
      refine Ex.cons (Ex1.aug (a := .fx (2 * Yd)) (b := .int 80) (d := .fx (2 * Yd - 2 * 80)) l4 (by walk_at "ev") (by walk_at "inp")) ?_
      refine rest2 _ l2 (by have l5 := l3; rw [show gy - 78 = y by omega] at l5; exact l5) (congrArg some (congrArg D.fx ?_))
      subst e1; omega
    · refine Ex.cons (Ex1.if_t (EvT.cast (by walk_at "et") (decide_eq_true (by omega))) (Ex.cons (Ex1.aug (a := .int (gy - 78)) (b := .int 1) (d := .int (gy - 78 - 1)) l3 (by walk_at "ev") (by walk_at "inp")) (Ex.cons (Ex1.aug (a := .fx (2 * Yd)) l4 (by walk_at "ev") (by walk_at "inp")) Ex.nil))) ?_
      refine Ex.cons (Ex1.aug (by rfl) (by walk_at "ev") (by walk_at "inp")) ?_
      refine rest2 _ l2 (congrArg some (congrArg D.int (by omega))) (congrArg some (congrArg D.fx ?_))
      omega
  rcases Bool.eq_false_or_eq_true (isl gy) with hi | hi
  · rw [if_pos hi] at hlpd
    refine Ex.cons (Ex1.if_t (EvT.cast (by walk_at "et") hi) (Ex.cons (Ex1.assign (d := .int cg) (Ev.cast (by walk_at "ev") (by walk_at "as"))) Ex.nil)) ?_
    exact rest _ rfl rfl rfl rfl
  · rw [if_neg (by rw [hi]; decide)] at hlpd
    refine Ex.cons (Ex1.if_f (EvT.cast (by walk_at "et") hi) (Ex.cons (Ex1.assign (d := .int cg) (Ev.cast (by walk_at "ev") (by walk_at "as"))) Ex.nil)) ?_
    exact rest _ rfl rfl rfl rfl
end ind
end
section
variable {P : PK} {k : Nat} {sc : Scope} {ρ : List (Str × D)}
/-- the defs that the law reaches -/
structure Fns (P : PK) : Prop where
  jw : FnAt P "jwday" 4 ["j"] 1 []
  wb : FnAt P "weekday_before" 5 ["weekday", "jd"] 2 []
  sw : FnAt P "search_weekday" 6 ["weekday", "jd", "direction", "offset"] 4 []
  nw : FnAt P "nearest_weekday" 7 ["weekday", "jd"] 2 []
  xw : FnAt P "next_weekday" 8 ["weekday", "jd"] 2 []
  pw : FnAt P "previous_weekday" 9 ["weekday", "jd"] 2 []
  va : FnAt P "_valid_date" 14 ["year", "month", "day", "method"] 4 []
  la : FnAt P "leap_armenian" 15 ["year"] 1 []
  ta3 : FnAt P "to_jd_armenian" 17 ["year", "month", "day", "method"] 3 [.none]
  ta4 : FnAt P "to_jd_armenian" 17 ["year", "month", "day", "method"] 4 []
  fa1 : FnAt P "from_jd_armenian" 19 ["jd", "method"] 1 [.none]
  fa2 : FnAt P "from_jd_armenian" 19 ["jd", "method"] 2 []
  mla : FnAt P "month_length_armenian" 21 ["year", "month", "method"] 3 []
  mca2 : FnAt P "monthcalendar_armenian" 23 ["year", "month", "method"] 2 [.none]
  mca3 : FnAt P "monthcalendar_armenian" 23 ["year", "month", "method"] 3 []
  lc : FnAt P "is_leap" 27 ["year"] 1 []
  tc : FnAt P "to_jd_coptic" 28 ["year", "month", "day"] 3 []
  fc : FnAt P "from_jd_coptic" 30 ["jdc"] 1 []
  mlc : FnAt P "month_length_coptic" 32 ["year", "month"] 2 []
  mcc : FnAt P "monthcalendar_coptic" 34 ["year", "month"] 2 []
  isl : FnAt P "isleap" 90 ["year"] 1 []
  wd : FnAt P "weekday" 91 ["year", "month", "day"] 3 []
  vm : FnAt P "_validate_month" 92 ["month"] 1 []
  mr : FnAt P "monthrange" 93 ["year", "month"] 2 []
  lg : FnAt P "legal_date_gregorian" 95 ["year", "month", "day"] 3 []
  tg : FnAt P "to_jd_gregorian" 97 ["year", "month", "day"] 3 []
  fg : FnAt P "from_jd_gregorian" 99 ["jd"] 1 []
  mlg : FnAt P "month_length_gregorian" 101 ["year", "month"] 2 []
  mcg : FnAt P "monthcalendar_gregorian" 103 ["year", "month"] 2 []
  td : FnAt P "to_jd_indian_civil" 108 ["year", "month", "day"] 3 []
  fd : FnAt P "from_jd_indian_civil" 110 ["jd"] 1 []
  mld : FnAt P "month_length_indian_civil" 112 ["year", "month"] 2 []
  mcd : FnAt P "monthcalendar_indian_civil" 114 ["year", "month"] 2 []
  li : FnAt P "leap_islamic" 119 ["year"] 1 []
  ti : FnAt P "to_jd_islamic" 121 ["year", "month", "day"] 3 []
  fi : FnAt P "from_jd_islamic" 123 ["jd"] 1 []
  mli : FnAt P "month_length_islamic" 125 ["year", "month"] 2 []
  mci : FnAt P "monthcalendar_islamic" 127 ["year", "month"] 2 []
  iso : FnAt P "from_jd_iso" 130 ["jd"] 1 []
  ig : FnAt P "from_gregorian" 132 ["year", "month", "day"] 3 []
  lj : FnAt P "leap_julian" 135 ["year"] 1 []
  mlj : FnAt P "month_length_julian" 137 ["year", "month"] 2 []
  lgj : FnAt P "legal_date_julian" 139 ["year", "month", "day"] 3 []
  fj : FnAt P "from_jd_julian" 141 ["jd"] 1 []
  tj : FnAt P "to_jd_julian" 143 ["year", "month", "day"] 3 []
  mcj : FnAt P "monthcalendar_julian" 145 ["year", "month"] 2 []
  ld : FnAt P "_law_date" 148 ["kind", "number"] 2 []
  ll : FnAt P "_law_leaf" 149 ["kind", "year", "month"] 3 []
  ln : FnAt P "_law_number" 150 ["kind", "year", "month", "day"] 4 []
  hp : FnAtC P "monthcalendarhelper" 10 ["start_weekday", "month_length"]
def leafOf (N n : Int) : List D := leafD (((N + 1) % 7 + 1) % 7).toNat n.toNat
section leaves
variable (G : Glb P) (G2 : Glb2 P) (F : Fns P)
include G G2 F
theorem leaf_helper {N n : Int} (hn : 1 ≤ n ∧ n ≤ 40) : GF P 1 "monthcalendarhelper" [.int ((2 * N + 1 + 1) / 2 % 7), .int n] (.lst (leafOf N n)) := by
  have h := helper_c G2 F.hp (w := (2 * N + 1 + 1) / 2 % 7) (n := n.toNat) (by omega) (by omega)
  have e1 : (n.toNat : Int) = n := by omega
  have e2 : (2 * N + 1 + 1) / 2 % 7 = (N + 1) % 7 := by omega
  rw [e1] at h
  unfold leafOf
  rw [← e2]; exact h

omit G G2 F
theorem mlJ_bd (y m : Int) : 28 ≤ mlJ y m ∧ mlJ y m ≤ 31 := by unfold mlJ ml30; split <;> split <;> omega
theorem mlI_bd (y m : Int) : 29 ≤ mlI y m ∧ mlI y m ≤ 30 := by unfold mlI; split <;> omega
theorem mlC_bd (y m : Int) : 5 ≤ mlC y m ∧ mlC y m ≤ 30 := by unfold mlC; split <;> (try split) <;> omega
theorem mlD_bd (y m : Int) : 30 ≤ mlD y m ∧ mlD y m ≤ 31 := by have := lp_01 (y + 78); unfold mlD caD; split <;> (try split) <;> omega
theorem toG_bd {y m : Int} (hy : 1 ≤ y ∧ y ≤ 9999) (hm : 1 ≤ m ∧ m ≤ 12) : 0 ≤ toG y m 1 ∧ toG y m 1 ≤ 10000000 := by
  have h := mo_facts (y := y) (d := 1) hm (by decide) (by have := mlG_ge y m; omega)
  unfold toG ysG; obtain ⟨h1, h2, _⟩ := h; split at h2 <;> omega
theorem toI_bd {y m : Int} (hy : 1 ≤ y ∧ y ≤ 9999) (hm : 1 ≤ m ∧ m ≤ 12) : 0 ≤ toI y m 1 ∧ toI y m 1 ≤ 10000000 := by unfold toI cI; omega
theorem toC_bd {y m : Int} (hy : 1 ≤ y ∧ y ≤ 9999) (hm : 1 ≤ m ∧ m ≤ 13) : 0 ≤ toC y m 1 ∧ toC y m 1 ≤ 10000000 := by unfold toC; omega
theorem toN_bd {y m : Int} (hy : 1 ≤ y ∧ y ≤ 9999) (hm : 1 ≤ m ∧ m ≤ 13) : 0 ≤ toN y m 1 ∧ toN y m 1 ≤ 10000000 := by unfold toN; omega
theorem toS_bd {y m : Int} (hy : 533 ≤ y ∧ y ≤ 9999) (hm : 1 ≤ m ∧ m ≤ 13) : 0 ≤ toS y m 1 ∧ toS y m 1 ≤ 10000000 := by unfold toS; omega
theorem toJ_bd {y m : Int} (hy : 1 ≤ y ∧ y ≤ 9999) (hm : 1 ≤ m ∧ m ≤ 12) : 0 ≤ toJ y m 1 ∧ toJ y m 1 ≤ 10000000 := by unfold toJ aJ bJ YJ MJ; split <;> omega
theorem toD_bd {y m : Int} (hy : 1 ≤ y ∧ y ≤ 9900) (hm : 2 ≤ m ∧ m ≤ 12) : 0 ≤ toD y m 1 ∧ toD y m 1 ≤ 10000000 := by have := lp_01 (y + 78); unfold toD ysG moD caD; split <;> (try split) <;> (try split) <;> omega
include G G2 F
theorem leaf_g {y m : Int} (hy : 1 ≤ y ∧ y ≤ 9999) (hm : 1 ≤ m ∧ m ≤ 12) : GF P 4 "monthcalendar_gregorian" [.int y, .int m] (.lst (leafOf (toG y m 1) (mlG y m))) := by
  have ht := to_g G F.isl F.lg F.tg hy hm (d := 1) (by decide) (by have := mlG_ge y m; omega)
  have hML := mlg_c G2 F.isl F.wd F.vm F.mr F.mlg hy hm
  have hb := toG_bd hy hm
  have hl := mlG_ge y m
  have hl2 := mlG_le y m
  generalize toG y m 1 = N at *
  generalize mlG y m = n at *
  refine GF.intro (k := 3) F.mcg (by decide +kernel) rfl rfl ?_
  show Ex P 3 (scAt 103) [("year", .int y), ("month", .int m)] (bodyAt 103) _
  refine Ex.cons (Ex1.assign (d := .int ((2 * N + 1 + 1) / 2 % 7)) (Ev.gf (EvA.cons (Ev.gf (by walk_at "ea") (GF.le ht (by decide))) EvA.nil) (GF.le (jwday_c G F.jw (by omega) (by omega)) (by decide)))) ?_
  refine Ex.cons (Ex1.assign (d := .int n) (Ev.gf (by walk_at "ea") (GF.le hML (by decide)))) ?_
  exact Ex.ret (Ex1.return (Ev.gf (by walk_at "ea") (GF.le (leaf_helper G G2 F (by omega)) (by decide))))
theorem leaf_j {y m : Int} (hy : 1 ≤ y ∧ y ≤ 9999) (hm : 1 ≤ m ∧ m ≤ 12) : GF P 5 "monthcalendar_julian" [.int y, .int m] (.lst (leafOf (toJ y m 1) (mlJ y m))) := by
  have ht := to_j G F.lj F.mlj F.lgj F.tj hy hm (d := 1) (by decide) (by have := mlJ_ge y m; omega)
  have hML := mlj_c G F.lj F.mlj (y := y) (m := m)
  have hb := toJ_bd hy hm
  have hl := mlJ_bd y m
  generalize toJ y m 1 = N at *
  generalize mlJ y m = n at *
  refine GF.intro (k := 4) F.mcj (by decide +kernel) rfl rfl ?_
  show Ex P 4 (scAt 145) [("year", .int y), ("month", .int m)] (bodyAt 145) _
  refine Ex.cons (Ex1.assign (d := .int ((2 * N + 1 + 1) / 2 % 7)) (Ev.gf (EvA.cons (Ev.gf (by walk_at "ea") (GF.le ht (by decide))) EvA.nil) (GF.le (jwday_c G F.jw (by omega) (by omega)) (by decide)))) ?_
  refine Ex.cons (Ex1.assign (d := .int n) (Ev.gf (by walk_at "ea") (GF.le hML (by decide)))) ?_
  exact Ex.ret (Ex1.return (Ev.gf (by walk_at "ea") (GF.le (leaf_helper G G2 F (by omega)) (by decide))))
theorem leaf_i {y m : Int} (hy : 1 ≤ y ∧ y ≤ 9999) (hm : 1 ≤ m ∧ m ≤ 12) : GF P 3 "monthcalendar_islamic" [.int y, .int m] (.lst (leafOf (toI y m 1) (mlI y m))) := by
  have ht := to_i G F.ti hy hm (d := 1) (by decide) (by decide)
  have hML := mli_c G F.li F.mli hy (m := m)
  have hb := toI_bd hy hm
  have hl := mlI_bd y m
  generalize toI y m 1 = N at *
  generalize mlI y m = n at *
  refine GF.intro (k := 2) F.mci (by decide +kernel) rfl rfl ?_
  show Ex P 2 (scAt 127) [("year", .int y), ("month", .int m)] (bodyAt 127) _
  refine Ex.cons (Ex1.assign (d := .int ((2 * N + 1 + 1) / 2 % 7)) (Ev.gf (EvA.cons (Ev.gf (by walk_at "ea") (GF.le ht (by decide))) EvA.nil) (GF.le (jwday_c G F.jw (by omega) (by omega)) (by decide)))) ?_
  refine Ex.cons (Ex1.assign (d := .int n) (Ev.gf (by walk_at "ea") (GF.le hML (by decide)))) ?_
  exact Ex.ret (Ex1.return (Ev.gf (by walk_at "ea") (GF.le (leaf_helper G G2 F (by omega)) (by decide))))
theorem leaf_c {y m : Int} (hy : 1 ≤ y ∧ y ≤ 9999) (hm : 1 ≤ m ∧ m ≤ 13) : GF P 3 "monthcalendar_coptic" [.int y, .int m] (.lst (leafOf (toC y m 1) (mlC y m))) := by
  have ht := to_c G F.tc hy hm (d := 1) (by decide) (by decide)
  have hML := mlc_c G F.lc F.mlc hm (y := y)
  have hb := toC_bd hy hm
  have hl := mlC_bd y m
  generalize toC y m 1 = N at *
  generalize mlC y m = n at *
  refine GF.intro (k := 2) F.mcc (by decide +kernel) rfl rfl ?_
  show Ex P 2 (scAt 34) [("year", .int y), ("month", .int m)] (bodyAt 34) _
  refine Ex.cons (Ex1.assign (d := .int ((2 * N + 1 + 1) / 2 % 7)) (Ev.gf (EvA.cons (Ev.gf (by walk_at "ea") (GF.le ht (by decide))) EvA.nil) (GF.le (jwday_c G F.jw (by omega) (by omega)) (by decide)))) ?_
  refine Ex.cons (Ex1.assign (d := .int n) (Ev.gf (by walk_at "ea") (GF.le hML (by decide)))) ?_
  exact Ex.ret (Ex1.return (Ev.gf (by walk_at "ea") (GF.le (leaf_helper G G2 F (by omega)) (by decide))))
theorem leaf_d {y m : Int} (hy : 1 ≤ y ∧ y ≤ 9900) (hm : 2 ≤ m ∧ m ≤ 12) : GF P 5 "monthcalendar_indian_civil" [.int y, .int m] (.lst (leafOf (toD y m 1) (mlD y m))) := by
  have ht := to_d G F.isl F.lg F.tg F.td hy (m := m) (by omega) (d := 1) (by decide) (by decide)
  have hML := mld_c G F.mld hm (y := y)
  have hb := toD_bd hy hm
  have hl := mlD_bd y m
  generalize toD y m 1 = N at *
  generalize mlD y m = n at *
  refine GF.intro (k := 4) F.mcd (by decide +kernel) rfl rfl ?_
  show Ex P 4 (scAt 114) [("year", .int y), ("month", .int m)] (bodyAt 114) _
  refine Ex.cons (Ex1.assign (d := .int ((2 * N + 1 + 1) / 2 % 7)) (Ev.gf (EvA.cons (Ev.gf (by walk_at "ea") (GF.le ht (by decide))) EvA.nil) (GF.le (jwday_c G F.jw (by omega) (by omega)) (by decide)))) ?_
  refine Ex.cons (Ex1.assign (d := .int n) (Ev.gf (by walk_at "ea") (GF.le hML (by decide)))) ?_
  exact Ex.ret (Ex1.return (Ev.gf (by walk_at "ea") (GF.le (leaf_helper G G2 F (by omega)) (by decide))))
theorem leaf_n {y m : Int} (hy : 1 ≤ y ∧ y ≤ 9999) (hm : 1 ≤ m ∧ m ≤ 13) : GF P 4 "monthcalendar_armenian" [.int y, .int m] (.lst (leafOf (toN y m 1) (mlN m))) := by
  have ht := to_n4 G F.la F.va F.ta4 hy hm (d := 1) (by decide) (by have := mlN_ge m; omega)
  have hML := mla_n G F.la F.mla hm (y := y)
  have hb := toN_bd hy hm
  have hl := mlN_ge m
  generalize toN y m 1 = N at *
  generalize mlN m = n at *
  refine GF.intro (k := 3) F.mca2 (by decide +kernel) rfl rfl ?_
  show Ex P 3 (scAt 23) [("year", .int y), ("month", .int m), ("method", .none)] (bodyAt 23) _
  refine Ex.cons (Ex1.assign (d := .int ((2 * N + 1 + 1) / 2 % 7)) (Ev.gf (EvA.cons (Ev.gf (by walk_at "ea") (GF.le ht (by decide))) EvA.nil) (GF.le (jwday_c G F.jw (by omega) (by omega)) (by decide)))) ?_
  refine Ex.cons (Ex1.assign (d := .int n) (Ev.gf (by walk_at "ea") (GF.le hML (by decide)))) ?_
  exact Ex.ret (Ex1.return (Ev.gf (by walk_at "ea") (GF.le (leaf_helper G G2 F (by omega)) (by decide))))
theorem leaf_s {y m : Int} (hy : 533 ≤ y ∧ y ≤ 9999) (hm : 1 ≤ m ∧ m ≤ 13) : GF P 4 "monthcalendar_armenian" [.int y, .int m, .str "sarkawag"] (.lst (leafOf (toS y m 1) (mlS y m))) := by
  have ht := to_s G F.la F.va F.ta4 hy hm (d := 1) (by decide) (by have := mlS_ge y m; omega)
  have hML := mla_s G F.la F.mla hy.1 hm
  have hb := toS_bd hy hm
  have hl := mlS_ge y m
  generalize toS y m 1 = N at *
  generalize mlS y m = n at *
  refine GF.intro (k := 3) F.mca3 (by decide +kernel) rfl rfl ?_
  show Ex P 3 (scAt 23) [("year", .int y), ("month", .int m), ("method", .str "sarkawag")] (bodyAt 23) _
  refine Ex.cons (Ex1.assign (d := .int ((2 * N + 1 + 1) / 2 % 7)) (Ev.gf (EvA.cons (Ev.gf (by walk_at "ea") (GF.le ht (by decide))) EvA.nil) (GF.le (jwday_c G F.jw (by omega) (by omega)) (by decide)))) ?_
  refine Ex.cons (Ex1.assign (d := .int n) (Ev.gf (by walk_at "ea") (GF.le hML (by decide)))) ?_
  exact Ex.ret (Ex1.return (Ev.gf (by walk_at "ea") (GF.le (leaf_helper G G2 F (by omega)) (by decide))))
end leaves
end
section
variable {P : PK} {k : Nat} {sc : Scope} {ρ : List (Str × D)}
section law3
variable (G : Glb P) (G2 : Glb2 P) (F : Fns P)
include G G2 F
theorem ld_0 {y m d : Int} (hy : 1 ≤ y ∧ y ≤ 9999) (hm : 1 ≤ m ∧ m ≤ 12) (h1 : 1 ≤ d) (h2 : d ≤ mlG y m) : GF P 6 "_law_date" [.int 0, .fx (2 * toG y m d + 1)] (.tup [.int y, .int m, .int d]) := by
  refine GF.intro (k := 5) F.ld (by decide +kernel) rfl rfl ?_
  show Ex P 5 (scAt 148) [("kind", .int 0), ("number", .fx (2 * toG y m d + 1))] (bodyAt 148) _
  exact Ex.ret (Ex1.if_t (EvT.cast (by walk_at "et") rfl) (Ex.ret (Ex1.return (Ev.gf (by walk_at "ea") (GF.le (from_g G F.isl F.lg F.tg F.fg hy hm h1 h2) (by decide))))))
theorem ll_0 {y m : Int} (hy : 1 ≤ y ∧ y ≤ 9999) (hm : 1 ≤ m ∧ m ≤ 12) : GF P 6 "_law_leaf" [.int 0, .int y, .int m] (.lst (leafOf (toG y m 1) (mlG y m))) := by
  refine GF.intro (k := 5) F.ll (by decide +kernel) rfl rfl ?_
  show Ex P 5 (scAt 149) [("kind", .int 0), ("year", .int y), ("month", .int m)] (bodyAt 149) _
  exact Ex.ret (Ex1.if_t (EvT.cast (by walk_at "et") rfl) (Ex.ret (Ex1.return (Ev.gf (by walk_at "ea") (GF.le (leaf_g G G2 F hy hm) (by decide))))))
theorem ln_0 {y m d : Int} (hy : 1 ≤ y ∧ y ≤ 9999) (hm : 1 ≤ m ∧ m ≤ 12) (h1 : 1 ≤ d) (h2 : d ≤ mlG y m) : GF P 6 "_law_number" [.int 0, .int y, .int m, .int d] (.fx (2 * toG y m d + 1)) := by
  refine GF.intro (k := 5) F.ln (by decide +kernel) rfl rfl ?_
  show Ex P 5 (scAt 150) [("kind", .int 0), ("year", .int y), ("month", .int m), ("day", .int d)] (bodyAt 150) _
  exact Ex.ret (Ex1.if_t (EvT.cast (by walk_at "et") rfl) (Ex.ret (Ex1.return (Ev.gf (by walk_at "ea") (GF.le (to_g G F.isl F.lg F.tg hy hm h1 h2) (by decide))))))
theorem ld_1 {y m d : Int} (hy : 1 ≤ y ∧ y ≤ 9999) (hm : 1 ≤ m ∧ m ≤ 12) (h1 : 1 ≤ d) (h2 : d ≤ mlJ y m) : GF P 6 "_law_date" [.int 1, .fx (2 * toJ y m d + 1)] (.tup [.int y, .int m, .int d]) := by
  refine GF.intro (k := 5) F.ld (by decide +kernel) rfl rfl ?_
  show Ex P 5 (scAt 148) [("kind", .int 1), ("number", .fx (2 * toJ y m d + 1))] (bodyAt 148) _
  refine Ex.cons (Ex1.if_f (EvT.cast (by walk_at "et") rfl) Ex.nil) ?_
  exact Ex.ret (Ex1.if_t (EvT.cast (by walk_at "et") rfl) (Ex.ret (Ex1.return (Ev.gf (by walk_at "ea") (GF.le (from_j G F.fj hy hm h1 h2) (by decide))))))
theorem ll_1 {y m : Int} (hy : 1 ≤ y ∧ y ≤ 9999) (hm : 1 ≤ m ∧ m ≤ 12) : GF P 6 "_law_leaf" [.int 1, .int y, .int m] (.lst (leafOf (toJ y m 1) (mlJ y m))) := by
  refine GF.intro (k := 5) F.ll (by decide +kernel) rfl rfl ?_
  show Ex P 5 (scAt 149) [("kind", .int 1), ("year", .int y), ("month", .int m)] (bodyAt 149) _
  refine Ex.cons (Ex1.if_f (EvT.cast (by walk_at "et") rfl) Ex.nil) ?_
  exact Ex.ret (Ex1.if_t (EvT.cast (by walk_at "et") rfl) (Ex.ret (Ex1.return (Ev.gf (by walk_at "ea") (GF.le (leaf_j G G2 F hy hm) (by decide))))))
theorem ln_1 {y m d : Int} (hy : 1 ≤ y ∧ y ≤ 9999) (hm : 1 ≤ m ∧ m ≤ 12) (h1 : 1 ≤ d) (h2 : d ≤ mlJ y m) : GF P 6 "_law_number" [.int 1, .int y, .int m, .int d] (.fx (2 * toJ y m d + 1)) := by
  refine GF.intro (k := 5) F.ln (by decide +kernel) rfl rfl ?_
  show Ex P 5 (scAt 150) [("kind", .int 1), ("year", .int y), ("month", .int m), ("day", .int d)] (bodyAt 150) _
  refine Ex.cons (Ex1.if_f (EvT.cast (by walk_at "et") rfl) Ex.nil) ?_
  exact Ex.ret (Ex1.if_t (EvT.cast (by walk_at "et") rfl) (Ex.ret (Ex1.return (Ev.gf (by walk_at "ea") (GF.le (to_j G F.lj F.mlj F.lgj F.tj hy hm h1 h2) (by decide))))))
theorem ld_2 {y m d : Int} (hy : 1 ≤ y ∧ y ≤ 9999) (hm : 1 ≤ m ∧ m ≤ 12) (h1 : 1 ≤ d) (h2 : d ≤ mlI y m) : GF P 6 "_law_date" [.int 2, .fx (2 * toI y m d + 1)] (.tup [.int y, .int m, .int d]) := by
  refine GF.intro (k := 5) F.ld (by decide +kernel) rfl rfl ?_
  show Ex P 5 (scAt 148) [("kind", .int 2), ("number", .fx (2 * toI y m d + 1))] (bodyAt 148) _
  refine Ex.cons (Ex1.if_f (EvT.cast (by walk_at "et") rfl) Ex.nil) ?_
  refine Ex.cons (Ex1.if_f (EvT.cast (by walk_at "et") rfl) Ex.nil) ?_
  exact Ex.ret (Ex1.if_t (EvT.cast (by walk_at "et") rfl) (Ex.ret (Ex1.return (Ev.gf (by walk_at "ea") (GF.le (from_i G F.ti F.fi hy hm h1 h2) (by decide))))))
theorem ll_2 {y m : Int} (hy : 1 ≤ y ∧ y ≤ 9999) (hm : 1 ≤ m ∧ m ≤ 12) : GF P 6 "_law_leaf" [.int 2, .int y, .int m] (.lst (leafOf (toI y m 1) (mlI y m))) := by
  refine GF.intro (k := 5) F.ll (by decide +kernel) rfl rfl ?_
  show Ex P 5 (scAt 149) [("kind", .int 2), ("year", .int y), ("month", .int m)] (bodyAt 149) _
  refine Ex.cons (Ex1.if_f (EvT.cast (by walk_at "et") rfl) Ex.nil) ?_
  refine Ex.cons (Ex1.if_f (EvT.cast (by walk_at "et") rfl) Ex.nil) ?_
  exact Ex.ret (Ex1.if_t (EvT.cast (by walk_at "et") rfl) (Ex.ret (Ex1.return (Ev.gf (by walk_at "ea") (GF.le (leaf_i G G2 F hy hm) (by decide))))))
theorem ln_2 {y m d : Int} (hy : 1 ≤ y ∧ y ≤ 9999) (hm : 1 ≤ m ∧ m ≤ 12) (h1 : 1 ≤ d) (h2 : d ≤ mlI y m) : GF P 6 "_law_number" [.int 2, .int y, .int m, .int d] (.fx (2 * toI y m d + 1)) := by
  refine GF.intro (k := 5) F.ln (by decide +kernel) rfl rfl ?_
  show Ex P 5 (scAt 150) [("kind", .int 2), ("year", .int y), ("month", .int m), ("day", .int d)] (bodyAt 150) _
  refine Ex.cons (Ex1.if_f (EvT.cast (by walk_at "et") rfl) Ex.nil) ?_
  refine Ex.cons (Ex1.if_f (EvT.cast (by walk_at "et") rfl) Ex.nil) ?_
  exact Ex.ret (Ex1.if_t (EvT.cast (by walk_at "et") rfl) (Ex.ret (Ex1.return (Ev.gf (by walk_at "ea") (GF.le (to_i G F.ti hy hm h1 (by have := mlI_bd y m; omega)) (by decide))))))
theorem ld_3 {y m d : Int} (hy : 1 ≤ y ∧ y ≤ 9999) (hm : 1 ≤ m ∧ m ≤ 13) (h1 : 1 ≤ d) (h2 : d ≤ mlC y m) : GF P 6 "_law_date" [.int 3, .fx (2 * toC y m d + 1)] (.tup [.int y, .int m, .int d]) := by
  refine GF.intro (k := 5) F.ld (by decide +kernel) rfl rfl ?_
  show Ex P 5 (scAt 148) [("kind", .int 3), ("number", .fx (2 * toC y m d + 1))] (bodyAt 148) _
  refine Ex.cons (Ex1.if_f (EvT.cast (by walk_at "et") rfl) Ex.nil) ?_
  refine Ex.cons (Ex1.if_f (EvT.cast (by walk_at "et") rfl) Ex.nil) ?_
  refine Ex.cons (Ex1.if_f (EvT.cast (by walk_at "et") rfl) Ex.nil) ?_
  exact Ex.ret (Ex1.if_t (EvT.cast (by walk_at "et") rfl) (Ex.ret (Ex1.return (Ev.gf (by walk_at "ea") (GF.le (from_c G F.tc F.fc hy hm h1 h2) (by decide))))))
theorem ll_3 {y m : Int} (hy : 1 ≤ y ∧ y ≤ 9999) (hm : 1 ≤ m ∧ m ≤ 13) : GF P 6 "_law_leaf" [.int 3, .int y, .int m] (.lst (leafOf (toC y m 1) (mlC y m))) := by
  refine GF.intro (k := 5) F.ll (by decide +kernel) rfl rfl ?_
  show Ex P 5 (scAt 149) [("kind", .int 3), ("year", .int y), ("month", .int m)] (bodyAt 149) _
  refine Ex.cons (Ex1.if_f (EvT.cast (by walk_at "et") rfl) Ex.nil) ?_
  refine Ex.cons (Ex1.if_f (EvT.cast (by walk_at "et") rfl) Ex.nil) ?_
  refine Ex.cons (Ex1.if_f (EvT.cast (by walk_at "et") rfl) Ex.nil) ?_
  exact Ex.ret (Ex1.if_t (EvT.cast (by walk_at "et") rfl) (Ex.ret (Ex1.return (Ev.gf (by walk_at "ea") (GF.le (leaf_c G G2 F hy hm) (by decide))))))
theorem ln_3 {y m d : Int} (hy : 1 ≤ y ∧ y ≤ 9999) (hm : 1 ≤ m ∧ m ≤ 13) (h1 : 1 ≤ d) (h2 : d ≤ mlC y m) : GF P 6 "_law_number" [.int 3, .int y, .int m, .int d] (.fx (2 * toC y m d + 1)) := by
  refine GF.intro (k := 5) F.ln (by decide +kernel) rfl rfl ?_
  show Ex P 5 (scAt 150) [("kind", .int 3), ("year", .int y), ("month", .int m), ("day", .int d)] (bodyAt 150) _
  refine Ex.cons (Ex1.if_f (EvT.cast (by walk_at "et") rfl) Ex.nil) ?_
  refine Ex.cons (Ex1.if_f (EvT.cast (by walk_at "et") rfl) Ex.nil) ?_
  refine Ex.cons (Ex1.if_f (EvT.cast (by walk_at "et") rfl) Ex.nil) ?_
  exact Ex.ret (Ex1.if_t (EvT.cast (by walk_at "et") rfl) (Ex.ret (Ex1.return (Ev.gf (by walk_at "ea") (GF.le (to_c G F.tc hy hm h1 (by have := mlC_bd y m; omega)) (by decide))))))
theorem ld_4 {y m d : Int} (hy : 1 ≤ y ∧ y ≤ 9900) (hm : 1 ≤ m ∧ m ≤ 12) (h1 : 1 ≤ d) (h2 : d ≤ mlD y m) : GF P 6 "_law_date" [.int 4, .fx (2 * toD y m d + 1)] (.tup [.int y, .int m, .int d]) := by
  refine GF.intro (k := 5) F.ld (by decide +kernel) rfl rfl ?_
  show Ex P 5 (scAt 148) [("kind", .int 4), ("number", .fx (2 * toD y m d + 1))] (bodyAt 148) _
  refine Ex.cons (Ex1.if_f (EvT.cast (by walk_at "et") rfl) Ex.nil) ?_
  refine Ex.cons (Ex1.if_f (EvT.cast (by walk_at "et") rfl) Ex.nil) ?_
  refine Ex.cons (Ex1.if_f (EvT.cast (by walk_at "et") rfl) Ex.nil) ?_
  refine Ex.cons (Ex1.if_f (EvT.cast (by walk_at "et") rfl) Ex.nil) ?_
  exact Ex.ret (Ex1.if_t (EvT.cast (by walk_at "et") rfl) (Ex.ret (Ex1.return (Ev.gf (by walk_at "ea") (GF.le (from_d G F.isl F.lg F.tg F.fg F.fd hy hm h1 h2) (by decide))))))
theorem ll_4 {y m : Int} (hy : 1 ≤ y ∧ y ≤ 9900) (hm : 1 ≤ m ∧ m ≤ 12) (hm2 : 2 ≤ m ∧ m ≤ 12) : GF P 6 "_law_leaf" [.int 4, .int y, .int m] (.lst (leafOf (toD y m 1) (mlD y m))) := by
  refine GF.intro (k := 5) F.ll (by decide +kernel) rfl rfl ?_
  show Ex P 5 (scAt 149) [("kind", .int 4), ("year", .int y), ("month", .int m)] (bodyAt 149) _
  refine Ex.cons (Ex1.if_f (EvT.cast (by walk_at "et") rfl) Ex.nil) ?_
  refine Ex.cons (Ex1.if_f (EvT.cast (by walk_at "et") rfl) Ex.nil) ?_
  refine Ex.cons (Ex1.if_f (EvT.cast (by walk_at "et") rfl) Ex.nil) ?_
  refine Ex.cons (Ex1.if_f (EvT.cast (by walk_at "et") rfl) Ex.nil) ?_
  exact Ex.ret (Ex1.if_t (EvT.cast (by walk_at "et") rfl) (Ex.ret (Ex1.return (Ev.gf (by walk_at "ea") (GF.le (leaf_d G G2 F hy hm2) (by decide))))))
theorem ln_4 {y m d : Int} (hy : 1 ≤ y ∧ y ≤ 9900) (hm : 1 ≤ m ∧ m ≤ 12) (h1 : 1 ≤ d) (h2 : d ≤ mlD y m) : GF P 6 "_law_number" [.int 4, .int y, .int m, .int d] (.fx (2 * toD y m d + 1)) := by
  refine GF.intro (k := 5) F.ln (by decide +kernel) rfl rfl ?_
  show Ex P 5 (scAt 150) [("kind", .int 4), ("year", .int y), ("month", .int m), ("day", .int d)] (bodyAt 150) _
  refine Ex.cons (Ex1.if_f (EvT.cast (by walk_at "et") rfl) Ex.nil) ?_
  refine Ex.cons (Ex1.if_f (EvT.cast (by walk_at "et") rfl) Ex.nil) ?_
  refine Ex.cons (Ex1.if_f (EvT.cast (by walk_at "et") rfl) Ex.nil) ?_
  refine Ex.cons (Ex1.if_f (EvT.cast (by walk_at "et") rfl) Ex.nil) ?_
  exact Ex.ret (Ex1.if_t (EvT.cast (by walk_at "et") rfl) (Ex.ret (Ex1.return (Ev.gf (by walk_at "ea") (GF.le (to_d G F.isl F.lg F.tg F.td hy hm h1 (by have := mlD_bd y m; omega)) (by decide))))))
theorem ld_5 {y m d : Int} (hy : 1 ≤ y ∧ y ≤ 9999) (hm : 1 ≤ m ∧ m ≤ 13) (h1 : 1 ≤ d) (h2 : d ≤ mlN m) : GF P 6 "_law_date" [.int 5, .fx (2 * toN y m d + 1)] (.tup [.int y, .int m, .int d]) := by
  refine GF.intro (k := 5) F.ld (by decide +kernel) rfl rfl ?_
  show Ex P 5 (scAt 148) [("kind", .int 5), ("number", .fx (2 * toN y m d + 1))] (bodyAt 148) _
  refine Ex.cons (Ex1.if_f (EvT.cast (by walk_at "et") rfl) Ex.nil) ?_
  refine Ex.cons (Ex1.if_f (EvT.cast (by walk_at "et") rfl) Ex.nil) ?_
  refine Ex.cons (Ex1.if_f (EvT.cast (by walk_at "et") rfl) Ex.nil) ?_
  refine Ex.cons (Ex1.if_f (EvT.cast (by walk_at "et") rfl) Ex.nil) ?_
  refine Ex.cons (Ex1.if_f (EvT.cast (by walk_at "et") rfl) Ex.nil) ?_
  exact Ex.ret (Ex1.return (Ev.ifexp_t (EvT.cast (by walk_at "et") rfl) (Ev.gf (by walk_at "ea") (GF.le (from_n G F.fa1 hy hm h1 h2) (by decide)))))
theorem ll_5 {y m : Int} (hy : 1 ≤ y ∧ y ≤ 9999) (hm : 1 ≤ m ∧ m ≤ 13) : GF P 6 "_law_leaf" [.int 5, .int y, .int m] (.lst (leafOf (toN y m 1) (mlN m))) := by
  refine GF.intro (k := 5) F.ll (by decide +kernel) rfl rfl ?_
  show Ex P 5 (scAt 149) [("kind", .int 5), ("year", .int y), ("month", .int m)] (bodyAt 149) _
  refine Ex.cons (Ex1.if_f (EvT.cast (by walk_at "et") rfl) Ex.nil) ?_
  refine Ex.cons (Ex1.if_f (EvT.cast (by walk_at "et") rfl) Ex.nil) ?_
  refine Ex.cons (Ex1.if_f (EvT.cast (by walk_at "et") rfl) Ex.nil) ?_
  refine Ex.cons (Ex1.if_f (EvT.cast (by walk_at "et") rfl) Ex.nil) ?_
  refine Ex.cons (Ex1.if_f (EvT.cast (by walk_at "et") rfl) Ex.nil) ?_
  exact Ex.ret (Ex1.return (Ev.ifexp_t (EvT.cast (by walk_at "et") rfl) (Ev.gf (by walk_at "ea") (GF.le (leaf_n G G2 F hy hm) (by decide)))))
theorem ln_5 {y m d : Int} (hy : 1 ≤ y ∧ y ≤ 9999) (hm : 1 ≤ m ∧ m ≤ 13) (h1 : 1 ≤ d) (h2 : d ≤ mlN m) : GF P 6 "_law_number" [.int 5, .int y, .int m, .int d] (.fx (2 * toN y m d + 1)) := by
  refine GF.intro (k := 5) F.ln (by decide +kernel) rfl rfl ?_
  show Ex P 5 (scAt 150) [("kind", .int 5), ("year", .int y), ("month", .int m), ("day", .int d)] (bodyAt 150) _
  refine Ex.cons (Ex1.if_f (EvT.cast (by walk_at "et") rfl) Ex.nil) ?_
  refine Ex.cons (Ex1.if_f (EvT.cast (by walk_at "et") rfl) Ex.nil) ?_
  refine Ex.cons (Ex1.if_f (EvT.cast (by walk_at "et") rfl) Ex.nil) ?_
  refine Ex.cons (Ex1.if_f (EvT.cast (by walk_at "et") rfl) Ex.nil) ?_
  refine Ex.cons (Ex1.if_f (EvT.cast (by walk_at "et") rfl) Ex.nil) ?_
  exact Ex.ret (Ex1.return (Ev.ifexp_t (EvT.cast (by walk_at "et") rfl) (Ev.gf (by walk_at "ea") (GF.le (to_n3 G F.la F.va F.ta3 hy hm h1 h2) (by decide)))))
theorem ld_6 {y m d : Int} (hy : 533 ≤ y ∧ y ≤ 9999) (hm : 1 ≤ m ∧ m ≤ 13) (h1 : 1 ≤ d) (h2 : d ≤ mlS y m) : GF P 6 "_law_date" [.int 6, .fx (2 * toS y m d + 1)] (.tup [.int y, .int m, .int d]) := by
  refine GF.intro (k := 5) F.ld (by decide +kernel) rfl rfl ?_
  show Ex P 5 (scAt 148) [("kind", .int 6), ("number", .fx (2 * toS y m d + 1))] (bodyAt 148) _
  refine Ex.cons (Ex1.if_f (EvT.cast (by walk_at "et") rfl) Ex.nil) ?_
  refine Ex.cons (Ex1.if_f (EvT.cast (by walk_at "et") rfl) Ex.nil) ?_
  refine Ex.cons (Ex1.if_f (EvT.cast (by walk_at "et") rfl) Ex.nil) ?_
  refine Ex.cons (Ex1.if_f (EvT.cast (by walk_at "et") rfl) Ex.nil) ?_
  refine Ex.cons (Ex1.if_f (EvT.cast (by walk_at "et") rfl) Ex.nil) ?_
  exact Ex.ret (Ex1.return (Ev.ifexp_f (EvT.cast (by walk_at "et") rfl) (Ev.gf (by walk_at "ea") (GF.le (from_s G F.fa2 hy hm h1 h2) (by decide)))))
theorem ll_6 {y m : Int} (hy : 533 ≤ y ∧ y ≤ 9999) (hm : 1 ≤ m ∧ m ≤ 13) : GF P 6 "_law_leaf" [.int 6, .int y, .int m] (.lst (leafOf (toS y m 1) (mlS y m))) := by
  refine GF.intro (k := 5) F.ll (by decide +kernel) rfl rfl ?_
  show Ex P 5 (scAt 149) [("kind", .int 6), ("year", .int y), ("month", .int m)] (bodyAt 149) _
  refine Ex.cons (Ex1.if_f (EvT.cast (by walk_at "et") rfl) Ex.nil) ?_
  refine Ex.cons (Ex1.if_f (EvT.cast (by walk_at "et") rfl) Ex.nil) ?_
  refine Ex.cons (Ex1.if_f (EvT.cast (by walk_at "et") rfl) Ex.nil) ?_
  refine Ex.cons (Ex1.if_f (EvT.cast (by walk_at "et") rfl) Ex.nil) ?_
  refine Ex.cons (Ex1.if_f (EvT.cast (by walk_at "et") rfl) Ex.nil) ?_
  exact Ex.ret (Ex1.return (Ev.ifexp_f (EvT.cast (by walk_at "et") rfl) (Ev.gf (by walk_at "ea") (GF.le (leaf_s G G2 F hy hm) (by decide)))))
theorem ln_6 {y m d : Int} (hy : 533 ≤ y ∧ y ≤ 9999) (hm : 1 ≤ m ∧ m ≤ 13) (h1 : 1 ≤ d) (h2 : d ≤ mlS y m) : GF P 6 "_law_number" [.int 6, .int y, .int m, .int d] (.fx (2 * toS y m d + 1)) := by
  refine GF.intro (k := 5) F.ln (by decide +kernel) rfl rfl ?_
  show Ex P 5 (scAt 150) [("kind", .int 6), ("year", .int y), ("month", .int m), ("day", .int d)] (bodyAt 150) _
  refine Ex.cons (Ex1.if_f (EvT.cast (by walk_at "et") rfl) Ex.nil) ?_
  refine Ex.cons (Ex1.if_f (EvT.cast (by walk_at "et") rfl) Ex.nil) ?_
  refine Ex.cons (Ex1.if_f (EvT.cast (by walk_at "et") rfl) Ex.nil) ?_
  refine Ex.cons (Ex1.if_f (EvT.cast (by walk_at "et") rfl) Ex.nil) ?_
  refine Ex.cons (Ex1.if_f (EvT.cast (by walk_at "et") rfl) Ex.nil) ?_
  exact Ex.ret (Ex1.return (Ev.ifexp_f (EvT.cast (by walk_at "et") rfl) (Ev.gf (by walk_at "ea") (GF.le (to_s G F.la F.va F.ta4 hy hm h1 h2) (by decide)))))
end law3
end
section
theorem coptic_ex {N : Int} (h0 : 2117599 ≤ N) (h1 : N ≤ 5400000) : ∃ y m d, (1 ≤ y ∧ y ≤ 9900) ∧ (1 ≤ m ∧ m ≤ 13) ∧ 1 ≤ d ∧ d ≤ mlC y m ∧ N = toC y m d := by
  obtain ⟨x, hx⟩ : ∃ x, x = N - 1825029 := ⟨_, rfl⟩
  obtain ⟨y, hy⟩ : ∃ y, y = (4 * x + 1463) / 1461 := ⟨_, rfl⟩
  obtain ⟨r, hr⟩ : ∃ r, r = x - (365 * (y - 1) + y / 4) := ⟨_, rfl⟩
  refine ⟨y, r / 30 + 1, r % 30 + 1, by omega, by omega, by omega, ?_, by unfold toC; omega⟩
  unfold mlC lpC
  by_cases c : r / 30 + 1 ≤ 12
  · rw [if_pos c]; omega
  · rw [if_neg c]
    by_cases c2 : y % 4 = 3
    · rw [if_pos (by simp [c2])]; omega
    · rw [if_neg (by simp [c2]; omega)]; omega
theorem armN_ex {N : Int} (h0 : 2117599 ≤ N) (h1 : N ≤ 5400000) : ∃ y m d, (1 ≤ y ∧ y ≤ 9900) ∧ (1 ≤ m ∧ m ≤ 13) ∧ 1 ≤ d ∧ d ≤ mlN m ∧ N = toN y m d := by
  obtain ⟨t, ht⟩ : ∃ t, t = N - 1922502 := ⟨_, rfl⟩
  refine ⟨t / 365, (t % 365) / 30 + 1, (t % 365) % 30 + 1, by omega, by omega, by omega, ?_, by unfold toN; omega⟩
  unfold mlN
  split <;> omega
theorem armS_ex {N : Int} (h0 : 2117599 ≤ N) (h1 : N ≤ 5400000) : ∃ y m d, (533 ≤ y ∧ y ≤ 9900) ∧ (1 ≤ m ∧ m ≤ 13) ∧ 1 ≤ d ∧ d ≤ mlS y m ∧ N = toS y m d := by
  obtain ⟨x, hx⟩ : ∃ x, x = N - 2117211 := ⟨_, rfl⟩
  obtain ⟨Y, hY⟩ : ∃ Y, 1461 * Y ≤ 4 * x + 3 ∧ 4 * x + 3 < 1461 * Y + 1461 := ⟨(4 * x + 3) / 1461, by omega, by omega⟩
  obtain ⟨r, hr⟩ : ∃ r, r = x - (365 * Y + Y / 4) := ⟨_, rfl⟩
  have hr2 : 0 ≤ r ∧ (r ≤ 364 ∨ r = 365 ∧ Y % 4 = 3) := by
    obtain ⟨q, s, hq, hs⟩ : ∃ q s, Y = 4 * q + s ∧ 0 ≤ s ∧ s ≤ 3 := ⟨Y / 4, Y % 4, by omega, by omega, by omega⟩
    have e1 : Y / 4 = q := by omega
    have e2 : Y % 4 = s := by omega
    rw [e1] at hr
    rw [e2]
    have : s = 0 ∨ s = 1 ∨ s = 2 ∨ s = 3 := by omega
    rcases this with h | h | h | h <;> subst h <;> omega
  refine ⟨Y + 533, r / 30 + 1, r % 30 + 1, by omega, by omega, by omega, ?_, by unfold toS; rw [show Y + 533 - 533 = Y by omega]; omega⟩
  unfold mlS lpS
  by_cases c : r / 30 + 1 = 13
  · rw [if_pos c]
    by_cases c2 : (Y + 533) % 4 = 0
    · rw [if_pos (by simp [c2])]; omega
    · rw [if_neg (by simp [c2])]; omega
  · rw [if_neg c]; omega
theorem islamic_ex {N : Int} (h0 : 2117599 ≤ N) (h1 : N ≤ 5400000) : ∃ y m d, (1 ≤ y ∧ y ≤ 9900) ∧ (1 ≤ m ∧ m ≤ 12) ∧ 1 ≤ d ∧ d ≤ mlI y m ∧ N = toI y m d := by
  obtain ⟨x, hx⟩ : ∃ x, x = N - 1948439 := ⟨_, rfl⟩
  obtain ⟨y, hy⟩ : ∃ y, 10631 * y ≤ 30 * x + 10646 ∧ 30 * x + 10646 < 10631 * y + 10631 := ⟨(30 * x + 10646) / 10631, by omega, by omega⟩
  obtain ⟨r, hr⟩ : ∃ r, r = x - (354 * (y - 1) + (3 + 11 * y) / 30) := ⟨_, rfl⟩
  obtain ⟨q, s, hq, hs⟩ : ∃ q s, 3 + 11 * y = 30 * q + s ∧ 0 ≤ s ∧ s ≤ 29 := ⟨(3 + 11 * y) / 30, (3 + 11 * y) % 30, by omega, by omega, by omega⟩
  have e1 : (3 + 11 * y) / 30 = q := by omega
  rw [e1] at hr
  have hr0 : 0 ≤ r ∧ r ≤ 354 := by omega
  have hr1 : r = 354 → (y * 11 + 14) % 30 < 11 := fun h => by
    have h2 : 19 ≤ s := by omega
    have h3 : y * 11 + 14 = 30 * (q + 1) + (s - 19) := by omega
    have h4 : (30 * (q + 1) + (s - 19)) % 30 = s - 19 := by
      rw [Int.add_comm, Int.add_mul_emod_self_left]; exact Int.emod_eq_of_lt (by omega) (by omega)
    rw [h3, h4]; omega
  obtain ⟨m, hm⟩ : ∃ m, 1 ≤ m ∧ m ≤ 12 ∧ cI m ≤ r ∧ (m = 12 ∨ r < cI (m + 1)) := by
    unfold cI
    by_cases q : r < 325
    · exact ⟨(2 * r) / 59 + 1, by omega, by omega, by omega, .inr (by omega)⟩
    · exact ⟨12, by omega, by omega, by omega, .inl rfl⟩
  refine ⟨y, m, r - cI m + 1, by omega, by omega, by omega, ?_, by unfold toI; omega⟩
  obtain ⟨m1, m2, m3, m4⟩ := hm
  unfold mlI longI lpI
  have : m = 1 ∨ m = 2 ∨ m = 3 ∨ m = 4 ∨ m = 5 ∨ m = 6 ∨ m = 7 ∨ m = 8 ∨ m = 9 ∨ m = 10 ∨ m = 11 ∨ m = 12 := by omega
  unfold cI at m3 m4 ⊢
  by_cases c2 : (y * 11 + 14) % 30 < 11
  · rcases this with h | h | h | h | h | h | h | h | h | h | h | h <;> subst h <;> simp [c2] at m4 ⊢ <;> omega
  · rcases this with h | h | h | h | h | h | h | h | h | h | h | h <;> subst h <;> simp [c2] at m4 ⊢ <;> omega
end
section
theorem julian_ex {N : Int} (h0 : 2117599 ≤ N) (h1 : N ≤ 5320000) : ∃ y m d, (1 ≤ y ∧ y ≤ 9900) ∧ (1 ≤ m ∧ m ≤ 12) ∧ 1 ≤ d ∧ d ≤ mlJ y m ∧ N = toJ y m d := by
  obtain ⟨x, hx⟩ : ∃ x, x = N + 1402 := ⟨_, rfl⟩
  obtain ⟨c, hc⟩ : ∃ c, 1461 * c ≤ 4 * x + 3 ∧ 4 * x + 3 < 1461 * c + 1461 := ⟨(4 * x + 3) / 1461, by omega, by omega⟩
  obtain ⟨r, hr⟩ : ∃ r, r = x - 1461 * c / 4 := ⟨_, rfl⟩
  have hr2 : 0 ≤ r ∧ (r ≤ 364 ∨ r = 365 ∧ c % 4 = 3) := by
    obtain ⟨q, s, hq, hs⟩ : ∃ q s, c = 4 * q + s ∧ 0 ≤ s ∧ s ≤ 3 := ⟨c / 4, c % 4, by omega, by omega, by omega⟩
    have e2 : c % 4 = s := by omega
    rw [e2]
    have : s = 0 ∨ s = 1 ∨ s = 2 ∨ s = 3 := by omega
    rcases this with h | h | h | h <;> subst h <;> omega
  have key : ∀ m Y b, 1 ≤ m ∧ m ≤ 12 → (if m ≤ 2 then Y - 1 else Y) = c - 4716 → bJ m = b → b ≤ r + 122 → r + 122 < b + mlJ Y m → ∃ y m d, (1 ≤ y ∧ y ≤ 9900) ∧ (1 ≤ m ∧ m ≤ 12) ∧ 1 ≤ d ∧ d ≤ mlJ y m ∧ N = toJ y m d := by
    intro m Y b hm hY hb h1 h2
    refine ⟨Y, m, r + 122 - b + 1, ?_, hm, by omega, by omega, ?_⟩
    · split at hY <;> omega
    · unfold toJ aJ YJ
      rw [hY, hb, show c - 4716 + 4716 = c by omega]; omega
  have bm : ∀ Y m, m ≠ 2 → 30 ≤ mlJ Y m := fun Y m h => by unfold mlJ ml30; rw [if_neg h]; split <;> omega
  by_cases g1 : r < 31
  · exact key 3 (c - 4716) 122 (by decide) (by rw [if_neg (by decide)]) (by decide) (by omega) (by have : mlJ (c - 4716) 3 = 31 := rfl; omega)
  by_cases g2 : r < 61
  · exact key 4 (c - 4716) 153 (by decide) (by rw [if_neg (by decide)]) (by decide) (by omega) (by have : mlJ (c - 4716) 4 = 30 := rfl; omega)
  by_cases g3 : r < 92
  · exact key 5 (c - 4716) 183 (by decide) (by rw [if_neg (by decide)]) (by decide) (by omega) (by have : mlJ (c - 4716) 5 = 31 := rfl; omega)
  by_cases g4 : r < 122
  · exact key 6 (c - 4716) 214 (by decide) (by rw [if_neg (by decide)]) (by decide) (by omega) (by have : mlJ (c - 4716) 6 = 30 := rfl; omega)
  by_cases g5 : r < 153
  · exact key 7 (c - 4716) 244 (by decide) (by rw [if_neg (by decide)]) (by decide) (by omega) (by have : mlJ (c - 4716) 7 = 31 := rfl; omega)
  by_cases g6 : r < 184
  · exact key 8 (c - 4716) 275 (by decide) (by rw [if_neg (by decide)]) (by decide) (by omega) (by have : mlJ (c - 4716) 8 = 31 := rfl; omega)
  by_cases g7 : r < 214
  · exact key 9 (c - 4716) 306 (by decide) (by rw [if_neg (by decide)]) (by decide) (by omega) (by have : mlJ (c - 4716) 9 = 30 := rfl; omega)
  by_cases g8 : r < 245
  · exact key 10 (c - 4716) 336 (by decide) (by rw [if_neg (by decide)]) (by decide) (by omega) (by have : mlJ (c - 4716) 10 = 31 := rfl; omega)
  by_cases g9 : r < 275
  · exact key 11 (c - 4716) 367 (by decide) (by rw [if_neg (by decide)]) (by decide) (by omega) (by have : mlJ (c - 4716) 11 = 30 := rfl; omega)
  by_cases g10 : r < 306
  · exact key 12 (c - 4716) 397 (by decide) (by rw [if_neg (by decide)]) (by decide) (by omega) (by have : mlJ (c - 4716) 12 = 31 := rfl; omega)
  by_cases g11 : r < 337
  · exact key 1 (c - 4715) 428 (by decide) (by rw [if_pos (by decide)]; omega) (by decide) (by omega) (by have : mlJ (c - 4715) 1 = 31 := rfl; omega)
  · refine key 2 (c - 4715) 459 (by decide) (by rw [if_pos (by decide)]; omega) (by decide) (by omega) ?_
    have : mlJ (c - 4715) 2 = if lpJ (c - 4715) = true then 29 else 28 := rfl
    rw [this]
    unfold lpJ
    by_cases q : (c - 4715) % 4 = 0
    · rw [if_pos (by simp [q])]; omega
    · rw [if_neg (by simp [q])]; omega
end
section
theorem indian_ex {N : Int} (h0 : 2117599 ≤ N) (h1 : N ≤ 5320000) : ∃ y m d, (1 ≤ y ∧ y ≤ 9890) ∧ (1 ≤ m ∧ m ≤ 12) ∧ 1 ≤ d ∧ d ≤ mlD y m ∧ N = toD y m d := by
  obtain ⟨Y, yd, hY, hyd0, hyd1, hD⟩ := greg_year (D := N - 1721505) (by omega)
  have hl := lp_01 Y
  have hb : 79 ≤ Y ∧ Y ≤ 9900 := by unfold ysG at hD; omega
  have key : ∀ m b, (1 ≤ m ∧ m ≤ 12) → moD (Y - 78) m = b → b ≤ yd → yd < b + mlD (Y - 78) m → ∃ y m d, (1 ≤ y ∧ y ≤ 9890) ∧ (1 ≤ m ∧ m ≤ 12) ∧ 1 ≤ d ∧ d ≤ mlD y m ∧ N = toD y m d := by
    intro m b hm hb2 g1 g2
    refine ⟨Y - 78, m, yd - b + 1, by omega, hm, by omega, by omega, ?_⟩
    unfold toD
    rw [hb2, show Y - 78 + 78 = Y by omega]; omega
  have hca : caD (Y - 78) = 30 + lp Y := by unfold caD; rw [show Y - 78 + 78 = Y by omega]
  by_cases g0 : yd < 30 + lp Y
  · exact key 1 0 (by decide) rfl (by omega) (by have : mlD (Y - 78) 1 = caD (Y - 78) := rfl; omega)
  obtain ⟨z, hz⟩ : ∃ z, z = yd - (30 + lp Y) := ⟨_, rfl⟩
  by_cases g1 : z < 155
  · have hm : 2 ≤ z / 31 + 2 ∧ z / 31 + 2 ≤ 6 := by omega
    refine key (z / 31 + 2) (30 + lp Y + z / 31 * 31) (by omega) ?_ (by omega) ?_
    · unfold moD; rw [if_neg (by omega), if_neg (by omega), if_neg (by omega), hca]; omega
    · unfold mlD; rw [if_neg (by omega), if_pos (by omega)]; omega
  · obtain ⟨u, hu⟩ : ∃ u, u = z - 155 := ⟨_, rfl⟩
    refine key (u / 30 + 7) (30 + lp Y + 155 + u / 30 * 30) (by omega) ?_ (by omega) ?_
    · unfold moD
      rw [if_neg (by omega), hca]
      by_cases q : 8 ≤ u / 30 + 7
      · rw [if_pos q, if_pos (by omega)]; omega
      · rw [if_neg q]
        by_cases q2 : 5 < u / 30 + 7 - 2
        · rw [if_pos q2]; omega
        · rw [if_neg q2]; omega
    · unfold mlD; rw [if_neg (by omega), if_neg (by omega)]; omega
end
section
structure KalAt (P : PK) (k N y m d n : Int) : Prop where
  b : 1 ≤ d ∧ d ≤ n ∧ 5 ≤ n ∧ n ≤ 31
  L : GF P 6 "_law_leaf" [.int k, .int y, .int m] (.lst (leafOf (N - d + 1) n))
  U : ∀ e : Int, 1 ≤ e → e ≤ n → GF P 6 "_law_number" [.int k, .int y, .int m, .int e] (.fx (2 * (N - d + e) + 1))
  Z : GF P 6 "_law_date" [.int k, .fx (2 * (N + n - d) + 1)] (.tup [.int y, .int m, .int n])
  X : ∃ y' m' : Int, GF P 6 "_law_date" [.int k, .fx (2 * (N + n - d + 1) + 1)] (.tup [.int y', .int m', .int 1])
theorem KalAt.of {P : PK} {k N y m d n : Int} {to : Int → Int → Int → Int} (hN : N = to y m d) (hlin : ∀ e f, to y m e = to y m f + (e - f)) (hb : 1 ≤ d ∧ d ≤ n ∧ 5 ≤ n ∧ n ≤ 31)
    (hL : GF P 6 "_law_leaf" [.int k, .int y, .int m] (.lst (leafOf (to y m 1) n))) (hU : ∀ e : Int, 1 ≤ e → e ≤ n → GF P 6 "_law_number" [.int k, .int y, .int m, .int e] (.fx (2 * to y m e + 1)))
    (hD : ∀ e : Int, 1 ≤ e → e ≤ n → GF P 6 "_law_date" [.int k, .fx (2 * to y m e + 1)] (.tup [.int y, .int m, .int e])) (hX : ∃ y' m' : Int, to y m n + 1 = to y' m' 1 ∧ GF P 6 "_law_date" [.int k, .fx (2 * to y' m' 1 + 1)] (.tup [.int y', .int m', .int 1])) : KalAt P k N y m d n := by
  refine ⟨hb, ?_, fun e h1 h2 => ?_, ?_, ?_⟩
  · rw [show N - d + 1 = to y m 1 by rw [hN, hlin 1 d]; omega]; exact hL
  · rw [show N - d + e = to y m e by rw [hN, hlin e d]; omega]; exact hU e h1 h2
  · rw [show N + n - d = to y m n by rw [hN, hlin n d]; omega]; exact hD n (by omega) (Int.le_refl _)
  · obtain ⟨y', m', e, h⟩ := hX
    refine ⟨y', m', ?_⟩
    rw [show N + n - d + 1 = to y' m' 1 by rw [← e, hN, hlin n d]; omega]; exact h
section kals
variable {P : PK} (G : Glb P) (G2 : Glb2 P) (F : Fns P)
include G G2 F

theorem kal_3 {y m d : Int} (hy : 1 ≤ y ∧ y ≤ 9900) (hm : 1 ≤ m ∧ m ≤ 13) (h1 : 1 ≤ d) (h2 : d ≤ mlC y m) : KalAt P 3 (toC y m d) y m d (mlC y m) := by
  have hb := mlC_bd y m
  refine KalAt.of (to := toC) rfl (fun e f => by unfold toC; omega) ⟨h1, h2, by omega, by omega⟩ (ll_3 G G2 F (by omega) hm) (fun e e1 e2 => ln_3 G G2 F (by omega) hm e1 e2) (fun e e1 e2 => ld_3 G G2 F (by omega) hm e1 e2) ?_
  by_cases c : m = 13
  · refine ⟨y + 1, 1, ?_, ld_3 G G2 F (by omega) (by decide) (by decide) (by have := mlC_bd (y + 1) 1; omega)⟩
    subst c
    unfold toC mlC lpC
    rw [if_neg (by decide)]
    by_cases q : y % 4 = 3
    · rw [if_pos (by simp [q])]; omega
    · rw [if_neg (by simp [q]; omega)]; omega
  · refine ⟨y, m + 1, ?_, ld_3 G G2 F (by omega) (by omega) (by decide) (by have := mlC_bd y (m + 1); omega)⟩
    unfold toC mlC
    rw [if_pos (by omega)]; omega
theorem kal_5 {y m d : Int} (hy : 1 ≤ y ∧ y ≤ 9900) (hm : 1 ≤ m ∧ m ≤ 13) (h1 : 1 ≤ d) (h2 : d ≤ mlN m) : KalAt P 5 (toN y m d) y m d (mlN m) := by
  have hb : 5 ≤ mlN m ∧ mlN m ≤ 30 := by unfold mlN; split <;> omega
  refine KalAt.of (to := toN) rfl (fun e f => by unfold toN; omega) ⟨h1, h2, by omega, by omega⟩ (ll_5 G G2 F (by omega) hm) (fun e e1 e2 => ln_5 G G2 F (by omega) hm e1 e2) (fun e e1 e2 => ld_5 G G2 F (by omega) hm e1 e2) ?_
  by_cases c : m = 13
  · refine ⟨y + 1, 1, ?_, ld_5 G G2 F (by omega) (by decide) (by decide) (by decide)⟩
    subst c
    unfold toN mlN
    rw [if_pos (by decide)]; omega
  · refine ⟨y, m + 1, ?_, ld_5 G G2 F (by omega) (by omega) (by decide) (by have := mlN_ge (m + 1); omega)⟩
    unfold toN mlN
    rw [if_neg c]; omega
theorem kal_6 {y m d : Int} (hy : 533 ≤ y ∧ y ≤ 9900) (hm : 1 ≤ m ∧ m ≤ 13) (h1 : 1 ≤ d) (h2 : d ≤ mlS y m) : KalAt P 6 (toS y m d) y m d (mlS y m) := by
  have hb : 5 ≤ mlS y m ∧ mlS y m ≤ 30 := by unfold mlS; split <;> (try split) <;> omega
  refine KalAt.of (to := toS) rfl (fun e f => by unfold toS; omega) ⟨h1, h2, by omega, by omega⟩ (ll_6 G G2 F (by omega) hm) (fun e e1 e2 => ln_6 G G2 F (by omega) hm e1 e2) (fun e e1 e2 => ld_6 G G2 F (by omega) hm e1 e2) ?_
  by_cases c : m = 13
  · refine ⟨y + 1, 1, ?_, ld_6 G G2 F (by omega) (by decide) (by decide) (by have := mlS_ge (y + 1) 1; omega)⟩
    subst c
    unfold toS mlS lpS
    rw [if_pos (by decide)]
    by_cases q : y % 4 = 0
    · rw [if_pos (by simp [q])]; omega
    · rw [if_neg (by simp [q])]; omega
  · refine ⟨y, m + 1, ?_, ld_6 G G2 F (by omega) (by omega) (by decide) (by have := mlS_ge y (m + 1); omega)⟩
    unfold toS mlS
    rw [if_neg c]; omega
end kals
end
section
theorem m12 {m : Int} (hm : 1 ≤ m ∧ m ≤ 12) : m = 1 ∨ m = 2 ∨ m = 3 ∨ m = 4 ∨ m = 5 ∨ m = 6 ∨ m = 7 ∨ m = 8 ∨ m = 9 ∨ m = 10 ∨ m = 11 ∨ m = 12 := by omega
theorem greg_next {y m : Int} (hm : 1 ≤ m ∧ m ≤ 12) : toG y m (mlG y m) + 1 = if m = 12 then toG (y + 1) 1 1 else toG y (m + 1) 1 := by
  have hn := ysG_next (y := y)
  unfold lp at hn
  unfold toG moG adjG mlG ml30
  rcases m12 hm with h | h | h | h | h | h | h | h | h | h | h | h <;> subst h <;> cases e : isl y <;> simp [e] at hn ⊢ <;> omega
theorem jul_next {y m : Int} (hm : 1 ≤ m ∧ m ≤ 12) : toJ y m (mlJ y m) + 1 = if m = 12 then toJ (y + 1) 1 1 else toJ y (m + 1) 1 := by
  unfold toJ aJ bJ YJ MJ mlJ ml30 lpJ
  obtain ⟨q, s, hq, hs⟩ : ∃ q s, y = 4 * q + s ∧ 0 ≤ s ∧ s ≤ 3 := ⟨y / 4, y % 4, by omega, by omega, by omega⟩
  have e2 : y % 4 = s := by omega
  have hs4 : s = 0 ∨ s = 1 ∨ s = 2 ∨ s = 3 := by omega
  rw [e2]
  rcases m12 hm with h | h | h | h | h | h | h | h | h | h | h | h <;> subst h <;> rcases hs4 with g | g | g | g <;> subst g <;> simp <;> omega
theorem isl_next {y m : Int} (hm : 1 ≤ m ∧ m ≤ 12) : toI y m (mlI y m) + 1 = if m = 12 then toI (y + 1) 1 1 else toI y (m + 1) 1 := by
  obtain ⟨q, s, hq, hs⟩ : ∃ q s, 3 + 11 * y = 30 * q + s ∧ 0 ≤ s ∧ s ≤ 29 := ⟨(3 + 11 * y) / 30, (3 + 11 * y) % 30, by omega, by omega, by omega⟩
  have e1 : (3 + 11 * y) / 30 = q := by omega
  have e2 : ((y * 11 + 14) % 30 < 11 ∧ (3 + 11 * (y + 1)) / 30 = q + 1) ∨ (¬ (y * 11 + 14) % 30 < 11 ∧ (3 + 11 * (y + 1)) / 30 = q) := by
    rw [show y * 11 + 14 = 30 * q + s + 11 by omega, show 3 + 11 * (y + 1) = 30 * q + s + 11 by omega]
    clear e1 hq
    by_cases c : 19 ≤ s
    · exact .inl ⟨by omega, by omega⟩
    · exact .inr ⟨by omega, by omega⟩
  unfold toI cI mlI longI lpI
  clear hq hs
  rcases e2 with ⟨c, e2⟩ | ⟨c, e2⟩
  · rw [e1, e2]
    rcases m12 hm with h | h | h | h | h | h | h | h | h | h | h | h <;> subst h <;> simp [c] <;> omega
  · rw [e1, e2]
    rcases m12 hm with h | h | h | h | h | h | h | h | h | h | h | h <;> subst h <;> simp [c] <;> omega
theorem ind_next {y m : Int} (hm : 1 ≤ m ∧ m ≤ 12) : toD y m (mlD y m) + 1 = if m = 12 then toD (y + 1) 1 1 else toD y (m + 1) 1 := by
  have hn := ysG_next (y := y + 78)
  rw [show y + 78 + 1 = y + 1 + 78 by omega] at hn
  unfold toD moD mlD caD
  rcases m12 hm with h | h | h | h | h | h | h | h | h | h | h | h <;> subst h <;> simp <;> omega
section kals
variable {P : PK} (G : Glb P) (G2 : Glb2 P) (F : Fns P)
include G G2 F
theorem kal_0 {y m d : Int} (hy : 1 ≤ y ∧ y ≤ 9900) (hm : 1 ≤ m ∧ m ≤ 12) (h1 : 1 ≤ d) (h2 : d ≤ mlG y m) : KalAt P 0 (toG y m d) y m d (mlG y m) := by
  have hb : 5 ≤ mlG y m ∧ mlG y m ≤ 31 := by unfold mlG ml30; split <;> (try split) <;> omega
  refine KalAt.of (to := toG) rfl (fun e f => by unfold toG moG; omega) ⟨h1, h2, by omega, by omega⟩ (ll_0 G G2 F (by omega) hm) (fun e e1 e2 => ln_0 G G2 F (by omega) hm e1 e2) (fun e e1 e2 => ld_0 G G2 F (by omega) hm e1 e2) ?_
  have hn := greg_next (y := y) hm
  by_cases c : m = 12
  · rw [if_pos c] at hn
    exact ⟨y + 1, 1, hn, ld_0 G G2 F (by omega) (by decide) (by decide) (mlG_ge _ _)⟩
  · rw [if_neg c] at hn
    exact ⟨y, m + 1, hn, ld_0 G G2 F (by omega) (by omega) (by decide) (mlG_ge _ _)⟩
theorem kal_1 {y m d : Int} (hy : 1 ≤ y ∧ y ≤ 9900) (hm : 1 ≤ m ∧ m ≤ 12) (h1 : 1 ≤ d) (h2 : d ≤ mlJ y m) : KalAt P 1 (toJ y m d) y m d (mlJ y m) := by
  have hb := mlJ_bd y m
  refine KalAt.of (to := toJ) rfl (fun e f => by unfold toJ; omega) ⟨h1, h2, by omega, by omega⟩ (ll_1 G G2 F (by omega) hm) (fun e e1 e2 => ln_1 G G2 F (by omega) hm e1 e2) (fun e e1 e2 => ld_1 G G2 F (by omega) hm e1 e2) ?_
  have hn := jul_next (y := y) hm
  by_cases c : m = 12
  · rw [if_pos c] at hn
    exact ⟨y + 1, 1, hn, ld_1 G G2 F (by omega) (by decide) (by decide) (by have := mlJ_bd (y + 1) 1; omega)⟩
  · rw [if_neg c] at hn
    exact ⟨y, m + 1, hn, ld_1 G G2 F (by omega) (by omega) (by decide) (by have := mlJ_bd y (m + 1); omega)⟩
theorem kal_2 {y m d : Int} (hy : 1 ≤ y ∧ y ≤ 9900) (hm : 1 ≤ m ∧ m ≤ 12) (h1 : 1 ≤ d) (h2 : d ≤ mlI y m) : KalAt P 2 (toI y m d) y m d (mlI y m) := by
  have hb := mlI_bd y m
  refine KalAt.of (to := toI) rfl (fun e f => by unfold toI; omega) ⟨h1, h2, by omega, by omega⟩ (ll_2 G G2 F (by omega) hm) (fun e e1 e2 => ln_2 G G2 F (by omega) hm e1 e2) (fun e e1 e2 => ld_2 G G2 F (by omega) hm e1 e2) ?_
  have hn := isl_next (y := y) hm
  by_cases c : m = 12
  · rw [if_pos c] at hn
    exact ⟨y + 1, 1, hn, ld_2 G G2 F (by omega) (by decide) (by decide) (by have := mlI_bd (y + 1) 1; omega)⟩
  · rw [if_neg c] at hn
    exact ⟨y, m + 1, hn, ld_2 G G2 F (by omega) (by omega) (by decide) (by have := mlI_bd y (m + 1); omega)⟩
theorem kal_4 {y m d : Int} (hy : 1 ≤ y ∧ y ≤ 9890) (hm : 1 ≤ m ∧ m ≤ 12) (hm2 : m ≠ 1) (h1 : 1 ≤ d) (h2 : d ≤ mlD y m) : KalAt P 4 (toD y m d) y m d (mlD y m) := by
  have hb := mlD_bd y m
  refine KalAt.of (to := toD) rfl (fun e f => by unfold toD; omega) ⟨h1, h2, by omega, by omega⟩ (ll_4 G G2 F (by omega) hm (by omega)) (fun e e1 e2 => ln_4 G G2 F (by omega) hm e1 e2) (fun e e1 e2 => ld_4 G G2 F (by omega) hm e1 e2) ?_
  have hn := ind_next (y := y) hm
  by_cases c : m = 12
  · rw [if_pos c] at hn
    exact ⟨y + 1, 1, hn, ld_4 G G2 F (by omega) (by decide) (by decide) (by have := mlD_bd (y + 1) 1; omega)⟩
  · rw [if_neg c] at hn
    exact ⟨y, m + 1, hn, ld_4 G G2 F (by omega) (by omega) (by decide) (by have := mlD_bd y (m + 1); omega)⟩
end kals
end
section
def cellD (p n i : Nat) : D := if p ≤ i ∧ i < p + n then .int (i - p + 1 : Int) else .none
def rowC (p n j : Nat) : List D := (List.range 7).map fun c => cellD p n (7 * j + c)
theorem daysD_eq (p n : Nat) : daysD p n = (List.range (p + n + 7)).map (cellD p n) := by
  refine List.ext_getElem? fun i => ?_
  rw [List.getElem?_map]
  unfold daysD
  by_cases h1 : i < p
  · rw [List.getElem?_append_left (by simp; omega), List.getElem?_append_left (by simp; omega), List.getElem?_replicate, if_pos h1, List.getElem?_range (by omega)]
    simp [cellD, Nat.not_le.mpr h1]
  · by_cases h2 : i < p + n
    · rw [List.getElem?_append_left (by simp [rangeD]; omega), List.getElem?_append_right (by simp; omega), List.getElem?_range (by omega)]
      unfold rangeD
      rw [List.getElem?_map, List.length_replicate, List.getElem?_range (by omega)]
      simp only [Option.map_some, cellD]
      rw [if_pos (by omega)]
      congr 2
      omega
    · by_cases h3 : i < p + n + 7
      · rw [List.getElem?_append_right (by simp [rangeD]; omega), List.getElem?_range (by omega), List.getElem?_replicate, if_pos (by simp [rangeD]; omega)]
        simp only [Option.map_some, cellD]
        rw [if_neg (by omega)]
      · rw [List.getElem?_eq_none (by simp [rangeD]; omega), List.getElem?_eq_none (by simp; omega)]; rfl
theorem row_eq {p n j : Nat} (h : 7 * j ≤ p + n) : rowD_ p n j = rowC p n j := by
  unfold rowD_ rowC
  rw [daysD_eq]
  refine List.ext_getElem? fun i => ?_
  rw [List.getElem?_take, List.getElem?_map]
  by_cases c : i < 7
  · rw [if_pos c, List.getElem?_drop, List.getElem?_map, List.getElem?_range (by omega), List.getElem?_range c]; rfl
  · rw [if_neg c, List.getElem?_eq_none (by simp; omega)]; rfl
end
section
def keepNN : D → Option D | .none => none | d => some d
theorem nn_cells (p n t : Nat) : (List.range (p + n + t)).filterMap (fun i => keepNN (cellD p n i)) = rangeD 1 1 n := by
  rw [List.range_add, List.range_add, List.filterMap_append, List.filterMap_append]
  have e1 : (List.range p).filterMap (fun i => keepNN (cellD p n i)) = [] := by
    rw [List.filterMap_eq_nil_iff]
    intro i hi
    have := List.mem_range.mp hi
    unfold cellD; rw [if_neg (by omega)]; rfl
  have e3 : ((List.range t).map (p + n + ·)).filterMap (fun i => keepNN (cellD p n i)) = [] := by
    rw [List.filterMap_eq_nil_iff]
    intro i hi
    obtain ⟨j, _, rfl⟩ := List.mem_map.mp hi
    unfold cellD; rw [if_neg (by omega)]; rfl
  rw [e1, e3, List.nil_append, List.append_nil, List.filterMap_map]
  unfold rangeD
  have key : ∀ l : List Nat, (∀ i ∈ l, i < n) → l.filterMap ((fun i => keepNN (cellD p n i)) ∘ (p + ·)) = l.map fun i : Nat => D.int (1 + (i : Int) * 1) := by
    intro l
    induction l with
    | nil => intro _; rfl
    | cons i l ih =>
      intro h
      have hi := h i (by simp)
      have e : keepNN (cellD p n (p + i)) = some (D.int (1 + (i : Int) * 1)) := by
        unfold cellD
        rw [if_pos (by omega)]
        simp only [keepNN]
        congr 2
        push_cast
        omega
      rw [List.filterMap_cons, List.map_cons, ih fun j hj => h j (by simp [hj])]
      simp only [Function.comp, e]
  exact key _ fun i hi => List.mem_range.mp hi
end
section
theorem rows_flat {α : Type} (f : Nat → α) : ∀ R : Nat, (List.range R).flatMap (fun j => (List.range 7).map fun c => f (7 * j + c)) = (List.range (7 * R)).map f
  | 0 => rfl
  | R + 1 => by
    rw [List.range_succ (n := R), List.flatMap_append, rows_flat f R, show 7 * (R + 1) = 7 * R + 7 by omega, List.range_add, List.map_append, List.map_map]
    rfl
theorem row_int {p n j : Nat} (hp : p ≤ 6) (hn : 1 ≤ n) (h : 7 * j < p + n) : ∃ c : Nat, c < 7 ∧ ∃ i : Int, cellD p n (7 * j + c) = .int i := by
  by_cases h0 : j = 0
  · refine ⟨p, by omega, ((7 * j + p : Nat) : Int) - p + 1, ?_⟩
    · unfold cellD; rw [if_pos (by omega)]
  · refine ⟨0, by omega, ((7 * j + 0 : Nat) : Int) - p + 1, ?_⟩
    unfold cellD; rw [if_pos (by omega)]
end
section
theorem rows_eq (p n : Nat) (h : 0 < p + n) : leafD p n = (List.range (rowsN p n)).map fun j => D.lst (rowC p n j) := by
  unfold leafD
  refine List.map_congr_left fun j hj => ?_
  rw [row_eq (Nat.le_of_lt (rowsN_lt h (List.mem_range.mp hj)))]
end
section
open Sem (wp)
variable {P : PK} {k : Nat} {sc : Scope} {ρ : List (Str × D)}
theorem Ex1.forRange {x : Str} {px pos : Pos} {iter : Expr} {body : List Stmt} {a b c : Int} {n : Nat} {ρI : List (Str × D)} (h : EvRange P k sc ρ iter a b c) (ha : -10000 ≤ a ∧ a ≤ 10000) (hb : -10000 ≤ b ∧ b ≤ 10000) (hc : 1 ≤ c ∧ c ≤ 10000) (hn : Builtin.Range.rangeSize a b c = n) (hn1 : n ≤ 10000)
    (hx : sc.names.lookup x = some .cell) (hw : ∀ y e, ρI.lookup y = some e → ρ.lookup y = some e)
    (turn : ∀ i : Nat, i < n → ∃ ρ', (Ex P k sc ((x, .int (a + i * c)) :: ρI) body (.next ρ') ∨ Ex P k sc ((x, .int (a + i * c)) :: ρI) body (.cont ρ')) ∧ ∀ y e, ρI.lookup y = some e → ρ'.lookup y = some e)
    (hs : ∀ env x, foldedSetIterable iter env x = pure x := by intro _ _; rfl) : Ex1 P k sc ρ (.For (.Name x px) iter body [] pos) (.next ρI) :=
  .mk fun A env s rm ok S => wpAny_For (ev_seq S (h.run A env s rm ok S) fun v s₁ k₁ r₁ S₁ => by
    obtain ⟨r, t, u, w, rfl, hr⟩ := r₁
    refine wpAny_pyIter_range hr (range_small ha hb hc (by omega)) ?_
    obtain ⟨J, hJ⟩ : ∃ J, J = s₁.heap.objs.size := ⟨_, rfl⟩
    have hJn : s₁.heap.get? J = none := by rw [hJ]; exact get_size _
    rw [← hJ]
    generalize hh2 : s₁.heap.push { cls := .type "range_iterator", data := .fields #[rawInt a, rawInt (Builtin.Range.rangeSize a b c), rawInt c] } = h2
    have hJ2 : IsRangeIter h2 J a n c := by rw [← hh2, hJ, ← hn]; exact Heap.get?_push_size _ rfl
    have k2 : Keep s₁.heap h2 := by rw [← hh2]; exact keep_push _ _
    have S2 : St P env ρ { s₁ with heap := h2 } := S₁.keeps ⟨h2, s₁.toks, rfl, k2⟩ S₁.tp
    have hJo : ∀ s' : Shared, St P env ρ s' → True := fun _ _ => trivial
    have hJown : ¬ Own env J := fun own => by
      rcases own with q | ⟨z, hz⟩
      · obtain ⟨m', ⟨o, es, ep, ho, _⟩, _⟩ := S₁.F.ns
        rw [← q, hJn] at ho; cases ho
      · obtain ⟨⟨v, o, ho, _⟩, _⟩ := S₁.F.allcells z J hz
        rw [hJn] at ho; cases ho
    have hJB : P.B.get? J = none := by
      cases e : P.B.get? J with
      | none => rfl
      | some o => have := S₁.F.base _ _ e; rw [hJn] at this; cases this
    have chg : ∀ (ρ' : List (Str × D)) (s' : Shared) (h' : Heap) (tk : Nat) (y : Int) (z : Int), St P env ρ' s' → IsRangeIter s'.heap J y z c → Heap.ExtBut J s'.heap h' → 0 < tk → St P env ρ' { s' with heap := h', toks := tk } := by
      intro ρ' s' h' tk y z S' hi hs' htk
      have sk : SeqKeep s'.heap h' := fun b o xs n e q => hs' b o (fun g => by subst g; rw [hi] at e; cases e; cases q) e
      refine ⟨⟨fun q o e => hs' q o (fun g => by subst g; rw [hJB] at e; cases e) (S'.F.base q o e), ?_, S'.F.kinds, ?_, ?_, S'.F.apart, S'.F.fresh⟩, htk⟩
      · obtain ⟨m', h1, h2⟩ := S'.F.ns
        exact ⟨m', h1.at' fun o e => hs' _ o (fun g => hJown (.inl g.symm)) e, fun x d e q => let ⟨v, g1, g2⟩ := h2 x d e q; ⟨v, g1, g2.mono sk⟩⟩
      · intro x d e q
        obtain ⟨c', v, g1, g2, g3⟩ := S'.F.cells x d e q
        exact ⟨c', v, g1, let ⟨o, ho, hd⟩ := g2; ⟨o, hs' _ o (fun g => hJown (.inr ⟨x, g ▸ mem_of_lookup g1⟩)) ho, hd⟩, g3.mono sk⟩
      · intro x c' e
        obtain ⟨⟨v, g2⟩, h2⟩ := S'.F.allcells x c' e
        exact ⟨⟨v, let ⟨o, ho, hd⟩ := g2; ⟨o, hs' _ o (fun g => hJown (.inr ⟨x, g ▸ e⟩)) ho, hd⟩⟩, h2⟩
    refine codeAny_forLoop (fun mm s' => ∃ i : Nat, i ≤ n ∧ mm = n - i ∧ KeepB env s s' ∧ St P env ρI s' ∧ IsRangeIter s'.heap J (a + i * c) ((n : Int) - i) c) ?_ n ⟨0, Nat.zero_le _, rfl, (KeepB.of k₁).trans (KeepB.of ⟨h2, s₁.toks, rfl, k2⟩), S2.weak hw, by simpa using hJ2⟩
    rintro mm s' ⟨i, hi, rfl, kb, S', hit⟩
    by_cases hlt : i < n
    · refine wpAny_with_toks (n := 1) S'.tp (wpAny_pyNext_range_item hit (by omega) fun h' hit' hs' htk => ?_)
      have S3 : St P env ρI { s' with heap := h', toks := s'.toks + 1 } := chg ρI s' h' _ _ _ S' hit hs'.extBut (Nat.succ_pos _)
      have kb3 : KeepB env s { s' with heap := h', toks := s'.toks + 1 } := by
        obtain ⟨h0, tk0, rfl, k0⟩ := kb
        refine ⟨h', _, rfl, fun q o nq e => hs'.extBut q o (fun g => ?_) (k0 q o nq e)⟩
        subst g
        obtain ⟨h1', tk1, rfl, k1'⟩ := k₁
        have := k1' _ _ e; rw [hJn] at this; cases this
      refine ev_mono (storeT ok S3 (.inr ⟨hx, ok.cells _ hx⟩) (.int (a + i * c) _)) fun _ s4 h4 => ?_
      have hit4 : IsRangeIter s4.heap J (a + i * c + c) ((n : Int) - i - 1) c := by
        obtain ⟨⟨h5, tk5, rfl, k5⟩, _⟩ := h4
        exact k5 _ _ hJown hit'
      obtain ⟨ρ', hor, hw'⟩ := turn i hlt
      have fin : ∀ s5 : Shared, KeepB env s4 s5 → St P env ρ' s5 → ∃ m, m < n - i ∧ ∃ i' : Nat, i' ≤ n ∧ m = n - i' ∧ KeepB env s s5 ∧ St P env ρI s5 ∧ IsRangeIter s5.heap J (a + i' * c) ((n : Int) - i') c := by
        intro s5 kb5 S5
        refine ⟨n - (i + 1), by omega, i + 1, hlt, rfl, kb3.trans (h4.1.trans kb5), S5.weak hw', ?_⟩
        obtain ⟨h5, tk5, rfl, k5⟩ := kb5
        have := k5 _ _ hJown hit4
        have e1 : a + ((i + 1 : Nat) : Int) * c = a + i * c + c := by push_cast; rw [Int.add_mul]; omega
        have e2 : (n : Int) - ((i + 1 : Nat) : Int) = n - i - 1 := by push_cast; omega
        rw [e1, e2]; exact this
      rcases hor with hE | hE
      · refine ev_mono (hE.run A env s4 rm ok h4.2) fun fl s5 h5 => ?_
        obtain ⟨kb5, rfl, S5⟩ := h5
        exact fin s5 kb5 S5
      · refine ev_mono (hE.run A env s4 rm ok h4.2) fun fl s5 h5 => ?_
        obtain ⟨kb5, rfl, S5⟩ := h5
        exact fin s5 kb5 S5
    · refine wpAny_pyNext_range_end rm.hd hit (by omega) fun h' hs' => ?_
      refine wpAny_execs_nil ⟨?_, rfl, chg ρI s' h' s'.toks _ _ S' hit hs' S'.tp⟩
      obtain ⟨h0, tk0, rfl, k0⟩ := kb
      refine ⟨h', _, rfl, fun q o nq e => hs' q o (fun g => ?_) (k0 q o nq e)⟩
      subst g
      obtain ⟨h1', tk1, rfl, k1'⟩ := k₁
      have := k1' _ _ e; rw [hJn] at this; cases this) (hs env)
end
section
variable {P : PK} {k : Nat} {sc : Scope} {ρ : List (Str × D)}
def lawFor : Stmt := ((bodyAt 151)[4]?).getD default
def loopBody : List Stmt := match lawFor with | .For _ _ b _ _ => b | _ => []
def lst (i : Nat) : Stmt := (loopBody[i]?).getD default
section body
variable (G : Glb P) (G2 : Glb2 P) (F : Fns P)
include G G2 F
theorem body_first {κ N y m d : Int} {ρ0 : List (Str × D)} (hk : Has ρ0 "kind" (.int κ)) (hn : Has ρ0 "number" (.fx (2 * N + 1))) (hD : GF P 6 "_law_date" [.int κ, .fx (2 * N + 1)] (.tup [.int y, .int m, .int d])) :
    Ex1 P 7 (scAt 151) ρ0 (lst 0) (.next (("day", .int d) :: ("month", .int m) :: ("year", .int y) :: ρ0)) := by
  exact Ex1.tuple3C (Ev.gf (by walk_at "ea") (GF.le hD (by decide))) rfl rfl rfl
end body
end
section
variable {P : PK} {k : Nat} {sc : Scope} {ρ : List (Str × D)}
theorem cell_cases (p n i : Nat) : cellD p n i = .none ∨ ∃ e : Int, cellD p n i = .int e := by
  unfold cellD; split
  · exact .inr ⟨_, rfl⟩
  · exact .inl rfl
theorem row_mem {p n j : Nat} {e : D} (h : e ∈ rowC p n j) : e = .none ∨ ∃ i : Int, e = .int i := by
  unfold rowC at h
  obtain ⟨c, _, rfl⟩ := List.mem_map.mp h
  exact cell_cases p n _
def rowsL (p n R : Nat) : List D := (List.range R).map fun j => D.lst (rowC p n j)
theorem days_val (p n R : Nat) (h : p + n ≤ 7 * R) : ((List.range R).map fun j => (D.lst (rowC p n j), (rowC p n j).map fun e => (e, keepNN e))).flatMap (fun t => t.2.filterMap (·.2)) = rangeD 1 1 n := by
  have e1 : ∀ j, (((rowC p n j).map fun e => (e, keepNN e)).filterMap (·.2)) = (rowC p n j).filterMap keepNN := fun j => by rw [List.filterMap_map]; rfl
  rw [List.flatMap_map]
  simp only [e1]
  have e2 : (List.range R).flatMap (fun j => (rowC p n j).filterMap keepNN) = ((List.range R).flatMap fun j => rowC p n j).filterMap keepNN := by
    rw [List.filterMap_flatMap]
  rw [e2]
  unfold rowC
  rw [rows_flat, List.filterMap_map]
  have := nn_cells p n (7 * R - (p + n))
  rw [show p + n + (7 * R - (p + n)) = 7 * R by omega] at this
  exact this
theorem days_comp {p n R : Nat} {ρ : List (Str × D)} (hR : p + n ≤ 7 * R) (hR2 : R ≤ 100) (hn : n ≤ 100) (hr : Has ρ "rows" (.lst (rowsL p n R))) : Ex1 P 7 (scAt 151) ρ (lst 3) (.next (("days", .lst (rangeD 1 1 n)) :: ρ)) := by
  refine (Ex1.assign_comp (ds := rowsL p n R) (es := rangeD 1 1 n) (ρf := []) (CompOK.of rfl trivial) (ItEx.name (by walk_at "lk")) ?_)
  have e1 : rowsL p n R = ((List.range R).map fun j => (D.lst (rowC p n j), (rowC p n j).map fun e => (e, keepNN e))).map (·.1) := by unfold rowsL; rw [List.map_map]; rfl
  have e2 := days_val p n R hR
  rw [e1]
  rw [← e2]
  refine LoopOK.two rfl rfl rfl rfl (by decide) ?_ ?_ fun t ht => ?_
  · rw [e2]
    refine .inl fun e he => ?_
    unfold rangeD at he
    obtain ⟨i, _, rfl⟩ := List.mem_map.mp he
    trivial
  · rw [e2]; simp [rangeD]; omega
  · obtain ⟨j, _, rfl⟩ := List.mem_map.mp ht
    have e3 : ((rowC p n j).map fun e => (e, keepNN e)).map (·.1) = rowC p n j := by rw [List.map_map]; simp [Function.comp_def]
    refine ⟨by dsimp only; rw [e3]; exact ItEx.name rfl, fun t ht => ?_⟩
    obtain ⟨e, he, rfl⟩ := List.mem_map.mp ht
    rcases row_mem he with rfl | ⟨i, rfl⟩
    · exact Turn.no (Tst.one (EvT.cmp (by walk_at "ev") (by walk_at "ev") cmp_isnot_n))
    · exact Turn.yes (Tst.one (EvT.cmp (by walk_at "ev") (by walk_at "ev") cmp_isnot_i)) (by walk_at "ev")
end
section
variable {P : PK} {k : Nat} {sc : Scope} {ρ : List (Str × D)}
def ifTest : Stmt → Expr | .If t _ _ _ => t | _ => default
def orList : Expr → List Expr | .BoolOp _ es _ => es | _ => []
def t4 (i : Nat) : Expr := ((orList (ifTest ((loopBody[4]?).getD default)))[i]?).getD default
theorem rangeD_len (a c : Int) (n : Nat) : (rangeD a c n).length = n := by simp [rangeD]
theorem rangeD_scal {a c : Int} {n : Nat} {d : D} (h : d ∈ rangeD a c n) : scal d = true := by
  unfold rangeD at h
  obtain ⟨i, _, rfl⟩ := List.mem_map.mp h
  rfl
theorem rowsL_len (p n R : Nat) : (rowsL p n R).length = R := by simp [rowsL]
theorem rowC_len (p n j : Nat) : (rowC p n j).length = 7 := by simp [rowC]
theorem flat_one (m : Nat) (d : D) : (List.replicate m [d]).flatten = List.replicate m d := by
  induction m with
  | zero => rfl
  | succ m ih => rw [List.replicate_succ, List.flatten_cons, ih]; rfl
theorem rowC_get {p n j c : Nat} (h : c < 7) : (rowC p n j)[c]? = some (cellD p n (7 * j + c)) := by
  unfold rowC; rw [List.getElem?_map, List.getElem?_range h]; rfl
section body
variable (G2 : Glb2 P)
include G2
theorem t4a {n : Nat} {ρ : List (Str × D)} (hn : n ≤ 100) (hd : Has ρ "days" (.lst (rangeD 1 1 n))) : EvT P 7 (scAt 151) ρ (t4 0) false :=
  EvT.cmp (a := .lst (rangeD 1 1 n)) (b := .lst (rangeD 1 1 n)) (Ev.name hd) (Ev.list_range (n := n) G2.list (EvRange.r2 (a := 1) (b := n + 1) G2.range Ev.cint (Ev.cast (Ev.bin (Ev.len G2.len (Ev.name hd) (by rw [rangeD_len]; omega)) Ev.cint bin_add_ii) (by rw [rangeD_len]))) (by decide) (by omega) (by decide) (by rw [rangeSize_one]; split <;> omega) (by omega)) (cmp_ne_lst_same fun d h => rangeD_scal h)
theorem t4b {p n R : Nat} {ρ : List (Str × D)} (hR : R ≤ 100) (hr : Has ρ "rows" (.lst (rowsL p n R))) : EvT P 7 (scAt 151) ρ (t4 1) false := by
  have e1 : rowsL p n R = ((rowsL p n R).map fun d => (d, some (D.int 7))).map (·.1) := by rw [List.map_map]; simp [Function.comp_def]
  have e2 : ((rowsL p n R).map fun d => (d, some (D.int 7))).filterMap (·.2) = List.replicate R (D.int 7) := by
    rw [List.filterMap_map]
    unfold rowsL
    rw [List.filterMap_map]
    simp [Function.comp_def, List.map_const']
  refine EvT.cmp (a := .lst (List.replicate R (.int 7))) (b := .lst (List.replicate R (.int 7))) (Ev.comp (ds := rowsL p n R) (ρf := []) (CompOK.of rfl trivial) (ItEx.name hr) ?_) (Ev.cast (Ev.bin (Ev.list (EvA.cons Ev.cint EvA.nil) (by decide)) (Ev.len G2.len (Ev.name hr) (by rw [rowsL_len]; omega)) (bin_mul_lst (by omega) (by rw [rowsL_len]; omega) (by decide))) ?_) (cmp_ne_lst_same fun d h => by rw [(List.mem_replicate.mp h).2]; rfl)
  · rw [e1, ← e2]
    refine LoopOK.one rfl rfl ?_ ?_ fun t ht => ?_
    · rw [e2]; exact .inl fun e he => by rw [(List.mem_replicate.mp he).2]; trivial
    · rw [e2]; simp; omega
    · obtain ⟨d, hd, rfl⟩ := List.mem_map.mp ht
      unfold rowsL at hd
      obtain ⟨j, _, rfl⟩ := List.mem_map.mp hd
      exact Turn.yes Tst.nil (Ev.cast (Ev.len G2.len (Ev.name rfl) (by rw [rowC_len]; omega)) (by rw [rowC_len]; rfl))
  · rw [rowsL_len, flat_one]; rfl
omit G2
theorem rows_no_none {p n R j : Nat} (hp : p ≤ 6) (hn : 1 ≤ n) (h : 7 * j < p + n) : ∃ (i : Nat) (a b : D), (rowC p n j)[i]? = some a ∧ (List.replicate 7 D.none)[i]? = some b ∧ eqS a b = false := by
  obtain ⟨c, hc, i, hi⟩ := row_int hp hn h
  refine ⟨c, .int i, .none, by rw [rowC_get hc, hi], by rw [List.getElem?_replicate, if_pos hc], rfl⟩
theorem t4c {p n R : Nat} {ρ : List (Str × D)} (hp : p ≤ 6) (hn : 1 ≤ n) (hR : R ≤ 100) (hR2 : ∀ j, j < R → 7 * j < p + n) (hr : Has ρ "rows" (.lst (rowsL p n R))) : EvT P 7 (scAt 151) ρ (t4 2) false := by
  have e1 : rowsL p n R = ((rowsL p n R).map fun d => (d, (none : Option D))).map (·.1) := by rw [List.map_map]; simp [Function.comp_def]
  have e2 : ((rowsL p n R).map fun d => (d, (none : Option D))).filterMap (·.2) = [] := by
    rw [List.filterMap_map]; simp [Function.comp_def]
  refine EvT.cmp (a := .lst []) (b := .lst []) (Ev.comp (ds := rowsL p n R) (ρf := []) (CompOK.of rfl trivial) (ItEx.name hr) ?_) (Ev.list EvA.nil (by decide)) (cmp_ne_lst_same fun d h => nomatch h)
  rw [e1, ← e2]
  refine LoopOK.one rfl rfl ?_ ?_ fun t ht => ?_
  · rw [e2]; exact .inl fun e he => nomatch he
  · rw [e2]; simp
  · obtain ⟨d, hd, rfl⟩ := List.mem_map.mp ht
    unfold rowsL at hd
    obtain ⟨j, hj, rfl⟩ := List.mem_map.mp hd
    refine Turn.no (Tst.one (EvT.cmp (a := .lst (rowC p n j)) (b := .lst (List.replicate 7 .none)) (Ev.name rfl) (Ev.cast (Ev.bin (Ev.list (EvA.cons Ev.cnone EvA.nil) (by decide)) Ev.cint (bin_mul_lst (by decide) (by decide) (by decide))) ?_) (cmp_eq_lst_no ?_ ?_ ?_ (rows_no_none (R := R) hp hn (hR2 j (List.mem_range.mp hj))))))
    · rw [flat_one]; rfl
    · simp [rowC]
    · intro e he
      rcases row_mem he with rfl | ⟨i, rfl⟩ <;> exact ⟨rfl, rfl⟩
    · intro e he
      rw [(List.mem_replicate.mp he).2]; exact ⟨rfl, rfl⟩
include G2
theorem stmt4 {p n R : Nat} {ρ : List (Str × D)} (hp : p ≤ 6) (hn : 1 ≤ n) (hn2 : n ≤ 100) (hR : R ≤ 100) (hR2 : ∀ j, j < R → 7 * j < p + n) (hr : Has ρ "rows" (.lst (rowsL p n R))) (hd : Has ρ "days" (.lst (rangeD 1 1 n))) :
    Ex1 P 7 (scAt 151) ρ (lst 4) (.next ρ) :=
  (Ex1.if_f (EvT.bool (AllT.or_f (t4a G2 hn2 hd) (AllT.or_f (t4b G2 hR hr) (AllT.or_f (t4c hp hn hR hR2 hr) AllT.or_nil)))) Ex.nil)
end body
end
section
variable {P : PK} {k : Nat} {sc : Scope} {ρ : List (Str × D)}
def t5 : Expr := ifTest ((loopBody[5]?).getD default)
def t6 : Expr := ifTest ((loopBody[6]?).getD default)
def t7 : Expr := ifTest ((loopBody[7]?).getD default)
theorem fm_congr {α β : Type} {f g : α → Option β} : ∀ {l : List α}, (∀ a ∈ l, f a = g a) → l.filterMap f = l.filterMap g
  | [], _ => rfl
  | a :: l, h => by
    rw [List.filterMap_cons, List.filterMap_cons, h a (by simp), fm_congr (l := l) fun b hb => h b (List.mem_cons_of_mem _ hb)]
theorem filt_one {x : D} {i0 : Nat} : ∀ M : Nat, (List.range M).filterMap (fun i => if i = i0 then some x else none) = if i0 < M then [x] else []
  | 0 => by simp
  | M + 1 => by
    rw [List.range_succ, List.filterMap_append, filt_one M]
    by_cases h : i0 < M
    · rw [if_pos h, if_pos (by omega)]; simp; omega
    · by_cases h2 : M = i0
      · subst h2; simp
      · rw [if_neg h, if_neg (by omega)]; simp [h2]
theorem rows_filt {α : Type} (f : Nat → Option α) : ∀ R : Nat, (List.range R).flatMap (fun j => (List.range 7).filterMap fun c => f (7 * j + c)) = (List.range (7 * R)).filterMap f
  | 0 => rfl
  | R + 1 => by
    rw [List.range_succ (n := R), List.flatMap_append, rows_filt f R, show 7 * (R + 1) = 7 * R + 7 by omega, List.range_add, List.filterMap_append, List.filterMap_map]
    rw [List.flatMap_cons, List.flatMap_nil, List.append_nil]
    rfl
theorem cell_in {p n i : Nat} (h : p ≤ i ∧ i < p + n) : cellD p n i = .int ((i : Int) - p + 1) := by unfold cellD; rw [if_pos h]
theorem cell_out {p n i : Nat} (h : ¬ (p ≤ i ∧ i < p + n)) : cellD p n i = .none := by unfold cellD; rw [if_neg h]
def hits (i0 j : Nat) : List (D × Option D) := (List.range 7).map fun c : Nat => (D.int (0 + (c : Int) * 1), if 7 * j + c = i0 then some (D.int (0 + (c : Int) * 1)) else none)
theorem hits_val {i0 R : Nat} (h : i0 < 7 * R) (p n : Nat) : ((List.range R).map fun j => (D.lst (rowC p n j), hits i0 j)).flatMap (fun t => t.2.filterMap (·.2)) = [D.int ((i0 % 7 : Nat) : Int)] := by
  rw [List.flatMap_map]
  have e1 : ∀ j, (hits i0 j).filterMap (·.2) = (List.range 7).filterMap fun c => (fun i => if i = i0 then some (D.int ((i0 % 7 : Nat) : Int)) else none) (7 * j + c) := fun j => by
    unfold hits
    rw [List.filterMap_map]
    refine fm_congr fun c hc => ?_
    have hc7 := List.mem_range.mp hc
    simp only [Function.comp]
    by_cases g : 7 * j + c = i0
    · rw [if_pos g, if_pos g]
      have : i0 % 7 = c := by omega
      rw [this]; simp
    · rw [if_neg g, if_neg g]
  simp only [e1]
  rw [rows_filt (fun i => if i = i0 then some (D.int ((i0 % 7 : Nat) : Int)) else none) R, filt_one, if_pos h]
section body
variable (G2 : Glb2 P)
include G2
theorem stmt5 {p n R : Nat} {d : Int} {ρ : List (Str × D)} (hR : R ≤ 100) (hpn : p + n ≤ 7 * R) (h1 : 1 ≤ d) (h2 : d ≤ n) (hr : Has ρ "rows" (.lst (rowsL p n R))) (hd : Has ρ "day" (.int d)) (hc : Has ρ "column" (.int ((p + d - 1) % 7))) :
    Ex1 P 7 (scAt 151) ρ (lst 5) (.next ρ) := by
  obtain ⟨i0, hi0⟩ : ∃ i0 : Nat, (i0 : Int) = p + d - 1 := ⟨(p + d - 1).toNat, by omega⟩
  have e1 : rowsL p n R = ((List.range R).map fun j => (D.lst (rowC p n j), hits i0 j)).map (·.1) := by unfold rowsL; rw [List.map_map]; rfl
  have e2 := hits_val (i0 := i0) (R := R) (by omega) p n
  refine (Ex1.if_f (EvT.cmp (a := .lst [.int ((i0 % 7 : Nat) : Int)]) (b := .lst [.int ((i0 % 7 : Nat) : Int)]) (Ev.comp (ds := rowsL p n R) (ρf := [("day", .int d)]) (CompOK.of rfl ⟨hd, trivial⟩) (ItEx.name hr) ?_) (Ev.list (EvA.cons (Ev.cast (Ev.name hc) ?_) EvA.nil) (Nat.le_of_ble_eq_true rfl)) (cmp_ne_lst_same fun d h => by rw [List.mem_singleton.mp h]; rfl)) Ex.nil)
  · rw [e1, ← e2]
    refine LoopOK.two rfl rfl rfl rfl (by decide) ?_ ?_ fun t ht => ?_
    · rw [e2]; exact .inl fun e he => by rw [List.mem_singleton.mp he]; trivial
    · rw [e2]; simp
    · obtain ⟨j, hj, rfl⟩ := List.mem_map.mp ht
      have e3 : (hits i0 j).map (·.1) = rangeD 0 1 7 := by unfold hits rangeD; rw [List.map_map]; rfl
      refine ⟨by dsimp only; rw [e3]; exact ItEx.range (n := 7) (EvRange.r1 (b := 7) G2.range Ev.cint) (by decide) (by decide) (by decide) (by decide) (by decide), fun t ht => ?_⟩
      obtain ⟨c, hc, rfl⟩ := List.mem_map.mp ht
      have hc7 := List.mem_range.mp hc
      have hget : ∀ x, cellD p n (7 * j + c) = x → (rowC p n j)[(0 + (c : Int) * 1).toNat]? = some x := fun x hx => by rw [show (0 + (c : Int) * 1).toNat = c by omega, rowC_get hc7, hx]
      dsimp only
      by_cases g : 7 * j + c = i0
      · rw [if_pos g]
        exact Turn.yes (Tst.one (EvT.cast (EvT.cmp (Ev.sub_lst (Ev.name rfl) (Ev.name rfl) (by omega) (by omega) (hget _ (cell_in (by omega)))) (Ev.name rfl) cmp_eq_ii) (by simp; omega))) (Ev.name rfl)
      · rw [if_neg g]
        by_cases g2 : p ≤ 7 * j + c ∧ 7 * j + c < p + n
        · exact Turn.no (Tst.one (EvT.cast (EvT.cmp (Ev.sub_lst (Ev.name rfl) (Ev.name rfl) (by omega) (by omega) (hget _ (cell_in g2))) (Ev.name rfl) cmp_eq_ii) (by simp; omega)))
        · exact Turn.no (Tst.one (EvT.cmp (Ev.sub_lst (Ev.name rfl) (Ev.name rfl) (by omega) (by omega) (hget _ (cell_out g2))) (Ev.name rfl) cmp_eq_ni))
  · rw [← hi0]; exact congrArg D.int (by omega)
end body
end
section
variable {P : PK} {k : Nat} {sc : Scope} {ρ : List (Str × D)}
theorem day_at {K N d : Int} {j p C n : Nat} (h : p ≤ 7 * j + C ∧ 7 * j + C < p + n) : ∃ e : Int, e = ((7 * j + C : Nat) : Int) - p + 1 ∧ 1 ≤ e ∧ e ≤ n := ⟨_, rfl, by omega, by omega⟩
/-- the numbers of a column's days -/
def colv (p n C : Nat) (N d : Int) (j : Nat) : Option D := if p ≤ 7 * j + C ∧ 7 * j + C < p + n then some (.fx (2 * (N - d + (((7 * j + C : Nat) : Int) - p + 1)) + 1)) else none
def colts (p n C R : Nat) (N d : Int) : List (D × Option D) := (List.range R).map fun j => (D.lst (rowC p n j), colv p n C N d j)
theorem colts_fst (p n C R : Nat) (N d : Int) : (colts p n C R N d).map (·.1) = rowsL p n R := by unfold colts rowsL; rw [List.map_map]; rfl
theorem colts_mem {p n C R : Nat} {N d : Int} {e : D} (h : e ∈ (colts p n C R N d).filterMap (·.2)) : ∃ i, e = .fx i := by
  unfold colts at h
  rw [List.filterMap_map] at h
  obtain ⟨j, _, hj⟩ := List.mem_filterMap.mp h
  simp only [Function.comp, colv] at hj
  split at hj
  · cases hj; exact ⟨_, rfl⟩
  · cases hj
theorem colts_len (p n C R : Nat) (N d : Int) : ((colts p n C R N d).filterMap (·.2)).length ≤ R := by
  have := List.length_filterMap_le (fun t : D × Option D => t.2) (colts p n C R N d)
  have e : (colts p n C R N d).length = R := by unfold colts; simp
  omega
section body
variable (G2 : Glb2 P)
theorem stmt6 {κ N y m d : Int} {p n C R : Nat} {ρ : List (Str × D)} (K : KalAt P κ N y m d n) (hN : 2000000 ≤ N ∧ N ≤ 6000000) (hC : C < 7) (hR : R ≤ 100) (hr : Has ρ "rows" (.lst (rowsL p n R))) (hk : Has ρ "kind" (.int κ)) (hy : Has ρ "year" (.int y)) (hm : Has ρ "month" (.int m)) (hd : Has ρ "day" (.int d)) (hnu : Has ρ "number" (.fx (2 * N + 1))) (hc : Has ρ "column" (.int C)) :
    Ex1 P 7 (scAt 151) ρ (lst 6) (.next ρ) := by
  have hb := K.b
  have e1 := colts_fst p n C R N d
  have hget : ∀ j x, cellD p n (7 * j + C) = x → (rowC p n j)[(C : Int).toNat]? = some x := fun j x hx => by rw [show (C : Int).toNat = C by omega, rowC_get hC, hx]
  refine (Ex1.if_f (EvT.cmp (a := .lst ((colts p n C R N d).filterMap (·.2))) (b := .lst ((colts p n C R N d).filterMap (·.2))) (Ev.comp (ds := rowsL p n R) (ρf := [("column", .int C), ("kind", .int κ), ("month", .int m), ("year", .int y)]) (CompOK.of rfl ⟨hc, hk, hm, hy, trivial⟩) (ItEx.name hr) ?_)
    (Ev.comp (ds := rowsL p n R) (ρf := [("column", .int C), ("day", .int d), ("number", .fx (2 * N + 1))]) (CompOK.of rfl ⟨hc, hd, hnu, trivial⟩) (ItEx.name hr) ?_) (cmp_ne_lst_same fun d h => by obtain ⟨i, rfl⟩ := colts_mem h; rfl)) Ex.nil)
  · rw [← e1]
    refine LoopOK.one rfl rfl (.inl fun e he => by obtain ⟨i, rfl⟩ := colts_mem he; trivial) (by have := colts_len p n C R N d; omega) fun t ht => ?_
    unfold colts at ht
    obtain ⟨j, hj, rfl⟩ := List.mem_map.mp ht
    dsimp only [colv]
    by_cases g : p ≤ 7 * j + C ∧ 7 * j + C < p + n
    · rw [if_pos g]
      exact Turn.yes (Tst.one (EvT.cmp (Ev.sub_lst (Ev.name rfl) (Ev.name rfl) (by omega) (by omega) (hget j _ (cell_in g))) Ev.cnone cmp_isnot_i))
        (Ev.gf (EvA.cons (Ev.name rfl) (EvA.cons (Ev.name rfl) (EvA.cons (Ev.name rfl) (EvA.cons (Ev.sub_lst (Ev.name rfl) (Ev.name rfl) (by omega) (by omega) (hget j _ (cell_in g))) EvA.nil)))) (GF.le (K.U _ (by omega) (by omega)) (by decide)))
    · rw [if_neg g]
      exact Turn.no (Tst.one (EvT.cmp (Ev.sub_lst (Ev.name rfl) (Ev.name rfl) (by omega) (by omega) (hget j _ (cell_out g))) Ev.cnone cmp_isnot_n))
  · rw [← e1]
    refine LoopOK.one rfl rfl (.inl fun e he => by obtain ⟨i, rfl⟩ := colts_mem he; trivial) (by have := colts_len p n C R N d; omega) fun t ht => ?_
    unfold colts at ht
    obtain ⟨j, hj, rfl⟩ := List.mem_map.mp ht
    dsimp only [colv]
    by_cases g : p ≤ 7 * j + C ∧ 7 * j + C < p + n
    · rw [if_pos g]
      exact Turn.yes (Tst.one (EvT.cmp (Ev.sub_lst (Ev.name rfl) (Ev.name rfl) (by omega) (by omega) (hget j _ (cell_in g))) Ev.cnone cmp_isnot_i))
        (Ev.cast (Ev.bin (Ev.bin (Ev.name rfl) (Ev.sub_lst (Ev.name rfl) (Ev.name rfl) (by omega) (by omega) (hget j _ (cell_in g))) (bin_add_fi (by constructor <;> omega) (by constructor <;> omega))) (Ev.name rfl) (bin_sub_fi (by constructor <;> omega) (by constructor <;> omega))) (congrArg D.fx (by omega)))
    · rw [if_neg g]
      exact Turn.no (Tst.one (EvT.cmp (Ev.sub_lst (Ev.name rfl) (Ev.name rfl) (by omega) (by omega) (hget j _ (cell_out g))) Ev.cnone cmp_isnot_n))
include G2
theorem stmt7 {κ N y m d : Int} {n : Nat} {ρ : List (Str × D)} (K : KalAt P κ N y m d n) (hN : 2000000 ≤ N ∧ N ≤ 6000000) (hda : Has ρ "days" (.lst (rangeD 1 1 n))) (hk : Has ρ "kind" (.int κ)) (hd : Has ρ "day" (.int d)) (hnu : Has ρ "number" (.fx (2 * N + 1))) :
    Ex1 P 7 (scAt 151) ρ (lst 7) (.next ρ) := by
  have hb := K.b
  obtain ⟨y', m', hX⟩ := K.X
  have hlen : (rangeD 1 1 n).length = n := rangeD_len ..
  have len : ∀ p pos p2, Ev P 7 (scAt 151) ρ (.Call (.Name "len" p) [.Name "days" p2] [] pos) (.int n) := fun p pos p2 => Ev.cast (Ev.len G2.len (Ev.name hda) (by omega)) (by rw [hlen])
  refine (Ex1.if_f (EvT.bool (AllT.or_f (EvT.cast (EvT.cmp (a := .int 1) (Ev.sub_tup (Ev.gf (EvA.cons (Ev.name hk) (EvA.cons (Ev.cast (Ev.bin (Ev.bin (Ev.bin (Ev.name hnu) (len _ _ _) (bin_add_fi (by constructor <;> omega) (by constructor <;> omega))) (Ev.name hd) (bin_sub_fi (by constructor <;> omega) (by constructor <;> omega))) Ev.cint (bin_add_fi (by constructor <;> omega) (by constructor <;> omega))) (congrArg D.fx (by omega))) EvA.nil)) (GF.le hX (by decide))) Ev.cint (by decide) (by decide) rfl) Ev.cint cmp_ne_ii) (by simp))
    (AllT.or_f (EvT.cast (EvT.cmp (a := .int n) (Ev.sub_tup (Ev.gf (EvA.cons (Ev.name hk) (EvA.cons (Ev.cast (Ev.bin (Ev.bin (Ev.name hnu) (len _ _ _) (bin_add_fi (by constructor <;> omega) (by constructor <;> omega))) (Ev.name hd) (bin_sub_fi (by constructor <;> omega) (by constructor <;> omega))) (congrArg D.fx (by omega))) EvA.nil)) (GF.le K.Z (by decide))) Ev.cint (by decide) (by decide) rfl) (len _ _ _) cmp_ne_ii) (by simp)) AllT.or_nil))) Ex.nil)
end body
end
section
variable {P : PK} {k : Nat} {sc : Scope} {ρ : List (Str × D)}
abbrev Sub (ρI ρ' : List (Str × D)) : Prop := ∀ y e, ρI.lookup y = some e → ρ'.lookup y = some e
theorem sub_cons {ρI ρ' : List (Str × D)} {x : Str} {d : D} (hx : ρI.lookup x = none) (h : Sub ρI ρ') : Sub ρI ((x, d) :: ρ') := fun y e hy => by
  rw [lookup_cons]
  by_cases g : y = x
  · subst g; rw [hx] at hy; cases hy
  · rw [if_neg g]; exact h y e hy
section body
variable (G : Glb P) (G2 : Glb2 P) (F : Fns P)
include G G2 F
theorem body_cont {N y m d : Int} {ρ0 : List (Str × D)} (hk : Has ρ0 "kind" (.int 4)) (hn : Has ρ0 "number" (.fx (2 * N + 1))) (hm : m = 1) (hD : GF P 6 "_law_date" [.int 4, .fx (2 * N + 1)] (.tup [.int y, .int m, .int d])) :
    Ex P 7 (scAt 151) ρ0 loopBody (.cont (("day", .int d) :: ("month", .int m) :: ("year", .int y) :: ρ0)) := by
  refine Ex.cons (body_first G G2 F hk hn hD) ?_
  refine Ex.cont (Ex1.if_t (EvT.cast (EvT.bool (AllT.and_t (EvT.cast (EvT.cmp (Ev.name (by walk_at "lk")) Ev.cint cmp_eq_ii) (by decide)) (AllT.and_t (EvT.cast (EvT.cmp (Ev.name rfl) Ev.cint cmp_eq_ii) (by simp [hm])) AllT.and_nil))) rfl) (Ex.cont Ex1.continue))
theorem body_next {κ N y m d c : Int} {n : Nat} {ρ0 : List (Str × D)} (hk : Has ρ0 "kind" (.int κ)) (hn : Has ρ0 "number" (.fx (2 * N + 1))) (hc : Has ρ0 "column" (.int c)) (hc2 : c = ((N + 1) % 7 + 1) % 7) (hN : 2000000 ≤ N ∧ N ≤ 6000000) (hm : ¬ (κ = 4 ∧ m = 1)) (hD : GF P 6 "_law_date" [.int κ, .fx (2 * N + 1)] (.tup [.int y, .int m, .int d])) (K : KalAt P κ N y m d n) :
    ∃ rs ds, Ex P 7 (scAt 151) ρ0 loopBody (.next (("days", ds) :: ("rows", rs) :: ("day", .int d) :: ("month", .int m) :: ("year", .int y) :: ρ0)) := by
  have hb := K.b
  obtain ⟨p, hp⟩ : ∃ p : Nat, p = ((N - d + 1 + 1) % 7 + 1).toNat % 7 := ⟨_, rfl⟩
  have hL : leafOf (N - d + 1) n = rowsL p n (rowsN p n) := by
    unfold leafOf
    rw [show (((N - d + 1 + 1) % 7 + 1) % 7).toNat = p by omega, show (n : Int).toNat = n by omega, rows_eq p n (by omega)]; rfl
  have hL2 := K.L
  rw [hL] at hL2
  obtain ⟨C, hC⟩ : ∃ C : Nat, (C : Int) = c := ⟨c.toNat, by omega⟩
  have hpc : c = (p + d - 1) % 7 := by omega
  have hR : p + n ≤ 7 * rowsN p n := by unfold rowsN; omega
  have hR1 : rowsN p n ≤ 100 := by unfold rowsN; omega
  refine ⟨.lst (rowsL p n (rowsN p n)), .lst (rangeD 1 1 n), ?_⟩
  refine Ex.cons (body_first G G2 F hk hn hD) ?_
  refine Ex.cons (Ex1.if_f (EvT.bool (b := false) ?_) Ex.nil) ?_
  · by_cases g : κ = 4
    · exact AllT.and_t (EvT.cast (EvT.cmp (Ev.name (by walk_at "lk")) Ev.cint cmp_eq_ii) (by simp [g])) (AllT.and_f (EvT.cast (EvT.cmp (Ev.name rfl) Ev.cint cmp_eq_ii) (by simp; omega)))
    · exact AllT.and_f (EvT.cast (EvT.cmp (Ev.name (by walk_at "lk")) Ev.cint cmp_eq_ii) (by simp [g]))
  refine Ex.cons (Ex1.assign (Ev.gf (EvA.cons (Ev.name (by walk_at "lk")) (EvA.cons (Ev.name rfl) (EvA.cons (Ev.name rfl) EvA.nil))) (GF.le hL2 (by decide)))) ?_
  refine Ex.cons (days_comp hR hR1 (by omega) rfl) ?_
  refine Ex.cons (stmt4 (p := p) (R := rowsN p n) (n := n) G2 (by omega) (by omega) (by omega) hR1 (fun j hj => rowsN_lt (by omega) hj) rfl rfl) ?_
  refine Ex.cons (stmt5 (p := p) (R := rowsN p n) (n := n) (d := d) G2 hR1 hR hb.1 hb.2.1 rfl rfl (by rw [← hpc]; walk_at "lk")) ?_
  refine Ex.cons (stmt6 (C := C) (p := p) (R := rowsN p n) K hN (by omega) hR1 rfl (by walk_at "lk") rfl rfl rfl (by walk_at "lk") (by rw [hC]; walk_at "lk")) ?_
  exact Ex.cons (stmt7 G2 K hN rfl (by walk_at "lk") rfl (by walk_at "lk")) Ex.nil
end body
end
section
variable {P : PK} {k : Nat} {sc : Scope} {ρ : List (Str × D)}
abbrev Free (ρ : List (Str × D)) (x : Str) : Prop := ρ.lookup x = none
section body
variable (G : Glb P) (G2 : Glb2 P) (F : Fns P)
include G G2 F
theorem kind_ex {N : Int} (h0 : 2117599 ≤ N) (h1 : N ≤ 5317598) (i : Nat) (hi : i < 7) : ∃ y m d : Int, GF P 6 "_law_date" [.int (i : Int), .fx (2 * N + 1)] (.tup [.int y, .int m, .int d]) ∧ ((i = 4 ∧ m = 1) ∨ ∃ n : Nat, KalAt P i N y m d n) := by
  have nat : ∀ {κ N y m d n : Int}, 0 ≤ n → KalAt P κ N y m d n → ∃ n : Nat, KalAt P κ N y m d n := fun {κ N y m d n} h K => ⟨n.toNat, by rw [show (n.toNat : Int) = n by omega]; exact K⟩
  have c7 : i = 0 ∨ i = 1 ∨ i = 2 ∨ i = 3 ∨ i = 4 ∨ i = 5 ∨ i = 6 := by omega
  rcases c7 with rfl | rfl | rfl | rfl | rfl | rfl | rfl
  · obtain ⟨y, m, d, hy, hm, hd, hd2, hN⟩ := greg_exists (N := N) (by omega)
    have hy2 : y ≤ 9900 := by
      have f := mo_facts hm hd hd2
      have : N = 1721425 + ysG y + (moG y m d - 1) := by rw [hN]; unfold toG; omega
      have hys : ysG y = 365 * (y - 1) + (y - 1) / 4 - (y - 1) / 100 + (y - 1) / 400 := rfl
      obtain ⟨f1, _⟩ := f
      omega
    rw [hN]
    exact ⟨y, m, d, ld_0 G G2 F ⟨hy, by omega⟩ hm hd hd2, .inr (nat (by omega) (kal_0 G G2 F ⟨hy, hy2⟩ hm hd hd2))⟩
  · obtain ⟨y, m, d, hy, hm, hd, hd2, hN⟩ := julian_ex (N := N) (by omega) (by omega)
    rw [hN]
    exact ⟨y, m, d, ld_1 G G2 F ⟨hy.1, by omega⟩ hm hd hd2, .inr (nat (by omega) (kal_1 G G2 F hy hm hd hd2))⟩
  · obtain ⟨y, m, d, hy, hm, hd, hd2, hN⟩ := islamic_ex (N := N) (by omega) (by omega)
    rw [hN]
    exact ⟨y, m, d, ld_2 G G2 F ⟨hy.1, by omega⟩ hm hd hd2, .inr (nat (by omega) (kal_2 G G2 F hy hm hd hd2))⟩
  · obtain ⟨y, m, d, hy, hm, hd, hd2, hN⟩ := coptic_ex (N := N) (by omega) (by omega)
    rw [hN]
    exact ⟨y, m, d, ld_3 G G2 F ⟨hy.1, by omega⟩ hm hd hd2, .inr (nat (by omega) (kal_3 G G2 F hy hm hd hd2))⟩
  · obtain ⟨y, m, d, hy, hm, hd, hd2, hN⟩ := indian_ex (N := N) (by omega) (by omega)
    rw [hN]
    refine ⟨y, m, d, ld_4 G G2 F ⟨hy.1, by omega⟩ hm hd hd2, ?_⟩
    by_cases g : m = 1
    · exact .inl ⟨rfl, g⟩
    · exact .inr (nat (by omega) (kal_4 G G2 F hy hm g hd hd2))
  · obtain ⟨y, m, d, hy, hm, hd, hd2, hN⟩ := armN_ex (N := N) (by omega) (by omega)
    rw [hN]
    exact ⟨y, m, d, ld_5 G G2 F ⟨hy.1, by omega⟩ hm hd hd2, .inr (nat (by omega) (kal_5 G G2 F hy hm hd hd2))⟩
  · obtain ⟨y, m, d, hy, hm, hd, hd2, hN⟩ := armS_ex (N := N) (by omega) (by omega)
    rw [hN]
    exact ⟨y, m, d, ld_6 G G2 F ⟨hy.1, by omega⟩ hm hd hd2, .inr (nat (by omega) (kal_6 G G2 F hy hm hd hd2))⟩
theorem loop_c {N c : Int} {ρ ρI : List (Str × D)} (h0 : 2117599 ≤ N) (h1 : N ≤ 5317598) (hw : Sub ρI ρ) (hn : Has ρI "number" (.fx (2 * N + 1))) (hc : Has ρI "column" (.int c)) (hc2 : c = ((N + 1) % 7 + 1) % 7)
    (no : Free ρI "kind" ∧ Free ρI "year" ∧ Free ρI "month" ∧ Free ρI "day" ∧ Free ρI "rows" ∧ Free ρI "days") : Ex1 P 7 (scAt 151) ρ lawFor (.next ρI) := by
  refine Ex1.forRange (a := 0) (b := 7) (c := 1) (n := 7) (EvRange.r1 (b := 7) G2.range Ev.cint) (by decide) (by decide) (by decide) (by decide) (by decide) rfl hw fun i hi => ?_
  obtain ⟨y, m, d, hD, hK⟩ := kind_ex G G2 F h0 h1 i hi
  have e : (0 : Int) + (i : Int) * 1 = i := by omega
  rw [e]
  have s0 : Sub ρI (("day", .int d) :: ("month", .int m) :: ("year", .int y) :: ("kind", .int i) :: ρI) := sub_cons no.2.2.2.1 (sub_cons no.2.2.1 (sub_cons no.2.1 (sub_cons no.1 fun y e h => h)))
  have hn' : Has (("kind", .int (i : Int)) :: ρI) "number" (.fx (2 * N + 1)) := (lookup_cons_ne (by decide)).trans hn
  have hc' : Has (("kind", .int (i : Int)) :: ρI) "column" (.int c) := (lookup_cons_ne (by decide)).trans hc
  by_cases g : i = 4 ∧ m = 1
  · obtain ⟨rfl, g⟩ := g
    exact ⟨_, .inr (body_cont G G2 F rfl hn' g hD), s0⟩
  · rcases hK with hK | ⟨n, K⟩
    · exact absurd hK g
    · obtain ⟨rs, ds, hE⟩ := body_next G G2 F rfl hn' hc' hc2 (by omega) (by omega) hD K
      exact ⟨_, .inl hE, sub_cons no.2.2.2.2.2 (sub_cons no.2.2.2.2.1 s0)⟩
end body
end
section
variable {P : PK} {k : Nat} {sc : Scope} {ρ : List (Str × D)}
section iso
open PySem.Builtin._datetime PySem.Builtin.Time
theorem ord_eq' {y m d : Int} (hm : 1 ≤ m ∧ m ≤ 12) : toOrdinal y m d = toG y m d - 1721424 := by
  unfold toOrdinal toG ysG moG adjG
  rw [leap_isl]
  unfold timeDaysBefore
  rcases m12 hm with h | h | h | h | h | h | h | h | h | h | h | h <;> subst h <;> cases isl y <;> simp <;> omega
theorem monday_mod (y : Int) : isoWeek1Monday y % 7 = 1 := by
  unfold isoWeek1Monday weekdayOf
  generalize toOrdinal y 1 1 = f
  dsimp only
  split <;> omega
theorem iso_day {y m d : Int} (hm : 1 ≤ m ∧ m ≤ 12) : (isoCalendarOf y m d).2.2 = (toG y m d + 1) % 7 + 1 := by
  have h1 := monday_mod y
  have h2 := ord_eq' (y := y) (d := d) hm
  have e : (toOrdinal y m d - isoWeek1Monday y).fmod 7 = (toG y m d + 1) % 7 := by
    rw [Int.fmod_eq_emod_of_nonneg _ (by decide)]; omega
  unfold isoCalendarOf
  dsimp only
  rw [e]
  split
  · rfl
  · split <;> rfl
end iso
end
section
variable {P : PK} {k : Nat} {sc : Scope} {ρ : List (Str × D)}
def lawSt (i : Nat) : Stmt := ((bodyAt 151)[i]?).getD default
def q0 : List Int → Int | [] => 0 | a :: _ => a % 3200000
def q1 : List Int → Int | _ :: a :: _ => a % 7 - 3 | _ => 0
theorem q0_bd (S : List Int) : 0 ≤ q0 S ∧ q0 S < 3200000 := by unfold q0; split <;> omega
theorem q1_bd (S : List Int) : -3 ≤ q1 S ∧ q1 S ≤ 3 := by unfold q1; split <;> omega
def ifOf : Expr → Expr | .BinOp _ _ e _ => e | e => e
def valOf' : Stmt → Expr | .Assign _ e _ => e | _ => default
section law
variable (G : Glb P) (G2 : Glb2 P) (F : Fns P)
include G2
theorem q0_ev {S : List Int} {ρ : List (Str × D)} (hS : S.length ≤ 63) (hs : Has ρ "script" (.lst (S.map .int))) : Ev P 7 (scAt 151) ρ (ifOf (valOf' (lawSt 0))) (.int (q0 S)) := by
  cases S with
  | nil => exact Ev.ifexp_f (EvT.cast (EvT.cmp (Ev.len G2.len (Ev.name hs) (by simp)) Ev.cint cmp_gt_ii) (by simp)) Ev.cint
  | cons a r => exact Ev.ifexp_t (EvT.cast (EvT.cmp (Ev.len G2.len (Ev.name hs) (by simp at hS ⊢; omega)) Ev.cint cmp_gt_ii) (by simp)) (Ev.bin (Ev.sub_lst (Ev.name hs) Ev.cint (by decide) (by decide) rfl) Ev.cint (bin_mod_ii (by decide)))
theorem q1_ev {S : List Int} {ρ : List (Str × D)} (hS : S.length ≤ 63) (hs : Has ρ "script" (.lst (S.map .int))) : Ev P 7 (scAt 151) ρ (valOf' (lawSt 5)) (.int (q1 S)) := by
  match S, hS, hs with
  | [], hS, hs => exact Ev.ifexp_f (EvT.cast (EvT.cmp (Ev.len G2.len (Ev.name hs) (by simp)) Ev.cint cmp_gt_ii) (by simp)) Ev.cint
  | [a], hS, hs => exact Ev.ifexp_f (EvT.cast (EvT.cmp (Ev.len G2.len (Ev.name hs) (by simp)) Ev.cint cmp_gt_ii) (by simp)) Ev.cint
  | a :: b :: r, hS, hs => exact Ev.ifexp_t (EvT.cast (EvT.cmp (Ev.len G2.len (Ev.name hs) (by simp at hS ⊢; omega)) Ev.cint cmp_gt_ii) (by simp; omega)) (Ev.bin (Ev.bin (Ev.sub_lst (Ev.name hs) Ev.cint (by decide) (by decide) rfl) Ev.cint (bin_mod_ii (by decide))) Ev.cint bin_sub_ii)
omit G2
theorem bin_num {i : Int} (hi : 0 ≤ i ∧ i < 3200000) : BinR P .Add (.fl (4235199 * 2 ^ 24) (4235199 * 2 ^ 24)) (.int i) (.fx (4235199 + 2 * i)) := .mk fun A s v u rm _ tp r q => by
  cases r; cases q; rename_i x t hx tt
  exact add_fi_fits (fits_of (by omega)) ⟨keeps_tok s _, .fx tp ((hx.add (FlIs.ofInt (by omega)) (by omega) (by omega)).cast (by omega) (by omega))⟩
include G2
theorem stmt0_run {S : List Int} {A : Around} {env : Env} {s : Shared} (hS : S.length ≤ 63) (rm : Room 7 A) (ok : EnvOK env (scAt 151)) (Fr : Frm P.B env [("script", .lst (S.map .int))] s.heap) :
    wpAny (model P.prog P.w) A (exec (lawSt 0) env) (fun fl s' => KeepB env s s' ∧ fl = .next ∧ St P env [("number", .fx (2 * (2117599 + q0 S) + 1)), ("script", .lst (S.map .int))] s') NoE s := by
  refine wpAny_Assign_Name (wpAny_BinOp (PySem.AutoFloatOps.wpAny_Constant_float ?_)) rfl
  have S1 : St P env [("script", .lst (S.map .int))] { s with toks := s.toks + 1 } := ⟨Fr, Nat.succ_pos _⟩
  refine ev_seq S1 ((q0_ev G2 hS rfl).run A env _ rm ok S1) fun u s₂ k₂ r₂ S₂ => ?_
  refine ev_seq S₂ ((bin_num (q0_bd S)).run A s₂ _ u (rm.le (Nat.zero_le _)) S₂.F.base S₂.tp (.fl _ lit_num) r₂) fun y s₃ k₃ r₃ S₃ => ?_
  have e : (4235199 + 2 * q0 S : Int) = 2 * (2117599 + q0 S) + 1 := by omega
  rw [e] at r₃
  refine ev_mono (store ok S₃ (.inr ⟨rfl, ok.cells _ rfl⟩) r₃) fun _ s₄ h₄ => ⟨(KeepB.of (keeps_trans (keeps_tok s _) (keeps_trans k₂ k₃))).trans h₄.1, rfl, h₄.2⟩
include G F
theorem law_rest {S : List Int} (hS : S.length ≤ 63) : Ex P 7 (scAt 151) [("number", .fx (2 * (2117599 + q0 S) + 1)), ("script", .lst (S.map .int))] ((bodyAt 151).drop 1) (.ret (.bool true)) := by
  have b0 := q0_bd S
  have b1 := q1_bd S
  have hq1 := fun ρ => q1_ev (ρ := ρ) G2 hS
  generalize q1 S = e at *
  generalize hN : 2117599 + q0 S = N at *
  obtain ⟨y, m, d, hy, hm, hd, hd2, hg⟩ := greg_exists (N := N) (by omega)
  have hy2 : y ≤ 9999 := by
    have f := (mo_facts hm hd hd2).1
    have : N = 1721425 + ysG y + (moG y m d - 1) := by rw [hg]; unfold toG; omega
    have hys : ysG y = 365 * (y - 1) + (y - 1) / 4 - (y - 1) / 100 + (y - 1) / 400 := rfl
    omega
  have hiso := iso_c G G2 F.isl F.lg F.tg F.fg F.ig F.iso ⟨hy, hy2⟩ hm hd hd2
  rw [iso_day hm, ← hg] at hiso
  refine Ex.cons (Ex1.assign (d := .int ((N + 1) % 7)) (Ev.cast (Ev.gf (EvA.cons (Ev.name rfl) EvA.nil) (GF.le (jwday_c G F.jw (by omega) (by omega)) (by decide))) (congrArg D.int (by omega)))) ?_
  refine Ex.cons (Ex1.if_f (EvT.cast (EvT.cmp (Ev.name rfl) (Ev.bin (Ev.int G (Ev.bin (Ev.name rfl) (Ev.cfx lit_half) (bin_add_ff (by constructor <;> omega) (by constructor <;> omega))) (fn_int_x (by omega))) Ev.cint (bin_mod_ii (by decide))) cmp_ne_ii) (by simp; omega)) Ex.nil) ?_
  refine Ex.cons (Ex1.assignC (d := .int (((N + 1) % 7 + 1) % 7)) (Ev.bin (Ev.bin (Ev.name rfl) Ev.cint bin_add_ii) Ev.cint (bin_mod_ii (by decide)))) ?_
  refine Ex.cons (loop_c G G2 F (ρI := [("column", .int (((N + 1) % 7 + 1) % 7)), ("mine", .int ((N + 1) % 7)), ("number", .fx (2 * N + 1)), ("script", .lst (S.map .int))]) (by omega) (by omega) (fun _ _ h => h) rfl rfl rfl ⟨rfl, rfl, rfl, rfl, rfl, rfl⟩) ?_
  refine Ex.cons (Ex1.assign (d := .int e) (hq1 _ rfl)) ?_
  refine Ex.cons (Ex1.if_f (EvT.cmp (a := .tup [.fx (2 * N + 1 - 2 * 7), .fx (2 * N + 1 + 2 * 7), .fx (2 * N + 1)]) (b := .tup [.fx (2 * N + 1 - 2 * 7), .fx (2 * N + 1 + 2 * 7), .fx (2 * N + 1)])
    (Ev.tuple (EvA.cons (Ev.cast (Ev.gf (EvA.cons (Ev.name rfl) (EvA.cons (Ev.name rfl) EvA.nil)) (GF.le (prev_c G F.jw F.wb F.sw F.pw (by omega) (by omega) (by omega)) (by decide))) ?_)
      (EvA.cons (Ev.cast (Ev.gf (EvA.cons (Ev.name rfl) (EvA.cons (Ev.name rfl) EvA.nil)) (GF.le (next_c G F.jw F.wb F.sw F.xw (by omega) (by omega) (by omega)) (by decide))) ?_)
      (EvA.cons (Ev.cast (Ev.gf (EvA.cons (Ev.name rfl) (EvA.cons (Ev.bin (Ev.name rfl) (Ev.name rfl) (bin_add_fi (by constructor <;> omega) (by constructor <;> omega))) EvA.nil)) (GF.le (near_c G F.jw F.wb F.sw F.nw (by omega) (by omega) (by omega)) (by decide))) ?_) EvA.nil))) (Nat.le_of_ble_eq_true rfl))
    (Ev.tuple (EvA.cons (Ev.bin (Ev.name rfl) Ev.cint (bin_sub_fi (by constructor <;> omega) (by decide))) (EvA.cons (Ev.bin (Ev.name rfl) Ev.cint (bin_add_fi (by constructor <;> omega) (by decide))) (EvA.cons (Ev.name rfl) EvA.nil))) (Nat.le_of_ble_eq_true rfl))
    (cmp_ne_tup_same fun d h => by simp at h; rcases h with rfl | rfl | rfl <;> rfl)) Ex.nil) ?_
  · unfold wbf; exact congrArg D.fx (by omega)
  · unfold wbf; exact congrArg D.fx (by omega)
  · unfold wbf; exact congrArg D.fx (by omega)
  · exact Ex.ret (Ex1.return (Ev.cast (Ev.cmp (Ev.sub_iso (Ev.gf (EvA.cons (Ev.name rfl) EvA.nil) (GF.le hiso (by decide))) Ev.cint (by decide) (by decide) rfl) (Ev.bin (Ev.name rfl) Ev.cint bin_add_ii) cmp_eq_ii) (by simp)))
end law
end
section
variable {P : PK} {k : Nat} {sc : Scope} {ρ : List (Str × D)}
/-- a function with cells of its own, where no token need be told yet -/
theorem call_introC {a : Addr} {o : Obj} {fd : FuncData} {body : List Stmt} {ds : List D} {names : List Str} {d : D}
    (ho : P.B.get? a = some o) (hd : o.data = .func fd) (hcd : P.B.CodeRec fd.code fd.qualname) (hbody : fd.body = .stmts body) (hsc : fd.scope = sc) (hg : fd.globals = mainGlobals) (hb : fd.builtins = builtinsNs) (hcl : fd.closure = [])
    (hk : sc.kind = .function) (hco : sc.isCoroutine = false) (hgen : sc.isGenerator = false) (hcs : ∀ L x c, (x, c) ∈ cellsFrom L sc.names [] → (cellsFrom L sc.names []).lookup x = some c) (hnd : names.Nodup) (hloc : ∀ x ∈ names, sc.names.lookup x = some .local)
    (hlen : names.length = ds.length) (hcells : ∀ L x, sc.names.lookup x = some .cell → ∃ c, (cellsFrom L sc.names []).lookup x = some c)
    (hbind : ∀ (vs : List Value), vs.length = ds.length → bindArgs fd ⟨vs, []⟩ = pure (names.zip vs))
    (h : ∀ (A : Around) (env : Env) (s : Shared), Room k A → EnvOK env sc → Frm P.B env (names.zip ds) s.heap → wpAny (model P.prog P.w) A (execs body env) (fun fl s' => KeepB env s s' ∧ OutOK P env (.ret d) fl s') NoE s)
    (A : Around) (s : Shared) (vs : List Value) (rm : Room (k + 1) A) (B : Keep P.B s.heap) (r : RepAll s.heap ds vs) : wpAny (model P.prog P.w) A (call (.ref a) vs) (PostE d s) NoE s := by
  subst hsc
  refine wpAny_call ?_
  have hzip : (names.zip vs).map (·.1) = names := by rw [← List.unzip_fst, List.unzip_zip (by rw [hlen, r.1])]
  refine codeAny_call_function (by have := rm.dp; omega) (B _ _ ho) hd hco hgen hbody (hcd.keeps B) ?_
  rw [hbind vs r.1, hcl]
  refine wpAny_pure (wpAny_newFunctionEnv_cells hk (fun x hx => .inl (hloc _ (List.of_mem_zip hx).1)) fun env he s₁ IC => ?_)
  have he' : env = callEnvC fd s.heap.objs.size a := he
  clear he
  subst he'
  refine ⟨(P.nl.keeps B).keeps IC.toInCall.keep, codeAny_func ?_⟩
  have ok : EnvOK (callEnvC fd s.heap.objs.size a) fd.scope := ⟨rfl, hk, hg, hb, fun x hx => hcells _ x hx⟩
  have hfr : ∀ b, s.heap.objs.size ≤ b → P.B.get? b = none := fun b hb => by
    cases e : P.B.get? b with
    | none => rfl
    | some o => exact absurd (Heap.lt_size (B _ _ e)) (Nat.not_lt.mpr hb)
  have hks : ∀ y, (callEnvC fd s.heap.objs.size a).kindOf y = fd.scope.names.lookup y := fun y => rfl
  obtain ⟨h₁, tk₁, hs₁⟩ := IC.toInCall.same
  have kp := IC.toInCall.keep
  have hcel : (callEnvC fd s.heap.objs.size a).cells = cellsFrom (s.heap.objs.size + 1) fd.scope.names [] := rfl
  have S : Frm P.B (callEnvC fd s.heap.objs.size a) (names.zip ds) s₁.heap := by
    refine ⟨B.trans kp, ⟨_, IC.toInCall.ns, fun x e hx _ => ?_⟩, fun x e hx => .inl ?_, fun x e hx hkc => ?_, fun x c hc => ?_, IC.apart, hfr _ (Nat.le_refl _)⟩
    · rw [bindL_lookup _ _ (by rw [hzip]; exact hnd) (fun y hy => by rw [hks]; exact hloc _ (List.of_mem_zip hy).1)]
      obtain ⟨v, h1, h2⟩ := zip_lookup (h := s.heap) names ds vs r x e hx
      exact ⟨v, by rw [h1]; rfl, h2.mono (Keep.seq kp)⟩
    · exact hloc _ (List.of_mem_zip (mem_of_lookup hx)).1
    · have h1 : fd.scope.names.lookup x = some .local := hloc _ (List.of_mem_zip (mem_of_lookup hx)).1
      rw [hks, h1] at hkc; cases hkc
    · refine ⟨⟨_, IC.cell x c (hcs _ x c hc)⟩, hfr c (Nat.le_of_lt (IC.above x c hc))⟩
  refine ev_mono (h _ _ s₁ rm.deeper ok S) fun fl s' h' => ?_
  obtain ⟨⟨h'', tk, rfl, kb⟩, v, rfl, rv⟩ := h'
  subst hs₁
  refine ⟨⟨h'', tk, rfl, fun b o e => kb b o (fun own => ?_) (kp b o e)⟩, rv⟩
  rcases own with q | ⟨x, hx⟩
  · have : b = s.heap.objs.size := q
    rw [this] at e
    exact absurd (Heap.lt_size e) (Nat.lt_irrefl _)
  · exact absurd (Heap.lt_size e) (Nat.not_lt.mpr (Nat.le_of_lt (IC.above x b hx)))
theorem cells151 (L : Addr) : cellsFrom L (scAt 151).names [] = [(("day" : Str), L + 1 + 1 + 1 + 1 + 1), (("month" : Str), L + 1 + 1 + 1 + 1), (("year" : Str), L + 1 + 1 + 1), (("kind" : Str), L + 1 + 1), (("column" : Str), L + 1), (("number" : Str), L)] := rfl
section law
variable (G : Glb P) (G2 : Glb2 P) (F : Fns P)
include G G2 F
theorem law_run (hl : FnAtC P "law" 151 ["script"]) {S : List Int} (hS : S.length ≤ 63) : ∃ a, P.mg "law" = some (.ref a) ∧ ∀ (A : Around) (s : Shared) (vs : List Value), Room 8 A → Keep P.B s.heap → RepAll s.heap [.lst (S.map .int)] vs → wpAny (model P.prog P.w) A (call (.ref a) vs) (PostE (.bool true) s) NoE s := by
  obtain ⟨a, o, fd, hmg, ho, hd, hcd, hbody, hsc, hg, hb, hcl, hbind⟩ := hl.ex
  refine ⟨a, hmg, fun A s vs rm B r => ?_⟩
  refine call_introC (k := 7) (names := ["script"]) ho hd hcd hbody hsc hg hb hcl rfl rfl rfl (fun L x c hm => ?_) (by decide) (fun x hx => by rw [List.mem_singleton.mp hx]; rfl) rfl (fun L x hx => ?_) hbind (fun A env s rm ok Fr => ?_) A s vs rm B r
  · rw [cells151] at hm ⊢
    simp only [List.mem_cons, Prod.mk.injEq, List.not_mem_nil, or_false] at hm
    rcases hm with ⟨rfl, rfl⟩ | ⟨rfl, rfl⟩ | ⟨rfl, rfl⟩ | ⟨rfl, rfl⟩ | ⟨rfl, rfl⟩ | ⟨rfl, rfl⟩ <;> rfl
  · have hm := mem_of_lookup hx
    have e3 : ((scAt 151).names.filter fun y => y.2 == .cell) = [(("number" : Str), NameKind.cell), ("column", .cell), ("kind", .cell), ("year", .cell), ("month", .cell), ("day", .cell)] := rfl
    have hm2 : (x, NameKind.cell) ∈ (scAt 151).names.filter fun y => y.2 == .cell := List.mem_filter.mpr ⟨hm, rfl⟩
    rw [e3] at hm2
    rw [cells151]
    simp only [List.mem_cons, Prod.mk.injEq, List.not_mem_nil, or_false, and_true] at hm2
    rcases hm2 with rfl | rfl | rfl | rfl | rfl | rfl <;> exact ⟨_, rfl⟩
  · show wpAny _ A (execs (lawSt 0 :: (bodyAt 151).drop 1) env) _ _ s
    refine execs_cons_wp (ev_mono (stmt0_run G2 hS rm ok Fr) fun fl s₁ h₁ => ?_)
    obtain ⟨k₁, rfl, S₁⟩ := h₁
    exact ev_mono ((law_rest G G2 F hS).run A env s₁ rm ok S₁) fun fl s₂ h₂ => ⟨k₁.trans h₂.1, h₂.2⟩
end law
end
section
variable {P : PK} {k : Nat} {sc : Scope} {ρ : List (Str × D)}
theorem own_int : fastBuiltinOwn "int" "__eq__" = some (.builtin "int.__eq__") := by kernel_rfl
theorem len1 {vs : List Value} (h : vs.length = 1) : ∃ a, vs = [a] := by
  match vs, h with | [a], _ => exact ⟨a, rfl⟩
theorem len2 {vs : List Value} (h : vs.length = 2) : ∃ a b, vs = [a, b] := by
  match vs, h with | [a, b], _ => exact ⟨a, b, rfl⟩
theorem len3 {vs : List Value} (h : vs.length = 3) : ∃ a b c, vs = [a, b, c] := by
  match vs, h with | [a, b, c], _ => exact ⟨a, b, c, rfl⟩
theorem len4 {vs : List Value} (h : vs.length = 4) : ∃ a b c d, vs = [a, b, c, d] := by
  match vs, h with | [a, b, c, d], _ => exact ⟨a, b, c, d, rfl⟩
section lk
variable {K : Frag}
theorem dfl_none {v : Value} (h : dfl K v = some none) : v = .none := by
  unfold dfl at h
  split at h
  · rfl
  · split at h <;> cases h
  · cases h
theorem dfl_seq {v : Value} {ds : List Value} (h : dfl K v = some (some ds)) : ∃ T o n, v = .ref T ∧ K.lookup T = some o ∧ o.data = .seq ds.toArray n := by
  unfold dfl at h
  split at h
  · cases h
  · split at h
    · rename_i e; cases h; exact ⟨_, _, _, rfl, e, rfl⟩
    · cases h
  · cases h
theorem bind_no {s : Shared} {f : FuncData} {A : Arguments} {vs : List Value} {r : List (Str × Value)} (hp : f.params = A) (hd : dfl K f.defaults = some none)
    (h : ∀ name qual body sc g cl kd doc pm an cd ct bu, bindArgs ⟨name, qual, A, body, sc, g, cl, .none, kd, doc, pm, an, cd, ct, bu⟩ ⟨vs, []⟩ = pure r) : BindsTo s f ⟨vs, []⟩ r := by
  have hd' := dfl_none hd
  obtain ⟨name, qual, params, body, sc, g, cl, df, kd, doc, pm, an, cd, ct, bu⟩ := f
  simp only at hp hd'
  subst hp; subst hd'
  exact BindsTo.of_eq (h ..)
theorem bind_df {s : Shared} {f : FuncData} {A : Arguments} {vs ds : List Value} {r : List (Str × Value)} (X : K.In s.heap) (hp : f.params = A) (hd : dfl K f.defaults = some (some ds))
    (h : ∀ name qual body sc g cl kd doc pm an cd ct bu T, ∃ k : Option (Array Value) → Sem (List (Str × Value)), bindArgs ⟨name, qual, A, body, sc, g, cl, .ref T, kd, doc, pm, an, cd, ct, bu⟩ ⟨vs, []⟩ = seqItems? (.ref T) >>= k ∧ k (some ds.toArray) = pure r) : BindsTo s f ⟨vs, []⟩ r := by
  obtain ⟨T, o, n, hT, ho, hs⟩ := dfl_seq hd
  obtain ⟨name, qual, params, body, sc, g, cl, df, kd, doc, pm, an, cd, ct, bu⟩ := f
  simp only at hp hT
  subst hp; subst hT
  obtain ⟨k, h1, h2⟩ := h name qual body sc g cl kd doc pm an cd ct bu T
  exact binds_K X rfl ho hs h1 h2
theorem c_val {x : Str} {v : Value} (h : cLk K x = some (some v, none)) : nsIn K mainGlobals x = some (some v) := by
  unfold cLk at h
  split at h
  · cases h
  · split at h <;> cases h
  · rename_i v' e' e; cases h; first | exact e' | exact e
  · cases h
theorem c_abs {x : Str} (h : cLk K x = some (none, none)) : nsIn K mainGlobals x = some none := by
  unfold cLk at h
  split at h
  · rename_i e; exact e
  · split at h <;> cases h
  · cases h
  · cases h
theorem c_seq {x : Str} {a : Addr} {c : Value} {xs : List Value} (h : cLk K x = some (some (.ref a), some (c, xs))) : nsIn K mainGlobals x = some (some (.ref a)) ∧ ∃ o n, K.lookup a = some o ∧ o.cls = c ∧ o.data = .seq xs.toArray n := by
  unfold cLk at h
  split at h
  · cases h
  · rename_i e
    split at h
    · rename_i e2; cases h; exact ⟨e, _, _, e2, rfl, rfl⟩
    · cases h
  · cases h
  · cases h
variable (X : K.In P.B) (T : P.B.Ns mainGlobals P.mg)
include X T
theorem gd_int {x : Str} {i : Int} {t : Tok} (h : cLk K x = some (some (.int i t), none)) : GD P x (.int i) := ⟨_, mg_of X T (c_val h), .int ..⟩
theorem gd_fx {x : Str} {b : UInt64} {n : Int} {t : Tok} (h : cLk K x = some (some (.float b t), none)) (ht : 0 < t) (hb : FlIs b (n * 2 ^ 24) (n * 2 ^ 24)) : GD P x (.fx n) := ⟨_, mg_of X T (c_val h), .fx ht hb⟩
theorem mgv {x : Str} {v : Value} (h : cLk K x = some (some v, none)) : P.mg x = some v := mg_of X T (c_val h)
theorem mgn {x : Str} (h : cLk K x = some (none, none)) : P.mg x = none := mg_none_of X T (c_abs h)
theorem gd_tup {x : Str} {a : Addr} {xs : List Value} {ds : List D} (h : cLk K x = some (some (.ref a), some (.type "tuple", xs))) (hr : RepAll P.B ds xs) : GD P x (.tup ds) := by
  obtain ⟨h1, o, n, h2, h3, h4⟩ := c_seq h
  exact ⟨_, mg_of X T h1, .tup ⟨o, X _ _ h2, h3, n, h4⟩ hr.1 hr.2⟩
theorem gd_lst {x : Str} {a : Addr} {xs : List Value} {ds : List D} (h : cLk K x = some (some (.ref a), some (.type "list", xs))) (hr : RepAll P.B ds xs) : GD P x (.lst ds) := by
  obtain ⟨h1, o, n, h2, h3, h4⟩ := c_seq h
  exact ⟨_, mg_of X T h1, .lst ⟨o, X _ _ h2, h3, n, h4⟩ hr.1 hr.2⟩
theorem dys_of {x : Str} {a : Addr} {xs : List Value} (h : cLk K x = some (some (.ref a), some (.type "tuple", xs))) (hl : xs.length = 7) : ∃ vs : List Value, vs.length = 7 ∧ GD P x (.tup (vs.map .val)) := by
  obtain ⟨h1, o, n, h2, h3, h4⟩ := c_seq h
  refine ⟨xs, hl, _, mg_of X T h1, .tup ⟨o, X _ _ h2, h3, n, h4⟩ (by simp) fun i d v e1 e2 => ?_⟩
  rw [List.getElem?_map, e2] at e1
  cases e1
  exact .val _
theorem fn_lk {x : Str} {i : Nat} {d : Option (List Value)} (h : fnLk K x = some (fv i d)) : ∃ a o f, P.mg x = some (.ref a) ∧ P.B.get? a = some o ∧ o.data = .func f ∧ P.B.CodeRec f.code f.qualname ∧ f.body = .stmts (bodyAt i) ∧ f.scope = scAt i ∧
    f.globals = mainGlobals ∧ f.builtins = builtinsNs ∧ f.closure = [] ∧ f.params = argsAt i ∧ dfl K f.defaults = some d := by
  unfold fnLk at h
  split at h
  · rename_i a e
    split at h
    · rename_i c dd f sl e2
      have h' := Option.some.inj h
      unfold fv at h'
      simp only [Prod.mk.injEq] at h'
      obtain ⟨h1, h2, h3, h4, h5, h6, h7, h8⟩ := h'
      exact ⟨a, _, f, mg_of X T e, X _ _ e2, rfl, codeRec_of X h8, h1, h2, h4, h5, h6, h3, h7⟩
    · cases h
  · cases h
theorem fnAt_lk {x : Str} {i m : Nat} {names : List Str} {es : List D} {us : List Value} {d : Option (List Value)} (h : fnLk K x = some (fv i d)) (hes : RepAll P.B es us)
    (hbind : ∀ (f : FuncData) (s : Shared) (vs : List Value), K.In s.heap → f.params = argsAt i → dfl K f.defaults = some d → vs.length = m → BindsTo s f ⟨vs, []⟩ (names.zip (vs ++ us))) : FnAt P x i names m es := by
  obtain ⟨a, o, f, h1, h2, h3, h4, h5, h6, h7, h8, h9, h10, h11⟩ := fn_lk X T h
  exact ⟨a, o, f, us, h1, h2, h3, h4, h5, h6, h7, h8, h9, hes, fun s vs k hv => hbind f s vs (X.keeps k) h10 h11 hv⟩
theorem fnAtC_lk {x : Str} {i : Nat} {names : List Str} (h : fnLk K x = some (fv i none))
    (hbind : ∀ (vs : List Value), vs.length = names.length → ∀ name qual body sc g cl kd doc pm an cd ct bu, bindArgs ⟨name, qual, argsAt i, body, sc, g, cl, .none, kd, doc, pm, an, cd, ct, bu⟩ ⟨vs, []⟩ = pure (names.zip vs)) : FnAtC P x i names := by
  obtain ⟨a, o, f, h1, h2, h3, h4, h5, h6, h7, h8, h9, h10, h11⟩ := fn_lk X T h
  refine ⟨a, o, f, h1, h2, h3, h4, h5, h6, h7, h8, h9, fun vs hv => ?_⟩
  have hd' := dfl_none h11
  clear h3 h4 h5 h6 h7 h8 h9 h11
  obtain ⟨name, qual, params, body, sc, g, cl, df, kd, doc, pm, an, cd, ct, bu⟩ := f
  simp only at h10 hd'
  subst h10; subst hd'
  exact hbind vs hv ..
theorem feb_lk {x : Str} {C : Addr} {j : Int} (h : febLk K x = some (C, j, [.ref C, .type "int", .type "object"], some none)) : ∃ a, P.mg x = some (.ref a) ∧ SubInt P a j := by
  unfold febLk at h
  split at h
  · rename_i a e
    split at h
    · rename_i C' dd j' t sl e2
      split at h
      · rename_i c3 d3 cd sl3 e3
        simp only [Option.some.injEq, Prod.mk.injEq] at h
        obtain ⟨rfl, rfl, h3, h4⟩ := h
        refine ⟨a, mg_of X T e, C', _, t, X _ _ e2, rfl, rfl, looks_mroIn X ?_, looks_findIn X ?_⟩
        · unfold mroIn clsIn
          rw [e3]
          show (if cd.mro.isEmpty = true then none else some (cd.mro.contains (.type "int"))) = some true
          rw [h3]; rfl
        · show (match K.lookup C' with | some ⟨_, _, .cls cd, _⟩ => alongIn K "__eq__" cd.mro | _ => none) = _
          rw [e3]
          show alongIn K "__eq__" cd.mro = _
          rw [h3]
          have e4 : ownIn K "__eq__" (.ref C') = some none := by
            show (match K.lookup C' with | some ⟨_, _, .cls cd, _⟩ => nsIn K cd.ns "__eq__" | _ => none) = _
            rw [e3]; exact h4
          have e5 : ownIn K "__eq__" (.type "int") = some (some (.builtin "int.__eq__")) := congrArg some own_int
          unfold alongIn
          rw [e4]
          show alongIn K "__eq__" [.type "int", .type "object"] = _
          unfold alongIn
          rw [e5]
      · cases h
    · cases h
  · cases h
end lk
theorem rep_ints {h : Heap} {vs : List Value} {ns : List Int} (hI : IntsAre vs ns) : RepAll h (ns.map .int) vs := by
  induction hI with
  | nil => exact .nil
  | cons n t _ ih => exact .cons (.int ..) ih
theorem script_rep {h : Heap} {a : Addr} {vs : List Value} {ns : List Int} (hL : h.IsList a vs.toArray) (hI : IntsAre vs ns) : RepAll h [.lst (ns.map .int)] [.ref a] := by
  have r := rep_ints (h := h) hI
  exact .cons (.lst hL r.1 r.2) .nil
theorem post_ok (S : List WData) : PySem.Challenge.rw_ak5022_01.row.claim.post S (.bool true) S = true := by kernel_rfl
end
section
variable {P : PK} {k : Nat} {sc : Scope} {ρ : List (Str × D)}
section join
variable {K : Frag} (X : K.In P.B) (T : P.B.Ns mainGlobals P.mg)
include X T
theorem glb_j (hc : ∀ p ∈ cTab, cLk K p.1 = p.2) : Glb P := ⟨mgv X T (hc _ (List.mem_of_getElem? (i := 0) rfl)), mgv X T (hc _ (List.mem_of_getElem? (i := 1) rfl)), mgv X T (hc _ (List.mem_of_getElem? (i := 2) rfl)), mgn X T (hc _ (List.mem_of_getElem? (i := 3) rfl)), mgn X T (hc _ (List.mem_of_getElem? (i := 4) rfl)), gd_fx X T (hc _ (List.mem_of_getElem? (i := 11) rfl)) (by decide) lit_eg, gd_fx X T (hc _ (List.mem_of_getElem? (i := 12) rfl)) (by decide) lit_ei, gd_fx X T (hc _ (List.mem_of_getElem? (i := 13) rfl)) (by decide) lit_ec, gd_fx X T (hc _ (List.mem_of_getElem? (i := 14) rfl)) (by decide) lit_ea, gd_fx X T (hc _ (List.mem_of_getElem? (i := 15) rfl)) (by decide) lit_es, gd_int X T (hc _ (List.mem_of_getElem? (i := 16) rfl)), gd_int X T (hc _ (List.mem_of_getElem? (i := 17) rfl)), gd_int X T (hc _ (List.mem_of_getElem? (i := 18) rfl)), gd_int X T (hc _ (List.mem_of_getElem? (i := 19) rfl)), gd_int X T (hc _ (List.mem_of_getElem? (i := 20) rfl)), gd_int X T (hc _ (List.mem_of_getElem? (i := 21) rfl)), gd_int X T (hc _ (List.mem_of_getElem? (i := 22) rfl)), gd_int X T (hc _ (List.mem_of_getElem? (i := 23) rfl)), gd_tup X T (hc _ (List.mem_of_getElem? (i := 24) rfl)) (.cons (.int ..) (.cons (.int ..) (.cons (.int ..) (.cons (.int ..) .nil)))), gd_tup X T (hc _ (List.mem_of_getElem? (i := 25) rfl)) (.cons (.int ..) (.cons (.int ..) (.cons (.int ..) (.cons (.int ..) .nil)))), gd_tup X T (hc _ (List.mem_of_getElem? (i := 26) rfl)) (.cons (.int ..) (.cons (.int ..) (.cons (.int ..) (.cons (.int ..) (.cons (.int ..) .nil))))), gd_tup X T (hc _ (List.mem_of_getElem? (i := 27) rfl)) (.cons (.int ..) (.cons (.int ..) (.cons (.int ..) (.cons (.int ..) (.cons (.int ..) (.cons (.int ..) .nil))))))⟩
theorem glb2_j (hc : ∀ p ∈ cTab, cLk K p.1 = p.2) (hF : febLk K "FEBRUARY" = some (320, 2, [.ref 320, .type "int", .type "object"], some none)) : Glb2 P := ⟨mgn X T (hc _ (List.mem_of_getElem? (i := 5) rfl)), mgn X T (hc _ (List.mem_of_getElem? (i := 6) rfl)), mgn X T (hc _ (List.mem_of_getElem? (i := 7) rfl)), mgv X T (hc _ (List.mem_of_getElem? (i := 8) rfl)), gd_int X T (hc _ (List.mem_of_getElem? (i := 9) rfl)), gd_int X T (hc _ (List.mem_of_getElem? (i := 10) rfl)), dys_of X T (hc _ (List.mem_of_getElem? (i := 28) rfl)) rfl, gd_lst X T (hc _ (List.mem_of_getElem? (i := 29) rfl)) (.cons (.int ..) (.cons (.int ..) (.cons (.int ..) (.cons (.int ..) (.cons (.int ..) (.cons (.int ..) (.cons (.int ..) (.cons (.int ..) (.cons (.int ..) (.cons (.int ..) (.cons (.int ..) (.cons (.int ..) (.cons (.int ..) .nil))))))))))))), feb_lk X T hF⟩
theorem fns_j (hf : ∀ p ∈ fnTab, fnLk K p.1 = p.2) : Fns P := by
  have F_jw : FnAt P "jwday" 4 ["j"] 1 [] := fnAt_lk X T (hf _ (List.mem_of_getElem? (i := 0) rfl)) .nil (fun f s vs Y hp hd hv => by obtain ⟨a, rfl⟩ := len1 hv; exact bind_no hp hd (by intros; rfl))
  have F_wb : FnAt P "weekday_before" 5 ["weekday", "jd"] 2 [] := fnAt_lk X T (hf _ (List.mem_of_getElem? (i := 1) rfl)) .nil (fun f s vs Y hp hd hv => by obtain ⟨a, b, rfl⟩ := len2 hv; exact bind_no hp hd (by intros; rfl))
  have F_sw : FnAt P "search_weekday" 6 ["weekday", "jd", "direction", "offset"] 4 [] := fnAt_lk X T (hf _ (List.mem_of_getElem? (i := 2) rfl)) .nil (fun f s vs Y hp hd hv => by obtain ⟨a, b, c, d, rfl⟩ := len4 hv; exact bind_no hp hd (by intros; rfl))
  have F_nw : FnAt P "nearest_weekday" 7 ["weekday", "jd"] 2 [] := fnAt_lk X T (hf _ (List.mem_of_getElem? (i := 3) rfl)) .nil (fun f s vs Y hp hd hv => by obtain ⟨a, b, rfl⟩ := len2 hv; exact bind_no hp hd (by intros; rfl))
  have F_xw : FnAt P "next_weekday" 8 ["weekday", "jd"] 2 [] := fnAt_lk X T (hf _ (List.mem_of_getElem? (i := 4) rfl)) .nil (fun f s vs Y hp hd hv => by obtain ⟨a, b, rfl⟩ := len2 hv; exact bind_no hp hd (by intros; rfl))
  have F_pw : FnAt P "previous_weekday" 9 ["weekday", "jd"] 2 [] := fnAt_lk X T (hf _ (List.mem_of_getElem? (i := 5) rfl)) .nil (fun f s vs Y hp hd hv => by obtain ⟨a, b, rfl⟩ := len2 hv; exact bind_no hp hd (by intros; rfl))
  have F_va : FnAt P "_valid_date" 14 ["year", "month", "day", "method"] 4 [] := fnAt_lk X T (hf _ (List.mem_of_getElem? (i := 6) rfl)) .nil (fun f s vs Y hp hd hv => by obtain ⟨a, b, c, d, rfl⟩ := len4 hv; exact bind_df Y hp hd (by intros; exact ⟨_, rfl, rfl⟩))
  have F_la : FnAt P "leap_armenian" 15 ["year"] 1 [] := fnAt_lk X T (hf _ (List.mem_of_getElem? (i := 7) rfl)) .nil (fun f s vs Y hp hd hv => by obtain ⟨a, rfl⟩ := len1 hv; exact bind_no hp hd (by intros; rfl))
  have F_ta3 : FnAt P "to_jd_armenian" 17 ["year", "month", "day", "method"] 3 [.none] := fnAt_lk X T (hf _ (List.mem_of_getElem? (i := 8) rfl)) (.cons .none .nil) (fun f s vs Y hp hd hv => by obtain ⟨a, b, c, rfl⟩ := len3 hv; exact bind_df Y hp hd (by intros; exact ⟨_, rfl, rfl⟩))
  have F_ta4 : FnAt P "to_jd_armenian" 17 ["year", "month", "day", "method"] 4 [] := fnAt_lk X T (hf _ (List.mem_of_getElem? (i := 8) rfl)) .nil (fun f s vs Y hp hd hv => by obtain ⟨a, b, c, d, rfl⟩ := len4 hv; exact bind_df Y hp hd (by intros; exact ⟨_, rfl, rfl⟩))
  have F_fa1 : FnAt P "from_jd_armenian" 19 ["jd", "method"] 1 [.none] := fnAt_lk X T (hf _ (List.mem_of_getElem? (i := 9) rfl)) (.cons .none .nil) (fun f s vs Y hp hd hv => by obtain ⟨a, rfl⟩ := len1 hv; exact bind_df Y hp hd (by intros; exact ⟨_, rfl, rfl⟩))
  have F_fa2 : FnAt P "from_jd_armenian" 19 ["jd", "method"] 2 [] := fnAt_lk X T (hf _ (List.mem_of_getElem? (i := 9) rfl)) .nil (fun f s vs Y hp hd hv => by obtain ⟨a, b, rfl⟩ := len2 hv; exact bind_df Y hp hd (by intros; exact ⟨_, rfl, rfl⟩))
  have F_mla : FnAt P "month_length_armenian" 21 ["year", "month", "method"] 3 [] := fnAt_lk X T (hf _ (List.mem_of_getElem? (i := 10) rfl)) .nil (fun f s vs Y hp hd hv => by obtain ⟨a, b, c, rfl⟩ := len3 hv; exact bind_df Y hp hd (by intros; exact ⟨_, rfl, rfl⟩))
  have F_mca2 : FnAt P "monthcalendar_armenian" 23 ["year", "month", "method"] 2 [.none] := fnAt_lk X T (hf _ (List.mem_of_getElem? (i := 11) rfl)) (.cons .none .nil) (fun f s vs Y hp hd hv => by obtain ⟨a, b, rfl⟩ := len2 hv; exact bind_df Y hp hd (by intros; exact ⟨_, rfl, rfl⟩))
  have F_mca3 : FnAt P "monthcalendar_armenian" 23 ["year", "month", "method"] 3 [] := fnAt_lk X T (hf _ (List.mem_of_getElem? (i := 11) rfl)) .nil (fun f s vs Y hp hd hv => by obtain ⟨a, b, c, rfl⟩ := len3 hv; exact bind_df Y hp hd (by intros; exact ⟨_, rfl, rfl⟩))
  have F_lc : FnAt P "is_leap" 27 ["year"] 1 [] := fnAt_lk X T (hf _ (List.mem_of_getElem? (i := 12) rfl)) .nil (fun f s vs Y hp hd hv => by obtain ⟨a, rfl⟩ := len1 hv; exact bind_no hp hd (by intros; rfl))
  have F_tc : FnAt P "to_jd_coptic" 28 ["year", "month", "day"] 3 [] := fnAt_lk X T (hf _ (List.mem_of_getElem? (i := 13) rfl)) .nil (fun f s vs Y hp hd hv => by obtain ⟨a, b, c, rfl⟩ := len3 hv; exact bind_no hp hd (by intros; rfl))
  have F_fc : FnAt P "from_jd_coptic" 30 ["jdc"] 1 [] := fnAt_lk X T (hf _ (List.mem_of_getElem? (i := 14) rfl)) .nil (fun f s vs Y hp hd hv => by obtain ⟨a, rfl⟩ := len1 hv; exact bind_no hp hd (by intros; rfl))
  have F_mlc : FnAt P "month_length_coptic" 32 ["year", "month"] 2 [] := fnAt_lk X T (hf _ (List.mem_of_getElem? (i := 15) rfl)) .nil (fun f s vs Y hp hd hv => by obtain ⟨a, b, rfl⟩ := len2 hv; exact bind_no hp hd (by intros; rfl))
  have F_mcc : FnAt P "monthcalendar_coptic" 34 ["year", "month"] 2 [] := fnAt_lk X T (hf _ (List.mem_of_getElem? (i := 16) rfl)) .nil (fun f s vs Y hp hd hv => by obtain ⟨a, b, rfl⟩ := len2 hv; exact bind_no hp hd (by intros; rfl))
  have F_isl : FnAt P "isleap" 90 ["year"] 1 [] := fnAt_lk X T (hf _ (List.mem_of_getElem? (i := 17) rfl)) .nil (fun f s vs Y hp hd hv => by obtain ⟨a, rfl⟩ := len1 hv; exact bind_no hp hd (by intros; rfl))
  have F_wd : FnAt P "weekday" 91 ["year", "month", "day"] 3 [] := fnAt_lk X T (hf _ (List.mem_of_getElem? (i := 18) rfl)) .nil (fun f s vs Y hp hd hv => by obtain ⟨a, b, c, rfl⟩ := len3 hv; exact bind_no hp hd (by intros; rfl))
  have F_vm : FnAt P "_validate_month" 92 ["month"] 1 [] := fnAt_lk X T (hf _ (List.mem_of_getElem? (i := 19) rfl)) .nil (fun f s vs Y hp hd hv => by obtain ⟨a, rfl⟩ := len1 hv; exact bind_no hp hd (by intros; rfl))
  have F_mr : FnAt P "monthrange" 93 ["year", "month"] 2 [] := fnAt_lk X T (hf _ (List.mem_of_getElem? (i := 20) rfl)) .nil (fun f s vs Y hp hd hv => by obtain ⟨a, b, rfl⟩ := len2 hv; exact bind_no hp hd (by intros; rfl))
  have F_lg : FnAt P "legal_date_gregorian" 95 ["year", "month", "day"] 3 [] := fnAt_lk X T (hf _ (List.mem_of_getElem? (i := 21) rfl)) .nil (fun f s vs Y hp hd hv => by obtain ⟨a, b, c, rfl⟩ := len3 hv; exact bind_no hp hd (by intros; rfl))
  have F_tg : FnAt P "to_jd_gregorian" 97 ["year", "month", "day"] 3 [] := fnAt_lk X T (hf _ (List.mem_of_getElem? (i := 22) rfl)) .nil (fun f s vs Y hp hd hv => by obtain ⟨a, b, c, rfl⟩ := len3 hv; exact bind_no hp hd (by intros; rfl))
  have F_fg : FnAt P "from_jd_gregorian" 99 ["jd"] 1 [] := fnAt_lk X T (hf _ (List.mem_of_getElem? (i := 23) rfl)) .nil (fun f s vs Y hp hd hv => by obtain ⟨a, rfl⟩ := len1 hv; exact bind_no hp hd (by intros; rfl))
  have F_mlg : FnAt P "month_length_gregorian" 101 ["year", "month"] 2 [] := fnAt_lk X T (hf _ (List.mem_of_getElem? (i := 24) rfl)) .nil (fun f s vs Y hp hd hv => by obtain ⟨a, b, rfl⟩ := len2 hv; exact bind_no hp hd (by intros; rfl))
  have F_mcg : FnAt P "monthcalendar_gregorian" 103 ["year", "month"] 2 [] := fnAt_lk X T (hf _ (List.mem_of_getElem? (i := 25) rfl)) .nil (fun f s vs Y hp hd hv => by obtain ⟨a, b, rfl⟩ := len2 hv; exact bind_no hp hd (by intros; rfl))
  have F_td : FnAt P "to_jd_indian_civil" 108 ["year", "month", "day"] 3 [] := fnAt_lk X T (hf _ (List.mem_of_getElem? (i := 26) rfl)) .nil (fun f s vs Y hp hd hv => by obtain ⟨a, b, c, rfl⟩ := len3 hv; exact bind_no hp hd (by intros; rfl))
  have F_fd : FnAt P "from_jd_indian_civil" 110 ["jd"] 1 [] := fnAt_lk X T (hf _ (List.mem_of_getElem? (i := 27) rfl)) .nil (fun f s vs Y hp hd hv => by obtain ⟨a, rfl⟩ := len1 hv; exact bind_no hp hd (by intros; rfl))
  have F_mld : FnAt P "month_length_indian_civil" 112 ["year", "month"] 2 [] := fnAt_lk X T (hf _ (List.mem_of_getElem? (i := 28) rfl)) .nil (fun f s vs Y hp hd hv => by obtain ⟨a, b, rfl⟩ := len2 hv; exact bind_no hp hd (by intros; rfl))
  have F_mcd : FnAt P "monthcalendar_indian_civil" 114 ["year", "month"] 2 [] := fnAt_lk X T (hf _ (List.mem_of_getElem? (i := 29) rfl)) .nil (fun f s vs Y hp hd hv => by obtain ⟨a, b, rfl⟩ := len2 hv; exact bind_no hp hd (by intros; rfl))
  have F_li : FnAt P "leap_islamic" 119 ["year"] 1 [] := fnAt_lk X T (hf _ (List.mem_of_getElem? (i := 30) rfl)) .nil (fun f s vs Y hp hd hv => by obtain ⟨a, rfl⟩ := len1 hv; exact bind_no hp hd (by intros; rfl))
  have F_ti : FnAt P "to_jd_islamic" 121 ["year", "month", "day"] 3 [] := fnAt_lk X T (hf _ (List.mem_of_getElem? (i := 31) rfl)) .nil (fun f s vs Y hp hd hv => by obtain ⟨a, b, c, rfl⟩ := len3 hv; exact bind_no hp hd (by intros; rfl))
  have F_fi : FnAt P "from_jd_islamic" 123 ["jd"] 1 [] := fnAt_lk X T (hf _ (List.mem_of_getElem? (i := 32) rfl)) .nil (fun f s vs Y hp hd hv => by obtain ⟨a, rfl⟩ := len1 hv; exact bind_no hp hd (by intros; rfl))
  have F_mli : FnAt P "month_length_islamic" 125 ["year", "month"] 2 [] := fnAt_lk X T (hf _ (List.mem_of_getElem? (i := 33) rfl)) .nil (fun f s vs Y hp hd hv => by obtain ⟨a, b, rfl⟩ := len2 hv; exact bind_no hp hd (by intros; rfl))
  have F_mci : FnAt P "monthcalendar_islamic" 127 ["year", "month"] 2 [] := fnAt_lk X T (hf _ (List.mem_of_getElem? (i := 34) rfl)) .nil (fun f s vs Y hp hd hv => by obtain ⟨a, b, rfl⟩ := len2 hv; exact bind_no hp hd (by intros; rfl))
  have F_iso : FnAt P "from_jd_iso" 130 ["jd"] 1 [] := fnAt_lk X T (hf _ (List.mem_of_getElem? (i := 35) rfl)) .nil (fun f s vs Y hp hd hv => by obtain ⟨a, rfl⟩ := len1 hv; exact bind_no hp hd (by intros; rfl))
  have F_ig : FnAt P "from_gregorian" 132 ["year", "month", "day"] 3 [] := fnAt_lk X T (hf _ (List.mem_of_getElem? (i := 36) rfl)) .nil (fun f s vs Y hp hd hv => by obtain ⟨a, b, c, rfl⟩ := len3 hv; exact bind_no hp hd (by intros; rfl))
  have F_lj : FnAt P "leap_julian" 135 ["year"] 1 [] := fnAt_lk X T (hf _ (List.mem_of_getElem? (i := 37) rfl)) .nil (fun f s vs Y hp hd hv => by obtain ⟨a, rfl⟩ := len1 hv; exact bind_no hp hd (by intros; rfl))
  have F_mlj : FnAt P "month_length_julian" 137 ["year", "month"] 2 [] := fnAt_lk X T (hf _ (List.mem_of_getElem? (i := 38) rfl)) .nil (fun f s vs Y hp hd hv => by obtain ⟨a, b, rfl⟩ := len2 hv; exact bind_no hp hd (by intros; rfl))
  have F_lgj : FnAt P "legal_date_julian" 139 ["year", "month", "day"] 3 [] := fnAt_lk X T (hf _ (List.mem_of_getElem? (i := 39) rfl)) .nil (fun f s vs Y hp hd hv => by obtain ⟨a, b, c, rfl⟩ := len3 hv; exact bind_no hp hd (by intros; rfl))
  have F_fj : FnAt P "from_jd_julian" 141 ["jd"] 1 [] := fnAt_lk X T (hf _ (List.mem_of_getElem? (i := 40) rfl)) .nil (fun f s vs Y hp hd hv => by obtain ⟨a, rfl⟩ := len1 hv; exact bind_no hp hd (by intros; rfl))
  have F_tj : FnAt P "to_jd_julian" 143 ["year", "month", "day"] 3 [] := fnAt_lk X T (hf _ (List.mem_of_getElem? (i := 41) rfl)) .nil (fun f s vs Y hp hd hv => by obtain ⟨a, b, c, rfl⟩ := len3 hv; exact bind_no hp hd (by intros; rfl))
  have F_mcj : FnAt P "monthcalendar_julian" 145 ["year", "month"] 2 [] := fnAt_lk X T (hf _ (List.mem_of_getElem? (i := 42) rfl)) .nil (fun f s vs Y hp hd hv => by obtain ⟨a, b, rfl⟩ := len2 hv; exact bind_no hp hd (by intros; rfl))
  have F_ld : FnAt P "_law_date" 148 ["kind", "number"] 2 [] := fnAt_lk X T (hf _ (List.mem_of_getElem? (i := 43) rfl)) .nil (fun f s vs Y hp hd hv => by obtain ⟨a, b, rfl⟩ := len2 hv; exact bind_no hp hd (by intros; rfl))
  have F_ll : FnAt P "_law_leaf" 149 ["kind", "year", "month"] 3 [] := fnAt_lk X T (hf _ (List.mem_of_getElem? (i := 44) rfl)) .nil (fun f s vs Y hp hd hv => by obtain ⟨a, b, c, rfl⟩ := len3 hv; exact bind_no hp hd (by intros; rfl))
  have F_ln : FnAt P "_law_number" 150 ["kind", "year", "month", "day"] 4 [] := fnAt_lk X T (hf _ (List.mem_of_getElem? (i := 45) rfl)) .nil (fun f s vs Y hp hd hv => by obtain ⟨a, b, c, d, rfl⟩ := len4 hv; exact bind_no hp hd (by intros; rfl))
  have F_hp : FnAtC P "monthcalendarhelper" 10 ["start_weekday", "month_length"] := fnAtC_lk X T (hf _ (List.mem_of_getElem? (i := 46) rfl)) (fun vs hv => by obtain ⟨a, b, rfl⟩ := len2 hv; intros; rfl)
  exact ⟨F_jw, F_wb, F_sw, F_nw, F_xw, F_pw, F_va, F_la, F_ta3, F_ta4, F_fa1, F_fa2, F_mla, F_mca2, F_mca3, F_lc, F_tc, F_fc, F_mlc, F_mcc, F_isl, F_wd, F_vm, F_mr, F_lg, F_tg, F_fg, F_mlg, F_mcg, F_td, F_fd, F_mld, F_mcd, F_li, F_ti, F_fi, F_mli, F_mci, F_iso, F_ig, F_lj, F_mlj, F_lgj, F_fj, F_tj, F_mcj, F_ld, F_ll, F_ln, F_hp⟩
theorem law_j (hf : ∀ p ∈ fnTab, fnLk K p.1 = p.2) : FnAtC P "law" 151 ["script"] := fnAtC_lk X T (hf _ (List.mem_of_getElem? (i := 47) rfl)) (fun vs hv => by obtain ⟨a, rfl⟩ := len1 hv; intros; rfl)
end join
theorem join {w : World} {s₁ : Shared} {mg mb : Str → Option Value} {K : Frag} {fa l : Addr} {us : List Value} {S : List Int} (G0 : s₁.heap.Ns mainGlobals mg) (B0 : s₁.heap.Ns builtinsNs mb) (NL0 : s₁.heap.NoLimit) (BT0 : ∀ x : Str, x ≠ "__name__" → mb x = bootBuiltins x) (ST : ∃ mc, s₁.heap.Ns cStatics mc)
    (KX : K.In s₁.heap) (KL : look K = lits) (hfa : mg "law" = some (.ref fa)) (hL : s₁.heap.IsList l us.toArray) (hI : IntsAre us S) (hlen : S.length ≤ 63) :
    wpAny (model PySem.Challenge.rw_ak5022_01.row.prog w) callerA (call (.ref fa) [.ref l]) (fun v s' => v = .bool true ∧ ∃ h' tk, s' = { s₁ with heap := h', toks := tk } ∧ ∀ b o, s₁.heap.get? b = some o → h'.get? b = some o) NoE s₁ := by
  have hf : ∀ p ∈ fnTab, fnLk K p.1 = p.2 := List.map_inj_left.mp (congrArg Prod.fst KL)
  have hc : ∀ p ∈ cTab, cLk K p.1 = p.2 := List.map_inj_left.mp (congrArg (fun x => x.2.1) KL)
  have hF : febLk K "FEBRUARY" = some (320, 2, [.ref 320, .type "int", .type "object"], some none) := congrArg (fun x => x.2.2.1) KL
  have hS : nsIn K cStatics sharingNotToldKey = some none := congrArg (fun x => x.2.2.2) KL
  have ST0 : ∃ mc, s₁.heap.Ns cStatics mc ∧ mc sharingNotToldKey = none := by
    obtain ⟨mc, h1⟩ := ST
    exact ⟨mc, h1, ns_none_of KX h1 hS⟩
  obtain ⟨P, hp1, hp2, hp3, hp4⟩ : ∃ P : PK, P.prog = PySem.Challenge.rw_ak5022_01.row.prog ∧ P.w = w ∧ P.B = s₁.heap ∧ P.mg = mg := ⟨⟨_, w, s₁.heap, mg, mb, G0, B0, NL0, BT0, ST0⟩, rfl, rfl, rfl, rfl⟩
  rw [← hp3] at KX
  rw [← hp3, ← hp4] at G0
  obtain ⟨a, ha, run⟩ := law_run (glb_j KX G0 hc) (glb2_j KX G0 hc hF) (fns_j KX G0 hf) (law_j KX G0 hf) hlen
  rw [hp4, hfa] at ha
  cases ha
  have run2 := run callerA s₁ [.ref l] ⟨rfl, by decide, by decide⟩ (hp3 ▸ Keep.refl _) (script_rep hL hI)
  rw [hp1, hp2] at run2
  refine ev_mono run2 fun v s' h => ?_
  obtain ⟨⟨h', tk, rfl, k⟩, r⟩ := h
  cases r
  exact ⟨rfl, h', tk, rfl, k⟩
end
end Mine
/- The head of the kit lays a second form («twin») of each object that it writes out, and a proof that both are one; its size grows with the square of their number, past the lid on a compiled file.
   These names (the ones that it would give to the second forms of tuples and code objects) are taken, so it goes on without those. -/
namespace Mine.top
def tw10001883323181062329 : Unit := ()
def tw1016984595167383106 : Unit := ()
def tw10187724287525710026 : Unit := ()
def tw10194810499950245846 : Unit := ()
def tw10276331973627342096 : Unit := ()
def tw10328360990557673835 : Unit := ()
def tw10362775142378211054 : Unit := ()
def tw10367675484739944270 : Unit := ()
def tw10404823597219466188 : Unit := ()
def tw1040915598704419856 : Unit := ()
def tw105208000716104510 : Unit := ()
def tw10548783162686979305 : Unit := ()
def tw10567129059001840431 : Unit := ()
def tw1068965626710143233 : Unit := ()
def tw10694878333477680388 : Unit := ()
def tw10774637447528242797 : Unit := ()
def tw10797620697341660853 : Unit := ()
def tw10915162052029792233 : Unit := ()
def tw10956490626425055710 : Unit := ()
def tw10987319290404115282 : Unit := ()
def tw11045010717311733409 : Unit := ()
def tw1112988674713690477 : Unit := ()
def tw11133666699803404755 : Unit := ()
def tw11240886729373846589 : Unit := ()
def tw1124271682379634556 : Unit := ()
def tw11334350811105764591 : Unit := ()
def tw1142465760834251562 : Unit := ()
def tw11430207588045935325 : Unit := ()
def tw11443710868159068359 : Unit := ()
def tw11468358511172941013 : Unit := ()
def tw1149218181149386328 : Unit := ()
def tw11520865232209809239 : Unit := ()
def tw11577829705659331004 : Unit := ()
def tw11582926029173025856 : Unit := ()
def tw11584198869435930015 : Unit := ()
def tw1169771345039838236 : Unit := ()
def tw11828478481110319688 : Unit := ()
def tw11845233108574324481 : Unit := ()
def tw11858546649754279707 : Unit := ()
def tw1186331607622873149 : Unit := ()
def tw1192657577511650299 : Unit := ()
def tw1195175773429642966 : Unit := ()
def tw11960245374511038805 : Unit := ()
def tw11982747722937265360 : Unit := ()
def tw12012865196380796599 : Unit := ()
def tw12094960947251128927 : Unit := ()
def tw12117888159696746259 : Unit := ()
def tw12210559395081530917 : Unit := ()
def tw12216630987165489725 : Unit := ()
def tw12256363837256957063 : Unit := ()
def tw12317137736924338119 : Unit := ()
def tw12342655685612074800 : Unit := ()
def tw12392516345856041104 : Unit := ()
def tw12427389293880184781 : Unit := ()
def tw1245559373397905713 : Unit := ()
def tw12488038555639769405 : Unit := ()
def tw12507017104952529904 : Unit := ()
def tw12520176845478516731 : Unit := ()
def tw12535971307161669396 : Unit := ()
def tw12540527436937284434 : Unit := ()
def tw12545222027267286695 : Unit := ()
def tw12622177474791663080 : Unit := ()
def tw12643491718579748851 : Unit := ()
def tw12643520174271941249 : Unit := ()
def tw12718909917080609646 : Unit := ()
def tw1275901062530889299 : Unit := ()
def tw12762922103008790111 : Unit := ()
def tw1284575025550258836 : Unit := ()
def tw12879618353801967718 : Unit := ()
def tw12904532413392791838 : Unit := ()
def tw1291508964198565346 : Unit := ()
def tw12958502747184954254 : Unit := ()
def tw13012589842206080548 : Unit := ()
def tw13047834502658803893 : Unit := ()
def tw13068111086705522682 : Unit := ()
def tw13090165191389475591 : Unit := ()
def tw13120753694373217308 : Unit := ()
def tw1312780250039628139 : Unit := ()
def tw13134186033006778460 : Unit := ()
def tw13160728816969591200 : Unit := ()
def tw1321871150748368714 : Unit := ()
def tw13223034962123697568 : Unit := ()
def tw13264354339760550358 : Unit := ()
def tw13272337422414781067 : Unit := ()
def tw13305523845174962083 : Unit := ()
def tw13326734554550294991 : Unit := ()
def tw13345470168829271861 : Unit := ()
def tw13370750898655102155 : Unit := ()
def tw13500427573557490136 : Unit := ()
def tw13501252493785611398 : Unit := ()
def tw1353657120722975067 : Unit := ()
def tw13549259019975226677 : Unit := ()
def tw13664746368384525793 : Unit := ()
def tw13710211086531791108 : Unit := ()
def tw13799840507378627052 : Unit := ()
def tw13802547742096326172 : Unit := ()
def tw13852830345959847167 : Unit := ()
def tw13889309363888878346 : Unit := ()
def tw13896958669275611876 : Unit := ()
def tw13899568491130100285 : Unit := ()
def tw13922054642007902626 : Unit := ()
def tw13983857475226248213 : Unit := ()
def tw13987285891283452908 : Unit := ()
def tw13994475860397038760 : Unit := ()
def tw14142502885225118848 : Unit := ()
def tw14145802354927516647 : Unit := ()
def tw14214845130331304391 : Unit := ()
def tw14248925298954806443 : Unit := ()
def tw14282377253939248939 : Unit := ()
def tw14301671488300290737 : Unit := ()
def tw14349089067433371257 : Unit := ()
def tw14372152842798730730 : Unit := ()
def tw14390669486469195807 : Unit := ()
def tw14399976873020721970 : Unit := ()
def tw14502225709538309166 : Unit := ()
def tw14537839394382259888 : Unit := ()
def tw14611434983143301774 : Unit := ()
def tw14615657086365298920 : Unit := ()
def tw14632489290957082403 : Unit := ()
def tw14671331368771545958 : Unit := ()
def tw14705559076539443318 : Unit := ()
def tw14724332232928298890 : Unit := ()
def tw14747140909534839006 : Unit := ()
def tw14762295962024373759 : Unit := ()
def tw14771320824794740959 : Unit := ()
def tw14789260269991461300 : Unit := ()
def tw14826035006057030972 : Unit := ()
def tw1483126911874232274 : Unit := ()
def tw1486479319815781832 : Unit := ()
def tw14917401599646851644 : Unit := ()
def tw1492452104121835379 : Unit := ()
def tw14983691940233647259 : Unit := ()
def tw14987219478266130788 : Unit := ()
def tw15092371282622821202 : Unit := ()
def tw1516213087968936877 : Unit := ()
def tw15166127791298437107 : Unit := ()
def tw15169761463676818070 : Unit := ()
def tw15177526630643400193 : Unit := ()
def tw15212760480394562756 : Unit := ()
def tw1522322319653140107 : Unit := ()
def tw15271675978053873483 : Unit := ()
def tw15451780782824253742 : Unit := ()
def tw15696354942287192291 : Unit := ()
def tw15740088241188596515 : Unit := ()
def tw15799541711010589177 : Unit := ()
def tw15823732540823425666 : Unit := ()
def tw15860264024139754761 : Unit := ()
def tw15877122091014420850 : Unit := ()
def tw15918733279669447828 : Unit := ()
def tw1592229195962567352 : Unit := ()
def tw15976228082101565994 : Unit := ()
def tw16004416686337608138 : Unit := ()
def tw16007503158450755388 : Unit := ()
def tw1601500998369573665 : Unit := ()
def tw16044733080236030384 : Unit := ()
def tw16120041803238788101 : Unit := ()
def tw16123964013534891561 : Unit := ()
def tw1617357707322924660 : Unit := ()
def tw16174758807025615021 : Unit := ()
def tw16240068400928781132 : Unit := ()
def tw16264823338695392855 : Unit := ()
def tw16273406610938067001 : Unit := ()
def tw16325430554902658873 : Unit := ()
def tw16453443671601555132 : Unit := ()
def tw16525863338940772298 : Unit := ()
def tw16550210197400561554 : Unit := ()
def tw16580785732701462914 : Unit := ()
def tw16674975167109581930 : Unit := ()
def tw16713831800681072344 : Unit := ()
def tw16736118626332596326 : Unit := ()
def tw1676862907878916244 : Unit := ()
def tw16795567611416646642 : Unit := ()
def tw16800595933775061595 : Unit := ()
def tw16809779246217341487 : Unit := ()
def tw16821654228018055803 : Unit := ()
def tw16896751376397280635 : Unit := ()
def tw16900427199656544559 : Unit := ()
def tw1697544655201012999 : Unit := ()
def tw17009415399725018624 : Unit := ()
def tw17022078359063049780 : Unit := ()
def tw1706793611546318481 : Unit := ()
def tw17089494485692210459 : Unit := ()
def tw17103585973383926153 : Unit := ()
def tw17135812771915316397 : Unit := ()
def tw17177869089781658578 : Unit := ()
def tw17315540178315561739 : Unit := ()
def tw17355269125676882429 : Unit := ()
def tw17469865338272021226 : Unit := ()
def tw17486766287000646611 : Unit := ()
def tw17494340499879156831 : Unit := ()
def tw17542608870123051758 : Unit := ()
def tw1754339480302792767 : Unit := ()
def tw17555251805378815213 : Unit := ()
def tw17565814175750979855 : Unit := ()
def tw17576975557295073227 : Unit := ()
def tw17683472795295644477 : Unit := ()
def tw17735899436944072409 : Unit := ()
def tw17795014544551873601 : Unit := ()
def tw17807222030613408314 : Unit := ()
def tw17810072253543177317 : Unit := ()
def tw17886615442053742456 : Unit := ()
def tw18008055252877512497 : Unit := ()
def tw18062624165398249997 : Unit := ()
def tw18085771088847121727 : Unit := ()
def tw18121752080927795069 : Unit := ()
def tw1814787853859245837 : Unit := ()
def tw18177719399980262173 : Unit := ()
def tw18185382058313985135 : Unit := ()
def tw18186074749648716422 : Unit := ()
def tw18237780215024852062 : Unit := ()
def tw18245740138792012028 : Unit := ()
def tw18394268562011335289 : Unit := ()
def tw1843344800811705456 : Unit := ()
def tw1869187583165140508 : Unit := ()
def tw1886144042066472794 : Unit := ()
def tw1897025099450329940 : Unit := ()
def tw2029088862249889922 : Unit := ()
def tw2047500489365003465 : Unit := ()
def tw2220570432770164149 : Unit := ()
def tw2369445192022557226 : Unit := ()
def tw2405475915293451298 : Unit := ()
def tw2417791160451022400 : Unit := ()
def tw2443449257678562572 : Unit := ()
def tw2502181453436431679 : Unit := ()
def tw2506305409684761478 : Unit := ()
def tw2514443458684651071 : Unit := ()
def tw2544169868661182894 : Unit := ()
def tw2565563351968343141 : Unit := ()
def tw2630061898475652689 : Unit := ()
def tw2670627174450433442 : Unit := ()
def tw2727672472851901052 : Unit := ()
def tw2731995056826638727 : Unit := ()
def tw2752453847809088016 : Unit := ()
def tw2770563814800254177 : Unit := ()
def tw2782073688633401757 : Unit := ()
def tw2812155379371279736 : Unit := ()
def tw283044589724301 : Unit := ()
def tw2835187731363253809 : Unit := ()
def tw2867133514656366558 : Unit := ()
def tw2878843996050045342 : Unit := ()
def tw2968346561183084112 : Unit := ()
def tw297971269722091814 : Unit := ()
def tw3002795768020413707 : Unit := ()
def tw302023382947574297 : Unit := ()
def tw3033006917804047512 : Unit := ()
def tw3087888393795971977 : Unit := ()
def tw314455870634268127 : Unit := ()
def tw3195968871104189447 : Unit := ()
def tw3217022616335106338 : Unit := ()
def tw3254097082911018636 : Unit := ()
def tw3337584539547039419 : Unit := ()
def tw339143206060000330 : Unit := ()
def tw3422688185749166683 : Unit := ()
def tw3453223234828964814 : Unit := ()
def tw3474246075231452896 : Unit := ()
def tw3570499242123996262 : Unit := ()
def tw3584897518013459382 : Unit := ()
def tw3644161924160858147 : Unit := ()
def tw3664424711883983056 : Unit := ()
def tw3669314199184481253 : Unit := ()
def tw3696473221133414273 : Unit := ()
def tw3712731000106771831 : Unit := ()
def tw3715792687998586317 : Unit := ()
def tw3767615275625035234 : Unit := ()
def tw3776753064480771068 : Unit := ()
def tw3796891538752321733 : Unit := ()
def tw3874152929960365753 : Unit := ()
def tw3976154599441133093 : Unit := ()
def tw3995942328266245912 : Unit := ()
def tw4010397242664982755 : Unit := ()
def tw4047667213573674445 : Unit := ()
def tw4076138812419527698 : Unit := ()
def tw411662067469150650 : Unit := ()
def tw4159251561096739476 : Unit := ()
def tw4177254973167742082 : Unit := ()
def tw4205137553216949640 : Unit := ()
def tw4250876409542091131 : Unit := ()
def tw4250950275838387964 : Unit := ()
def tw427269002284569659 : Unit := ()
def tw427420600052151026 : Unit := ()
def tw4292522238394942308 : Unit := ()
def tw4383139521930768336 : Unit := ()
def tw4526881389914513428 : Unit := ()
def tw4551080515912023512 : Unit := ()
def tw462939625794472801 : Unit := ()
def tw4671429814451907529 : Unit := ()
def tw4699463449715708850 : Unit := ()
def tw4736427724481360342 : Unit := ()
def tw4784893810139332661 : Unit := ()
def tw4796303294375832693 : Unit := ()
def tw4835499133494076262 : Unit := ()
def tw4859757453598101857 : Unit := ()
def tw4916261283513009128 : Unit := ()
def tw501154541418245514 : Unit := ()
def tw5058314954733539658 : Unit := ()
def tw5088376156974544275 : Unit := ()
def tw5118827330378232414 : Unit := ()
def tw516228168201391017 : Unit := ()
def tw5196900775432865589 : Unit := ()
def tw5225916559131626549 : Unit := ()
def tw5235370132326077648 : Unit := ()
def tw5240389563564037448 : Unit := ()
def tw5245862010334584759 : Unit := ()
def tw5303079699428457377 : Unit := ()
def tw5341934141677670832 : Unit := ()
def tw5379463472682653830 : Unit := ()
def tw5398424786039705171 : Unit := ()
def tw5513142621748847562 : Unit := ()
def tw5523086135645875356 : Unit := ()
def tw5581607755468803823 : Unit := ()
def tw5609151216138764652 : Unit := ()
def tw5647976800219259906 : Unit := ()
def tw568400683779154973 : Unit := ()
def tw5692499903750754813 : Unit := ()
def tw5702910450625016506 : Unit := ()
def tw575894324575664597 : Unit := ()
def tw5790966258338625528 : Unit := ()
def tw5839659824258004927 : Unit := ()
def tw5868845118606482295 : Unit := ()
def tw5938664839603501006 : Unit := ()
def tw594810645892935528 : Unit := ()
def tw5969682004907312646 : Unit := ()
def tw5970215366352900667 : Unit := ()
def tw6075534854705499898 : Unit := ()
def tw6176384092110617959 : Unit := ()
def tw6196800358849779857 : Unit := ()
def tw6286779285267259847 : Unit := ()
def tw6292954644110606532 : Unit := ()
def tw6333448901615975916 : Unit := ()
def tw6431110157172167083 : Unit := ()
def tw6460121766331871944 : Unit := ()
def tw6468107147075657394 : Unit := ()
def tw6487610083215253720 : Unit := ()
def tw649594095290182367 : Unit := ()
def tw6520327441239513222 : Unit := ()
def tw657111498738832265 : Unit := ()
def tw6583040956863952856 : Unit := ()
def tw6659320528611288953 : Unit := ()
def tw672699306608606093 : Unit := ()
def tw6733462575251390621 : Unit := ()
def tw6746510453823603384 : Unit := ()
def tw6756868429301003459 : Unit := ()
def tw6859976401760118174 : Unit := ()
def tw6883741973766446791 : Unit := ()
def tw6893477703608230032 : Unit := ()
def tw6898770573198911631 : Unit := ()
def tw6916252892733821390 : Unit := ()
def tw6919701780365589675 : Unit := ()
def tw7079599612431449588 : Unit := ()
def tw7198060816514059695 : Unit := ()
def tw7204493036743257322 : Unit := ()
def tw7215319984434753242 : Unit := ()
def tw7249705126575804556 : Unit := ()
def tw7250933059871147345 : Unit := ()
def tw728428047077509346 : Unit := ()
def tw7297446738713254254 : Unit := ()
def tw7313339093194340965 : Unit := ()
def tw7325726471975496349 : Unit := ()
def tw7386116660499605909 : Unit := ()
def tw7436774141650363327 : Unit := ()
def tw7444641836354208208 : Unit := ()
def tw7475746777092488413 : Unit := ()
def tw7522852383072776753 : Unit := ()
def tw7538252964068480738 : Unit := ()
def tw7673058066778466091 : Unit := ()
def tw7737320934136571279 : Unit := ()
def tw775762912060472103 : Unit := ()
def tw7761843605638006849 : Unit := ()
def tw7799483888651840948 : Unit := ()
def tw7817637940432870852 : Unit := ()
def tw7855079511596107753 : Unit := ()
def tw795583310449317561 : Unit := ()
def tw7990429038631628895 : Unit := ()
def tw8107780213005350392 : Unit := ()
def tw8139039716903228087 : Unit := ()
def tw8140125068956082859 : Unit := ()
def tw8143265674769528471 : Unit := ()
def tw8170299122808406783 : Unit := ()
def tw8265191368974092141 : Unit := ()
def tw8321918168302905379 : Unit := ()
def tw8393700709775954928 : Unit := ()
def tw8410488445778877200 : Unit := ()
def tw84136930442132756 : Unit := ()
def tw8443935842833279946 : Unit := ()
def tw8455645898260960030 : Unit := ()
def tw8523463495250067690 : Unit := ()
def tw8538268897159353584 : Unit := ()
def tw8547604310838440241 : Unit := ()
def tw8560541052185303311 : Unit := ()
def tw8637452081102412489 : Unit := ()
def tw8640399195822439974 : Unit := ()
def tw8672883130414831044 : Unit := ()
def tw8679839319945467846 : Unit := ()
def tw8689318265317240412 : Unit := ()
def tw8810280945414196856 : Unit := ()
def tw8817415213059835157 : Unit := ()
def tw8892184565913893157 : Unit := ()
def tw8912170899635468890 : Unit := ()
def tw8968299171318014206 : Unit := ()
def tw8985709366574770022 : Unit := ()
def tw9059672392935016618 : Unit := ()
def tw908825868028484722 : Unit := ()
def tw9165953624949470791 : Unit := ()
def tw9195894827357321740 : Unit := ()
def tw9227541089923242437 : Unit := ()
def tw9238823003894178615 : Unit := ()
def tw9326722878772556681 : Unit := ()
def tw9328819404386307858 : Unit := ()
def tw9335426496214029073 : Unit := ()
def tw9361663168868926718 : Unit := ()
def tw9366391650621772374 : Unit := ()
def tw9382581127745807760 : Unit := ()
def tw9407396174263392564 : Unit := ()
def tw9456006794991739263 : Unit := ()
def tw9503340733035011235 : Unit := ()
def tw956942650209027819 : Unit := ()
def tw9576743257966636567 : Unit := ()
def tw9614876229902214918 : Unit := ()
def tw9739860059890490050 : Unit := ()
def tw9743097575036673082 : Unit := ()
def tw9833397302626899308 : Unit := ()
def tw9843949296442739443 : Unit := ()
def tw9851269098105209369 : Unit := ()
def tw987869383939708018 : Unit := ()
def tw99440450732166138 : Unit := ()
def tw9962302188120564619 : Unit := ()
end Mine.top
set_option Elab.async true
open PySem PySem.W PyProof.Rows
set_option maxRecDepth 100000 in
set_option maxHeartbeats 80000000 in
theorem Mine.top : PySem.Challenge.rw_ak5022_01.Holds := by
  w_on
  o_law
  o_head (Mine.mkHook Mine.look Mine.lits Mine.addrs)
  (case hw => w_witness2)
  intro w s₀ s₁ mg mb G Y fa o pm cd doc dV kV ho hdt hcd hD hmg hg args vals as hpre hlay hrd hwl hlo
  obtain ⟨K, KX, KL⟩ : ∃ K : Frag, K.In s₁.heap ∧ Mine.look K = Mine.lits := Y
  have G0 := G.T.g
  have B0 := G.T.b
  have NL0 := G.T.nolimit
  have BT0 := G.T.builtins
  have ST0 : ∃ mc, s₁.heap.Ns cStatics mc := let ⟨mc, h, _⟩ := G.T.nodigits; ⟨mc, h⟩
  have hmg2 : mg "law" = some (.ref fa) := hmg
  clear hD hcd hdt ho G hmg
  wrow_args hpre hlay hrd hwl hlo
  rename_i S _ _ _ _ _ _ _ l us _ hL _ _ _ hI _ hlen _
  refine wpAny_mono (Mine.join G0 B0 NL0 BT0 ST0 KX KL hmg2 hL hI (by omega)) (fun v s' h => ?_) (fun _ _ x => x.elim)
  obtain ⟨rfl, h', tk, rfl, k⟩ := h
  exact GoodW.toG ⟨.inl ⟨_, .bool true, [], rfl, fun _ => rfl, .bool _, Mine.post_ok _, fun _ => ⟨.nil, nofun⟩⟩, k, rfl, hg⟩
theorem PySem.Challenge.cw_ak5022_01_holds : PySem.Challenge.rw_ak5022_01.Holds :=
  Mine.top
